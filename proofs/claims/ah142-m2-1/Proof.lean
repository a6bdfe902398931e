import JvmDerived
import JvmDerived.Pilot.@@N@@Statement
import JvmDerived.Pilot.@@N@@Code
set_option linter.unusedVariables false
set_option linter.unusedSimpArgs false
namespace Jvm.Pilot.@@N@@
open Jvm Jvm.ClassFile Sem Op Lib Jvm.Free Jvm.Stand Jvm.LawKit Jvm.RoadKit Bundle Jvm.Pilot.@@N@@.Jvm.D

theorem own_root {Z : State} {a0 : Array Value} {O K : String} {n : Nat} (w : (Cond.noSuperclass O).before a0 Z = true) (wk : (Cond.instantiable K n).before a0 Z = true) (hn : O ≠ K) : NS Z O K := by
  obtain ⟨c, k, h1, h2, h3, -⟩ := Cond.noSuperclass_spec w
  obtain ⟨t, k', g1, -⟩ := Cond.instantiable_spec wk
  have ne := ids_ne h1 g1 hn
  refine ⟨c, t, h1, g1, fun fuel => ?_⟩
  cases fuel with
  | zero => rfl
  | succ f => simp [Vm.isSubclassAux, ne, h2, h3]
theorem own_noins {Z : State} {a0 : Array Value} {C S K : String} {n : Nat} (w : (Cond.superclass C S).before a0 Z = true) (wk : (Cond.instantiable K n).before a0 Z = true) (nn : NS Z C K) (hn : C ≠ K) : ∃ c t, Z.vm.findClass C = some c ∧ Z.vm.findClass K = some t ∧ Z.vm.assignable c t = false := by
  obtain ⟨c, t, h0, g0, n3⟩ := nn
  obtain ⟨p, k, kp, h1, h2, h3, h4, h5, -, h7⟩ := Cond.superclass_spec h0 w
  obtain ⟨t', k', g1, g2, g5, g7, -⟩ := Cond.instantiable_spec wk
  cases g0.symm.trans g1
  have g8 : k'.isInterface = false := by revert g7; cases k'.isInterface <;> simp
  have ne := ids_ne h0 g0 hn
  refine ⟨c, t, h0, g0, ?_⟩
  show Z.vm.assignableAux (255 + 1) c t = false
  simp [Vm.assignableAux, ne, h2, g2, h5, g5, g8, Vm.isSubclass, n3]
def own_eq (p r u w : Int32) : Int32 := if u = p then (if w = r then 1 else 0) else 0
theorem own_mask (x : Int32) : 0 ≤ (x &&& (2147483647 : Int32)).toInt := by
  have e := c_mask x 2147483647 31 (by decide) (by decide); omega
theorem own_nneg {x : Int32} (h : 0 ≤ x.toInt) : ¬ x < (0 : Int32) := by
  rw [Int32.lt_iff_toInt_lt]; have : (0 : Int32).toInt = 0 := by decide
  omega
theorem own_ge {x : Int32} (h : 0 ≤ x.toInt) : ¬ x < (-128 : Int32) := by
  rw [Int32.lt_iff_toInt_lt]; have : (-128 : Int32).toInt = -128 := by decide
  omega
theorem own_in {x : Int32} {c : Cell} (h : 0 ≤ x.toInt) (h2 : ¬ (127 : Int32) < x) (S : c.slots.size = (256 : Int32).toNatClampNeg) : ¬ ((x + (128 : Int32)) < 0 ∨ c.slots.size ≤ (x + (128 : Int32)).toNatClampNeg) := by
  refine inb_of S ?_
  rw [Int32.lt_iff_toInt_lt] at h2
  rw [Int32.lt_iff_toInt_lt, Int32.lt_iff_toInt_lt]
  have e := c_iadd x (128 : Int32)
  have l1 : (127 : Int32).toInt = 127 := by decide
  have l2 : (128 : Int32).toInt = 128 := by decide
  have l3 : (0 : Int32).toInt = 0 := by decide
  have l4 : (256 : Int32).toInt = 256 := by decide
  have := rng32 (x + (128 : Int32))
  omega
theorem own_len {t : Term} {args : Array Value} {s : State} {x : Addr} {cl : Cell} {n : Int32} (ht : t.eval args s none [] s = some (.ref x)) (ha : s.arrayAt? x = some cl) (h : (Term.length t).eval args s none [] s = some (.int n)) : cl.slots.size < 2 ^ 31 ∧ cl.slots.size.toInt32 = n := by
  by_cases q : cl.slots.size < 2 ^ 31
  · rw [len_f ht ha q] at h; cases h; exact ⟨q, rfl⟩
  · exfalso; simp [Term.eval, ht, ha] at h; omega
theorem dI_0 : decode prog_20_method_1_code 0 = .ok (.aload_n 0, 1) := by decide +kernel
theorem dI_1 : decode prog_20_method_1_code 1 = .ok (.invokespecial 1, 3) := by decide +kernel
theorem dI_4 : decode prog_20_method_1_code 4 = .ok (.iload_n 1, 1) := by decide +kernel
theorem dI_5 : decode prog_20_method_1_code 5 = .ok (.ifCond .lt 7, 3) := by decide +kernel
theorem dI_8 : decode prog_20_method_1_code 8 = .ok (.iload_n 2, 1) := by decide +kernel
theorem dI_9 : decode prog_20_method_1_code 9 = .ok (.ifCond .ge 18, 3) := by decide +kernel
theorem dI_27 : decode prog_20_method_1_code 27 = .ok (.aload_n 0, 1) := by decide +kernel
theorem dI_28 : decode prog_20_method_1_code 28 = .ok (.iload_n 1, 1) := by decide +kernel
theorem dI_29 : decode prog_20_method_1_code 29 = .ok (.putfield 16, 3) := by decide +kernel
theorem dI_32 : decode prog_20_method_1_code 32 = .ok (.aload_n 0, 1) := by decide +kernel
theorem dI_33 : decode prog_20_method_1_code 33 = .ok (.iload_n 2, 1) := by decide +kernel
theorem dI_34 : decode prog_20_method_1_code 34 = .ok (.putfield 22, 3) := by decide +kernel
theorem dI_37 : decode prog_20_method_1_code 37 = .ok (.return_, 1) := by decide +kernel
theorem pnI : plainName "com/example/kvota/kvota/PartitionReplica" = true := by first | (simp [plainName, overriddenIn]; done) | decide +kernel
theorem efI (m : MethodId) (x0 : Addr) (x1 : Int32) (x2 : Int32) : entryFrame m #[(.ref x0), (.int x1), (.int x2)] 3 = mkF m 0 #[.val (.ref x0), .val (.int x1), .val (.int x2)] [] := by first | (simp [entryFrame, mkF, argsToLocals, Value.category]; done) | rfl
def QI (Z : State) (x0 : Addr) (x1 : Int32) (x2 : Int32) (h0 : Heap) (n0 : Nat) (v : Option Value) (h : Heap) (L : List Loc) : Prop := v = none ∧ Fr n0 L ∧ Keep h0 h [x0] ∧ Fld Z h x0 "com/example/kvota/kvota/PartitionReplica" "partition" "I" (.int x1) ∧ Fld Z h x0 "com/example/kvota/kvota/PartitionReplica" "replica" "I" (.int x2)
set_option maxRecDepth 65536 in
set_option maxHeartbeats 40000000 in
theorem rmI (l : Launch) (Z : State) (a0 : Array Value) (hw : ∀ d ∈ tables_1, d.before a0 Z = true) (ws : List Jvm.Cond) (x0 : Addr) (x1 : Int32) (x2 : Int32) (h0 : Heap) (n0 : Nat) (Z0 : n0 ≤ h0.size) (E0 : Exa Z h0 x0 "com/example/kvota/kvota/PartitionReplica") (F1 : Fld Z h0 x0 "com/example/kvota/kvota/PartitionReplica" "partition" "I" (.int (0 : Int32))) (F2 : Fld Z h0 x0 "com/example/kvota/kvota/PartitionReplica" "replica" "I" (.int (0 : Int32))) (g0 : n0 ≤ x0) (h1 : ¬ x1 < (0 : Int32)) (h2 : ¬ x2 < (0 : Int32)) :
    MetFree l (⟨"com/example/kvota/kvota/PartitionReplica", "<init>", "(II)V"⟩ : MethodName) (head1 (Jvm.Cond.code (⟨"com/example/kvota/kvota/PartitionReplica", "<init>", "(II)V"⟩ : MethodName) prog_20_method_1_code 3 none :: ws) ({ frames := 1, cells := 0, slots := 0, locals := 12 } : Room)) (fun a U => a = #[(.ref x0), (.int x1), (.int x2)] ∧ Z.Warmed39 U.vm ∧ U.heap = h0) (fun _ _ _ _ _ => True) (fun _ U o U' => ∃ v L, o = .returned v ∧ QI Z x0 x1 x2 h0 n0 v U'.heap L ∧ FrameEnd U o U' L ({ frames := 1, cells := 0, slots := 0, locals := 12 } : Room).cells ({ frames := 1, cells := 0, slots := 0, locals := 12 } : Room).slots) := by
  refine MetFree.of_bodySF (plainFor_of_name pnI) hisR ?_
  intro p e s m args below meth c s₁ Bd hml0 hP hK
  obtain ⟨rfl, hZ, hh⟩ := hP
  have hx := Bd.exec
  have hby := Bd.bytes
  have hml : c.maxLocals = 3 := hml0
  have hown : s.vm.findClass "com/example/kvota/kvota/PartitionReplica" = some m.cls := findClass_of_methodNamed Bd.named
  have hnm := (name_of_methodNamed Bd.named Bd.method).1
  have X0 : Stand p l e ({ frames := 1, cells := 0, slots := 0, locals := 12 } : Room) s m #[(.ref x0), (.int x1), (.int x2)] below meth c s₁ [] 0 0 := Stand.of_body Bd
  have e0 : s₁.heap = h0 := by rw [← hh, Bd.state]; rfl
  have N0 := Fr.nil n0
  have pre0 : ∀ t, Steps p.tables e below (s₁.setTop (mkF m 0 #[.val (.ref x0), .val (.int x1), .val (.int x2)] [])) t → Steps p.tables e below (s₁.setTop (entryFrame m #[(.ref x0), (.int x1), (.int x2)] 3)) t := fun t k => castTop (efI m x0 x1 x2) k
  have K0 := Keep.refl h0 [x0]
  have p1 : ∀ t, Steps p.tables e below (s₁.setTop (mkF m 1 #[.val (.ref x0), .val (.int x1), .val (.int x2)] [(.ref x0)])) t → Steps p.tables e below (s₁.setTop (entryFrame m #[(.ref x0), (.int x1), (.int x2)] 3)) t := fun t k => pre0 t (by
    show Steps p.tables e below (s₁.setTop (mkF m 0 #[.val (.ref x0), .val (.int x1), .val (.int x2)] [])) _
    refine XS.aloadN X0.here hx rfl (hb hby dI_0) rfl rfl ?_
    exact k)
  obtain ⟨T2, X2, e2, st2⟩ := initO X0 hx hZ hown (hw _ (List.mem_of_getElem? (i := 7) rfl)) (hw _ (List.mem_of_getElem? (i := 8) rfl)) (hw _ (List.mem_of_getElem? (i := 9) rfl)) e0 (g := (mkF m 1 #[.val (.ref x0), .val (.int x1), .val (.int x2)] [(.ref x0)])) rfl (by rw [hml]; rfl) rfl (hb hby dI_1) (by decide) (W := 0) (by show 2 * 0 + _ ≤ _; exact Nat.le_of_eq rfl) (by decide)
  have p3 : ∀ t, Steps p.tables e below (T2.setTop (mkF m 4 #[.val (.ref x0), .val (.int x1), .val (.int x2)] [])) t → Steps p.tables e below (s₁.setTop (entryFrame m #[(.ref x0), (.int x1), (.int x2)] 3)) t := fun t k => p1 t (st2 t k)
  have p4 : ∀ t, Steps p.tables e below (T2.setTop (mkF m 29 #[.val (.ref x0), .val (.int x1), .val (.int x2)] [(.int x1), (.ref x0)])) t → Steps p.tables e below (s₁.setTop (entryFrame m #[(.ref x0), (.int x1), (.int x2)] 3)) t := fun t k => p3 t (by
    show Steps p.tables e below (T2.setTop (mkF m 4 #[.val (.ref x0), .val (.int x1), .val (.int x2)] [])) _
    refine XS.iloadN X2.here hx rfl (hb hby dI_4) rfl ?_
    show Steps p.tables e below (T2.setTop (mkF m 5 #[.val (.ref x0), .val (.int x1), .val (.int x2)] [(.int x1)])) _
    refine XS.ifNo X2.here hx rfl (hb hby dI_5) rfl ((if0 _ _).trans (flt (h1)).1) ?_
    show Steps p.tables e below (T2.setTop (mkF m 8 #[.val (.ref x0), .val (.int x1), .val (.int x2)] [])) _
    refine XS.iloadN X2.here hx rfl (hb hby dI_8) rfl ?_
    show Steps p.tables e below (T2.setTop (mkF m 9 #[.val (.ref x0), .val (.int x1), .val (.int x2)] [(.int x2)])) _
    refine XS.ifYes X2.here hx rfl (pc0 := 9) (pc' := 27) rfl (hb hby dI_9) rfl ((if0 _ _).trans (flt (h2)).2.1) (by decide) (by decide) ?_
    show Steps p.tables e below (T2.setTop (mkF m 27 #[.val (.ref x0), .val (.int x1), .val (.int x2)] [])) _
    refine XS.aloadN X2.here hx rfl (hb hby dI_27) rfl rfl ?_
    show Steps p.tables e below (T2.setTop (mkF m 28 #[.val (.ref x0), .val (.int x1), .val (.int x2)] [(.ref x0)])) _
    refine XS.iloadN X2.here hx rfl (hb hby dI_28) rfl ?_
    exact k)
  obtain ⟨T5, h5, X5, e5, W5, st5⟩ := putF X2 hx hZ hown (host := "") (Or.inl (hw _ (List.mem_of_getElem? (i := 10) rfl))) Via.refl e2 F1 E0 (Or.inr ⟨(hw _ (List.mem_of_getElem? (i := 11) rfl)), rfl, hnm⟩) (hw _ (List.mem_of_getElem? (i := 2) rfl)) (ty := .int) (by decide) rfl rfl (g := (mkF m 29 #[.val (.ref x0), .val (.int x1), .val (.int x2)] [(.int x1), (.ref x0)])) rfl rfl (hb hby dI_29)
  have f6 := F1.same W5
  have f7 := E0.wr W5
  have f8 := F2.other W5 (Or.inr (slot_ne (Or.inr (hw _ (List.mem_of_getElem? (i := 13) rfl))) (Or.inr (hw _ (List.mem_of_getElem? (i := 11) rfl))) (by decide) (t := .int) (t' := .int) (by decide) (by decide)))
  have Z5 := Nat.le_trans Z0 (Keep.of_wr W5).1
  have N5 := Fr.snoc X5 N0 g0
  have KK5 := K0.wr W5 (Or.inl (List.mem_singleton.mpr rfl))
  have p9 : ∀ t, Steps p.tables e below (T5.setTop (mkF m 32 #[.val (.ref x0), .val (.int x1), .val (.int x2)] [])) t → Steps p.tables e below (s₁.setTop (entryFrame m #[(.ref x0), (.int x1), (.int x2)] 3)) t := fun t k => p4 t (st5 t k)
  have p10 : ∀ t, Steps p.tables e below (T5.setTop (mkF m 34 #[.val (.ref x0), .val (.int x1), .val (.int x2)] [(.int x2), (.ref x0)])) t → Steps p.tables e below (s₁.setTop (entryFrame m #[(.ref x0), (.int x1), (.int x2)] 3)) t := fun t k => p9 t (by
    show Steps p.tables e below (T5.setTop (mkF m 32 #[.val (.ref x0), .val (.int x1), .val (.int x2)] [])) _
    refine XS.aloadN X5.here hx rfl (hb hby dI_32) rfl rfl ?_
    show Steps p.tables e below (T5.setTop (mkF m 33 #[.val (.ref x0), .val (.int x1), .val (.int x2)] [(.ref x0)])) _
    refine XS.iloadN X5.here hx rfl (hb hby dI_33) rfl ?_
    exact k)
  obtain ⟨T11, h11, X11, e11, W11, st11⟩ := putF X5 hx hZ hown (host := "") (Or.inl (hw _ (List.mem_of_getElem? (i := 12) rfl))) Via.refl e5 f8 f7 (Or.inr ⟨(hw _ (List.mem_of_getElem? (i := 13) rfl)), rfl, hnm⟩) (hw _ (List.mem_of_getElem? (i := 2) rfl)) (ty := .int) (by decide) rfl rfl (g := (mkF m 34 #[.val (.ref x0), .val (.int x1), .val (.int x2)] [(.int x2), (.ref x0)])) rfl rfl (hb hby dI_34)
  have f12 := f8.same W11
  have f13 := f7.wr W11
  have f14 := f6.other W11 (Or.inr (slot_ne (Or.inr (hw _ (List.mem_of_getElem? (i := 11) rfl))) (Or.inr (hw _ (List.mem_of_getElem? (i := 13) rfl))) (by decide) (t := .int) (t' := .int) (by decide) (by decide)))
  have Z11 := Nat.le_trans Z5 (Keep.of_wr W11).1
  have N11 := Fr.snoc X11 N5 g0
  have KK11 := KK5.wr W11 (Or.inl (List.mem_singleton.mpr rfl))
  have p15 : ∀ t, Steps p.tables e below (T11.setTop (mkF m 37 #[.val (.ref x0), .val (.int x1), .val (.int x2)] [])) t → Steps p.tables e below (s₁.setTop (entryFrame m #[(.ref x0), (.int x1), (.int x2)] 3)) t := fun t k => p10 t (st11 t k)
  obtain ⟨fs, hr, hrun, hended, hW, hsame⟩ := X11.leave (v := none) (fun _ => rfl)
  refine ⟨_, _, p15 _ ?_, hrun, hended, _, _, rfl, ?_, ⟨_, rfl⟩, hW, hsame.mono (by decide) (by decide)⟩
  · show Steps p.tables e below (T11.setTop (mkF m 37 #[.val (.ref x0), .val (.int x1), .val (.int x2)] [])) _
    exact X11.returnOut hx Bd.returns (hb hby dI_37) hr
  · show QI Z x0 x1 x2 h0 n0 _ T11.heap _
    rw [e11]
    exact ⟨rfl, N11, KK11, f14, f12⟩
theorem dA_0 : decode prog_20_method_7_code 0 = .ok (.aload_n 1, 1) := by decide +kernel
theorem dA_1 : decode prog_20_method_7_code 1 = .ok (.instanceof 17, 3) := by decide +kernel
theorem dA_4 : decode prog_20_method_7_code 4 = .ok (.ifCond .eq 35, 3) := by decide +kernel
theorem dA_7 : decode prog_20_method_7_code 7 = .ok (.aload_n 1, 1) := by decide +kernel
theorem dA_8 : decode prog_20_method_7_code 8 = .ok (.checkcast 17, 3) := by decide +kernel
theorem dA_11 : decode prog_20_method_7_code 11 = .ok (.getfield 16, 3) := by decide +kernel
theorem dA_14 : decode prog_20_method_7_code 14 = .ok (.aload_n 0, 1) := by decide +kernel
theorem dA_15 : decode prog_20_method_7_code 15 = .ok (.getfield 16, 3) := by decide +kernel
theorem dA_18 : decode prog_20_method_7_code 18 = .ok (.if_icmp .ne 21, 3) := by decide +kernel
theorem dA_21 : decode prog_20_method_7_code 21 = .ok (.aload_n 1, 1) := by decide +kernel
theorem dA_22 : decode prog_20_method_7_code 22 = .ok (.checkcast 17, 3) := by decide +kernel
theorem dA_25 : decode prog_20_method_7_code 25 = .ok (.getfield 22, 3) := by decide +kernel
theorem dA_28 : decode prog_20_method_7_code 28 = .ok (.aload_n 0, 1) := by decide +kernel
theorem dA_29 : decode prog_20_method_7_code 29 = .ok (.getfield 22, 3) := by decide +kernel
theorem dA_32 : decode prog_20_method_7_code 32 = .ok (.if_icmp .ne 7, 3) := by decide +kernel
theorem dA_35 : decode prog_20_method_7_code 35 = .ok (.iconst 1, 1) := by decide +kernel
theorem dA_36 : decode prog_20_method_7_code 36 = .ok (.goto 4, 3) := by decide +kernel
theorem dA_39 : decode prog_20_method_7_code 39 = .ok (.iconst 0, 1) := by decide +kernel
theorem dA_40 : decode prog_20_method_7_code 40 = .ok (.ireturn, 1) := by decide +kernel
theorem pnA : plainName "com/example/kvota/kvota/PartitionReplica" = true := by first | (simp [plainName, overriddenIn]; done) | decide +kernel
theorem efA (m : MethodId) (x0 : Addr) (x1 : Addr) : entryFrame m #[(.ref x0), (.ref x1)] 2 = mkF m 0 #[.val (.ref x0), .val (.ref x1)] [] := by first | (simp [entryFrame, mkF, argsToLocals, Value.category]; done) | rfl
def QA (Z : State) (x0 : Addr) (x1 : Addr) (kp : Int32) (kr : Int32) (ku : Int32) (kw : Int32) (h0 : Heap) (n0 : Nat) (v : Option Value) (h : Heap) (L : List Loc) : Prop := v = some (.int (own_eq kp kr ku kw)) ∧ Fr n0 L ∧ h = h0
set_option maxRecDepth 65536 in
set_option maxHeartbeats 40000000 in
theorem rmA (l : Launch) (Z : State) (a0 : Array Value) (hw : ∀ d ∈ tables_1, d.before a0 Z = true) (ws : List Jvm.Cond) (x0 : Addr) (x1 : Addr) (kp : Int32) (kr : Int32) (ku : Int32) (kw : Int32) (h0 : Heap) (n0 : Nat) (Z0 : n0 ≤ h0.size) (E1 : Exa Z h0 x1 "com/example/kvota/kvota/PartitionReplica") (F0 : Fld Z h0 x0 "com/example/kvota/kvota/PartitionReplica" "partition" "I" (.int kp)) (G0 : Fld Z h0 x0 "com/example/kvota/kvota/PartitionReplica" "replica" "I" (.int kr)) (F1 : Fld Z h0 x1 "com/example/kvota/kvota/PartitionReplica" "partition" "I" (.int ku)) (G1 : Fld Z h0 x1 "com/example/kvota/kvota/PartitionReplica" "replica" "I" (.int kw)) :
    MetFree l (⟨"com/example/kvota/kvota/PartitionReplica", "equals", "(Ljava/lang/Object;)Z"⟩ : MethodName) (head1 (Jvm.Cond.code (⟨"com/example/kvota/kvota/PartitionReplica", "equals", "(Ljava/lang/Object;)Z"⟩ : MethodName) prog_20_method_7_code 2 (some .boolean) :: ws) ({ frames := 0, cells := 0, slots := 0, locals := 0 } : Room)) (fun a U => a = #[(.ref x0), (.ref x1)] ∧ Z.Warmed39 U.vm ∧ U.heap = h0) (fun _ _ _ _ _ => True) (fun _ U o U' => ∃ v L, o = .returned v ∧ QA Z x0 x1 kp kr ku kw h0 n0 v U'.heap L ∧ FrameEnd U o U' L ({ frames := 0, cells := 0, slots := 0, locals := 0 } : Room).cells ({ frames := 0, cells := 0, slots := 0, locals := 0 } : Room).slots) := by
  refine MetFree.of_bodySF (plainFor_of_name pnA) hisR ?_
  intro p e s m args below meth c s₁ Bd hml0 hP hK
  obtain ⟨rfl, hZ, hh⟩ := hP
  have hx := Bd.exec
  have hby := Bd.bytes
  have hml : c.maxLocals = 2 := hml0
  have hown : s.vm.findClass "com/example/kvota/kvota/PartitionReplica" = some m.cls := findClass_of_methodNamed Bd.named
  have hnm := (name_of_methodNamed Bd.named Bd.method).1
  have X0 : Stand p l e ({ frames := 0, cells := 0, slots := 0, locals := 0 } : Room) s m #[(.ref x0), (.ref x1)] below meth c s₁ [] 0 0 := Stand.of_body Bd
  have e0 : s₁.heap = h0 := by rw [← hh, Bd.state]; rfl
  have N0 := Fr.nil n0
  have pre0 : ∀ t, Steps p.tables e below (s₁.setTop (mkF m 0 #[.val (.ref x0), .val (.ref x1)] [])) t → Steps p.tables e below (s₁.setTop (entryFrame m #[(.ref x0), (.ref x1)] 2)) t := fun t k => castTop (efA m x0 x1) k
  have p1 : ∀ t, Steps p.tables e below (s₁.setTop (mkF m 1 #[.val (.ref x0), .val (.ref x1)] [(.ref x1)])) t → Steps p.tables e below (s₁.setTop (entryFrame m #[(.ref x0), (.ref x1)] 2)) t := fun t k => pre0 t (by
    show Steps p.tables e below (s₁.setTop (mkF m 0 #[.val (.ref x0), .val (.ref x1)] [])) _
    refine XS.aloadN X0.here hx rfl (hb hby dA_0) rfl rfl ?_
    exact k)
  obtain ⟨T2, X2, e2, st2⟩ := instY X0 hx hZ hown (hw _ (List.mem_of_getElem? (i := 19) rfl)) e0 (Ins.self E1) (g := (mkF m 1 #[.val (.ref x0), .val (.ref x1)] [(.ref x1)])) rfl rfl (hb hby dA_1)
  have p3 : ∀ t, Steps p.tables e below (T2.setTop (mkF m 4 #[.val (.ref x0), .val (.ref x1)] [(.int (1 : Int32))])) t → Steps p.tables e below (s₁.setTop (entryFrame m #[(.ref x0), (.ref x1)] 2)) t := fun t k => p1 t (st2 t k)
  have p4 : ∀ t, Steps p.tables e below (T2.setTop (mkF m 8 #[.val (.ref x0), .val (.ref x1)] [(.ref x1)])) t → Steps p.tables e below (s₁.setTop (entryFrame m #[(.ref x0), (.ref x1)] 2)) t := fun t k => p3 t (by
    show Steps p.tables e below (T2.setTop (mkF m 4 #[.val (.ref x0), .val (.ref x1)] [(.int (1 : Int32))])) _
    refine XS.ifNo X2.here hx rfl (hb hby dA_4) rfl ((if0 _ _).trans (feq (by decide)).1) ?_
    show Steps p.tables e below (T2.setTop (mkF m 7 #[.val (.ref x0), .val (.ref x1)] [])) _
    refine XS.aloadN X2.here hx rfl (hb hby dA_7) rfl rfl ?_
    exact k)
  obtain ⟨T5, X5, e5, st5⟩ := castY X2 hx hZ hown (hw _ (List.mem_of_getElem? (i := 19) rfl)) e2 (Ins.self E1) (g := (mkF m 8 #[.val (.ref x0), .val (.ref x1)] [(.ref x1)])) rfl rfl (hb hby dA_8)
  have p6 : ∀ t, Steps p.tables e below (T5.setTop (mkF m 11 #[.val (.ref x0), .val (.ref x1)] [(.ref x1)])) t → Steps p.tables e below (s₁.setTop (entryFrame m #[(.ref x0), (.ref x1)] 2)) t := fun t k => p4 t (st5 t k)
  obtain ⟨T7, X7, e7, st7⟩ := getF X5 hx hZ hown (host := "") (Or.inl (hw _ (List.mem_of_getElem? (i := 10) rfl))) Via.refl e5 F1 (g := (mkF m 11 #[.val (.ref x0), .val (.ref x1)] [(.ref x1)])) rfl rfl (hb hby dA_11)
  have p8 : ∀ t, Steps p.tables e below (T7.setTop (mkF m 14 #[.val (.ref x0), .val (.ref x1)] [(.int ku)])) t → Steps p.tables e below (s₁.setTop (entryFrame m #[(.ref x0), (.ref x1)] 2)) t := fun t k => p6 t (st7 t k)
  have p9 : ∀ t, Steps p.tables e below (T7.setTop (mkF m 15 #[.val (.ref x0), .val (.ref x1)] [(.ref x0), (.int ku)])) t → Steps p.tables e below (s₁.setTop (entryFrame m #[(.ref x0), (.ref x1)] 2)) t := fun t k => p8 t (by
    show Steps p.tables e below (T7.setTop (mkF m 14 #[.val (.ref x0), .val (.ref x1)] [(.int ku)])) _
    refine XS.aloadN X7.here hx rfl (hb hby dA_14) rfl rfl ?_
    exact k)
  obtain ⟨T10, X10, e10, st10⟩ := getF X7 hx hZ hown (host := "") (Or.inl (hw _ (List.mem_of_getElem? (i := 10) rfl))) Via.refl e7 F0 (g := (mkF m 15 #[.val (.ref x0), .val (.ref x1)] [(.ref x0), (.int ku)])) rfl rfl (hb hby dA_15)
  have p11 : ∀ t, Steps p.tables e below (T10.setTop (mkF m 18 #[.val (.ref x0), .val (.ref x1)] [(.int kp), (.int ku)])) t → Steps p.tables e below (s₁.setTop (entryFrame m #[(.ref x0), (.ref x1)] 2)) t := fun t k => p9 t (st10 t k)
  by_cases hc18 : ku = kp
  · have p12 : ∀ t, Steps p.tables e below (T10.setTop (mkF m 22 #[.val (.ref x0), .val (.ref x1)] [(.ref x1)])) t → Steps p.tables e below (s₁.setTop (entryFrame m #[(.ref x0), (.ref x1)] 2)) t := fun t k => p11 t (by
      show Steps p.tables e below (T10.setTop (mkF m 18 #[.val (.ref x0), .val (.ref x1)] [(.int kp), (.int ku)])) _
      refine XS.icmpNo X10.here hx rfl (hb hby dA_18) rfl ((teq (hc18)).2) ?_
      show Steps p.tables e below (T10.setTop (mkF m 21 #[.val (.ref x0), .val (.ref x1)] [])) _
      refine XS.aloadN X10.here hx rfl (hb hby dA_21) rfl rfl ?_
      exact k)
    obtain ⟨T13, X13, e13, st13⟩ := castY X10 hx hZ hown (hw _ (List.mem_of_getElem? (i := 19) rfl)) e10 (Ins.self E1) (g := (mkF m 22 #[.val (.ref x0), .val (.ref x1)] [(.ref x1)])) rfl rfl (hb hby dA_22)
    have p14 : ∀ t, Steps p.tables e below (T13.setTop (mkF m 25 #[.val (.ref x0), .val (.ref x1)] [(.ref x1)])) t → Steps p.tables e below (s₁.setTop (entryFrame m #[(.ref x0), (.ref x1)] 2)) t := fun t k => p12 t (st13 t k)
    obtain ⟨T15, X15, e15, st15⟩ := getF X13 hx hZ hown (host := "") (Or.inl (hw _ (List.mem_of_getElem? (i := 12) rfl))) Via.refl e13 G1 (g := (mkF m 25 #[.val (.ref x0), .val (.ref x1)] [(.ref x1)])) rfl rfl (hb hby dA_25)
    have p16 : ∀ t, Steps p.tables e below (T15.setTop (mkF m 28 #[.val (.ref x0), .val (.ref x1)] [(.int kw)])) t → Steps p.tables e below (s₁.setTop (entryFrame m #[(.ref x0), (.ref x1)] 2)) t := fun t k => p14 t (st15 t k)
    have p17 : ∀ t, Steps p.tables e below (T15.setTop (mkF m 29 #[.val (.ref x0), .val (.ref x1)] [(.ref x0), (.int kw)])) t → Steps p.tables e below (s₁.setTop (entryFrame m #[(.ref x0), (.ref x1)] 2)) t := fun t k => p16 t (by
      show Steps p.tables e below (T15.setTop (mkF m 28 #[.val (.ref x0), .val (.ref x1)] [(.int kw)])) _
      refine XS.aloadN X15.here hx rfl (hb hby dA_28) rfl rfl ?_
      exact k)
    obtain ⟨T18, X18, e18, st18⟩ := getF X15 hx hZ hown (host := "") (Or.inl (hw _ (List.mem_of_getElem? (i := 12) rfl))) Via.refl e15 G0 (g := (mkF m 29 #[.val (.ref x0), .val (.ref x1)] [(.ref x0), (.int kw)])) rfl rfl (hb hby dA_29)
    have p19 : ∀ t, Steps p.tables e below (T18.setTop (mkF m 32 #[.val (.ref x0), .val (.ref x1)] [(.int kr), (.int kw)])) t → Steps p.tables e below (s₁.setTop (entryFrame m #[(.ref x0), (.ref x1)] 2)) t := fun t k => p17 t (st18 t k)
    by_cases hc32 : kw = kr
    · have p20 : ∀ t, Steps p.tables e below (T18.setTop (mkF m 40 #[.val (.ref x0), .val (.ref x1)] [(.int (1 : Int32))])) t → Steps p.tables e below (s₁.setTop (entryFrame m #[(.ref x0), (.ref x1)] 2)) t := fun t k => p19 t (by
        show Steps p.tables e below (T18.setTop (mkF m 32 #[.val (.ref x0), .val (.ref x1)] [(.int kr), (.int kw)])) _
        refine XS.icmpNo X18.here hx rfl (hb hby dA_32) rfl ((teq (hc32)).2) ?_
        show Steps p.tables e below (T18.setTop (mkF m 35 #[.val (.ref x0), .val (.ref x1)] [])) _
        refine XS.iconst X18.here hx rfl (hb hby dA_35) ?_
        show Steps p.tables e below (T18.setTop (mkF m 36 #[.val (.ref x0), .val (.ref x1)] [(.int (1 : Int32))])) _
        refine XS.goto X18.here hx rfl (pc0 := 36) (pc' := 40) rfl (hb hby dA_36) (by decide) (by decide) ?_
        exact k)
      obtain ⟨fs, hr, hrun, hended, hW, hsame⟩ := X18.leave (v := some (.int (1 : Int32))) (fun h => by rw [Bd.returns] at h; cases h)
      refine ⟨_, _, p20 _ ?_, hrun, hended, _, _, rfl, ?_, ⟨_, rfl⟩, hW, hsame.mono (by decide) (by decide)⟩
      · show Steps p.tables e below (T18.setTop (mkF m 40 #[.val (.ref x0), .val (.ref x1)] [(.int (1 : Int32))])) _
        exact retN X18 hx (t := .boolean) Bd.returns (by simp) (hb hby dA_40) hr
      · show QA Z x0 x1 kp kr ku kw h0 n0 _ T18.heap _
        rw [e18]
        exact ⟨by unfold own_eq; rw [if_pos hc18, if_pos hc32], N0, rfl⟩
    · have p21 : ∀ t, Steps p.tables e below (T18.setTop (mkF m 40 #[.val (.ref x0), .val (.ref x1)] [(.int (0 : Int32))])) t → Steps p.tables e below (s₁.setTop (entryFrame m #[(.ref x0), (.ref x1)] 2)) t := fun t k => p19 t (by
        show Steps p.tables e below (T18.setTop (mkF m 32 #[.val (.ref x0), .val (.ref x1)] [(.int kr), (.int kw)])) _
        refine XS.icmpYes X18.here hx rfl (pc0 := 32) (pc' := 39) rfl (hb hby dA_32) rfl ((feq (hc32)).2) (by decide) (by decide) ?_
        show Steps p.tables e below (T18.setTop (mkF m 39 #[.val (.ref x0), .val (.ref x1)] [])) _
        refine XS.iconst X18.here hx rfl (hb hby dA_39) ?_
        exact k)
      obtain ⟨fs, hr, hrun, hended, hW, hsame⟩ := X18.leave (v := some (.int (0 : Int32))) (fun h => by rw [Bd.returns] at h; cases h)
      refine ⟨_, _, p21 _ ?_, hrun, hended, _, _, rfl, ?_, ⟨_, rfl⟩, hW, hsame.mono (by decide) (by decide)⟩
      · show Steps p.tables e below (T18.setTop (mkF m 40 #[.val (.ref x0), .val (.ref x1)] [(.int (0 : Int32))])) _
        exact retN X18 hx (t := .boolean) Bd.returns (by simp) (hb hby dA_40) hr
      · show QA Z x0 x1 kp kr ku kw h0 n0 _ T18.heap _
        rw [e18]
        exact ⟨by unfold own_eq; rw [if_pos hc18, if_neg hc32], N0, rfl⟩
  · have p22 : ∀ t, Steps p.tables e below (T10.setTop (mkF m 40 #[.val (.ref x0), .val (.ref x1)] [(.int (0 : Int32))])) t → Steps p.tables e below (s₁.setTop (entryFrame m #[(.ref x0), (.ref x1)] 2)) t := fun t k => p11 t (by
      show Steps p.tables e below (T10.setTop (mkF m 18 #[.val (.ref x0), .val (.ref x1)] [(.int kp), (.int ku)])) _
      refine XS.icmpYes X10.here hx rfl (pc0 := 18) (pc' := 39) rfl (hb hby dA_18) rfl ((feq (hc18)).2) (by decide) (by decide) ?_
      show Steps p.tables e below (T10.setTop (mkF m 39 #[.val (.ref x0), .val (.ref x1)] [])) _
      refine XS.iconst X10.here hx rfl (hb hby dA_39) ?_
      exact k)
    obtain ⟨fs, hr, hrun, hended, hW, hsame⟩ := X10.leave (v := some (.int (0 : Int32))) (fun h => by rw [Bd.returns] at h; cases h)
    refine ⟨_, _, p22 _ ?_, hrun, hended, _, _, rfl, ?_, ⟨_, rfl⟩, hW, hsame.mono (by decide) (by decide)⟩
    · show Steps p.tables e below (T10.setTop (mkF m 40 #[.val (.ref x0), .val (.ref x1)] [(.int (0 : Int32))])) _
      exact retN X10 hx (t := .boolean) Bd.returns (by simp) (hb hby dA_40) hr
    · show QA Z x0 x1 kp kr ku kw h0 n0 _ T10.heap _
      rw [e10]
      exact ⟨by unfold own_eq; rw [if_neg hc18], N0, rfl⟩
theorem dS_0 : decode prog_20_method_7_code 0 = .ok (.aload_n 1, 1) := by decide +kernel
theorem dS_1 : decode prog_20_method_7_code 1 = .ok (.instanceof 17, 3) := by decide +kernel
theorem dS_4 : decode prog_20_method_7_code 4 = .ok (.ifCond .eq 35, 3) := by decide +kernel
theorem dS_7 : decode prog_20_method_7_code 7 = .ok (.aload_n 1, 1) := by decide +kernel
theorem dS_8 : decode prog_20_method_7_code 8 = .ok (.checkcast 17, 3) := by decide +kernel
theorem dS_11 : decode prog_20_method_7_code 11 = .ok (.getfield 16, 3) := by decide +kernel
theorem dS_14 : decode prog_20_method_7_code 14 = .ok (.aload_n 0, 1) := by decide +kernel
theorem dS_15 : decode prog_20_method_7_code 15 = .ok (.getfield 16, 3) := by decide +kernel
theorem dS_18 : decode prog_20_method_7_code 18 = .ok (.if_icmp .ne 21, 3) := by decide +kernel
theorem dS_21 : decode prog_20_method_7_code 21 = .ok (.aload_n 1, 1) := by decide +kernel
theorem dS_22 : decode prog_20_method_7_code 22 = .ok (.checkcast 17, 3) := by decide +kernel
theorem dS_25 : decode prog_20_method_7_code 25 = .ok (.getfield 22, 3) := by decide +kernel
theorem dS_28 : decode prog_20_method_7_code 28 = .ok (.aload_n 0, 1) := by decide +kernel
theorem dS_29 : decode prog_20_method_7_code 29 = .ok (.getfield 22, 3) := by decide +kernel
theorem dS_32 : decode prog_20_method_7_code 32 = .ok (.if_icmp .ne 7, 3) := by decide +kernel
theorem dS_35 : decode prog_20_method_7_code 35 = .ok (.iconst 1, 1) := by decide +kernel
theorem dS_36 : decode prog_20_method_7_code 36 = .ok (.goto 4, 3) := by decide +kernel
theorem dS_40 : decode prog_20_method_7_code 40 = .ok (.ireturn, 1) := by decide +kernel
theorem pnS : plainName "com/example/kvota/kvota/PartitionReplica" = true := by first | (simp [plainName, overriddenIn]; done) | decide +kernel
theorem efS (m : MethodId) (x0 : Addr) : entryFrame m #[(.ref x0), (.ref x0)] 2 = mkF m 0 #[.val (.ref x0), .val (.ref x0)] [] := by first | (simp [entryFrame, mkF, argsToLocals, Value.category]; done) | rfl
def QS (Z : State) (x0 : Addr) (kp : Int32) (kr : Int32) (h0 : Heap) (n0 : Nat) (v : Option Value) (h : Heap) (L : List Loc) : Prop := v = some (.int (1 : Int32)) ∧ Fr n0 L ∧ h = h0
set_option maxRecDepth 65536 in
set_option maxHeartbeats 40000000 in
theorem rmS (l : Launch) (Z : State) (a0 : Array Value) (hw : ∀ d ∈ tables_1, d.before a0 Z = true) (ws : List Jvm.Cond) (x0 : Addr) (kp : Int32) (kr : Int32) (h0 : Heap) (n0 : Nat) (Z0 : n0 ≤ h0.size) (E0 : Exa Z h0 x0 "com/example/kvota/kvota/PartitionReplica") (F0 : Fld Z h0 x0 "com/example/kvota/kvota/PartitionReplica" "partition" "I" (.int kp)) (G0 : Fld Z h0 x0 "com/example/kvota/kvota/PartitionReplica" "replica" "I" (.int kr)) :
    MetFree l (⟨"com/example/kvota/kvota/PartitionReplica", "equals", "(Ljava/lang/Object;)Z"⟩ : MethodName) (head1 (Jvm.Cond.code (⟨"com/example/kvota/kvota/PartitionReplica", "equals", "(Ljava/lang/Object;)Z"⟩ : MethodName) prog_20_method_7_code 2 (some .boolean) :: ws) ({ frames := 0, cells := 0, slots := 0, locals := 0 } : Room)) (fun a U => a = #[(.ref x0), (.ref x0)] ∧ Z.Warmed39 U.vm ∧ U.heap = h0) (fun _ _ _ _ _ => True) (fun _ U o U' => ∃ v L, o = .returned v ∧ QS Z x0 kp kr h0 n0 v U'.heap L ∧ FrameEnd U o U' L ({ frames := 0, cells := 0, slots := 0, locals := 0 } : Room).cells ({ frames := 0, cells := 0, slots := 0, locals := 0 } : Room).slots) := by
  refine MetFree.of_bodySF (plainFor_of_name pnS) hisR ?_
  intro p e s m args below meth c s₁ Bd hml0 hP hK
  obtain ⟨rfl, hZ, hh⟩ := hP
  have hx := Bd.exec
  have hby := Bd.bytes
  have hml : c.maxLocals = 2 := hml0
  have hown : s.vm.findClass "com/example/kvota/kvota/PartitionReplica" = some m.cls := findClass_of_methodNamed Bd.named
  have hnm := (name_of_methodNamed Bd.named Bd.method).1
  have X0 : Stand p l e ({ frames := 0, cells := 0, slots := 0, locals := 0 } : Room) s m #[(.ref x0), (.ref x0)] below meth c s₁ [] 0 0 := Stand.of_body Bd
  have e0 : s₁.heap = h0 := by rw [← hh, Bd.state]; rfl
  have N0 := Fr.nil n0
  have pre0 : ∀ t, Steps p.tables e below (s₁.setTop (mkF m 0 #[.val (.ref x0), .val (.ref x0)] [])) t → Steps p.tables e below (s₁.setTop (entryFrame m #[(.ref x0), (.ref x0)] 2)) t := fun t k => castTop (efS m x0) k
  have p1 : ∀ t, Steps p.tables e below (s₁.setTop (mkF m 1 #[.val (.ref x0), .val (.ref x0)] [(.ref x0)])) t → Steps p.tables e below (s₁.setTop (entryFrame m #[(.ref x0), (.ref x0)] 2)) t := fun t k => pre0 t (by
    show Steps p.tables e below (s₁.setTop (mkF m 0 #[.val (.ref x0), .val (.ref x0)] [])) _
    refine XS.aloadN X0.here hx rfl (hb hby dS_0) rfl rfl ?_
    exact k)
  obtain ⟨T2, X2, e2, st2⟩ := instY X0 hx hZ hown (hw _ (List.mem_of_getElem? (i := 19) rfl)) e0 (Ins.self E0) (g := (mkF m 1 #[.val (.ref x0), .val (.ref x0)] [(.ref x0)])) rfl rfl (hb hby dS_1)
  have p3 : ∀ t, Steps p.tables e below (T2.setTop (mkF m 4 #[.val (.ref x0), .val (.ref x0)] [(.int (1 : Int32))])) t → Steps p.tables e below (s₁.setTop (entryFrame m #[(.ref x0), (.ref x0)] 2)) t := fun t k => p1 t (st2 t k)
  have p4 : ∀ t, Steps p.tables e below (T2.setTop (mkF m 8 #[.val (.ref x0), .val (.ref x0)] [(.ref x0)])) t → Steps p.tables e below (s₁.setTop (entryFrame m #[(.ref x0), (.ref x0)] 2)) t := fun t k => p3 t (by
    show Steps p.tables e below (T2.setTop (mkF m 4 #[.val (.ref x0), .val (.ref x0)] [(.int (1 : Int32))])) _
    refine XS.ifNo X2.here hx rfl (hb hby dS_4) rfl ((if0 _ _).trans (feq (by decide)).1) ?_
    show Steps p.tables e below (T2.setTop (mkF m 7 #[.val (.ref x0), .val (.ref x0)] [])) _
    refine XS.aloadN X2.here hx rfl (hb hby dS_7) rfl rfl ?_
    exact k)
  obtain ⟨T5, X5, e5, st5⟩ := castY X2 hx hZ hown (hw _ (List.mem_of_getElem? (i := 19) rfl)) e2 (Ins.self E0) (g := (mkF m 8 #[.val (.ref x0), .val (.ref x0)] [(.ref x0)])) rfl rfl (hb hby dS_8)
  have p6 : ∀ t, Steps p.tables e below (T5.setTop (mkF m 11 #[.val (.ref x0), .val (.ref x0)] [(.ref x0)])) t → Steps p.tables e below (s₁.setTop (entryFrame m #[(.ref x0), (.ref x0)] 2)) t := fun t k => p4 t (st5 t k)
  obtain ⟨T7, X7, e7, st7⟩ := getF X5 hx hZ hown (host := "") (Or.inl (hw _ (List.mem_of_getElem? (i := 10) rfl))) Via.refl e5 F0 (g := (mkF m 11 #[.val (.ref x0), .val (.ref x0)] [(.ref x0)])) rfl rfl (hb hby dS_11)
  have p8 : ∀ t, Steps p.tables e below (T7.setTop (mkF m 14 #[.val (.ref x0), .val (.ref x0)] [(.int kp)])) t → Steps p.tables e below (s₁.setTop (entryFrame m #[(.ref x0), (.ref x0)] 2)) t := fun t k => p6 t (st7 t k)
  have p9 : ∀ t, Steps p.tables e below (T7.setTop (mkF m 15 #[.val (.ref x0), .val (.ref x0)] [(.ref x0), (.int kp)])) t → Steps p.tables e below (s₁.setTop (entryFrame m #[(.ref x0), (.ref x0)] 2)) t := fun t k => p8 t (by
    show Steps p.tables e below (T7.setTop (mkF m 14 #[.val (.ref x0), .val (.ref x0)] [(.int kp)])) _
    refine XS.aloadN X7.here hx rfl (hb hby dS_14) rfl rfl ?_
    exact k)
  obtain ⟨T10, X10, e10, st10⟩ := getF X7 hx hZ hown (host := "") (Or.inl (hw _ (List.mem_of_getElem? (i := 10) rfl))) Via.refl e7 F0 (g := (mkF m 15 #[.val (.ref x0), .val (.ref x0)] [(.ref x0), (.int kp)])) rfl rfl (hb hby dS_15)
  have p11 : ∀ t, Steps p.tables e below (T10.setTop (mkF m 18 #[.val (.ref x0), .val (.ref x0)] [(.int kp), (.int kp)])) t → Steps p.tables e below (s₁.setTop (entryFrame m #[(.ref x0), (.ref x0)] 2)) t := fun t k => p9 t (st10 t k)
  have p12 : ∀ t, Steps p.tables e below (T10.setTop (mkF m 22 #[.val (.ref x0), .val (.ref x0)] [(.ref x0)])) t → Steps p.tables e below (s₁.setTop (entryFrame m #[(.ref x0), (.ref x0)] 2)) t := fun t k => p11 t (by
    show Steps p.tables e below (T10.setTop (mkF m 18 #[.val (.ref x0), .val (.ref x0)] [(.int kp), (.int kp)])) _
    refine XS.icmpNo X10.here hx rfl (hb hby dS_18) rfl ((teq (rfl)).2) ?_
    show Steps p.tables e below (T10.setTop (mkF m 21 #[.val (.ref x0), .val (.ref x0)] [])) _
    refine XS.aloadN X10.here hx rfl (hb hby dS_21) rfl rfl ?_
    exact k)
  obtain ⟨T13, X13, e13, st13⟩ := castY X10 hx hZ hown (hw _ (List.mem_of_getElem? (i := 19) rfl)) e10 (Ins.self E0) (g := (mkF m 22 #[.val (.ref x0), .val (.ref x0)] [(.ref x0)])) rfl rfl (hb hby dS_22)
  have p14 : ∀ t, Steps p.tables e below (T13.setTop (mkF m 25 #[.val (.ref x0), .val (.ref x0)] [(.ref x0)])) t → Steps p.tables e below (s₁.setTop (entryFrame m #[(.ref x0), (.ref x0)] 2)) t := fun t k => p12 t (st13 t k)
  obtain ⟨T15, X15, e15, st15⟩ := getF X13 hx hZ hown (host := "") (Or.inl (hw _ (List.mem_of_getElem? (i := 12) rfl))) Via.refl e13 G0 (g := (mkF m 25 #[.val (.ref x0), .val (.ref x0)] [(.ref x0)])) rfl rfl (hb hby dS_25)
  have p16 : ∀ t, Steps p.tables e below (T15.setTop (mkF m 28 #[.val (.ref x0), .val (.ref x0)] [(.int kr)])) t → Steps p.tables e below (s₁.setTop (entryFrame m #[(.ref x0), (.ref x0)] 2)) t := fun t k => p14 t (st15 t k)
  have p17 : ∀ t, Steps p.tables e below (T15.setTop (mkF m 29 #[.val (.ref x0), .val (.ref x0)] [(.ref x0), (.int kr)])) t → Steps p.tables e below (s₁.setTop (entryFrame m #[(.ref x0), (.ref x0)] 2)) t := fun t k => p16 t (by
    show Steps p.tables e below (T15.setTop (mkF m 28 #[.val (.ref x0), .val (.ref x0)] [(.int kr)])) _
    refine XS.aloadN X15.here hx rfl (hb hby dS_28) rfl rfl ?_
    exact k)
  obtain ⟨T18, X18, e18, st18⟩ := getF X15 hx hZ hown (host := "") (Or.inl (hw _ (List.mem_of_getElem? (i := 12) rfl))) Via.refl e15 G0 (g := (mkF m 29 #[.val (.ref x0), .val (.ref x0)] [(.ref x0), (.int kr)])) rfl rfl (hb hby dS_29)
  have p19 : ∀ t, Steps p.tables e below (T18.setTop (mkF m 32 #[.val (.ref x0), .val (.ref x0)] [(.int kr), (.int kr)])) t → Steps p.tables e below (s₁.setTop (entryFrame m #[(.ref x0), (.ref x0)] 2)) t := fun t k => p17 t (st18 t k)
  have p20 : ∀ t, Steps p.tables e below (T18.setTop (mkF m 40 #[.val (.ref x0), .val (.ref x0)] [(.int (1 : Int32))])) t → Steps p.tables e below (s₁.setTop (entryFrame m #[(.ref x0), (.ref x0)] 2)) t := fun t k => p19 t (by
    show Steps p.tables e below (T18.setTop (mkF m 32 #[.val (.ref x0), .val (.ref x0)] [(.int kr), (.int kr)])) _
    refine XS.icmpNo X18.here hx rfl (hb hby dS_32) rfl ((teq (rfl)).2) ?_
    show Steps p.tables e below (T18.setTop (mkF m 35 #[.val (.ref x0), .val (.ref x0)] [])) _
    refine XS.iconst X18.here hx rfl (hb hby dS_35) ?_
    show Steps p.tables e below (T18.setTop (mkF m 36 #[.val (.ref x0), .val (.ref x0)] [(.int (1 : Int32))])) _
    refine XS.goto X18.here hx rfl (pc0 := 36) (pc' := 40) rfl (hb hby dS_36) (by decide) (by decide) ?_
    exact k)
  obtain ⟨fs, hr, hrun, hended, hW, hsame⟩ := X18.leave (v := some (.int (1 : Int32))) (fun h => by rw [Bd.returns] at h; cases h)
  refine ⟨_, _, p20 _ ?_, hrun, hended, _, _, rfl, ?_, ⟨_, rfl⟩, hW, hsame.mono (by decide) (by decide)⟩
  · show Steps p.tables e below (T18.setTop (mkF m 40 #[.val (.ref x0), .val (.ref x0)] [(.int (1 : Int32))])) _
    exact retN X18 hx (t := .boolean) Bd.returns (by simp) (hb hby dS_40) hr
  · show QS Z x0 kp kr h0 n0 _ T18.heap _
    rw [e18]
    exact ⟨rfl, N0, rfl⟩
theorem dN_0 : decode prog_20_method_7_code 0 = .ok (.aload_n 1, 1) := by decide +kernel
theorem dN_1 : decode prog_20_method_7_code 1 = .ok (.instanceof 17, 3) := by decide +kernel
theorem dN_4 : decode prog_20_method_7_code 4 = .ok (.ifCond .eq 35, 3) := by decide +kernel
theorem dN_39 : decode prog_20_method_7_code 39 = .ok (.iconst 0, 1) := by decide +kernel
theorem dN_40 : decode prog_20_method_7_code 40 = .ok (.ireturn, 1) := by decide +kernel
theorem pnN : plainName "com/example/kvota/kvota/PartitionReplica" = true := by first | (simp [plainName, overriddenIn]; done) | decide +kernel
theorem efN (m : MethodId) (x0 : Addr) : entryFrame m #[(.ref x0), .null] 2 = mkF m 0 #[.val (.ref x0), .val .null] [] := by first | (simp [entryFrame, mkF, argsToLocals, Value.category]; done) | rfl
def QN (Z : State) (x0 : Addr) (h0 : Heap) (n0 : Nat) (v : Option Value) (h : Heap) (L : List Loc) : Prop := v = some (.int (0 : Int32)) ∧ Fr n0 L ∧ h = h0
set_option maxRecDepth 65536 in
set_option maxHeartbeats 40000000 in
theorem rmN (l : Launch) (Z : State) (a0 : Array Value) (hw : ∀ d ∈ tables_1, d.before a0 Z = true) (ws : List Jvm.Cond) (x0 : Addr) (h0 : Heap) (n0 : Nat) (Z0 : n0 ≤ h0.size) :
    MetFree l (⟨"com/example/kvota/kvota/PartitionReplica", "equals", "(Ljava/lang/Object;)Z"⟩ : MethodName) (head1 (Jvm.Cond.code (⟨"com/example/kvota/kvota/PartitionReplica", "equals", "(Ljava/lang/Object;)Z"⟩ : MethodName) prog_20_method_7_code 2 (some .boolean) :: ws) ({ frames := 0, cells := 0, slots := 0, locals := 0 } : Room)) (fun a U => a = #[(.ref x0), .null] ∧ Z.Warmed39 U.vm ∧ U.heap = h0) (fun _ _ _ _ _ => True) (fun _ U o U' => ∃ v L, o = .returned v ∧ QN Z x0 h0 n0 v U'.heap L ∧ FrameEnd U o U' L ({ frames := 0, cells := 0, slots := 0, locals := 0 } : Room).cells ({ frames := 0, cells := 0, slots := 0, locals := 0 } : Room).slots) := by
  refine MetFree.of_bodySF (plainFor_of_name pnN) hisR ?_
  intro p e s m args below meth c s₁ Bd hml0 hP hK
  obtain ⟨rfl, hZ, hh⟩ := hP
  have hx := Bd.exec
  have hby := Bd.bytes
  have hml : c.maxLocals = 2 := hml0
  have hown : s.vm.findClass "com/example/kvota/kvota/PartitionReplica" = some m.cls := findClass_of_methodNamed Bd.named
  have hnm := (name_of_methodNamed Bd.named Bd.method).1
  have X0 : Stand p l e ({ frames := 0, cells := 0, slots := 0, locals := 0 } : Room) s m #[(.ref x0), .null] below meth c s₁ [] 0 0 := Stand.of_body Bd
  have e0 : s₁.heap = h0 := by rw [← hh, Bd.state]; rfl
  have N0 := Fr.nil n0
  have pre0 : ∀ t, Steps p.tables e below (s₁.setTop (mkF m 0 #[.val (.ref x0), .val .null] [])) t → Steps p.tables e below (s₁.setTop (entryFrame m #[(.ref x0), .null] 2)) t := fun t k => castTop (efN m x0) k
  have p1 : ∀ t, Steps p.tables e below (s₁.setTop (mkF m 40 #[.val (.ref x0), .val .null] [(.int (0 : Int32))])) t → Steps p.tables e below (s₁.setTop (entryFrame m #[(.ref x0), .null] 2)) t := fun t k => pre0 t (by
    show Steps p.tables e below (s₁.setTop (mkF m 0 #[.val (.ref x0), .val .null] [])) _
    refine XS.aloadN X0.here hx rfl (hb hby dN_0) rfl rfl ?_
    show Steps p.tables e below (s₁.setTop (mkF m 1 #[.val (.ref x0), .val .null] [.null])) _
    refine X0.instanceofNull hx (g := (mkF m 1 #[.val (.ref x0), .val .null] [.null])) rfl rfl (hb hby dN_1) _ ?_
    show Steps p.tables e below (s₁.setTop (mkF m 4 #[.val (.ref x0), .val .null] [(.int (0 : Int32))])) _
    refine XS.ifYes X0.here hx rfl (pc0 := 4) (pc' := 39) rfl (hb hby dN_4) rfl ((if0 _ _).trans (teq (rfl)).1) (by decide) (by decide) ?_
    show Steps p.tables e below (s₁.setTop (mkF m 39 #[.val (.ref x0), .val .null] [])) _
    refine XS.iconst X0.here hx rfl (hb hby dN_39) ?_
    exact k)
  obtain ⟨fs, hr, hrun, hended, hW, hsame⟩ := X0.leave (v := some (.int (0 : Int32))) (fun h => by rw [Bd.returns] at h; cases h)
  refine ⟨_, _, p1 _ ?_, hrun, hended, _, _, rfl, ?_, ⟨_, rfl⟩, hW, hsame.mono (by decide) (by decide)⟩
  · show Steps p.tables e below (s₁.setTop (mkF m 40 #[.val (.ref x0), .val .null] [(.int (0 : Int32))])) _
    exact retN X0 hx (t := .boolean) Bd.returns (by simp) (hb hby dN_40) hr
  · show QN Z x0 h0 n0 _ s₁.heap _
    rw [e0]
    exact ⟨rfl, N0, rfl⟩
theorem dO_0 : decode prog_20_method_7_code 0 = .ok (.aload_n 1, 1) := by decide +kernel
theorem dO_1 : decode prog_20_method_7_code 1 = .ok (.instanceof 17, 3) := by decide +kernel
theorem dO_4 : decode prog_20_method_7_code 4 = .ok (.ifCond .eq 35, 3) := by decide +kernel
theorem dO_39 : decode prog_20_method_7_code 39 = .ok (.iconst 0, 1) := by decide +kernel
theorem dO_40 : decode prog_20_method_7_code 40 = .ok (.ireturn, 1) := by decide +kernel
theorem pnO : plainName "com/example/kvota/kvota/PartitionReplica" = true := by first | (simp [plainName, overriddenIn]; done) | decide +kernel
theorem efO (m : MethodId) (x0 : Addr) (x1 : Addr) : entryFrame m #[(.ref x0), (.ref x1)] 2 = mkF m 0 #[.val (.ref x0), .val (.ref x1)] [] := by first | (simp [entryFrame, mkF, argsToLocals, Value.category]; done) | rfl
def QO (Z : State) (x0 : Addr) (x1 : Addr) (h0 : Heap) (n0 : Nat) (v : Option Value) (h : Heap) (L : List Loc) : Prop := v = some (.int (0 : Int32)) ∧ Fr n0 L ∧ h = h0
set_option maxRecDepth 65536 in
set_option maxHeartbeats 40000000 in
theorem rmO (l : Launch) (Z : State) (a0 : Array Value) (hw : ∀ d ∈ tables_1, d.before a0 Z = true) (ws : List Jvm.Cond) (x0 : Addr) (x1 : Addr) (h0 : Heap) (n0 : Nat) (Z0 : n0 ≤ h0.size) (E1 : Exa Z h0 x1 "java/lang/Integer") (hno : ∃ c t, Z.vm.findClass "java/lang/Integer" = some c ∧ Z.vm.findClass "com/example/kvota/kvota/PartitionReplica" = some t ∧ Z.vm.assignable c t = false) :
    MetFree l (⟨"com/example/kvota/kvota/PartitionReplica", "equals", "(Ljava/lang/Object;)Z"⟩ : MethodName) (head1 (Jvm.Cond.code (⟨"com/example/kvota/kvota/PartitionReplica", "equals", "(Ljava/lang/Object;)Z"⟩ : MethodName) prog_20_method_7_code 2 (some .boolean) :: ws) ({ frames := 0, cells := 0, slots := 0, locals := 0 } : Room)) (fun a U => a = #[(.ref x0), (.ref x1)] ∧ Z.Warmed39 U.vm ∧ U.heap = h0) (fun _ _ _ _ _ => True) (fun _ U o U' => ∃ v L, o = .returned v ∧ QO Z x0 x1 h0 n0 v U'.heap L ∧ FrameEnd U o U' L ({ frames := 0, cells := 0, slots := 0, locals := 0 } : Room).cells ({ frames := 0, cells := 0, slots := 0, locals := 0 } : Room).slots) := by
  refine MetFree.of_bodySF (plainFor_of_name pnO) hisR ?_
  intro p e s m args below meth c s₁ Bd hml0 hP hK
  obtain ⟨rfl, hZ, hh⟩ := hP
  have hx := Bd.exec
  have hby := Bd.bytes
  have hml : c.maxLocals = 2 := hml0
  have hown : s.vm.findClass "com/example/kvota/kvota/PartitionReplica" = some m.cls := findClass_of_methodNamed Bd.named
  have hnm := (name_of_methodNamed Bd.named Bd.method).1
  have X0 : Stand p l e ({ frames := 0, cells := 0, slots := 0, locals := 0 } : Room) s m #[(.ref x0), (.ref x1)] below meth c s₁ [] 0 0 := Stand.of_body Bd
  have e0 : s₁.heap = h0 := by rw [← hh, Bd.state]; rfl
  have N0 := Fr.nil n0
  have pre0 : ∀ t, Steps p.tables e below (s₁.setTop (mkF m 0 #[.val (.ref x0), .val (.ref x1)] [])) t → Steps p.tables e below (s₁.setTop (entryFrame m #[(.ref x0), (.ref x1)] 2)) t := fun t k => castTop (efO m x0 x1) k
  have p1 : ∀ t, Steps p.tables e below (s₁.setTop (mkF m 1 #[.val (.ref x0), .val (.ref x1)] [(.ref x1)])) t → Steps p.tables e below (s₁.setTop (entryFrame m #[(.ref x0), (.ref x1)] 2)) t := fun t k => pre0 t (by
    show Steps p.tables e below (s₁.setTop (mkF m 0 #[.val (.ref x0), .val (.ref x1)] [])) _
    refine XS.aloadN X0.here hx rfl (hb hby dO_0) rfl rfl ?_
    exact k)
  obtain ⟨T2, X2, e2, st2⟩ := instNo X0 hx hZ hown (hw _ (List.mem_of_getElem? (i := 19) rfl)) e0 E1 (hno) (g := (mkF m 1 #[.val (.ref x0), .val (.ref x1)] [(.ref x1)])) rfl rfl (hb hby dO_1)
  have p3 : ∀ t, Steps p.tables e below (T2.setTop (mkF m 4 #[.val (.ref x0), .val (.ref x1)] [(.int (0 : Int32))])) t → Steps p.tables e below (s₁.setTop (entryFrame m #[(.ref x0), (.ref x1)] 2)) t := fun t k => p1 t (st2 t k)
  have p4 : ∀ t, Steps p.tables e below (T2.setTop (mkF m 40 #[.val (.ref x0), .val (.ref x1)] [(.int (0 : Int32))])) t → Steps p.tables e below (s₁.setTop (entryFrame m #[(.ref x0), (.ref x1)] 2)) t := fun t k => p3 t (by
    show Steps p.tables e below (T2.setTop (mkF m 4 #[.val (.ref x0), .val (.ref x1)] [(.int (0 : Int32))])) _
    refine XS.ifYes X2.here hx rfl (pc0 := 4) (pc' := 39) rfl (hb hby dO_4) rfl ((if0 _ _).trans (teq (rfl)).1) (by decide) (by decide) ?_
    show Steps p.tables e below (T2.setTop (mkF m 39 #[.val (.ref x0), .val (.ref x1)] [])) _
    refine XS.iconst X2.here hx rfl (hb hby dO_39) ?_
    exact k)
  obtain ⟨fs, hr, hrun, hended, hW, hsame⟩ := X2.leave (v := some (.int (0 : Int32))) (fun h => by rw [Bd.returns] at h; cases h)
  refine ⟨_, _, p4 _ ?_, hrun, hended, _, _, rfl, ?_, ⟨_, rfl⟩, hW, hsame.mono (by decide) (by decide)⟩
  · show Steps p.tables e below (T2.setTop (mkF m 40 #[.val (.ref x0), .val (.ref x1)] [(.int (0 : Int32))])) _
    exact retN X2 hx (t := .boolean) Bd.returns (by simp) (hb hby dO_40) hr
  · show QO Z x0 x1 h0 n0 _ T2.heap _
    rw [e2]
    exact ⟨rfl, N0, rfl⟩
theorem dNu_0 : decode jdk_18_method_1_code 0 = .ok (.aload_n 0, 1) := by decide +kernel
theorem dNu_1 : decode jdk_18_method_1_code 1 = .ok (.invokespecial 1, 3) := by decide +kernel
theorem dNu_4 : decode jdk_18_method_1_code 4 = .ok (.return_, 1) := by decide +kernel
theorem pnNu : plainName "java/lang/Number" = true := by first | (simp [plainName, overriddenIn]; done) | decide +kernel
theorem efNu (m : MethodId) (x0 : Addr) : entryFrame m #[(.ref x0)] 1 = mkF m 0 #[.val (.ref x0)] [] := by first | (simp [entryFrame, mkF, argsToLocals, Value.category]; done) | rfl
def QNu (Z : State) (x0 : Addr) (h0 : Heap) (n0 : Nat) (v : Option Value) (h : Heap) (L : List Loc) : Prop := v = none ∧ Fr n0 L ∧ h = h0
set_option maxRecDepth 65536 in
set_option maxHeartbeats 40000000 in
theorem rmNu (l : Launch) (Z : State) (a0 : Array Value) (hw : ∀ d ∈ tables_1, d.before a0 Z = true) (ws : List Jvm.Cond) (x0 : Addr) (h0 : Heap) (n0 : Nat) (Z0 : n0 ≤ h0.size) :
    MetFree l (⟨"java/lang/Number", "<init>", "()V"⟩ : MethodName) (head1 (Jvm.Cond.code (⟨"java/lang/Number", "<init>", "()V"⟩ : MethodName) jdk_18_method_1_code 1 none :: ws) ({ frames := 1, cells := 0, slots := 0, locals := 12 } : Room)) (fun a U => a = #[(.ref x0)] ∧ Z.Warmed39 U.vm ∧ U.heap = h0) (fun _ _ _ _ _ => True) (fun _ U o U' => ∃ v L, o = .returned v ∧ QNu Z x0 h0 n0 v U'.heap L ∧ FrameEnd U o U' L ({ frames := 1, cells := 0, slots := 0, locals := 12 } : Room).cells ({ frames := 1, cells := 0, slots := 0, locals := 12 } : Room).slots) := by
  refine MetFree.of_bodySF (plainFor_of_name pnNu) hisR ?_
  intro p e s m args below meth c s₁ Bd hml0 hP hK
  obtain ⟨rfl, hZ, hh⟩ := hP
  have hx := Bd.exec
  have hby := Bd.bytes
  have hml : c.maxLocals = 1 := hml0
  have hown : s.vm.findClass "java/lang/Number" = some m.cls := findClass_of_methodNamed Bd.named
  have hnm := (name_of_methodNamed Bd.named Bd.method).1
  have X0 : Stand p l e ({ frames := 1, cells := 0, slots := 0, locals := 12 } : Room) s m #[(.ref x0)] below meth c s₁ [] 0 0 := Stand.of_body Bd
  have e0 : s₁.heap = h0 := by rw [← hh, Bd.state]; rfl
  have N0 := Fr.nil n0
  have pre0 : ∀ t, Steps p.tables e below (s₁.setTop (mkF m 0 #[.val (.ref x0)] [])) t → Steps p.tables e below (s₁.setTop (entryFrame m #[(.ref x0)] 1)) t := fun t k => castTop (efNu m x0) k
  have p1 : ∀ t, Steps p.tables e below (s₁.setTop (mkF m 1 #[.val (.ref x0)] [(.ref x0)])) t → Steps p.tables e below (s₁.setTop (entryFrame m #[(.ref x0)] 1)) t := fun t k => pre0 t (by
    show Steps p.tables e below (s₁.setTop (mkF m 0 #[.val (.ref x0)] [])) _
    refine XS.aloadN X0.here hx rfl (hb hby dNu_0) rfl rfl ?_
    exact k)
  obtain ⟨T2, X2, e2, st2⟩ := initO X0 hx hZ hown (hw _ (List.mem_of_getElem? (i := 43) rfl)) (hw _ (List.mem_of_getElem? (i := 8) rfl)) (hw _ (List.mem_of_getElem? (i := 9) rfl)) e0 (g := (mkF m 1 #[.val (.ref x0)] [(.ref x0)])) rfl (by rw [hml]; rfl) rfl (hb hby dNu_1) (by decide) (W := 0) (by show 2 * 0 + _ ≤ _; exact Nat.le_of_eq rfl) (by decide)
  have p3 : ∀ t, Steps p.tables e below (T2.setTop (mkF m 4 #[.val (.ref x0)] [])) t → Steps p.tables e below (s₁.setTop (entryFrame m #[(.ref x0)] 1)) t := fun t k => p1 t (st2 t k)
  obtain ⟨fs, hr, hrun, hended, hW, hsame⟩ := X2.leave (v := none) (fun _ => rfl)
  refine ⟨_, _, p3 _ ?_, hrun, hended, _, _, rfl, ?_, ⟨_, rfl⟩, hW, hsame.mono (by decide) (by decide)⟩
  · show Steps p.tables e below (T2.setTop (mkF m 4 #[.val (.ref x0)] [])) _
    exact X2.returnOut hx Bd.returns (hb hby dNu_4) hr
  · show QNu Z x0 h0 n0 _ T2.heap _
    rw [e2]
    exact ⟨rfl, N0, rfl⟩
theorem dIi_0 : decode jdk_33_method_23_code 0 = .ok (.aload_n 0, 1) := by decide +kernel
theorem dIi_1 : decode jdk_33_method_23_code 1 = .ok (.invokespecial 202, 3) := by decide +kernel
theorem dIi_4 : decode jdk_33_method_23_code 4 = .ok (.aload_n 0, 1) := by decide +kernel
theorem dIi_5 : decode jdk_33_method_23_code 5 = .ok (.iload_n 1, 1) := by decide +kernel
theorem dIi_6 : decode jdk_33_method_23_code 6 = .ok (.putfield 205, 3) := by decide +kernel
theorem dIi_9 : decode jdk_33_method_23_code 9 = .ok (.return_, 1) := by decide +kernel
theorem pnIi : plainName "java/lang/Integer" = true := by first | (simp [plainName, overriddenIn]; done) | decide +kernel
theorem pdIi_0 : parseMethodDescriptor "()V" = some ⟨[], none⟩ := by decide +kernel
theorem efIi (m : MethodId) (x0 : Addr) (x1 : Int32) : entryFrame m #[(.ref x0), (.int x1)] 2 = mkF m 0 #[.val (.ref x0), .val (.int x1)] [] := by first | (simp [entryFrame, mkF, argsToLocals, Value.category]; done) | rfl
def QIi (Z : State) (x0 : Addr) (x1 : Int32) (h0 : Heap) (n0 : Nat) (v : Option Value) (h : Heap) (L : List Loc) : Prop := v = none ∧ Fr n0 L ∧ Keep h0 h [x0]
set_option maxRecDepth 65536 in
set_option maxHeartbeats 40000000 in
theorem rmIi (l : Launch) (Z : State) (a0 : Array Value) (hw : ∀ d ∈ tables_1, d.before a0 Z = true) (ws : List Jvm.Cond) (x0 : Addr) (x1 : Int32) (h0 : Heap) (n0 : Nat) (Z0 : n0 ≤ h0.size) (E0 : Exa Z h0 x0 "java/lang/Integer") (F1 : Fld Z h0 x0 "java/lang/Integer" "value" "I" (.int (0 : Int32))) (g0 : n0 ≤ x0) :
    MetFree l (⟨"java/lang/Integer", "<init>", "(I)V"⟩ : MethodName) (head1 (Jvm.Cond.code (⟨"java/lang/Integer", "<init>", "(I)V"⟩ : MethodName) jdk_33_method_23_code 2 none :: ws) ({ frames := 2, cells := 0, slots := 0, locals := 24 } : Room)) (fun a U => a = #[(.ref x0), (.int x1)] ∧ Z.Warmed39 U.vm ∧ U.heap = h0) (fun _ _ _ _ _ => True) (fun _ U o U' => ∃ v L, o = .returned v ∧ QIi Z x0 x1 h0 n0 v U'.heap L ∧ FrameEnd U o U' L ({ frames := 2, cells := 0, slots := 0, locals := 24 } : Room).cells ({ frames := 2, cells := 0, slots := 0, locals := 24 } : Room).slots) := by
  refine MetFree.of_bodySF (plainFor_of_name pnIi) hisR ?_
  intro p e s m args below meth c s₁ Bd hml0 hP hK
  obtain ⟨rfl, hZ, hh⟩ := hP
  have hx := Bd.exec
  have hby := Bd.bytes
  have hml : c.maxLocals = 2 := hml0
  have hown : s.vm.findClass "java/lang/Integer" = some m.cls := findClass_of_methodNamed Bd.named
  have hnm := (name_of_methodNamed Bd.named Bd.method).1
  have X0 : Stand p l e ({ frames := 2, cells := 0, slots := 0, locals := 24 } : Room) s m #[(.ref x0), (.int x1)] below meth c s₁ [] 0 0 := Stand.of_body Bd
  have e0 : s₁.heap = h0 := by rw [← hh, Bd.state]; rfl
  have N0 := Fr.nil n0
  have pre0 : ∀ t, Steps p.tables e below (s₁.setTop (mkF m 0 #[.val (.ref x0), .val (.int x1)] [])) t → Steps p.tables e below (s₁.setTop (entryFrame m #[(.ref x0), (.int x1)] 2)) t := fun t k => castTop (efIi m x0 x1) k
  have K0 := Keep.refl h0 [x0]
  have p1 : ∀ t, Steps p.tables e below (s₁.setTop (mkF m 1 #[.val (.ref x0), .val (.int x1)] [(.ref x0)])) t → Steps p.tables e below (s₁.setTop (entryFrame m #[(.ref x0), (.int x1)] 2)) t := fun t k => pre0 t (by
    show Steps p.tables e below (s₁.setTop (mkF m 0 #[.val (.ref x0), .val (.int x1)] [])) _
    refine XS.aloadN X0.here hx rfl (hb hby dIi_0) rfl rfl ?_
    exact k)
  obtain ⟨_, _, ⟨T2, L2, k2, n2⟩, -, X2, ⟨Lc2, hQ2, l2, y2, z2⟩, st2⟩ := X0.specialBack hx (y := (⟨"java/lang/Number", "<init>", "()V"⟩ : MethodName)) rfl hown (mvT hZ (hw _ (List.mem_of_getElem? (i := 37) rfl))) (mvT hZ (hw _ (List.mem_of_getElem? (i := 38) rfl))) (mvT hZ (hw _ (List.mem_of_getElem? (i := 42) rfl))) (by decide) (backOf (W := 0) (rmNu l Z a0 hw [] x0  h0 n0 Z0 ) hZ (hw _ (List.mem_of_getElem? (i := 42) rfl)) (hw _ (List.mem_of_getElem? (i := 41) rfl)) (by decide) (by decide)) (g := (mkF m 1 #[.val (.ref x0), .val (.int x1)] [(.ref x0)])) rfl (by rw [hml]; rfl) (Steps.refl _) (a := x0) (argsL := []) (rest := []) (lenOf pdIi_0 rfl) rfl (by show 2 * 0 + _ ≤ _; exact Nat.le_of_eq rfl) (hb hby dIi_1) (fun _ _ => ⟨rfl, e0, (by decide : 0 + 0 ≤ _), (by decide : 0 + 0 ≤ _)⟩)
  dsimp only [Pt.U, Pt.locs, Pt.cells, Pt.slots] at X2 l2 y2 z2 st2 hQ2
  subst l2 y2 z2
  obtain ⟨rfl, Nq2, e2⟩ := hQ2
  have N2 := Fr.app N0 Nq2
  have p3 : ∀ t, Steps p.tables e below (T2.setTop (mkF m 4 #[.val (.ref x0), .val (.int x1)] [])) t → Steps p.tables e below (s₁.setTop (entryFrame m #[(.ref x0), (.int x1)] 2)) t := fun t k => p1 t (st2.trans k)
  have p4 : ∀ t, Steps p.tables e below (T2.setTop (mkF m 6 #[.val (.ref x0), .val (.int x1)] [(.int x1), (.ref x0)])) t → Steps p.tables e below (s₁.setTop (entryFrame m #[(.ref x0), (.int x1)] 2)) t := fun t k => p3 t (by
    show Steps p.tables e below (T2.setTop (mkF m 4 #[.val (.ref x0), .val (.int x1)] [])) _
    refine XS.aloadN X2.here hx rfl (hb hby dIi_4) rfl rfl ?_
    show Steps p.tables e below (T2.setTop (mkF m 5 #[.val (.ref x0), .val (.int x1)] [(.ref x0)])) _
    refine XS.iloadN X2.here hx rfl (hb hby dIi_5) rfl ?_
    exact k)
  obtain ⟨T5, h5, X5, e5, W5, st5⟩ := putF X2 hx hZ hown (host := "") (Or.inl (hw _ (List.mem_of_getElem? (i := 44) rfl))) Via.refl e2 F1 E0 (Or.inr ⟨(hw _ (List.mem_of_getElem? (i := 45) rfl)), rfl, hnm⟩) (hw _ (List.mem_of_getElem? (i := 32) rfl)) (ty := .int) (by decide) rfl rfl (g := (mkF m 6 #[.val (.ref x0), .val (.int x1)] [(.int x1), (.ref x0)])) rfl rfl (hb hby dIi_6)
  have f6 := F1.same W5
  have f7 := E0.wr W5
  have Z5 := Nat.le_trans Z0 (Keep.of_wr W5).1
  have N5 := Fr.snoc X5 N2 g0
  have KK5 := K0.wr W5 (Or.inl (List.mem_singleton.mpr rfl))
  have p8 : ∀ t, Steps p.tables e below (T5.setTop (mkF m 9 #[.val (.ref x0), .val (.int x1)] [])) t → Steps p.tables e below (s₁.setTop (entryFrame m #[(.ref x0), (.int x1)] 2)) t := fun t k => p4 t (st5 t k)
  obtain ⟨fs, hr, hrun, hended, hW, hsame⟩ := X5.leave (v := none) (fun _ => rfl)
  refine ⟨_, _, p8 _ ?_, hrun, hended, _, _, rfl, ?_, ⟨_, rfl⟩, hW, hsame.mono (by decide) (by decide)⟩
  · show Steps p.tables e below (T5.setTop (mkF m 9 #[.val (.ref x0), .val (.int x1)] [])) _
    exact X5.returnOut hx Bd.returns (hb hby dIi_9) hr
  · show QIi Z x0 x1 h0 n0 _ T5.heap _
    rw [e5]
    exact ⟨rfl, N5, KK5⟩
theorem dV_0 : decode jdk_33_method_22_code 0 = .ok (.iload_n 0, 1) := by decide +kernel
theorem dV_1 : decode jdk_33_method_22_code 1 = .ok (.bipush (-128), 2) := by decide +kernel
theorem dV_3 : decode jdk_33_method_22_code 3 = .ok (.if_icmp .lt 20, 3) := by decide +kernel
theorem dV_6 : decode jdk_33_method_22_code 6 = .ok (.iload_n 0, 1) := by decide +kernel
theorem dV_7 : decode jdk_33_method_22_code 7 = .ok (.getstatic 191, 3) := by decide +kernel
theorem dV_10 : decode jdk_33_method_22_code 10 = .ok (.if_icmp .gt 13, 3) := by decide +kernel
theorem dV_13 : decode jdk_33_method_22_code 13 = .ok (.getstatic 195, 3) := by decide +kernel
theorem dV_16 : decode jdk_33_method_22_code 16 = .ok (.iload_n 0, 1) := by decide +kernel
theorem dV_17 : decode jdk_33_method_22_code 17 = .ok (.sipush 128, 3) := by decide +kernel
theorem dV_20 : decode jdk_33_method_22_code 20 = .ok (.iadd, 1) := by decide +kernel
theorem dV_21 : decode jdk_33_method_22_code 21 = .ok (.aaload, 1) := by decide +kernel
theorem dV_22 : decode jdk_33_method_22_code 22 = .ok (.areturn, 1) := by decide +kernel
theorem dV_23 : decode jdk_33_method_22_code 23 = .ok (.new 1, 3) := by decide +kernel
theorem dV_26 : decode jdk_33_method_22_code 26 = .ok (.dup, 1) := by decide +kernel
theorem dV_27 : decode jdk_33_method_22_code 27 = .ok (.iload_n 0, 1) := by decide +kernel
theorem dV_28 : decode jdk_33_method_22_code 28 = .ok (.invokespecial 199, 3) := by decide +kernel
theorem dV_31 : decode jdk_33_method_22_code 31 = .ok (.areturn, 1) := by decide +kernel
theorem pnV : plainName "java/lang/Integer" = true := by first | (simp [plainName, overriddenIn]; done) | decide +kernel
theorem pdV_0 : parseMethodDescriptor "(I)V" = some ⟨[.int], none⟩ := by decide +kernel
theorem efV (m : MethodId) (x0 : Int32) : entryFrame m #[(.int x0)] 1 = mkF m 0 #[.val (.int x0)] [] := by first | (simp [entryFrame, mkF, argsToLocals, Value.category]; done) | rfl
def QV (Z : State) (x0 : Int32) (a_C : Addr) (cc : Cell) (own_val : Int32 → Value) (h0 : Heap) (n0 : Nat) (v : Option Value) (h : Heap) (L : List Loc) : Prop := ∃ r : Addr, v = some (.ref r) ∧ Fr n0 L ∧ Keep h0 h [] ∧ Exa Z h r "java/lang/Integer"
set_option maxRecDepth 65536 in
set_option maxHeartbeats 40000000 in
theorem rmV (l : Launch) (Z : State) (a0 : Array Value) (hw : ∀ d ∈ tables_1, d.before a0 Z = true) (ws : List Jvm.Cond) (x0 : Int32) (a_C : Addr) (cc : Cell) (own_val : Int32 → Value) (h0 : Heap) (n0 : Nat) (Z0 : n0 ≤ h0.size) (hx0 : 0 ≤ x0.toInt) (O0 : Old Z n0 h0) (S_h : Sta Z Z.heap "java/lang/Integer$IntegerCache" "high" "I" (.int (127 : Int32))) (S_c : Sta Z Z.heap "java/lang/Integer$IntegerCache" "cache" "[Ljava/lang/Integer;" (.ref a_C)) (B0 : Bxs Z a_C cc "java/lang/Integer" "I" (256 : Int32) own_val) :
    MetFree l (⟨"java/lang/Integer", "valueOf", "(I)Ljava/lang/Integer;"⟩ : MethodName) (head1 (Jvm.Cond.code (⟨"java/lang/Integer", "valueOf", "(I)Ljava/lang/Integer;"⟩ : MethodName) jdk_33_method_22_code 1 (some (.object "java/lang/Integer")) :: ws) ({ frames := 3, cells := 1, slots := 1, locals := 38 } : Room)) (fun a U => a = #[(.int x0)] ∧ Z.Warmed39 U.vm ∧ U.heap = h0) (fun _ _ _ _ _ => True) (fun _ U o U' => ∃ v L, o = .returned v ∧ QV Z x0 a_C cc own_val h0 n0 v U'.heap L ∧ FrameEnd U o U' L ({ frames := 3, cells := 1, slots := 1, locals := 38 } : Room).cells ({ frames := 3, cells := 1, slots := 1, locals := 38 } : Room).slots) := by
  refine MetFree.of_bodySF (plainFor_of_name pnV) hisR ?_
  intro p e s m args below meth c s₁ Bd hml0 hP hK
  obtain ⟨rfl, hZ, hh⟩ := hP
  have hx := Bd.exec
  have hby := Bd.bytes
  have hml : c.maxLocals = 1 := hml0
  have hown : s.vm.findClass "java/lang/Integer" = some m.cls := findClass_of_methodNamed Bd.named
  have hnm := (name_of_methodNamed Bd.named Bd.method).1
  have X0 : Stand p l e ({ frames := 3, cells := 1, slots := 1, locals := 38 } : Room) s m #[(.int x0)] below meth c s₁ [] 0 0 := Stand.of_body Bd
  have e0 : s₁.heap = h0 := by rw [← hh, Bd.state]; rfl
  have N0 := Fr.nil n0
  have pre0 : ∀ t, Steps p.tables e below (s₁.setTop (mkF m 0 #[.val (.int x0)] [])) t → Steps p.tables e below (s₁.setTop (entryFrame m #[(.int x0)] 1)) t := fun t k => castTop (efV m x0) k
  have S1 := S_h.ext O0.2
  have S2 := S_c.ext O0.2
  have K0 := Keep.refl h0 []
  have p1 : ∀ t, Steps p.tables e below (s₁.setTop (mkF m 7 #[.val (.int x0)] [(.int x0)])) t → Steps p.tables e below (s₁.setTop (entryFrame m #[(.int x0)] 1)) t := fun t k => pre0 t (by
    show Steps p.tables e below (s₁.setTop (mkF m 0 #[.val (.int x0)] [])) _
    refine XS.iloadN X0.here hx rfl (hb hby dV_0) rfl ?_
    show Steps p.tables e below (s₁.setTop (mkF m 1 #[.val (.int x0)] [(.int x0)])) _
    refine XS.bipush X0.here hx rfl (hb hby dV_1) ?_
    show Steps p.tables e below (s₁.setTop (mkF m 3 #[.val (.int x0)] [(.int (-128 : Int32)), (.int x0)])) _
    refine XS.icmpNo X0.here hx rfl (hb hby dV_3) rfl ((flt (own_ge hx0)).1) ?_
    show Steps p.tables e below (s₁.setTop (mkF m 6 #[.val (.int x0)] [])) _
    refine XS.iloadN X0.here hx rfl (hb hby dV_6) rfl ?_
    exact k)
  obtain ⟨T2, X2, e2, st2⟩ := getS2 X0 hx hZ hown (host := "") (Or.inl (hw _ (List.mem_of_getElem? (i := 25) rfl))) Via.refl e0 S1 (g := (mkF m 7 #[.val (.int x0)] [(.int x0)])) rfl (hb hby dV_7)
  have p3 : ∀ t, Steps p.tables e below (T2.setTop (mkF m 10 #[.val (.int x0)] [(.int (127 : Int32)), (.int x0)])) t → Steps p.tables e below (s₁.setTop (entryFrame m #[(.int x0)] 1)) t := fun t k => p1 t (st2 t k)
  by_cases hc10 : (127 : Int32) < x0
  · have p4 : ∀ t, Steps p.tables e below (T2.setTop (mkF m 23 #[.val (.int x0)] [])) t → Steps p.tables e below (s₁.setTop (entryFrame m #[(.int x0)] 1)) t := fun t k => p3 t (by
      show Steps p.tables e below (T2.setTop (mkF m 10 #[.val (.int x0)] [(.int (127 : Int32)), (.int x0)])) _
      refine XS.icmpYes X2.here hx rfl (pc0 := 10) (pc' := 23) rfl (hb hby dV_10) rfl ((tlt (hc10)).2.2.1) (by decide) (by decide) ?_
      exact k)
    obtain ⟨T5, h5, X5, e5, E5, A5, D5, -, st5⟩ := newO X2 hx hZ hown (hw _ (List.mem_of_getElem? (i := 31) rfl)) (hw _ (List.mem_of_getElem? (i := 32) rfl)) (hw _ (List.mem_of_getElem? (i := 23) rfl)) e2 (g := (mkF m 23 #[.val (.int x0)] [])) rfl (hb hby dV_23) (by decide) (by decide)
    obtain ⟨b5, g5⟩ : ∃ z, z = h0.size := ⟨_, rfl⟩
    rw [← g5] at A5 D5 st5
    have gn_b5 : n0 ≤ b5 := Nat.le_trans Z0 (Nat.le_of_eq g5.symm)
    have gk_b5 : h0.size ≤ b5 := Nat.le_trans K0.1 (Nat.le_of_eq g5.symm)
    have f6 := S1.ext E5
    have f7 := S2.ext E5
    have Z5 := Nat.le_trans Z0 E5.1
    have KK5 := K0.ext E5
    have f8 : Fld Z h5 b5 "java/lang/Integer" "value" "I" (.int (0 : Int32)) := D5 (Or.inr (hw _ (List.mem_of_getElem? (i := 45) rfl))) (ty := .int) (by decide)
    have p9 : ∀ t, Steps p.tables e below (T5.setTop (mkF m 26 #[.val (.int x0)] [(.ref b5)])) t → Steps p.tables e below (s₁.setTop (entryFrame m #[(.int x0)] 1)) t := fun t k => p4 t (st5 t k)
    have p10 : ∀ t, Steps p.tables e below (T5.setTop (mkF m 28 #[.val (.int x0)] [(.int x0), (.ref b5), (.ref b5)])) t → Steps p.tables e below (s₁.setTop (entryFrame m #[(.int x0)] 1)) t := fun t k => p9 t (by
      show Steps p.tables e below (T5.setTop (mkF m 26 #[.val (.int x0)] [(.ref b5)])) _
      refine XS.dup X5.here hx rfl (hb hby dV_26) rfl rfl ?_
      show Steps p.tables e below (T5.setTop (mkF m 27 #[.val (.int x0)] [(.ref b5), (.ref b5)])) _
      refine XS.iloadN X5.here hx rfl (hb hby dV_27) rfl ?_
      exact k)
    obtain ⟨_, _, ⟨T11, L11, k11, n11⟩, -, X11, ⟨Lc11, hQ11, l11, y11, z11⟩, st11⟩ := X5.specialBack hx (y := (⟨"java/lang/Integer", "<init>", "(I)V"⟩ : MethodName)) rfl hown (mvT hZ (hw _ (List.mem_of_getElem? (i := 33) rfl))) (mvT hZ (hw _ (List.mem_of_getElem? (i := 34) rfl))) (mvT hZ (hw _ (List.mem_of_getElem? (i := 36) rfl))) (by decide) (backOf (W := 1) (rmIi l Z a0 hw [] b5 x0  h5 n0 Z5 A5 f8 gn_b5) hZ (hw _ (List.mem_of_getElem? (i := 36) rfl)) (hw _ (List.mem_of_getElem? (i := 23) rfl)) (by decide) (by decide)) (g := (mkF m 28 #[.val (.int x0)] [(.int x0), (.ref b5), (.ref b5)])) rfl (by rw [hml]; rfl) (Steps.refl _) (a := b5) (argsL := [(.int x0)]) (rest := [(.ref b5)]) (lenOf pdV_0 rfl) rfl (by show 2 * 0 + _ ≤ _; exact Nat.le_of_eq rfl) (hb hby dV_28) (fun _ _ => ⟨rfl, e5, (by decide : 1 + 0 ≤ _), (by decide : 1 + 0 ≤ _)⟩)
    dsimp only [Pt.U, Pt.locs, Pt.cells, Pt.slots] at X11 l11 y11 z11 st11 hQ11
    subst l11 y11 z11
    obtain ⟨rfl, Nq11, K11⟩ := hQ11
    have N11 := Fr.app N0 Nq11
    have f12 := A5.keep K11
    have Z11 := Nat.le_trans Z5 K11.1
    have KK11 := KK5.trans K11 (allS (Or.inr gk_b5) all0)
    have p13 : ∀ t, Steps p.tables e below (T11.setTop (mkF m 31 #[.val (.int x0)] [(.ref b5)])) t → Steps p.tables e below (s₁.setTop (entryFrame m #[(.int x0)] 1)) t := fun t k => p10 t (st11.trans k)
    obtain ⟨fs, hr, hrun, hended, hW, hsame⟩ := X11.leave (v := some (.ref b5)) (fun h => by rw [Bd.returns] at h; cases h)
    refine ⟨_, _, p13 _ ?_, hrun, hended, _, _, rfl, ?_, ⟨_, rfl⟩, hW, hsame.mono (by decide) (by decide)⟩
    · show Steps p.tables e below (T11.setTop (mkF m 31 #[.val (.int x0)] [(.ref b5)])) _
      exact retOut X11 hx Bd.returns rfl (Or.inr (Or.inr (Or.inr (Or.inr ⟨rfl, rfl, rfl⟩)))) (hb hby dV_31) hr
    · show QV Z x0 a_C cc own_val h0 n0 _ T11.heap _
      skip
      exact ⟨_, rfl, N11, KK11, f12⟩
  · have p14 : ∀ t, Steps p.tables e below (T2.setTop (mkF m 13 #[.val (.int x0)] [])) t → Steps p.tables e below (s₁.setTop (entryFrame m #[(.int x0)] 1)) t := fun t k => p3 t (by
      show Steps p.tables e below (T2.setTop (mkF m 10 #[.val (.int x0)] [(.int (127 : Int32)), (.int x0)])) _
      refine XS.icmpNo X2.here hx rfl (hb hby dV_10) rfl ((flt (hc10)).2.2.1) ?_
      exact k)
    obtain ⟨T15, X15, e15, st15⟩ := getS2 X2 hx hZ hown (host := "") (Or.inl (hw _ (List.mem_of_getElem? (i := 27) rfl))) Via.refl e2 S2 (g := (mkF m 13 #[.val (.int x0)] [])) rfl (hb hby dV_13)
    have p16 : ∀ t, Steps p.tables e below (T15.setTop (mkF m 16 #[.val (.int x0)] [(.ref a_C)])) t → Steps p.tables e below (s₁.setTop (entryFrame m #[(.int x0)] 1)) t := fun t k => p14 t (st15 t k)
    have p17 : ∀ t, Steps p.tables e below (T15.setTop (mkF m 21 #[.val (.int x0)] [(.int (x0 + (128 : Int32))), (.ref a_C)])) t → Steps p.tables e below (s₁.setTop (entryFrame m #[(.int x0)] 1)) t := fun t k => p16 t (by
      show Steps p.tables e below (T15.setTop (mkF m 16 #[.val (.int x0)] [(.ref a_C)])) _
      refine XS.iloadN X15.here hx rfl (hb hby dV_16) rfl ?_
      show Steps p.tables e below (T15.setTop (mkF m 17 #[.val (.int x0)] [(.int x0), (.ref a_C)])) _
      refine XS.sipush X15.here hx rfl (hb hby dV_17) ?_
      show Steps p.tables e below (T15.setTop (mkF m 20 #[.val (.int x0)] [(.int (128 : Int32)), (.int x0), (.ref a_C)])) _
      refine XS.iadd X15.here hx rfl (hb hby dV_20) rfl ?_
      exact k)
    obtain ⟨Ar, Sz, Ng⟩ := B0.ext O0.2
    have hin := own_in hx0 hc10 Sz
    obtain ⟨bb, hat, EB, -⟩ := B0.2.2.2 _ hin
    have p18 : ∀ t, Steps p.tables e below (T15.setTop (mkF m 22 #[.val (.int x0)] [(.ref bb)])) t → Steps p.tables e below (s₁.setTop (entryFrame m #[(.int x0)] 1)) t := fun t k => p17 t (by
      show Steps p.tables e below (T15.setTop (mkF m 21 #[.val (.int x0)] [(.int (x0 + (128 : Int32))), (.ref a_C)])) _
      refine X15.aaload hx (j := (x0 + (128 : Int32))) (v := (.ref bb)) (by rw [e15]; exact Ar.1) (State.isArrayOf_alike hZ.alike Ar.2.1) rfl Ar.2.2 hin hat (g := (mkF m 21 #[.val (.int x0)] [(.int (x0 + (128 : Int32))), (.ref a_C)])) rfl rfl (hb hby dV_21) _ ?_
      exact k)
    obtain ⟨fs, hr, hrun, hended, hW, hsame⟩ := X15.leave (v := some (.ref bb)) (fun h => by rw [Bd.returns] at h; cases h)
    refine ⟨_, _, p18 _ ?_, hrun, hended, _, _, rfl, ?_, ⟨_, rfl⟩, hW, hsame.mono (by decide) (by decide)⟩
    · show Steps p.tables e below (T15.setTop (mkF m 22 #[.val (.int x0)] [(.ref bb)])) _
      exact retOut X15 hx Bd.returns rfl (Or.inr (Or.inr (Or.inr (Or.inr ⟨rfl, rfl, rfl⟩)))) (hb hby dV_22) hr
    · show QV Z x0 a_C cc own_val h0 n0 _ T15.heap _
      rw [e15]
      exact ⟨_, rfl, N0, K0, EB.ext O0.2⟩
theorem pn0 : plainName "com/example/kvota/kvota/PartitionReplicaEqualsPinLaw" = true := by first | (simp [plainName, overriddenIn]; done) | decide +kernel
theorem pd0_0 : parseMethodDescriptor "(II)V" = some ⟨[.int, .int], none⟩ := by decide +kernel
theorem pd0_1 : parseMethodDescriptor "(Ljava/lang/Object;)Z" = some ⟨[(.object "java/lang/Object")], some .boolean⟩ := by decide +kernel
theorem pd0_2 : parseMethodDescriptor "(I)Ljava/lang/Integer;" = some ⟨[.int], some (.object "java/lang/Integer")⟩ := by decide +kernel
theorem ef0 (m : MethodId) (x0 : Int32) (x1 : Int32) (x2 : Int32) (x3 : Int32) (x4 : Int32) : entryFrame m #[(.int x0), (.int x1), (.int x2), (.int x3), (.int x4)] maxLocals = mkF m 0 #[.val (.int x0), .val (.int x1), .val (.int x2), .val (.int x3), .val (.int x4), .unset, .unset, .unset, .unset, .unset, .unset, .unset, .unset, .unset, .unset, .unset, .unset, .unset] [] := by first | (simp [entryFrame, mkF, argsToLocals, Value.category, maxLocals]; done) | rfl
def Q0 (Z : State) (x0 : Int32) (x1 : Int32) (x2 : Int32) (x3 : Int32) (x4 : Int32) (a_C : Addr) (cc : Cell) (own_val : Int32 → Value) (h0 : Heap) (n0 : Nat) (v : Option Value) (h : Heap) (L : List Loc) : Prop := v = some (.int (1 : Int32)) ∧ Fr n0 L
set_option maxRecDepth 65536 in
set_option maxHeartbeats 40000000 in
theorem rm0 (l : Launch) (Z : State) (a0 : Array Value) (hw : ∀ d ∈ tables_1, d.before a0 Z = true) (ws : List Jvm.Cond) (x0 : Int32) (x1 : Int32) (x2 : Int32) (x3 : Int32) (x4 : Int32) (a_C : Addr) (cc : Cell) (own_val : Int32 → Value) (h0 : Heap) (n0 : Nat) (Z0 : n0 ≤ h0.size) (O0 : Old Z n0 h0) (S_h : Sta Z Z.heap "java/lang/Integer$IntegerCache" "high" "I" (.int (127 : Int32))) (S_c : Sta Z Z.heap "java/lang/Integer$IntegerCache" "cache" "[Ljava/lang/Integer;" (.ref a_C)) (B0 : Bxs Z a_C cc "java/lang/Integer" "I" (256 : Int32) own_val) :
    MetFree l x (head1 (Jvm.Cond.code x code maxLocals ret :: ws) room_1) (fun a U => a = #[(.int x0), (.int x1), (.int x2), (.int x3), (.int x4)] ∧ Z.Warmed39 U.vm ∧ U.heap = h0) (fun _ _ _ _ _ => True) (fun _ U o U' => ∃ v L, o = .returned v ∧ Q0 Z x0 x1 x2 x3 x4 a_C cc own_val h0 n0 v U'.heap L ∧ FrameEnd U o U' L room_1.cells room_1.slots) := by
  refine MetFree.of_bodySF (plainFor_of_name pn0) hisR ?_
  intro p e s m args below meth c s₁ Bd hml0 hP hK
  obtain ⟨rfl, hZ, hh⟩ := hP
  have hx := Bd.exec
  have hby := Bd.bytes
  have hml : c.maxLocals = 18 := hml0
  have hown : s.vm.findClass "com/example/kvota/kvota/PartitionReplicaEqualsPinLaw" = some m.cls := findClass_of_methodNamed Bd.named
  have hnm := (name_of_methodNamed Bd.named Bd.method).1
  have X0 : Stand p l e room_1 s m #[(.int x0), (.int x1), (.int x2), (.int x3), (.int x4)] below meth c s₁ [] 0 0 := Stand.of_body Bd
  have e0 : s₁.heap = h0 := by rw [← hh, Bd.state]; rfl
  have N0 := Fr.nil n0
  have pre0 : ∀ t, Steps p.tables e below (s₁.setTop (mkF m 0 #[.val (.int x0), .val (.int x1), .val (.int x2), .val (.int x3), .val (.int x4), .unset, .unset, .unset, .unset, .unset, .unset, .unset, .unset, .unset, .unset, .unset, .unset, .unset] [])) t → Steps p.tables e below (s₁.setTop (entryFrame m #[(.int x0), (.int x1), (.int x2), (.int x3), (.int x4)] maxLocals)) t := fun t k => castTop (ef0 m x0 x1 x2 x3 x4) k
  have hno := own_noins (hw _ (List.mem_of_getElem? (i := 28) rfl)) (hw _ (List.mem_of_getElem? (i := 2) rfl)) (NS.step (hw _ (List.mem_of_getElem? (i := 28) rfl)) (NS.step (hw _ (List.mem_of_getElem? (i := 29) rfl)) (own_root (hw _ (List.mem_of_getElem? (i := 30) rfl)) (hw _ (List.mem_of_getElem? (i := 2) rfl)) (by decide)) (by decide)) (by decide)) (by decide)
  have p1 : ∀ t, Steps p.tables e below (s₁.setTop (mkF m 10 #[.val (.int x0), .val (.int x1), .val (.int x2), .val (.int x3), .val (.int x4), .val (.int (2147483647 : Int32)), .val (.int (x0 &&& (2147483647 : Int32))), .unset, .unset, .unset, .unset, .unset, .unset, .unset, .unset, .unset, .unset, .unset] [])) t → Steps p.tables e below (s₁.setTop (entryFrame m #[(.int x0), (.int x1), (.int x2), (.int x3), (.int x4)] maxLocals)) t := fun t k => pre0 t (by
    show Steps p.tables e below (s₁.setTop (mkF m 0 #[.val (.int x0), .val (.int x1), .val (.int x2), .val (.int x3), .val (.int x4), .unset, .unset, .unset, .unset, .unset, .unset, .unset, .unset, .unset, .unset, .unset, .unset, .unset] [])) _
    refine X0.ldcInt hx hown (mvT hZ (hw _ (List.mem_of_getElem? (i := 0) rfl))) (g := (mkF m 0 #[.val (.int x0), .val (.int x1), .val (.int x2), .val (.int x3), .val (.int x4), .unset, .unset, .unset, .unset, .unset, .unset, .unset, .unset, .unset, .unset, .unset, .unset, .unset] [])) rfl (hb hby at_0) _ ?_
    show Steps p.tables e below (s₁.setTop (mkF m 2 #[.val (.int x0), .val (.int x1), .val (.int x2), .val (.int x3), .val (.int x4), .unset, .unset, .unset, .unset, .unset, .unset, .unset, .unset, .unset, .unset, .unset, .unset, .unset] [(.int (2147483647 : Int32))])) _
    refine XS.istore X0.here hx rfl (hb hby at_2) rfl (l' := #[.val (.int x0), .val (.int x1), .val (.int x2), .val (.int x3), .val (.int x4), .val (.int (2147483647 : Int32)), .unset, .unset, .unset, .unset, .unset, .unset, .unset, .unset, .unset, .unset, .unset, .unset]) rfl ?_
    show Steps p.tables e below (s₁.setTop (mkF m 4 #[.val (.int x0), .val (.int x1), .val (.int x2), .val (.int x3), .val (.int x4), .val (.int (2147483647 : Int32)), .unset, .unset, .unset, .unset, .unset, .unset, .unset, .unset, .unset, .unset, .unset, .unset] [])) _
    refine XS.iloadN X0.here hx rfl (hb hby at_4) rfl ?_
    show Steps p.tables e below (s₁.setTop (mkF m 5 #[.val (.int x0), .val (.int x1), .val (.int x2), .val (.int x3), .val (.int x4), .val (.int (2147483647 : Int32)), .unset, .unset, .unset, .unset, .unset, .unset, .unset, .unset, .unset, .unset, .unset, .unset] [(.int x0)])) _
    refine XS.iload X0.here hx rfl (hb hby at_5) rfl ?_
    show Steps p.tables e below (s₁.setTop (mkF m 7 #[.val (.int x0), .val (.int x1), .val (.int x2), .val (.int x3), .val (.int x4), .val (.int (2147483647 : Int32)), .unset, .unset, .unset, .unset, .unset, .unset, .unset, .unset, .unset, .unset, .unset, .unset] [(.int (2147483647 : Int32)), (.int x0)])) _
    refine XS.iand X0.here hx rfl (hb hby at_7) rfl ?_
    show Steps p.tables e below (s₁.setTop (mkF m 8 #[.val (.int x0), .val (.int x1), .val (.int x2), .val (.int x3), .val (.int x4), .val (.int (2147483647 : Int32)), .unset, .unset, .unset, .unset, .unset, .unset, .unset, .unset, .unset, .unset, .unset, .unset] [(.int (x0 &&& (2147483647 : Int32)))])) _
    refine XS.istore X0.here hx rfl (hb hby at_8) rfl (l' := #[.val (.int x0), .val (.int x1), .val (.int x2), .val (.int x3), .val (.int x4), .val (.int (2147483647 : Int32)), .val (.int (x0 &&& (2147483647 : Int32))), .unset, .unset, .unset, .unset, .unset, .unset, .unset, .unset, .unset, .unset, .unset]) rfl ?_
    exact k)
  obtain ⟨vp1, hvp1⟩ : ∃ z : Int32, z = (x0 &&& (2147483647 : Int32)) := ⟨_, rfl⟩
  have p2 : ∀ t, Steps p.tables e below (s₁.setTop (mkF m 10 #[.val (.int x0), .val (.int x1), .val (.int x2), .val (.int x3), .val (.int x4), .val (.int (2147483647 : Int32)), .val (.int vp1), .unset, .unset, .unset, .unset, .unset, .unset, .unset, .unset, .unset, .unset, .unset] [])) t → Steps p.tables e below (s₁.setTop (entryFrame m #[(.int x0), (.int x1), (.int x2), (.int x3), (.int x4)] maxLocals)) t := by
    intro t k; subst hvp1; exact p1 t k
  have h0vp1 : 0 ≤ vp1.toInt := by rw [hvp1]; exact own_mask _
  have p3 : ∀ t, Steps p.tables e below (s₁.setTop (mkF m 16 #[.val (.int x0), .val (.int x1), .val (.int x2), .val (.int x3), .val (.int x4), .val (.int (2147483647 : Int32)), .val (.int vp1), .val (.int (x1 &&& (2147483647 : Int32))), .unset, .unset, .unset, .unset, .unset, .unset, .unset, .unset, .unset, .unset] [])) t → Steps p.tables e below (s₁.setTop (entryFrame m #[(.int x0), (.int x1), (.int x2), (.int x3), (.int x4)] maxLocals)) t := fun t k => p2 t (by
    show Steps p.tables e below (s₁.setTop (mkF m 10 #[.val (.int x0), .val (.int x1), .val (.int x2), .val (.int x3), .val (.int x4), .val (.int (2147483647 : Int32)), .val (.int vp1), .unset, .unset, .unset, .unset, .unset, .unset, .unset, .unset, .unset, .unset, .unset] [])) _
    refine XS.iloadN X0.here hx rfl (hb hby at_10) rfl ?_
    show Steps p.tables e below (s₁.setTop (mkF m 11 #[.val (.int x0), .val (.int x1), .val (.int x2), .val (.int x3), .val (.int x4), .val (.int (2147483647 : Int32)), .val (.int vp1), .unset, .unset, .unset, .unset, .unset, .unset, .unset, .unset, .unset, .unset, .unset] [(.int x1)])) _
    refine XS.iload X0.here hx rfl (hb hby at_11) rfl ?_
    show Steps p.tables e below (s₁.setTop (mkF m 13 #[.val (.int x0), .val (.int x1), .val (.int x2), .val (.int x3), .val (.int x4), .val (.int (2147483647 : Int32)), .val (.int vp1), .unset, .unset, .unset, .unset, .unset, .unset, .unset, .unset, .unset, .unset, .unset] [(.int (2147483647 : Int32)), (.int x1)])) _
    refine XS.iand X0.here hx rfl (hb hby at_13) rfl ?_
    show Steps p.tables e below (s₁.setTop (mkF m 14 #[.val (.int x0), .val (.int x1), .val (.int x2), .val (.int x3), .val (.int x4), .val (.int (2147483647 : Int32)), .val (.int vp1), .unset, .unset, .unset, .unset, .unset, .unset, .unset, .unset, .unset, .unset, .unset] [(.int (x1 &&& (2147483647 : Int32)))])) _
    refine XS.istore X0.here hx rfl (hb hby at_14) rfl (l' := #[.val (.int x0), .val (.int x1), .val (.int x2), .val (.int x3), .val (.int x4), .val (.int (2147483647 : Int32)), .val (.int vp1), .val (.int (x1 &&& (2147483647 : Int32))), .unset, .unset, .unset, .unset, .unset, .unset, .unset, .unset, .unset, .unset]) rfl ?_
    exact k)
  obtain ⟨vr1, hvr1⟩ : ∃ z : Int32, z = (x1 &&& (2147483647 : Int32)) := ⟨_, rfl⟩
  have p4 : ∀ t, Steps p.tables e below (s₁.setTop (mkF m 16 #[.val (.int x0), .val (.int x1), .val (.int x2), .val (.int x3), .val (.int x4), .val (.int (2147483647 : Int32)), .val (.int vp1), .val (.int vr1), .unset, .unset, .unset, .unset, .unset, .unset, .unset, .unset, .unset, .unset] [])) t → Steps p.tables e below (s₁.setTop (entryFrame m #[(.int x0), (.int x1), (.int x2), (.int x3), (.int x4)] maxLocals)) t := by
    intro t k; subst hvr1; exact p3 t k
  have h0vr1 : 0 ≤ vr1.toInt := by rw [hvr1]; exact own_mask _
  obtain ⟨vp2, hvp2, p5⟩ : ∃ (vp2 : Int32), (0 ≤ vp2.toInt) ∧ ∀ t, Steps p.tables e below (s₁.setTop (mkF m 32 #[.val (.int x0), .val (.int x1), .val (.int x2), .val (.int x3), .val (.int x4), .val (.int (2147483647 : Int32)), .val (.int vp1), .val (.int vr1), .unset, .unset, .unset, .unset, .unset, .unset, .unset, .unset, .unset, .unset] [(.int vp2)])) t → Steps p.tables e below (s₁.setTop (entryFrame m #[(.int x0), (.int x1), (.int x2), (.int x3), (.int x4)] maxLocals)) t := by
    have p6 : ∀ t, Steps p.tables e below (s₁.setTop (mkF m 20 #[.val (.int x0), .val (.int x1), .val (.int x2), .val (.int x3), .val (.int x4), .val (.int (2147483647 : Int32)), .val (.int vp1), .val (.int vr1), .unset, .unset, .unset, .unset, .unset, .unset, .unset, .unset, .unset, .unset] [(.int (x4 &&& (1 : Int32)))])) t → Steps p.tables e below (s₁.setTop (entryFrame m #[(.int x0), (.int x1), (.int x2), (.int x3), (.int x4)] maxLocals)) t := fun t k => p4 t (by
      show Steps p.tables e below (s₁.setTop (mkF m 16 #[.val (.int x0), .val (.int x1), .val (.int x2), .val (.int x3), .val (.int x4), .val (.int (2147483647 : Int32)), .val (.int vp1), .val (.int vr1), .unset, .unset, .unset, .unset, .unset, .unset, .unset, .unset, .unset, .unset] [])) _
      refine XS.iload X0.here hx rfl (hb hby at_16) rfl ?_
      show Steps p.tables e below (s₁.setTop (mkF m 18 #[.val (.int x0), .val (.int x1), .val (.int x2), .val (.int x3), .val (.int x4), .val (.int (2147483647 : Int32)), .val (.int vp1), .val (.int vr1), .unset, .unset, .unset, .unset, .unset, .unset, .unset, .unset, .unset, .unset] [(.int x4)])) _
      refine XS.iconst X0.here hx rfl (hb hby at_18) ?_
      show Steps p.tables e below (s₁.setTop (mkF m 19 #[.val (.int x0), .val (.int x1), .val (.int x2), .val (.int x3), .val (.int x4), .val (.int (2147483647 : Int32)), .val (.int vp1), .val (.int vr1), .unset, .unset, .unset, .unset, .unset, .unset, .unset, .unset, .unset, .unset] [(.int (1 : Int32)), (.int x4)])) _
      refine XS.iand X0.here hx rfl (hb hby at_19) rfl ?_
      exact k)
    by_cases hc20 : (x4 &&& (1 : Int32)) = (0 : Int32)
    · have p7 : ∀ t, Steps p.tables e below (s₁.setTop (mkF m 32 #[.val (.int x0), .val (.int x1), .val (.int x2), .val (.int x3), .val (.int x4), .val (.int (2147483647 : Int32)), .val (.int vp1), .val (.int vr1), .unset, .unset, .unset, .unset, .unset, .unset, .unset, .unset, .unset, .unset] [(.int (x2 &&& (2147483647 : Int32)))])) t → Steps p.tables e below (s₁.setTop (entryFrame m #[(.int x0), (.int x1), (.int x2), (.int x3), (.int x4)] maxLocals)) t := fun t k => p6 t (by
        show Steps p.tables e below (s₁.setTop (mkF m 20 #[.val (.int x0), .val (.int x1), .val (.int x2), .val (.int x3), .val (.int x4), .val (.int (2147483647 : Int32)), .val (.int vp1), .val (.int vr1), .unset, .unset, .unset, .unset, .unset, .unset, .unset, .unset, .unset, .unset] [(.int (x4 &&& (1 : Int32)))])) _
        refine XS.ifYes X0.here hx rfl (pc0 := 20) (pc' := 28) rfl (hb hby at_20) rfl ((if0 _ _).trans (teq (hc20)).1) (by decide) (by decide) ?_
        show Steps p.tables e below (s₁.setTop (mkF m 28 #[.val (.int x0), .val (.int x1), .val (.int x2), .val (.int x3), .val (.int x4), .val (.int (2147483647 : Int32)), .val (.int vp1), .val (.int vr1), .unset, .unset, .unset, .unset, .unset, .unset, .unset, .unset, .unset, .unset] [])) _
        refine XS.iloadN X0.here hx rfl (hb hby at_28) rfl ?_
        show Steps p.tables e below (s₁.setTop (mkF m 29 #[.val (.int x0), .val (.int x1), .val (.int x2), .val (.int x3), .val (.int x4), .val (.int (2147483647 : Int32)), .val (.int vp1), .val (.int vr1), .unset, .unset, .unset, .unset, .unset, .unset, .unset, .unset, .unset, .unset] [(.int x2)])) _
        refine XS.iload X0.here hx rfl (hb hby at_29) rfl ?_
        show Steps p.tables e below (s₁.setTop (mkF m 31 #[.val (.int x0), .val (.int x1), .val (.int x2), .val (.int x3), .val (.int x4), .val (.int (2147483647 : Int32)), .val (.int vp1), .val (.int vr1), .unset, .unset, .unset, .unset, .unset, .unset, .unset, .unset, .unset, .unset] [(.int (2147483647 : Int32)), (.int x2)])) _
        refine XS.iand X0.here hx rfl (hb hby at_31) rfl ?_
        exact k)
      exact ⟨(x2 &&& (2147483647 : Int32)), own_mask _, p7⟩
    · have p8 : ∀ t, Steps p.tables e below (s₁.setTop (mkF m 32 #[.val (.int x0), .val (.int x1), .val (.int x2), .val (.int x3), .val (.int x4), .val (.int (2147483647 : Int32)), .val (.int vp1), .val (.int vr1), .unset, .unset, .unset, .unset, .unset, .unset, .unset, .unset, .unset, .unset] [(.int vp1)])) t → Steps p.tables e below (s₁.setTop (entryFrame m #[(.int x0), (.int x1), (.int x2), (.int x3), (.int x4)] maxLocals)) t := fun t k => p6 t (by
        show Steps p.tables e below (s₁.setTop (mkF m 20 #[.val (.int x0), .val (.int x1), .val (.int x2), .val (.int x3), .val (.int x4), .val (.int (2147483647 : Int32)), .val (.int vp1), .val (.int vr1), .unset, .unset, .unset, .unset, .unset, .unset, .unset, .unset, .unset, .unset] [(.int (x4 &&& (1 : Int32)))])) _
        refine XS.ifNo X0.here hx rfl (hb hby at_20) rfl ((if0 _ _).trans (feq (hc20)).1) ?_
        show Steps p.tables e below (s₁.setTop (mkF m 23 #[.val (.int x0), .val (.int x1), .val (.int x2), .val (.int x3), .val (.int x4), .val (.int (2147483647 : Int32)), .val (.int vp1), .val (.int vr1), .unset, .unset, .unset, .unset, .unset, .unset, .unset, .unset, .unset, .unset] [])) _
        refine XS.iload X0.here hx rfl (hb hby at_23) rfl ?_
        show Steps p.tables e below (s₁.setTop (mkF m 25 #[.val (.int x0), .val (.int x1), .val (.int x2), .val (.int x3), .val (.int x4), .val (.int (2147483647 : Int32)), .val (.int vp1), .val (.int vr1), .unset, .unset, .unset, .unset, .unset, .unset, .unset, .unset, .unset, .unset] [(.int vp1)])) _
        refine XS.goto X0.here hx rfl (pc0 := 25) (pc' := 32) rfl (hb hby at_25) (by decide) (by decide) ?_
        exact k)
      exact ⟨vp1, h0vp1, p8⟩
  have p9 : ∀ t, Steps p.tables e below (s₁.setTop (mkF m 34 #[.val (.int x0), .val (.int x1), .val (.int x2), .val (.int x3), .val (.int x4), .val (.int (2147483647 : Int32)), .val (.int vp1), .val (.int vr1), .val (.int vp2), .unset, .unset, .unset, .unset, .unset, .unset, .unset, .unset, .unset] [])) t → Steps p.tables e below (s₁.setTop (entryFrame m #[(.int x0), (.int x1), (.int x2), (.int x3), (.int x4)] maxLocals)) t := fun t k => p5 t (by
    show Steps p.tables e below (s₁.setTop (mkF m 32 #[.val (.int x0), .val (.int x1), .val (.int x2), .val (.int x3), .val (.int x4), .val (.int (2147483647 : Int32)), .val (.int vp1), .val (.int vr1), .unset, .unset, .unset, .unset, .unset, .unset, .unset, .unset, .unset, .unset] [(.int vp2)])) _
    refine XS.istore X0.here hx rfl (hb hby at_32) rfl (l' := #[.val (.int x0), .val (.int x1), .val (.int x2), .val (.int x3), .val (.int x4), .val (.int (2147483647 : Int32)), .val (.int vp1), .val (.int vr1), .val (.int vp2), .unset, .unset, .unset, .unset, .unset, .unset, .unset, .unset, .unset]) rfl ?_
    exact k)
  obtain ⟨vr2, hvr2, p10⟩ : ∃ (vr2 : Int32), (0 ≤ vr2.toInt) ∧ ∀ t, Steps p.tables e below (s₁.setTop (mkF m 50 #[.val (.int x0), .val (.int x1), .val (.int x2), .val (.int x3), .val (.int x4), .val (.int (2147483647 : Int32)), .val (.int vp1), .val (.int vr1), .val (.int vp2), .unset, .unset, .unset, .unset, .unset, .unset, .unset, .unset, .unset] [(.int vr2)])) t → Steps p.tables e below (s₁.setTop (entryFrame m #[(.int x0), (.int x1), (.int x2), (.int x3), (.int x4)] maxLocals)) t := by
    have p11 : ∀ t, Steps p.tables e below (s₁.setTop (mkF m 38 #[.val (.int x0), .val (.int x1), .val (.int x2), .val (.int x3), .val (.int x4), .val (.int (2147483647 : Int32)), .val (.int vp1), .val (.int vr1), .val (.int vp2), .unset, .unset, .unset, .unset, .unset, .unset, .unset, .unset, .unset] [(.int (x4 &&& (2 : Int32)))])) t → Steps p.tables e below (s₁.setTop (entryFrame m #[(.int x0), (.int x1), (.int x2), (.int x3), (.int x4)] maxLocals)) t := fun t k => p9 t (by
      show Steps p.tables e below (s₁.setTop (mkF m 34 #[.val (.int x0), .val (.int x1), .val (.int x2), .val (.int x3), .val (.int x4), .val (.int (2147483647 : Int32)), .val (.int vp1), .val (.int vr1), .val (.int vp2), .unset, .unset, .unset, .unset, .unset, .unset, .unset, .unset, .unset] [])) _
      refine XS.iload X0.here hx rfl (hb hby at_34) rfl ?_
      show Steps p.tables e below (s₁.setTop (mkF m 36 #[.val (.int x0), .val (.int x1), .val (.int x2), .val (.int x3), .val (.int x4), .val (.int (2147483647 : Int32)), .val (.int vp1), .val (.int vr1), .val (.int vp2), .unset, .unset, .unset, .unset, .unset, .unset, .unset, .unset, .unset] [(.int x4)])) _
      refine XS.iconst X0.here hx rfl (hb hby at_36) ?_
      show Steps p.tables e below (s₁.setTop (mkF m 37 #[.val (.int x0), .val (.int x1), .val (.int x2), .val (.int x3), .val (.int x4), .val (.int (2147483647 : Int32)), .val (.int vp1), .val (.int vr1), .val (.int vp2), .unset, .unset, .unset, .unset, .unset, .unset, .unset, .unset, .unset] [(.int (2 : Int32)), (.int x4)])) _
      refine XS.iand X0.here hx rfl (hb hby at_37) rfl ?_
      exact k)
    by_cases hc38 : (x4 &&& (2 : Int32)) = (0 : Int32)
    · have p12 : ∀ t, Steps p.tables e below (s₁.setTop (mkF m 50 #[.val (.int x0), .val (.int x1), .val (.int x2), .val (.int x3), .val (.int x4), .val (.int (2147483647 : Int32)), .val (.int vp1), .val (.int vr1), .val (.int vp2), .unset, .unset, .unset, .unset, .unset, .unset, .unset, .unset, .unset] [(.int (x3 &&& (2147483647 : Int32)))])) t → Steps p.tables e below (s₁.setTop (entryFrame m #[(.int x0), (.int x1), (.int x2), (.int x3), (.int x4)] maxLocals)) t := fun t k => p11 t (by
        show Steps p.tables e below (s₁.setTop (mkF m 38 #[.val (.int x0), .val (.int x1), .val (.int x2), .val (.int x3), .val (.int x4), .val (.int (2147483647 : Int32)), .val (.int vp1), .val (.int vr1), .val (.int vp2), .unset, .unset, .unset, .unset, .unset, .unset, .unset, .unset, .unset] [(.int (x4 &&& (2 : Int32)))])) _
        refine XS.ifYes X0.here hx rfl (pc0 := 38) (pc' := 46) rfl (hb hby at_38) rfl ((if0 _ _).trans (teq (hc38)).1) (by decide) (by decide) ?_
        show Steps p.tables e below (s₁.setTop (mkF m 46 #[.val (.int x0), .val (.int x1), .val (.int x2), .val (.int x3), .val (.int x4), .val (.int (2147483647 : Int32)), .val (.int vp1), .val (.int vr1), .val (.int vp2), .unset, .unset, .unset, .unset, .unset, .unset, .unset, .unset, .unset] [])) _
        refine XS.iloadN X0.here hx rfl (hb hby at_46) rfl ?_
        show Steps p.tables e below (s₁.setTop (mkF m 47 #[.val (.int x0), .val (.int x1), .val (.int x2), .val (.int x3), .val (.int x4), .val (.int (2147483647 : Int32)), .val (.int vp1), .val (.int vr1), .val (.int vp2), .unset, .unset, .unset, .unset, .unset, .unset, .unset, .unset, .unset] [(.int x3)])) _
        refine XS.iload X0.here hx rfl (hb hby at_47) rfl ?_
        show Steps p.tables e below (s₁.setTop (mkF m 49 #[.val (.int x0), .val (.int x1), .val (.int x2), .val (.int x3), .val (.int x4), .val (.int (2147483647 : Int32)), .val (.int vp1), .val (.int vr1), .val (.int vp2), .unset, .unset, .unset, .unset, .unset, .unset, .unset, .unset, .unset] [(.int (2147483647 : Int32)), (.int x3)])) _
        refine XS.iand X0.here hx rfl (hb hby at_49) rfl ?_
        exact k)
      exact ⟨(x3 &&& (2147483647 : Int32)), own_mask _, p12⟩
    · have p13 : ∀ t, Steps p.tables e below (s₁.setTop (mkF m 50 #[.val (.int x0), .val (.int x1), .val (.int x2), .val (.int x3), .val (.int x4), .val (.int (2147483647 : Int32)), .val (.int vp1), .val (.int vr1), .val (.int vp2), .unset, .unset, .unset, .unset, .unset, .unset, .unset, .unset, .unset] [(.int vr1)])) t → Steps p.tables e below (s₁.setTop (entryFrame m #[(.int x0), (.int x1), (.int x2), (.int x3), (.int x4)] maxLocals)) t := fun t k => p11 t (by
        show Steps p.tables e below (s₁.setTop (mkF m 38 #[.val (.int x0), .val (.int x1), .val (.int x2), .val (.int x3), .val (.int x4), .val (.int (2147483647 : Int32)), .val (.int vp1), .val (.int vr1), .val (.int vp2), .unset, .unset, .unset, .unset, .unset, .unset, .unset, .unset, .unset] [(.int (x4 &&& (2 : Int32)))])) _
        refine XS.ifNo X0.here hx rfl (hb hby at_38) rfl ((if0 _ _).trans (feq (hc38)).1) ?_
        show Steps p.tables e below (s₁.setTop (mkF m 41 #[.val (.int x0), .val (.int x1), .val (.int x2), .val (.int x3), .val (.int x4), .val (.int (2147483647 : Int32)), .val (.int vp1), .val (.int vr1), .val (.int vp2), .unset, .unset, .unset, .unset, .unset, .unset, .unset, .unset, .unset] [])) _
        refine XS.iload X0.here hx rfl (hb hby at_41) rfl ?_
        show Steps p.tables e below (s₁.setTop (mkF m 43 #[.val (.int x0), .val (.int x1), .val (.int x2), .val (.int x3), .val (.int x4), .val (.int (2147483647 : Int32)), .val (.int vp1), .val (.int vr1), .val (.int vp2), .unset, .unset, .unset, .unset, .unset, .unset, .unset, .unset, .unset] [(.int vr1)])) _
        refine XS.goto X0.here hx rfl (pc0 := 43) (pc' := 50) rfl (hb hby at_43) (by decide) (by decide) ?_
        exact k)
      exact ⟨vr1, h0vr1, p13⟩
  have p14 : ∀ t, Steps p.tables e below (s₁.setTop (mkF m 52 #[.val (.int x0), .val (.int x1), .val (.int x2), .val (.int x3), .val (.int x4), .val (.int (2147483647 : Int32)), .val (.int vp1), .val (.int vr1), .val (.int vp2), .val (.int vr2), .unset, .unset, .unset, .unset, .unset, .unset, .unset, .unset] [])) t → Steps p.tables e below (s₁.setTop (entryFrame m #[(.int x0), (.int x1), (.int x2), (.int x3), (.int x4)] maxLocals)) t := fun t k => p10 t (by
    show Steps p.tables e below (s₁.setTop (mkF m 50 #[.val (.int x0), .val (.int x1), .val (.int x2), .val (.int x3), .val (.int x4), .val (.int (2147483647 : Int32)), .val (.int vp1), .val (.int vr1), .val (.int vp2), .unset, .unset, .unset, .unset, .unset, .unset, .unset, .unset, .unset] [(.int vr2)])) _
    refine XS.istore X0.here hx rfl (hb hby at_50) rfl (l' := #[.val (.int x0), .val (.int x1), .val (.int x2), .val (.int x3), .val (.int x4), .val (.int (2147483647 : Int32)), .val (.int vp1), .val (.int vr1), .val (.int vp2), .val (.int vr2), .unset, .unset, .unset, .unset, .unset, .unset, .unset, .unset]) rfl ?_
    exact k)
  obtain ⟨vp3, vr3, s10, hvp3, p15⟩ : ∃ (vp3 : Int32) (vr3 : Int32) (s10 : Slot), (0 ≤ vp3.toInt ∧ 0 ≤ vr3.toInt ∧ One s10) ∧ ∀ t, Steps p.tables e below (s₁.setTop (mkF m 71 #[.val (.int x0), .val (.int x1), .val (.int x2), .val (.int x3), .val (.int x4), .val (.int (2147483647 : Int32)), .val (.int vp1), .val (.int vr1), .val (.int vp3), .val (.int vr3), s10, .unset, .unset, .unset, .unset, .unset, .unset, .unset] [])) t → Steps p.tables e below (s₁.setTop (entryFrame m #[(.int x0), (.int x1), (.int x2), (.int x3), (.int x4)] maxLocals)) t := by
    have p16 : ∀ t, Steps p.tables e below (s₁.setTop (mkF m 56 #[.val (.int x0), .val (.int x1), .val (.int x2), .val (.int x3), .val (.int x4), .val (.int (2147483647 : Int32)), .val (.int vp1), .val (.int vr1), .val (.int vp2), .val (.int vr2), .unset, .unset, .unset, .unset, .unset, .unset, .unset, .unset] [(.int (x4 &&& (4 : Int32)))])) t → Steps p.tables e below (s₁.setTop (entryFrame m #[(.int x0), (.int x1), (.int x2), (.int x3), (.int x4)] maxLocals)) t := fun t k => p14 t (by
      show Steps p.tables e below (s₁.setTop (mkF m 52 #[.val (.int x0), .val (.int x1), .val (.int x2), .val (.int x3), .val (.int x4), .val (.int (2147483647 : Int32)), .val (.int vp1), .val (.int vr1), .val (.int vp2), .val (.int vr2), .unset, .unset, .unset, .unset, .unset, .unset, .unset, .unset] [])) _
      refine XS.iload X0.here hx rfl (hb hby at_52) rfl ?_
      show Steps p.tables e below (s₁.setTop (mkF m 54 #[.val (.int x0), .val (.int x1), .val (.int x2), .val (.int x3), .val (.int x4), .val (.int (2147483647 : Int32)), .val (.int vp1), .val (.int vr1), .val (.int vp2), .val (.int vr2), .unset, .unset, .unset, .unset, .unset, .unset, .unset, .unset] [(.int x4)])) _
      refine XS.iconst X0.here hx rfl (hb hby at_54) ?_
      show Steps p.tables e below (s₁.setTop (mkF m 55 #[.val (.int x0), .val (.int x1), .val (.int x2), .val (.int x3), .val (.int x4), .val (.int (2147483647 : Int32)), .val (.int vp1), .val (.int vr1), .val (.int vp2), .val (.int vr2), .unset, .unset, .unset, .unset, .unset, .unset, .unset, .unset] [(.int (4 : Int32)), (.int x4)])) _
      refine XS.iand X0.here hx rfl (hb hby at_55) rfl ?_
      exact k)
    by_cases hc56 : (x4 &&& (4 : Int32)) = (0 : Int32)
    · have p17 : ∀ t, Steps p.tables e below (s₁.setTop (mkF m 71 #[.val (.int x0), .val (.int x1), .val (.int x2), .val (.int x3), .val (.int x4), .val (.int (2147483647 : Int32)), .val (.int vp1), .val (.int vr1), .val (.int vp2), .val (.int vr2), .unset, .unset, .unset, .unset, .unset, .unset, .unset, .unset] [])) t → Steps p.tables e below (s₁.setTop (entryFrame m #[(.int x0), (.int x1), (.int x2), (.int x3), (.int x4)] maxLocals)) t := fun t k => p16 t (by
        show Steps p.tables e below (s₁.setTop (mkF m 56 #[.val (.int x0), .val (.int x1), .val (.int x2), .val (.int x3), .val (.int x4), .val (.int (2147483647 : Int32)), .val (.int vp1), .val (.int vr1), .val (.int vp2), .val (.int vr2), .unset, .unset, .unset, .unset, .unset, .unset, .unset, .unset] [(.int (x4 &&& (4 : Int32)))])) _
        refine XS.ifYes X0.here hx rfl (pc0 := 56) (pc' := 71) rfl (hb hby at_56) rfl ((if0 _ _).trans (teq (hc56)).1) (by decide) (by decide) ?_
        exact k)
      exact ⟨vp2, vr2, .unset, ⟨hvp2, hvr2, One.u⟩, p17⟩
    · have p18 : ∀ t, Steps p.tables e below (s₁.setTop (mkF m 71 #[.val (.int x0), .val (.int x1), .val (.int x2), .val (.int x3), .val (.int x4), .val (.int (2147483647 : Int32)), .val (.int vp1), .val (.int vr1), .val (.int vr2), .val (.int vp2), .val (.int vp2), .unset, .unset, .unset, .unset, .unset, .unset, .unset] [])) t → Steps p.tables e below (s₁.setTop (entryFrame m #[(.int x0), (.int x1), (.int x2), (.int x3), (.int x4)] maxLocals)) t := fun t k => p16 t (by
        show Steps p.tables e below (s₁.setTop (mkF m 56 #[.val (.int x0), .val (.int x1), .val (.int x2), .val (.int x3), .val (.int x4), .val (.int (2147483647 : Int32)), .val (.int vp1), .val (.int vr1), .val (.int vp2), .val (.int vr2), .unset, .unset, .unset, .unset, .unset, .unset, .unset, .unset] [(.int (x4 &&& (4 : Int32)))])) _
        refine XS.ifNo X0.here hx rfl (hb hby at_56) rfl ((if0 _ _).trans (feq (hc56)).1) ?_
        show Steps p.tables e below (s₁.setTop (mkF m 59 #[.val (.int x0), .val (.int x1), .val (.int x2), .val (.int x3), .val (.int x4), .val (.int (2147483647 : Int32)), .val (.int vp1), .val (.int vr1), .val (.int vp2), .val (.int vr2), .unset, .unset, .unset, .unset, .unset, .unset, .unset, .unset] [])) _
        refine XS.iload X0.here hx rfl (hb hby at_59) rfl ?_
        show Steps p.tables e below (s₁.setTop (mkF m 61 #[.val (.int x0), .val (.int x1), .val (.int x2), .val (.int x3), .val (.int x4), .val (.int (2147483647 : Int32)), .val (.int vp1), .val (.int vr1), .val (.int vp2), .val (.int vr2), .unset, .unset, .unset, .unset, .unset, .unset, .unset, .unset] [(.int vp2)])) _
        refine XS.istore X0.here hx rfl (hb hby at_61) rfl (l' := #[.val (.int x0), .val (.int x1), .val (.int x2), .val (.int x3), .val (.int x4), .val (.int (2147483647 : Int32)), .val (.int vp1), .val (.int vr1), .val (.int vp2), .val (.int vr2), .val (.int vp2), .unset, .unset, .unset, .unset, .unset, .unset, .unset]) rfl ?_
        show Steps p.tables e below (s₁.setTop (mkF m 63 #[.val (.int x0), .val (.int x1), .val (.int x2), .val (.int x3), .val (.int x4), .val (.int (2147483647 : Int32)), .val (.int vp1), .val (.int vr1), .val (.int vp2), .val (.int vr2), .val (.int vp2), .unset, .unset, .unset, .unset, .unset, .unset, .unset] [])) _
        refine XS.iload X0.here hx rfl (hb hby at_63) rfl ?_
        show Steps p.tables e below (s₁.setTop (mkF m 65 #[.val (.int x0), .val (.int x1), .val (.int x2), .val (.int x3), .val (.int x4), .val (.int (2147483647 : Int32)), .val (.int vp1), .val (.int vr1), .val (.int vp2), .val (.int vr2), .val (.int vp2), .unset, .unset, .unset, .unset, .unset, .unset, .unset] [(.int vr2)])) _
        refine XS.istore X0.here hx rfl (hb hby at_65) rfl (l' := #[.val (.int x0), .val (.int x1), .val (.int x2), .val (.int x3), .val (.int x4), .val (.int (2147483647 : Int32)), .val (.int vp1), .val (.int vr1), .val (.int vr2), .val (.int vr2), .val (.int vp2), .unset, .unset, .unset, .unset, .unset, .unset, .unset]) rfl ?_
        show Steps p.tables e below (s₁.setTop (mkF m 67 #[.val (.int x0), .val (.int x1), .val (.int x2), .val (.int x3), .val (.int x4), .val (.int (2147483647 : Int32)), .val (.int vp1), .val (.int vr1), .val (.int vr2), .val (.int vr2), .val (.int vp2), .unset, .unset, .unset, .unset, .unset, .unset, .unset] [])) _
        refine XS.iload X0.here hx rfl (hb hby at_67) rfl ?_
        show Steps p.tables e below (s₁.setTop (mkF m 69 #[.val (.int x0), .val (.int x1), .val (.int x2), .val (.int x3), .val (.int x4), .val (.int (2147483647 : Int32)), .val (.int vp1), .val (.int vr1), .val (.int vr2), .val (.int vr2), .val (.int vp2), .unset, .unset, .unset, .unset, .unset, .unset, .unset] [(.int vp2)])) _
        refine XS.istore X0.here hx rfl (hb hby at_69) rfl (l' := #[.val (.int x0), .val (.int x1), .val (.int x2), .val (.int x3), .val (.int x4), .val (.int (2147483647 : Int32)), .val (.int vp1), .val (.int vr1), .val (.int vr2), .val (.int vp2), .val (.int vp2), .unset, .unset, .unset, .unset, .unset, .unset, .unset]) rfl ?_
        exact k)
      exact ⟨vr2, vp2, .val (.int vp2), ⟨hvr2, hvp2, One.val rfl⟩, p18⟩
  obtain ⟨hp3, hr3, hs10⟩ := hvp3
  obtain ⟨T19, h19, X19, e19, E19, A19, D19, -, st19⟩ := newO X0 hx hZ hown (hw _ (List.mem_of_getElem? (i := 1) rfl)) (hw _ (List.mem_of_getElem? (i := 2) rfl)) (hw _ (List.mem_of_getElem? (i := 3) rfl)) e0 (g := (mkF m 71 #[.val (.int x0), .val (.int x1), .val (.int x2), .val (.int x3), .val (.int x4), .val (.int (2147483647 : Int32)), .val (.int vp1), .val (.int vr1), .val (.int vp3), .val (.int vr3), s10, .unset, .unset, .unset, .unset, .unset, .unset, .unset] [])) rfl (hb hby at_71) (by decide) (by decide)
  obtain ⟨b19, g19⟩ : ∃ z, z = h0.size := ⟨_, rfl⟩
  rw [← g19] at A19 D19 st19
  have gn_b19 : n0 ≤ b19 := Nat.le_trans Z0 (Nat.le_of_eq g19.symm)
  have f20 := O0.ext E19
  have Z19 := Nat.le_trans Z0 E19.1
  have f21 : Fld Z h19 b19 "com/example/kvota/kvota/PartitionReplica" "partition" "I" (.int (0 : Int32)) := D19 (Or.inr (hw _ (List.mem_of_getElem? (i := 11) rfl))) (ty := .int) (by decide)
  have f22 : Fld Z h19 b19 "com/example/kvota/kvota/PartitionReplica" "replica" "I" (.int (0 : Int32)) := D19 (Or.inr (hw _ (List.mem_of_getElem? (i := 13) rfl))) (ty := .int) (by decide)
  have p23 : ∀ t, Steps p.tables e below (T19.setTop (mkF m 74 #[.val (.int x0), .val (.int x1), .val (.int x2), .val (.int x3), .val (.int x4), .val (.int (2147483647 : Int32)), .val (.int vp1), .val (.int vr1), .val (.int vp3), .val (.int vr3), s10, .unset, .unset, .unset, .unset, .unset, .unset, .unset] [(.ref b19)])) t → Steps p.tables e below (s₁.setTop (entryFrame m #[(.int x0), (.int x1), (.int x2), (.int x3), (.int x4)] maxLocals)) t := fun t k => p15 t (st19 t k)
  have p24 : ∀ t, Steps p.tables e below (T19.setTop (mkF m 79 #[.val (.int x0), .val (.int x1), .val (.int x2), .val (.int x3), .val (.int x4), .val (.int (2147483647 : Int32)), .val (.int vp1), .val (.int vr1), .val (.int vp3), .val (.int vr3), s10, .unset, .unset, .unset, .unset, .unset, .unset, .unset] [(.int vr1), (.int vp1), (.ref b19), (.ref b19)])) t → Steps p.tables e below (s₁.setTop (entryFrame m #[(.int x0), (.int x1), (.int x2), (.int x3), (.int x4)] maxLocals)) t := fun t k => p23 t (by
    show Steps p.tables e below (T19.setTop (mkF m 74 #[.val (.int x0), .val (.int x1), .val (.int x2), .val (.int x3), .val (.int x4), .val (.int (2147483647 : Int32)), .val (.int vp1), .val (.int vr1), .val (.int vp3), .val (.int vr3), s10, .unset, .unset, .unset, .unset, .unset, .unset, .unset] [(.ref b19)])) _
    refine XS.dup X19.here hx rfl (hb hby at_74) rfl rfl ?_
    show Steps p.tables e below (T19.setTop (mkF m 75 #[.val (.int x0), .val (.int x1), .val (.int x2), .val (.int x3), .val (.int x4), .val (.int (2147483647 : Int32)), .val (.int vp1), .val (.int vr1), .val (.int vp3), .val (.int vr3), s10, .unset, .unset, .unset, .unset, .unset, .unset, .unset] [(.ref b19), (.ref b19)])) _
    refine XS.iload X19.here hx rfl (hb hby at_75) rfl ?_
    show Steps p.tables e below (T19.setTop (mkF m 77 #[.val (.int x0), .val (.int x1), .val (.int x2), .val (.int x3), .val (.int x4), .val (.int (2147483647 : Int32)), .val (.int vp1), .val (.int vr1), .val (.int vp3), .val (.int vr3), s10, .unset, .unset, .unset, .unset, .unset, .unset, .unset] [(.int vp1), (.ref b19), (.ref b19)])) _
    refine XS.iload X19.here hx rfl (hb hby at_77) rfl ?_
    exact k)
  obtain ⟨_, _, ⟨T25, L25, k25, n25⟩, -, X25, ⟨Lc25, hQ25, l25, y25, z25⟩, st25⟩ := X19.specialBack hx (y := (⟨"com/example/kvota/kvota/PartitionReplica", "<init>", "(II)V"⟩ : MethodName)) rfl hown (mvT hZ (hw _ (List.mem_of_getElem? (i := 4) rfl))) (mvT hZ (hw _ (List.mem_of_getElem? (i := 5) rfl))) (mvT hZ (hw _ (List.mem_of_getElem? (i := 6) rfl))) (by decide) (backOf (W := 1) (rmI l Z a0 hw [] b19 vp1 vr1  h19 n0 Z19 A19 f21 f22 gn_b19 (own_nneg h0vp1) (own_nneg h0vr1)) hZ (hw _ (List.mem_of_getElem? (i := 6) rfl)) (hw _ (List.mem_of_getElem? (i := 3) rfl)) (by decide) (by decide)) (g := (mkF m 79 #[.val (.int x0), .val (.int x1), .val (.int x2), .val (.int x3), .val (.int x4), .val (.int (2147483647 : Int32)), .val (.int vp1), .val (.int vr1), .val (.int vp3), .val (.int vr3), s10, .unset, .unset, .unset, .unset, .unset, .unset, .unset] [(.int vr1), (.int vp1), (.ref b19), (.ref b19)])) rfl (by rw [hml]; rfl) (Steps.refl _) (a := b19) (argsL := [(.int vp1), (.int vr1)]) (rest := [(.ref b19)]) (lenOf pd0_0 rfl) rfl (by show 2 * 0 + _ ≤ _; exact Nat.le_of_eq rfl) (hb hby at_79) (fun _ _ => ⟨rfl, e19, (by decide : 1 + 0 ≤ _), (by decide : 2 + 0 ≤ _)⟩)
  dsimp only [Pt.U, Pt.locs, Pt.cells, Pt.slots] at X25 l25 y25 z25 st25 hQ25
  subst l25 y25 z25
  obtain ⟨rfl, Nq25, K25, Fa25, Fb25⟩ := hQ25
  have N25 := Fr.app N0 Nq25
  have f26 := f20.keep K25 (allS gn_b19 (all0))
  have f27 := A19.keep K25
  have Z25 := Nat.le_trans Z19 K25.1
  have p28 : ∀ t, Steps p.tables e below (T25.setTop (mkF m 82 #[.val (.int x0), .val (.int x1), .val (.int x2), .val (.int x3), .val (.int x4), .val (.int (2147483647 : Int32)), .val (.int vp1), .val (.int vr1), .val (.int vp3), .val (.int vr3), s10, .unset, .unset, .unset, .unset, .unset, .unset, .unset] [(.ref b19)])) t → Steps p.tables e below (s₁.setTop (entryFrame m #[(.int x0), (.int x1), (.int x2), (.int x3), (.int x4)] maxLocals)) t := fun t k => p24 t (st25.trans k)
  have p29 : ∀ t, Steps p.tables e below (T25.setTop (mkF m 84 #[.val (.int x0), .val (.int x1), .val (.int x2), .val (.int x3), .val (.int x4), .val (.int (2147483647 : Int32)), .val (.int vp1), .val (.int vr1), .val (.int vp3), .val (.int vr3), .val (.ref b19), .unset, .unset, .unset, .unset, .unset, .unset, .unset] [])) t → Steps p.tables e below (s₁.setTop (entryFrame m #[(.int x0), (.int x1), (.int x2), (.int x3), (.int x4)] maxLocals)) t := fun t k => p28 t (by
    show Steps p.tables e below (T25.setTop (mkF m 82 #[.val (.int x0), .val (.int x1), .val (.int x2), .val (.int x3), .val (.int x4), .val (.int (2147483647 : Int32)), .val (.int vp1), .val (.int vr1), .val (.int vp3), .val (.int vr3), s10, .unset, .unset, .unset, .unset, .unset, .unset, .unset] [(.ref b19)])) _
    refine XS.astore X25.here hx rfl (hb hby at_82) rfl rfl (l' := #[.val (.int x0), .val (.int x1), .val (.int x2), .val (.int x3), .val (.int x4), .val (.int (2147483647 : Int32)), .val (.int vp1), .val (.int vr1), .val (.int vp3), .val (.int vr3), .val (.ref b19), .unset, .unset, .unset, .unset, .unset, .unset, .unset]) (XS.store1 rfl hs10 rfl) ?_
    exact k)
  obtain ⟨T30, h30, X30, e30, E30, A30, D30, -, st30⟩ := newO X25 hx hZ hown (hw _ (List.mem_of_getElem? (i := 1) rfl)) (hw _ (List.mem_of_getElem? (i := 2) rfl)) (hw _ (List.mem_of_getElem? (i := 3) rfl)) rfl (g := (mkF m 84 #[.val (.int x0), .val (.int x1), .val (.int x2), .val (.int x3), .val (.int x4), .val (.int (2147483647 : Int32)), .val (.int vp1), .val (.int vr1), .val (.int vp3), .val (.int vr3), .val (.ref b19), .unset, .unset, .unset, .unset, .unset, .unset, .unset] [])) rfl (hb hby at_84) (by decide) (by decide)
  obtain ⟨b30, g30⟩ : ∃ z, z = T25.heap.size := ⟨_, rfl⟩
  rw [← g30] at A30 D30 st30
  have gn_b30 : n0 ≤ b30 := Nat.le_trans Z25 (Nat.le_of_eq g30.symm)
  have ne31 : b19 ≠ b30 := Nat.ne_of_lt (Nat.lt_of_lt_of_le f27.lt (Nat.le_of_eq g30.symm))
  have f32 := f26.ext E30
  have f33 := f27.ext E30
  have f34 := Fa25.ext E30
  have f35 := Fb25.ext E30
  have Z30 := Nat.le_trans Z25 E30.1
  have f36 : Fld Z h30 b30 "com/example/kvota/kvota/PartitionReplica" "partition" "I" (.int (0 : Int32)) := D30 (Or.inr (hw _ (List.mem_of_getElem? (i := 11) rfl))) (ty := .int) (by decide)
  have f37 : Fld Z h30 b30 "com/example/kvota/kvota/PartitionReplica" "replica" "I" (.int (0 : Int32)) := D30 (Or.inr (hw _ (List.mem_of_getElem? (i := 13) rfl))) (ty := .int) (by decide)
  have p38 : ∀ t, Steps p.tables e below (T30.setTop (mkF m 87 #[.val (.int x0), .val (.int x1), .val (.int x2), .val (.int x3), .val (.int x4), .val (.int (2147483647 : Int32)), .val (.int vp1), .val (.int vr1), .val (.int vp3), .val (.int vr3), .val (.ref b19), .unset, .unset, .unset, .unset, .unset, .unset, .unset] [(.ref b30)])) t → Steps p.tables e below (s₁.setTop (entryFrame m #[(.int x0), (.int x1), (.int x2), (.int x3), (.int x4)] maxLocals)) t := fun t k => p29 t (st30 t k)
  have p39 : ∀ t, Steps p.tables e below (T30.setTop (mkF m 92 #[.val (.int x0), .val (.int x1), .val (.int x2), .val (.int x3), .val (.int x4), .val (.int (2147483647 : Int32)), .val (.int vp1), .val (.int vr1), .val (.int vp3), .val (.int vr3), .val (.ref b19), .unset, .unset, .unset, .unset, .unset, .unset, .unset] [(.int vr3), (.int vp3), (.ref b30), (.ref b30)])) t → Steps p.tables e below (s₁.setTop (entryFrame m #[(.int x0), (.int x1), (.int x2), (.int x3), (.int x4)] maxLocals)) t := fun t k => p38 t (by
    show Steps p.tables e below (T30.setTop (mkF m 87 #[.val (.int x0), .val (.int x1), .val (.int x2), .val (.int x3), .val (.int x4), .val (.int (2147483647 : Int32)), .val (.int vp1), .val (.int vr1), .val (.int vp3), .val (.int vr3), .val (.ref b19), .unset, .unset, .unset, .unset, .unset, .unset, .unset] [(.ref b30)])) _
    refine XS.dup X30.here hx rfl (hb hby at_87) rfl rfl ?_
    show Steps p.tables e below (T30.setTop (mkF m 88 #[.val (.int x0), .val (.int x1), .val (.int x2), .val (.int x3), .val (.int x4), .val (.int (2147483647 : Int32)), .val (.int vp1), .val (.int vr1), .val (.int vp3), .val (.int vr3), .val (.ref b19), .unset, .unset, .unset, .unset, .unset, .unset, .unset] [(.ref b30), (.ref b30)])) _
    refine XS.iload X30.here hx rfl (hb hby at_88) rfl ?_
    show Steps p.tables e below (T30.setTop (mkF m 90 #[.val (.int x0), .val (.int x1), .val (.int x2), .val (.int x3), .val (.int x4), .val (.int (2147483647 : Int32)), .val (.int vp1), .val (.int vr1), .val (.int vp3), .val (.int vr3), .val (.ref b19), .unset, .unset, .unset, .unset, .unset, .unset, .unset] [(.int vp3), (.ref b30), (.ref b30)])) _
    refine XS.iload X30.here hx rfl (hb hby at_90) rfl ?_
    exact k)
  obtain ⟨_, _, ⟨T40, L40, k40, n40⟩, -, X40, ⟨Lc40, hQ40, l40, y40, z40⟩, st40⟩ := X30.specialBack hx (y := (⟨"com/example/kvota/kvota/PartitionReplica", "<init>", "(II)V"⟩ : MethodName)) rfl hown (mvT hZ (hw _ (List.mem_of_getElem? (i := 4) rfl))) (mvT hZ (hw _ (List.mem_of_getElem? (i := 5) rfl))) (mvT hZ (hw _ (List.mem_of_getElem? (i := 6) rfl))) (by decide) (backOf (W := 1) (rmI l Z a0 hw [] b30 vp3 vr3  h30 n0 Z30 A30 f36 f37 gn_b30 (own_nneg hp3) (own_nneg hr3)) hZ (hw _ (List.mem_of_getElem? (i := 6) rfl)) (hw _ (List.mem_of_getElem? (i := 3) rfl)) (by decide) (by decide)) (g := (mkF m 92 #[.val (.int x0), .val (.int x1), .val (.int x2), .val (.int x3), .val (.int x4), .val (.int (2147483647 : Int32)), .val (.int vp1), .val (.int vr1), .val (.int vp3), .val (.int vr3), .val (.ref b19), .unset, .unset, .unset, .unset, .unset, .unset, .unset] [(.int vr3), (.int vp3), (.ref b30), (.ref b30)])) rfl (by rw [hml]; rfl) (Steps.refl _) (a := b30) (argsL := [(.int vp3), (.int vr3)]) (rest := [(.ref b30)]) (lenOf pd0_0 rfl) rfl (by show 2 * 0 + _ ≤ _; exact Nat.le_of_eq rfl) (hb hby at_92) (fun _ _ => ⟨rfl, e30, (by decide : 2 + 0 ≤ _), (by decide : 4 + 0 ≤ _)⟩)
  dsimp only [Pt.U, Pt.locs, Pt.cells, Pt.slots] at X40 l40 y40 z40 st40 hQ40
  subst l40 y40 z40
  obtain ⟨rfl, Nq40, K40, Fa40, Fb40⟩ := hQ40
  have N40 := Fr.app N25 Nq40
  have f41 := f32.keep K40 (allS gn_b30 (all0))
  have f42 := f33.keep K40
  have f43 := f34.keep K40 (ninS ne31 nin0)
  have f44 := f35.keep K40 (ninS ne31 nin0)
  have f45 := A30.keep K40
  have Z40 := Nat.le_trans Z30 K40.1
  have p46 : ∀ t, Steps p.tables e below (T40.setTop (mkF m 95 #[.val (.int x0), .val (.int x1), .val (.int x2), .val (.int x3), .val (.int x4), .val (.int (2147483647 : Int32)), .val (.int vp1), .val (.int vr1), .val (.int vp3), .val (.int vr3), .val (.ref b19), .unset, .unset, .unset, .unset, .unset, .unset, .unset] [(.ref b30)])) t → Steps p.tables e below (s₁.setTop (entryFrame m #[(.int x0), (.int x1), (.int x2), (.int x3), (.int x4)] maxLocals)) t := fun t k => p39 t (st40.trans k)
  have p47 : ∀ t, Steps p.tables e below (T40.setTop (mkF m 101 #[.val (.int x0), .val (.int x1), .val (.int x2), .val (.int x3), .val (.int x4), .val (.int (2147483647 : Int32)), .val (.int vp1), .val (.int vr1), .val (.int vp3), .val (.int vr3), .val (.ref b19), .val (.ref b30), .unset, .unset, .unset, .unset, .unset, .unset] [(.int vp3), (.int vp1)])) t → Steps p.tables e below (s₁.setTop (entryFrame m #[(.int x0), (.int x1), (.int x2), (.int x3), (.int x4)] maxLocals)) t := fun t k => p46 t (by
    show Steps p.tables e below (T40.setTop (mkF m 95 #[.val (.int x0), .val (.int x1), .val (.int x2), .val (.int x3), .val (.int x4), .val (.int (2147483647 : Int32)), .val (.int vp1), .val (.int vr1), .val (.int vp3), .val (.int vr3), .val (.ref b19), .unset, .unset, .unset, .unset, .unset, .unset, .unset] [(.ref b30)])) _
    refine XS.astore X40.here hx rfl (hb hby at_95) rfl rfl (l' := #[.val (.int x0), .val (.int x1), .val (.int x2), .val (.int x3), .val (.int x4), .val (.int (2147483647 : Int32)), .val (.int vp1), .val (.int vr1), .val (.int vp3), .val (.int vr3), .val (.ref b19), .val (.ref b30), .unset, .unset, .unset, .unset, .unset, .unset]) rfl ?_
    show Steps p.tables e below (T40.setTop (mkF m 97 #[.val (.int x0), .val (.int x1), .val (.int x2), .val (.int x3), .val (.int x4), .val (.int (2147483647 : Int32)), .val (.int vp1), .val (.int vr1), .val (.int vp3), .val (.int vr3), .val (.ref b19), .val (.ref b30), .unset, .unset, .unset, .unset, .unset, .unset] [])) _
    refine XS.iload X40.here hx rfl (hb hby at_97) rfl ?_
    show Steps p.tables e below (T40.setTop (mkF m 99 #[.val (.int x0), .val (.int x1), .val (.int x2), .val (.int x3), .val (.int x4), .val (.int (2147483647 : Int32)), .val (.int vp1), .val (.int vr1), .val (.int vp3), .val (.int vr3), .val (.ref b19), .val (.ref b30), .unset, .unset, .unset, .unset, .unset, .unset] [(.int vp1)])) _
    refine XS.iload X40.here hx rfl (hb hby at_99) rfl ?_
    exact k)
  by_cases hc101 : vp1 = vp3
  · have p48 : ∀ t, Steps p.tables e below (T40.setTop (mkF m 108 #[.val (.int x0), .val (.int x1), .val (.int x2), .val (.int x3), .val (.int x4), .val (.int (2147483647 : Int32)), .val (.int vp1), .val (.int vr1), .val (.int vp3), .val (.int vr3), .val (.ref b19), .val (.ref b30), .unset, .unset, .unset, .unset, .unset, .unset] [(.int vr3), (.int vr1)])) t → Steps p.tables e below (s₁.setTop (entryFrame m #[(.int x0), (.int x1), (.int x2), (.int x3), (.int x4)] maxLocals)) t := fun t k => p47 t (by
      show Steps p.tables e below (T40.setTop (mkF m 101 #[.val (.int x0), .val (.int x1), .val (.int x2), .val (.int x3), .val (.int x4), .val (.int (2147483647 : Int32)), .val (.int vp1), .val (.int vr1), .val (.int vp3), .val (.int vr3), .val (.ref b19), .val (.ref b30), .unset, .unset, .unset, .unset, .unset, .unset] [(.int vp3), (.int vp1)])) _
      refine XS.icmpNo X40.here hx rfl (hb hby at_101) rfl ((teq (hc101)).2) ?_
      show Steps p.tables e below (T40.setTop (mkF m 104 #[.val (.int x0), .val (.int x1), .val (.int x2), .val (.int x3), .val (.int x4), .val (.int (2147483647 : Int32)), .val (.int vp1), .val (.int vr1), .val (.int vp3), .val (.int vr3), .val (.ref b19), .val (.ref b30), .unset, .unset, .unset, .unset, .unset, .unset] [])) _
      refine XS.iload X40.here hx rfl (hb hby at_104) rfl ?_
      show Steps p.tables e below (T40.setTop (mkF m 106 #[.val (.int x0), .val (.int x1), .val (.int x2), .val (.int x3), .val (.int x4), .val (.int (2147483647 : Int32)), .val (.int vp1), .val (.int vr1), .val (.int vp3), .val (.int vr3), .val (.ref b19), .val (.ref b30), .unset, .unset, .unset, .unset, .unset, .unset] [(.int vr1)])) _
      refine XS.iload X40.here hx rfl (hb hby at_106) rfl ?_
      exact k)
    by_cases hc108 : vr1 = vr3
    · have p49 : ∀ t, Steps p.tables e below (T40.setTop (mkF m 122 #[.val (.int x0), .val (.int x1), .val (.int x2), .val (.int x3), .val (.int x4), .val (.int (2147483647 : Int32)), .val (.int vp1), .val (.int vr1), .val (.int vp3), .val (.int vr3), .val (.ref b19), .val (.ref b30), .val (.int (1 : Int32)), .unset, .unset, .unset, .unset, .unset] [(.ref b30), (.ref b19)])) t → Steps p.tables e below (s₁.setTop (entryFrame m #[(.int x0), (.int x1), (.int x2), (.int x3), (.int x4)] maxLocals)) t := fun t k => p48 t (by
        show Steps p.tables e below (T40.setTop (mkF m 108 #[.val (.int x0), .val (.int x1), .val (.int x2), .val (.int x3), .val (.int x4), .val (.int (2147483647 : Int32)), .val (.int vp1), .val (.int vr1), .val (.int vp3), .val (.int vr3), .val (.ref b19), .val (.ref b30), .unset, .unset, .unset, .unset, .unset, .unset] [(.int vr3), (.int vr1)])) _
        refine XS.icmpNo X40.here hx rfl (hb hby at_108) rfl ((teq (hc108)).2) ?_
        show Steps p.tables e below (T40.setTop (mkF m 111 #[.val (.int x0), .val (.int x1), .val (.int x2), .val (.int x3), .val (.int x4), .val (.int (2147483647 : Int32)), .val (.int vp1), .val (.int vr1), .val (.int vp3), .val (.int vr3), .val (.ref b19), .val (.ref b30), .unset, .unset, .unset, .unset, .unset, .unset] [])) _
        refine XS.iconst X40.here hx rfl (hb hby at_111) ?_
        show Steps p.tables e below (T40.setTop (mkF m 112 #[.val (.int x0), .val (.int x1), .val (.int x2), .val (.int x3), .val (.int x4), .val (.int (2147483647 : Int32)), .val (.int vp1), .val (.int vr1), .val (.int vp3), .val (.int vr3), .val (.ref b19), .val (.ref b30), .unset, .unset, .unset, .unset, .unset, .unset] [(.int (1 : Int32))])) _
        refine XS.goto X40.here hx rfl (pc0 := 112) (pc' := 116) rfl (hb hby at_112) (by decide) (by decide) ?_
        show Steps p.tables e below (T40.setTop (mkF m 116 #[.val (.int x0), .val (.int x1), .val (.int x2), .val (.int x3), .val (.int x4), .val (.int (2147483647 : Int32)), .val (.int vp1), .val (.int vr1), .val (.int vp3), .val (.int vr3), .val (.ref b19), .val (.ref b30), .unset, .unset, .unset, .unset, .unset, .unset] [(.int (1 : Int32))])) _
        refine XS.istore X40.here hx rfl (hb hby at_116) rfl (l' := #[.val (.int x0), .val (.int x1), .val (.int x2), .val (.int x3), .val (.int x4), .val (.int (2147483647 : Int32)), .val (.int vp1), .val (.int vr1), .val (.int vp3), .val (.int vr3), .val (.ref b19), .val (.ref b30), .val (.int (1 : Int32)), .unset, .unset, .unset, .unset, .unset]) rfl ?_
        show Steps p.tables e below (T40.setTop (mkF m 118 #[.val (.int x0), .val (.int x1), .val (.int x2), .val (.int x3), .val (.int x4), .val (.int (2147483647 : Int32)), .val (.int vp1), .val (.int vr1), .val (.int vp3), .val (.int vr3), .val (.ref b19), .val (.ref b30), .val (.int (1 : Int32)), .unset, .unset, .unset, .unset, .unset] [])) _
        refine XS.aload X40.here hx rfl (hb hby at_118) rfl rfl ?_
        show Steps p.tables e below (T40.setTop (mkF m 120 #[.val (.int x0), .val (.int x1), .val (.int x2), .val (.int x3), .val (.int x4), .val (.int (2147483647 : Int32)), .val (.int vp1), .val (.int vr1), .val (.int vp3), .val (.int vr3), .val (.ref b19), .val (.ref b30), .val (.int (1 : Int32)), .unset, .unset, .unset, .unset, .unset] [(.ref b19)])) _
        refine XS.aload X40.here hx rfl (hb hby at_120) rfl rfl ?_
        exact k)
      obtain ⟨cq50, kq50, qa50, qb50, qc50⟩ := isOf hZ rfl f42
      obtain ⟨_, _, ⟨T50, L50, k50, n50⟩, -, X50, ⟨Lc50, hQ50, l50, y50, z50⟩, st50⟩ := X40.virtualBack hx (y := (⟨"com/example/kvota/kvota/PartitionReplica", "equals", "(Ljava/lang/Object;)Z"⟩ : MethodName)) (z := (⟨"com/example/kvota/kvota/PartitionReplica", "equals", "(Ljava/lang/Object;)Z"⟩ : MethodName)) hown (mvT hZ (hw _ (List.mem_of_getElem? (i := 14) rfl))) (mvT hZ (hw _ (List.mem_of_getElem? (i := 15) rfl))) (notFace_of_selects (args := #[]) (mvT hZ (hw _ (List.mem_of_getElem? (i := 17) rfl)))) (mvT hZ (hw _ (List.mem_of_getElem? (i := 17) rfl))) (mvT hZ (hw _ (List.mem_of_getElem? (i := 16) rfl))) (by decide) (backOf (W := 0) (rmA l Z a0 hw [] b19 b30 vp1 vr1 vp3 vr3 T40.heap n0 Z40 f45 f43 f44 Fa40 Fb40) hZ (hw _ (List.mem_of_getElem? (i := 18) rfl)) (hw _ (List.mem_of_getElem? (i := 3) rfl)) (by decide) (by decide)) qa50 qc50 (g := (mkF m 122 #[.val (.int x0), .val (.int x1), .val (.int x2), .val (.int x3), .val (.int x4), .val (.int (2147483647 : Int32)), .val (.int vp1), .val (.int vr1), .val (.int vp3), .val (.int vr3), .val (.ref b19), .val (.ref b30), .val (.int (1 : Int32)), .unset, .unset, .unset, .unset, .unset] [(.ref b30), (.ref b19)])) rfl (by rw [hml]; rfl) (Steps.refl _) (argsL := [(.ref b30)]) (rest := []) (lenOf pd0_1 rfl) rfl (by show 2 * 0 + _ ≤ _; exact Nat.le_of_eq rfl) (hb hby at_122) (fun _ _ => ⟨rfl, rfl, (by decide : 2 + 0 ≤ _), (by decide : 4 + 0 ≤ _)⟩)
      dsimp only [Pt.U, Pt.locs, Pt.cells, Pt.slots] at X50 l50 y50 z50 st50 hQ50
      subst l50 y50 z50
      obtain ⟨rfl, Nq50, e50⟩ := hQ50
      have N50 := Fr.app N40 Nq50
      have p51 : ∀ t, Steps p.tables e below (T50.setTop (mkF m 125 #[.val (.int x0), .val (.int x1), .val (.int x2), .val (.int x3), .val (.int x4), .val (.int (2147483647 : Int32)), .val (.int vp1), .val (.int vr1), .val (.int vp3), .val (.int vr3), .val (.ref b19), .val (.ref b30), .val (.int (1 : Int32)), .unset, .unset, .unset, .unset, .unset] [(.int (own_eq vp1 vr1 vp3 vr3))])) t → Steps p.tables e below (s₁.setTop (entryFrame m #[(.int x0), (.int x1), (.int x2), (.int x3), (.int x4)] maxLocals)) t := fun t k => p49 t (st50.trans k)
      have p52 : ∀ t, Steps p.tables e below (T50.setTop (mkF m 131 #[.val (.int x0), .val (.int x1), .val (.int x2), .val (.int x3), .val (.int x4), .val (.int (2147483647 : Int32)), .val (.int vp1), .val (.int vr1), .val (.int vp3), .val (.int vr3), .val (.ref b19), .val (.ref b30), .val (.int (1 : Int32)), .val (.int (own_eq vp1 vr1 vp3 vr3)), .unset, .unset, .unset, .unset] [(.ref b19), (.ref b30)])) t → Steps p.tables e below (s₁.setTop (entryFrame m #[(.int x0), (.int x1), (.int x2), (.int x3), (.int x4)] maxLocals)) t := fun t k => p51 t (by
        show Steps p.tables e below (T50.setTop (mkF m 125 #[.val (.int x0), .val (.int x1), .val (.int x2), .val (.int x3), .val (.int x4), .val (.int (2147483647 : Int32)), .val (.int vp1), .val (.int vr1), .val (.int vp3), .val (.int vr3), .val (.ref b19), .val (.ref b30), .val (.int (1 : Int32)), .unset, .unset, .unset, .unset, .unset] [(.int (own_eq vp1 vr1 vp3 vr3))])) _
        refine XS.istore X50.here hx rfl (hb hby at_125) rfl (l' := #[.val (.int x0), .val (.int x1), .val (.int x2), .val (.int x3), .val (.int x4), .val (.int (2147483647 : Int32)), .val (.int vp1), .val (.int vr1), .val (.int vp3), .val (.int vr3), .val (.ref b19), .val (.ref b30), .val (.int (1 : Int32)), .val (.int (own_eq vp1 vr1 vp3 vr3)), .unset, .unset, .unset, .unset]) rfl ?_
        show Steps p.tables e below (T50.setTop (mkF m 127 #[.val (.int x0), .val (.int x1), .val (.int x2), .val (.int x3), .val (.int x4), .val (.int (2147483647 : Int32)), .val (.int vp1), .val (.int vr1), .val (.int vp3), .val (.int vr3), .val (.ref b19), .val (.ref b30), .val (.int (1 : Int32)), .val (.int (own_eq vp1 vr1 vp3 vr3)), .unset, .unset, .unset, .unset] [])) _
        refine XS.aload X50.here hx rfl (hb hby at_127) rfl rfl ?_
        show Steps p.tables e below (T50.setTop (mkF m 129 #[.val (.int x0), .val (.int x1), .val (.int x2), .val (.int x3), .val (.int x4), .val (.int (2147483647 : Int32)), .val (.int vp1), .val (.int vr1), .val (.int vp3), .val (.int vr3), .val (.ref b19), .val (.ref b30), .val (.int (1 : Int32)), .val (.int (own_eq vp1 vr1 vp3 vr3)), .unset, .unset, .unset, .unset] [(.ref b30)])) _
        refine XS.aload X50.here hx rfl (hb hby at_129) rfl rfl ?_
        exact k)
      obtain ⟨cq53, kq53, qa53, qb53, qc53⟩ := isOf hZ e50 f45
      obtain ⟨_, _, ⟨T53, L53, k53, n53⟩, -, X53, ⟨Lc53, hQ53, l53, y53, z53⟩, st53⟩ := X50.virtualBack hx (y := (⟨"com/example/kvota/kvota/PartitionReplica", "equals", "(Ljava/lang/Object;)Z"⟩ : MethodName)) (z := (⟨"com/example/kvota/kvota/PartitionReplica", "equals", "(Ljava/lang/Object;)Z"⟩ : MethodName)) hown (mvT hZ (hw _ (List.mem_of_getElem? (i := 14) rfl))) (mvT hZ (hw _ (List.mem_of_getElem? (i := 15) rfl))) (notFace_of_selects (args := #[]) (mvT hZ (hw _ (List.mem_of_getElem? (i := 17) rfl)))) (mvT hZ (hw _ (List.mem_of_getElem? (i := 17) rfl))) (mvT hZ (hw _ (List.mem_of_getElem? (i := 16) rfl))) (by decide) (backOf (W := 0) (rmA l Z a0 hw [] b30 b19 vp3 vr3 vp1 vr1 T40.heap n0 Z40 f42 Fa40 Fb40 f43 f44) hZ (hw _ (List.mem_of_getElem? (i := 18) rfl)) (hw _ (List.mem_of_getElem? (i := 3) rfl)) (by decide) (by decide)) qa53 qc53 (g := (mkF m 131 #[.val (.int x0), .val (.int x1), .val (.int x2), .val (.int x3), .val (.int x4), .val (.int (2147483647 : Int32)), .val (.int vp1), .val (.int vr1), .val (.int vp3), .val (.int vr3), .val (.ref b19), .val (.ref b30), .val (.int (1 : Int32)), .val (.int (own_eq vp1 vr1 vp3 vr3)), .unset, .unset, .unset, .unset] [(.ref b19), (.ref b30)])) rfl (by rw [hml]; rfl) (Steps.refl _) (argsL := [(.ref b19)]) (rest := []) (lenOf pd0_1 rfl) rfl (by show 2 * 0 + _ ≤ _; exact Nat.le_of_eq rfl) (hb hby at_131) (fun _ _ => ⟨rfl, e50, (by decide : 2 + 0 ≤ _), (by decide : 4 + 0 ≤ _)⟩)
      dsimp only [Pt.U, Pt.locs, Pt.cells, Pt.slots] at X53 l53 y53 z53 st53 hQ53
      subst l53 y53 z53
      obtain ⟨rfl, Nq53, e53⟩ := hQ53
      have N53 := Fr.app N50 Nq53
      have p54 : ∀ t, Steps p.tables e below (T53.setTop (mkF m 134 #[.val (.int x0), .val (.int x1), .val (.int x2), .val (.int x3), .val (.int x4), .val (.int (2147483647 : Int32)), .val (.int vp1), .val (.int vr1), .val (.int vp3), .val (.int vr3), .val (.ref b19), .val (.ref b30), .val (.int (1 : Int32)), .val (.int (own_eq vp1 vr1 vp3 vr3)), .unset, .unset, .unset, .unset] [(.int (own_eq vp3 vr3 vp1 vr1))])) t → Steps p.tables e below (s₁.setTop (entryFrame m #[(.int x0), (.int x1), (.int x2), (.int x3), (.int x4)] maxLocals)) t := fun t k => p52 t (st53.trans k)
      have p55 : ∀ t, Steps p.tables e below (T53.setTop (mkF m 140 #[.val (.int x0), .val (.int x1), .val (.int x2), .val (.int x3), .val (.int x4), .val (.int (2147483647 : Int32)), .val (.int vp1), .val (.int vr1), .val (.int vp3), .val (.int vr3), .val (.ref b19), .val (.ref b30), .val (.int (1 : Int32)), .val (.int (own_eq vp1 vr1 vp3 vr3)), .val (.int (own_eq vp3 vr3 vp1 vr1)), .unset, .unset, .unset] [(.ref b19), (.ref b19)])) t → Steps p.tables e below (s₁.setTop (entryFrame m #[(.int x0), (.int x1), (.int x2), (.int x3), (.int x4)] maxLocals)) t := fun t k => p54 t (by
        show Steps p.tables e below (T53.setTop (mkF m 134 #[.val (.int x0), .val (.int x1), .val (.int x2), .val (.int x3), .val (.int x4), .val (.int (2147483647 : Int32)), .val (.int vp1), .val (.int vr1), .val (.int vp3), .val (.int vr3), .val (.ref b19), .val (.ref b30), .val (.int (1 : Int32)), .val (.int (own_eq vp1 vr1 vp3 vr3)), .unset, .unset, .unset, .unset] [(.int (own_eq vp3 vr3 vp1 vr1))])) _
        refine XS.istore X53.here hx rfl (hb hby at_134) rfl (l' := #[.val (.int x0), .val (.int x1), .val (.int x2), .val (.int x3), .val (.int x4), .val (.int (2147483647 : Int32)), .val (.int vp1), .val (.int vr1), .val (.int vp3), .val (.int vr3), .val (.ref b19), .val (.ref b30), .val (.int (1 : Int32)), .val (.int (own_eq vp1 vr1 vp3 vr3)), .val (.int (own_eq vp3 vr3 vp1 vr1)), .unset, .unset, .unset]) rfl ?_
        show Steps p.tables e below (T53.setTop (mkF m 136 #[.val (.int x0), .val (.int x1), .val (.int x2), .val (.int x3), .val (.int x4), .val (.int (2147483647 : Int32)), .val (.int vp1), .val (.int vr1), .val (.int vp3), .val (.int vr3), .val (.ref b19), .val (.ref b30), .val (.int (1 : Int32)), .val (.int (own_eq vp1 vr1 vp3 vr3)), .val (.int (own_eq vp3 vr3 vp1 vr1)), .unset, .unset, .unset] [])) _
        refine XS.aload X53.here hx rfl (hb hby at_136) rfl rfl ?_
        show Steps p.tables e below (T53.setTop (mkF m 138 #[.val (.int x0), .val (.int x1), .val (.int x2), .val (.int x3), .val (.int x4), .val (.int (2147483647 : Int32)), .val (.int vp1), .val (.int vr1), .val (.int vp3), .val (.int vr3), .val (.ref b19), .val (.ref b30), .val (.int (1 : Int32)), .val (.int (own_eq vp1 vr1 vp3 vr3)), .val (.int (own_eq vp3 vr3 vp1 vr1)), .unset, .unset, .unset] [(.ref b19)])) _
        refine XS.aload X53.here hx rfl (hb hby at_138) rfl rfl ?_
        exact k)
      obtain ⟨cq56, kq56, qa56, qb56, qc56⟩ := isOf hZ e53 f42
      obtain ⟨_, _, ⟨T56, L56, k56, n56⟩, -, X56, ⟨Lc56, hQ56, l56, y56, z56⟩, st56⟩ := X53.virtualBack hx (y := (⟨"com/example/kvota/kvota/PartitionReplica", "equals", "(Ljava/lang/Object;)Z"⟩ : MethodName)) (z := (⟨"com/example/kvota/kvota/PartitionReplica", "equals", "(Ljava/lang/Object;)Z"⟩ : MethodName)) hown (mvT hZ (hw _ (List.mem_of_getElem? (i := 14) rfl))) (mvT hZ (hw _ (List.mem_of_getElem? (i := 15) rfl))) (notFace_of_selects (args := #[]) (mvT hZ (hw _ (List.mem_of_getElem? (i := 17) rfl)))) (mvT hZ (hw _ (List.mem_of_getElem? (i := 17) rfl))) (mvT hZ (hw _ (List.mem_of_getElem? (i := 16) rfl))) (by decide) (backOf (W := 0) (rmS l Z a0 hw [] b19 vp1 vr1 T40.heap n0 Z40 f42 f43 f44) hZ (hw _ (List.mem_of_getElem? (i := 18) rfl)) (hw _ (List.mem_of_getElem? (i := 3) rfl)) (by decide) (by decide)) qa56 qc56 (g := (mkF m 140 #[.val (.int x0), .val (.int x1), .val (.int x2), .val (.int x3), .val (.int x4), .val (.int (2147483647 : Int32)), .val (.int vp1), .val (.int vr1), .val (.int vp3), .val (.int vr3), .val (.ref b19), .val (.ref b30), .val (.int (1 : Int32)), .val (.int (own_eq vp1 vr1 vp3 vr3)), .val (.int (own_eq vp3 vr3 vp1 vr1)), .unset, .unset, .unset] [(.ref b19), (.ref b19)])) rfl (by rw [hml]; rfl) (Steps.refl _) (argsL := [(.ref b19)]) (rest := []) (lenOf pd0_1 rfl) rfl (by show 2 * 0 + _ ≤ _; exact Nat.le_of_eq rfl) (hb hby at_140) (fun _ _ => ⟨rfl, e53, (by decide : 2 + 0 ≤ _), (by decide : 4 + 0 ≤ _)⟩)
      dsimp only [Pt.U, Pt.locs, Pt.cells, Pt.slots] at X56 l56 y56 z56 st56 hQ56
      subst l56 y56 z56
      obtain ⟨rfl, Nq56, e56⟩ := hQ56
      have N56 := Fr.app N53 Nq56
      have p57 : ∀ t, Steps p.tables e below (T56.setTop (mkF m 143 #[.val (.int x0), .val (.int x1), .val (.int x2), .val (.int x3), .val (.int x4), .val (.int (2147483647 : Int32)), .val (.int vp1), .val (.int vr1), .val (.int vp3), .val (.int vr3), .val (.ref b19), .val (.ref b30), .val (.int (1 : Int32)), .val (.int (own_eq vp1 vr1 vp3 vr3)), .val (.int (own_eq vp3 vr3 vp1 vr1)), .unset, .unset, .unset] [(.int (1 : Int32))])) t → Steps p.tables e below (s₁.setTop (entryFrame m #[(.int x0), (.int x1), (.int x2), (.int x3), (.int x4)] maxLocals)) t := fun t k => p55 t (st56.trans k)
      have p58 : ∀ t, Steps p.tables e below (T56.setTop (mkF m 148 #[.val (.int x0), .val (.int x1), .val (.int x2), .val (.int x3), .val (.int x4), .val (.int (2147483647 : Int32)), .val (.int vp1), .val (.int vr1), .val (.int vp3), .val (.int vr3), .val (.ref b19), .val (.ref b30), .val (.int (1 : Int32)), .val (.int (own_eq vp1 vr1 vp3 vr3)), .val (.int (own_eq vp3 vr3 vp1 vr1)), .val (.int (1 : Int32)), .unset, .unset] [.null, (.ref b19)])) t → Steps p.tables e below (s₁.setTop (entryFrame m #[(.int x0), (.int x1), (.int x2), (.int x3), (.int x4)] maxLocals)) t := fun t k => p57 t (by
        show Steps p.tables e below (T56.setTop (mkF m 143 #[.val (.int x0), .val (.int x1), .val (.int x2), .val (.int x3), .val (.int x4), .val (.int (2147483647 : Int32)), .val (.int vp1), .val (.int vr1), .val (.int vp3), .val (.int vr3), .val (.ref b19), .val (.ref b30), .val (.int (1 : Int32)), .val (.int (own_eq vp1 vr1 vp3 vr3)), .val (.int (own_eq vp3 vr3 vp1 vr1)), .unset, .unset, .unset] [(.int (1 : Int32))])) _
        refine XS.istore X56.here hx rfl (hb hby at_143) rfl (l' := #[.val (.int x0), .val (.int x1), .val (.int x2), .val (.int x3), .val (.int x4), .val (.int (2147483647 : Int32)), .val (.int vp1), .val (.int vr1), .val (.int vp3), .val (.int vr3), .val (.ref b19), .val (.ref b30), .val (.int (1 : Int32)), .val (.int (own_eq vp1 vr1 vp3 vr3)), .val (.int (own_eq vp3 vr3 vp1 vr1)), .val (.int (1 : Int32)), .unset, .unset]) rfl ?_
        show Steps p.tables e below (T56.setTop (mkF m 145 #[.val (.int x0), .val (.int x1), .val (.int x2), .val (.int x3), .val (.int x4), .val (.int (2147483647 : Int32)), .val (.int vp1), .val (.int vr1), .val (.int vp3), .val (.int vr3), .val (.ref b19), .val (.ref b30), .val (.int (1 : Int32)), .val (.int (own_eq vp1 vr1 vp3 vr3)), .val (.int (own_eq vp3 vr3 vp1 vr1)), .val (.int (1 : Int32)), .unset, .unset] [])) _
        refine XS.aload X56.here hx rfl (hb hby at_145) rfl rfl ?_
        show Steps p.tables e below (T56.setTop (mkF m 147 #[.val (.int x0), .val (.int x1), .val (.int x2), .val (.int x3), .val (.int x4), .val (.int (2147483647 : Int32)), .val (.int vp1), .val (.int vr1), .val (.int vp3), .val (.int vr3), .val (.ref b19), .val (.ref b30), .val (.int (1 : Int32)), .val (.int (own_eq vp1 vr1 vp3 vr3)), .val (.int (own_eq vp3 vr3 vp1 vr1)), .val (.int (1 : Int32)), .unset, .unset] [(.ref b19)])) _
        refine XS.aconstNull X56.here hx rfl (hb hby at_147) ?_
        exact k)
      obtain ⟨cq59, kq59, qa59, qb59, qc59⟩ := isOf hZ e56 f42
      obtain ⟨_, _, ⟨T59, L59, k59, n59⟩, -, X59, ⟨Lc59, hQ59, l59, y59, z59⟩, st59⟩ := X56.virtualBack hx (y := (⟨"com/example/kvota/kvota/PartitionReplica", "equals", "(Ljava/lang/Object;)Z"⟩ : MethodName)) (z := (⟨"com/example/kvota/kvota/PartitionReplica", "equals", "(Ljava/lang/Object;)Z"⟩ : MethodName)) hown (mvT hZ (hw _ (List.mem_of_getElem? (i := 14) rfl))) (mvT hZ (hw _ (List.mem_of_getElem? (i := 15) rfl))) (notFace_of_selects (args := #[]) (mvT hZ (hw _ (List.mem_of_getElem? (i := 17) rfl)))) (mvT hZ (hw _ (List.mem_of_getElem? (i := 17) rfl))) (mvT hZ (hw _ (List.mem_of_getElem? (i := 16) rfl))) (by decide) (backOf (W := 0) (rmN l Z a0 hw [] b19  T40.heap n0 Z40 ) hZ (hw _ (List.mem_of_getElem? (i := 18) rfl)) (hw _ (List.mem_of_getElem? (i := 3) rfl)) (by decide) (by decide)) qa59 qc59 (g := (mkF m 148 #[.val (.int x0), .val (.int x1), .val (.int x2), .val (.int x3), .val (.int x4), .val (.int (2147483647 : Int32)), .val (.int vp1), .val (.int vr1), .val (.int vp3), .val (.int vr3), .val (.ref b19), .val (.ref b30), .val (.int (1 : Int32)), .val (.int (own_eq vp1 vr1 vp3 vr3)), .val (.int (own_eq vp3 vr3 vp1 vr1)), .val (.int (1 : Int32)), .unset, .unset] [.null, (.ref b19)])) rfl (by rw [hml]; rfl) (Steps.refl _) (argsL := [.null]) (rest := []) (lenOf pd0_1 rfl) rfl (by show 2 * 0 + _ ≤ _; exact Nat.le_of_eq rfl) (hb hby at_148) (fun _ _ => ⟨rfl, e56, (by decide : 2 + 0 ≤ _), (by decide : 4 + 0 ≤ _)⟩)
      dsimp only [Pt.U, Pt.locs, Pt.cells, Pt.slots] at X59 l59 y59 z59 st59 hQ59
      subst l59 y59 z59
      obtain ⟨rfl, Nq59, e59⟩ := hQ59
      have N59 := Fr.app N56 Nq59
      have p60 : ∀ t, Steps p.tables e below (T59.setTop (mkF m 151 #[.val (.int x0), .val (.int x1), .val (.int x2), .val (.int x3), .val (.int x4), .val (.int (2147483647 : Int32)), .val (.int vp1), .val (.int vr1), .val (.int vp3), .val (.int vr3), .val (.ref b19), .val (.ref b30), .val (.int (1 : Int32)), .val (.int (own_eq vp1 vr1 vp3 vr3)), .val (.int (own_eq vp3 vr3 vp1 vr1)), .val (.int (1 : Int32)), .unset, .unset] [(.int (0 : Int32))])) t → Steps p.tables e below (s₁.setTop (entryFrame m #[(.int x0), (.int x1), (.int x2), (.int x3), (.int x4)] maxLocals)) t := fun t k => p58 t (st59.trans k)
      have p61 : ∀ t, Steps p.tables e below (T59.setTop (mkF m 157 #[.val (.int x0), .val (.int x1), .val (.int x2), .val (.int x3), .val (.int x4), .val (.int (2147483647 : Int32)), .val (.int vp1), .val (.int vr1), .val (.int vp3), .val (.int vr3), .val (.ref b19), .val (.ref b30), .val (.int (1 : Int32)), .val (.int (own_eq vp1 vr1 vp3 vr3)), .val (.int (own_eq vp3 vr3 vp1 vr1)), .val (.int (1 : Int32)), .val (.int (0 : Int32)), .unset] [(.int vp1), (.ref b19)])) t → Steps p.tables e below (s₁.setTop (entryFrame m #[(.int x0), (.int x1), (.int x2), (.int x3), (.int x4)] maxLocals)) t := fun t k => p60 t (by
        show Steps p.tables e below (T59.setTop (mkF m 151 #[.val (.int x0), .val (.int x1), .val (.int x2), .val (.int x3), .val (.int x4), .val (.int (2147483647 : Int32)), .val (.int vp1), .val (.int vr1), .val (.int vp3), .val (.int vr3), .val (.ref b19), .val (.ref b30), .val (.int (1 : Int32)), .val (.int (own_eq vp1 vr1 vp3 vr3)), .val (.int (own_eq vp3 vr3 vp1 vr1)), .val (.int (1 : Int32)), .unset, .unset] [(.int (0 : Int32))])) _
        refine XS.istore X59.here hx rfl (hb hby at_151) rfl (l' := #[.val (.int x0), .val (.int x1), .val (.int x2), .val (.int x3), .val (.int x4), .val (.int (2147483647 : Int32)), .val (.int vp1), .val (.int vr1), .val (.int vp3), .val (.int vr3), .val (.ref b19), .val (.ref b30), .val (.int (1 : Int32)), .val (.int (own_eq vp1 vr1 vp3 vr3)), .val (.int (own_eq vp3 vr3 vp1 vr1)), .val (.int (1 : Int32)), .val (.int (0 : Int32)), .unset]) rfl ?_
        show Steps p.tables e below (T59.setTop (mkF m 153 #[.val (.int x0), .val (.int x1), .val (.int x2), .val (.int x3), .val (.int x4), .val (.int (2147483647 : Int32)), .val (.int vp1), .val (.int vr1), .val (.int vp3), .val (.int vr3), .val (.ref b19), .val (.ref b30), .val (.int (1 : Int32)), .val (.int (own_eq vp1 vr1 vp3 vr3)), .val (.int (own_eq vp3 vr3 vp1 vr1)), .val (.int (1 : Int32)), .val (.int (0 : Int32)), .unset] [])) _
        refine XS.aload X59.here hx rfl (hb hby at_153) rfl rfl ?_
        show Steps p.tables e below (T59.setTop (mkF m 155 #[.val (.int x0), .val (.int x1), .val (.int x2), .val (.int x3), .val (.int x4), .val (.int (2147483647 : Int32)), .val (.int vp1), .val (.int vr1), .val (.int vp3), .val (.int vr3), .val (.ref b19), .val (.ref b30), .val (.int (1 : Int32)), .val (.int (own_eq vp1 vr1 vp3 vr3)), .val (.int (own_eq vp3 vr3 vp1 vr1)), .val (.int (1 : Int32)), .val (.int (0 : Int32)), .unset] [(.ref b19)])) _
        refine XS.iload X59.here hx rfl (hb hby at_155) rfl ?_
        exact k)
      obtain ⟨_, _, ⟨T62, L62, k62, n62⟩, -, X62, ⟨Lc62, hQ62, l62, y62, z62⟩, st62⟩ := Jvm.LawKit.callS X59 hx (y := (⟨"java/lang/Integer", "valueOf", "(I)Ljava/lang/Integer;"⟩ : MethodName)) hown (mvT hZ (hw _ (List.mem_of_getElem? (i := 21) rfl))) (mvT hZ (hw _ (List.mem_of_getElem? (i := 22) rfl))) (mvT hZ (hw _ (List.mem_of_getElem? (i := 23) rfl))) (mvT hZ (hw _ (List.mem_of_getElem? (i := 24) rfl))) (by decide) (backOf (W := 1) (rmV l Z a0 hw [] vp1 a_C cc own_val T40.heap n0 Z40 h0vp1 f41 S_h S_c B0) hZ (hw _ (List.mem_of_getElem? (i := 24) rfl)) (hw _ (List.mem_of_getElem? (i := 23) rfl)) (by decide) (by decide)) (g := (mkF m 157 #[.val (.int x0), .val (.int x1), .val (.int x2), .val (.int x3), .val (.int x4), .val (.int (2147483647 : Int32)), .val (.int vp1), .val (.int vr1), .val (.int vp3), .val (.int vr3), .val (.ref b19), .val (.ref b30), .val (.int (1 : Int32)), .val (.int (own_eq vp1 vr1 vp3 vr3)), .val (.int (own_eq vp3 vr3 vp1 vr1)), .val (.int (1 : Int32)), .val (.int (0 : Int32)), .unset] [(.int vp1), (.ref b19)])) rfl (by rw [hml]; rfl) (argsL := [(.int vp1)]) (rest := [(.ref b19)]) (lenOf pd0_2 rfl) rfl (by show 2 * 0 + _ ≤ _; exact Nat.le_of_eq rfl) (hb hby at_157) (fun _ _ => ⟨rfl, e59, (by decide : 2 + 1 ≤ _), (by decide : 4 + 1 ≤ _)⟩)
      dsimp only [Pt.U, Pt.locs, Pt.cells, Pt.slots] at X62 l62 y62 z62 st62 hQ62
      subst l62 y62 z62
      obtain ⟨r62, rfl, Nq62, K62, EI62⟩ := hQ62
      have N62 := Fr.app N59 Nq62
      have f63 := f41.keep K62 (all0)
      have f64 := f42.keep K62
      have f65 := f43.keep K62 nin0
      have f66 := f44.keep K62 nin0
      have f67 := f45.keep K62
      have f68 := Fa40.keep K62 nin0
      have f69 := Fb40.keep K62 nin0
      have Z62 := Nat.le_trans Z40 K62.1
      have p70 : ∀ t, Steps p.tables e below (T62.setTop (mkF m 160 #[.val (.int x0), .val (.int x1), .val (.int x2), .val (.int x3), .val (.int x4), .val (.int (2147483647 : Int32)), .val (.int vp1), .val (.int vr1), .val (.int vp3), .val (.int vr3), .val (.ref b19), .val (.ref b30), .val (.int (1 : Int32)), .val (.int (own_eq vp1 vr1 vp3 vr3)), .val (.int (own_eq vp3 vr3 vp1 vr1)), .val (.int (1 : Int32)), .val (.int (0 : Int32)), .unset] [(.ref r62), (.ref b19)])) t → Steps p.tables e below (s₁.setTop (entryFrame m #[(.int x0), (.int x1), (.int x2), (.int x3), (.int x4)] maxLocals)) t := fun t k => p61 t (st62 _ k)
      obtain ⟨cq71, kq71, qa71, qb71, qc71⟩ := isOf hZ rfl f64
      obtain ⟨_, _, ⟨T71, L71, k71, n71⟩, -, X71, ⟨Lc71, hQ71, l71, y71, z71⟩, st71⟩ := X62.virtualBack hx (y := (⟨"com/example/kvota/kvota/PartitionReplica", "equals", "(Ljava/lang/Object;)Z"⟩ : MethodName)) (z := (⟨"com/example/kvota/kvota/PartitionReplica", "equals", "(Ljava/lang/Object;)Z"⟩ : MethodName)) hown (mvT hZ (hw _ (List.mem_of_getElem? (i := 14) rfl))) (mvT hZ (hw _ (List.mem_of_getElem? (i := 15) rfl))) (notFace_of_selects (args := #[]) (mvT hZ (hw _ (List.mem_of_getElem? (i := 17) rfl)))) (mvT hZ (hw _ (List.mem_of_getElem? (i := 17) rfl))) (mvT hZ (hw _ (List.mem_of_getElem? (i := 16) rfl))) (by decide) (backOf (W := 0) (rmO l Z a0 hw [] b19 r62  T62.heap n0 Z62 EI62 hno) hZ (hw _ (List.mem_of_getElem? (i := 18) rfl)) (hw _ (List.mem_of_getElem? (i := 3) rfl)) (by decide) (by decide)) qa71 qc71 (g := (mkF m 160 #[.val (.int x0), .val (.int x1), .val (.int x2), .val (.int x3), .val (.int x4), .val (.int (2147483647 : Int32)), .val (.int vp1), .val (.int vr1), .val (.int vp3), .val (.int vr3), .val (.ref b19), .val (.ref b30), .val (.int (1 : Int32)), .val (.int (own_eq vp1 vr1 vp3 vr3)), .val (.int (own_eq vp3 vr3 vp1 vr1)), .val (.int (1 : Int32)), .val (.int (0 : Int32)), .unset] [(.ref r62), (.ref b19)])) rfl (by rw [hml]; rfl) (Steps.refl _) (argsL := [(.ref r62)]) (rest := []) (lenOf pd0_1 rfl) rfl (by show 2 * 0 + _ ≤ _; exact Nat.le_of_eq rfl) (hb hby at_160) (fun _ _ => ⟨rfl, rfl, (by decide : 3 + 0 ≤ _), (by decide : 5 + 0 ≤ _)⟩)
      dsimp only [Pt.U, Pt.locs, Pt.cells, Pt.slots] at X71 l71 y71 z71 st71 hQ71
      subst l71 y71 z71
      obtain ⟨rfl, Nq71, e71⟩ := hQ71
      have N71 := Fr.app N62 Nq71
      have p72 : ∀ t, Steps p.tables e below (T71.setTop (mkF m 163 #[.val (.int x0), .val (.int x1), .val (.int x2), .val (.int x3), .val (.int x4), .val (.int (2147483647 : Int32)), .val (.int vp1), .val (.int vr1), .val (.int vp3), .val (.int vr3), .val (.ref b19), .val (.ref b30), .val (.int (1 : Int32)), .val (.int (own_eq vp1 vr1 vp3 vr3)), .val (.int (own_eq vp3 vr3 vp1 vr1)), .val (.int (1 : Int32)), .val (.int (0 : Int32)), .unset] [(.int (0 : Int32))])) t → Steps p.tables e below (s₁.setTop (entryFrame m #[(.int x0), (.int x1), (.int x2), (.int x3), (.int x4)] maxLocals)) t := fun t k => p70 t (st71.trans k)
      have p73 : ∀ t, Steps p.tables e below (T71.setTop (mkF m 199 #[.val (.int x0), .val (.int x1), .val (.int x2), .val (.int x3), .val (.int x4), .val (.int (2147483647 : Int32)), .val (.int vp1), .val (.int vr1), .val (.int vp3), .val (.int vr3), .val (.ref b19), .val (.ref b30), .val (.int (1 : Int32)), .val (.int (own_eq vp1 vr1 vp3 vr3)), .val (.int (own_eq vp3 vr3 vp1 vr1)), .val (.int (1 : Int32)), .val (.int (0 : Int32)), .val (.int (0 : Int32))] [(.int (1 : Int32))])) t → Steps p.tables e below (s₁.setTop (entryFrame m #[(.int x0), (.int x1), (.int x2), (.int x3), (.int x4)] maxLocals)) t := fun t k => p72 t (by
        show Steps p.tables e below (T71.setTop (mkF m 163 #[.val (.int x0), .val (.int x1), .val (.int x2), .val (.int x3), .val (.int x4), .val (.int (2147483647 : Int32)), .val (.int vp1), .val (.int vr1), .val (.int vp3), .val (.int vr3), .val (.ref b19), .val (.ref b30), .val (.int (1 : Int32)), .val (.int (own_eq vp1 vr1 vp3 vr3)), .val (.int (own_eq vp3 vr3 vp1 vr1)), .val (.int (1 : Int32)), .val (.int (0 : Int32)), .unset] [(.int (0 : Int32))])) _
        refine XS.istore X71.here hx rfl (hb hby at_163) rfl (l' := #[.val (.int x0), .val (.int x1), .val (.int x2), .val (.int x3), .val (.int x4), .val (.int (2147483647 : Int32)), .val (.int vp1), .val (.int vr1), .val (.int vp3), .val (.int vr3), .val (.ref b19), .val (.ref b30), .val (.int (1 : Int32)), .val (.int (own_eq vp1 vr1 vp3 vr3)), .val (.int (own_eq vp3 vr3 vp1 vr1)), .val (.int (1 : Int32)), .val (.int (0 : Int32)), .val (.int (0 : Int32))]) rfl ?_
        show Steps p.tables e below (T71.setTop (mkF m 165 #[.val (.int x0), .val (.int x1), .val (.int x2), .val (.int x3), .val (.int x4), .val (.int (2147483647 : Int32)), .val (.int vp1), .val (.int vr1), .val (.int vp3), .val (.int vr3), .val (.ref b19), .val (.ref b30), .val (.int (1 : Int32)), .val (.int (own_eq vp1 vr1 vp3 vr3)), .val (.int (own_eq vp3 vr3 vp1 vr1)), .val (.int (1 : Int32)), .val (.int (0 : Int32)), .val (.int (0 : Int32))] [])) _
        refine XS.iload X71.here hx rfl (hb hby at_165) rfl ?_
        show Steps p.tables e below (T71.setTop (mkF m 167 #[.val (.int x0), .val (.int x1), .val (.int x2), .val (.int x3), .val (.int x4), .val (.int (2147483647 : Int32)), .val (.int vp1), .val (.int vr1), .val (.int vp3), .val (.int vr3), .val (.ref b19), .val (.ref b30), .val (.int (1 : Int32)), .val (.int (own_eq vp1 vr1 vp3 vr3)), .val (.int (own_eq vp3 vr3 vp1 vr1)), .val (.int (1 : Int32)), .val (.int (0 : Int32)), .val (.int (0 : Int32))] [(.int (own_eq vp1 vr1 vp3 vr3))])) _
        refine XS.iload X71.here hx rfl (hb hby at_167) rfl ?_
        show Steps p.tables e below (T71.setTop (mkF m 169 #[.val (.int x0), .val (.int x1), .val (.int x2), .val (.int x3), .val (.int x4), .val (.int (2147483647 : Int32)), .val (.int vp1), .val (.int vr1), .val (.int vp3), .val (.int vr3), .val (.ref b19), .val (.ref b30), .val (.int (1 : Int32)), .val (.int (own_eq vp1 vr1 vp3 vr3)), .val (.int (own_eq vp3 vr3 vp1 vr1)), .val (.int (1 : Int32)), .val (.int (0 : Int32)), .val (.int (0 : Int32))] [(.int (1 : Int32)), (.int (own_eq vp1 vr1 vp3 vr3))])) _
        refine XS.icmpNo X71.here hx rfl (hb hby at_169) rfl ((teq (by unfold own_eq; rw [if_pos (Eq.symm hc101), if_pos (Eq.symm hc108)])).2) ?_
        show Steps p.tables e below (T71.setTop (mkF m 172 #[.val (.int x0), .val (.int x1), .val (.int x2), .val (.int x3), .val (.int x4), .val (.int (2147483647 : Int32)), .val (.int vp1), .val (.int vr1), .val (.int vp3), .val (.int vr3), .val (.ref b19), .val (.ref b30), .val (.int (1 : Int32)), .val (.int (own_eq vp1 vr1 vp3 vr3)), .val (.int (own_eq vp3 vr3 vp1 vr1)), .val (.int (1 : Int32)), .val (.int (0 : Int32)), .val (.int (0 : Int32))] [])) _
        refine XS.iload X71.here hx rfl (hb hby at_172) rfl ?_
        show Steps p.tables e below (T71.setTop (mkF m 174 #[.val (.int x0), .val (.int x1), .val (.int x2), .val (.int x3), .val (.int x4), .val (.int (2147483647 : Int32)), .val (.int vp1), .val (.int vr1), .val (.int vp3), .val (.int vr3), .val (.ref b19), .val (.ref b30), .val (.int (1 : Int32)), .val (.int (own_eq vp1 vr1 vp3 vr3)), .val (.int (own_eq vp3 vr3 vp1 vr1)), .val (.int (1 : Int32)), .val (.int (0 : Int32)), .val (.int (0 : Int32))] [(.int (own_eq vp3 vr3 vp1 vr1))])) _
        refine XS.iload X71.here hx rfl (hb hby at_174) rfl ?_
        show Steps p.tables e below (T71.setTop (mkF m 176 #[.val (.int x0), .val (.int x1), .val (.int x2), .val (.int x3), .val (.int x4), .val (.int (2147483647 : Int32)), .val (.int vp1), .val (.int vr1), .val (.int vp3), .val (.int vr3), .val (.ref b19), .val (.ref b30), .val (.int (1 : Int32)), .val (.int (own_eq vp1 vr1 vp3 vr3)), .val (.int (own_eq vp3 vr3 vp1 vr1)), .val (.int (1 : Int32)), .val (.int (0 : Int32)), .val (.int (0 : Int32))] [(.int (1 : Int32)), (.int (own_eq vp3 vr3 vp1 vr1))])) _
        refine XS.icmpNo X71.here hx rfl (hb hby at_176) rfl ((teq (by unfold own_eq; rw [if_pos hc101, if_pos hc108])).2) ?_
        show Steps p.tables e below (T71.setTop (mkF m 179 #[.val (.int x0), .val (.int x1), .val (.int x2), .val (.int x3), .val (.int x4), .val (.int (2147483647 : Int32)), .val (.int vp1), .val (.int vr1), .val (.int vp3), .val (.int vr3), .val (.ref b19), .val (.ref b30), .val (.int (1 : Int32)), .val (.int (own_eq vp1 vr1 vp3 vr3)), .val (.int (own_eq vp3 vr3 vp1 vr1)), .val (.int (1 : Int32)), .val (.int (0 : Int32)), .val (.int (0 : Int32))] [])) _
        refine XS.iload X71.here hx rfl (hb hby at_179) rfl ?_
        show Steps p.tables e below (T71.setTop (mkF m 181 #[.val (.int x0), .val (.int x1), .val (.int x2), .val (.int x3), .val (.int x4), .val (.int (2147483647 : Int32)), .val (.int vp1), .val (.int vr1), .val (.int vp3), .val (.int vr3), .val (.ref b19), .val (.ref b30), .val (.int (1 : Int32)), .val (.int (own_eq vp1 vr1 vp3 vr3)), .val (.int (own_eq vp3 vr3 vp1 vr1)), .val (.int (1 : Int32)), .val (.int (0 : Int32)), .val (.int (0 : Int32))] [(.int (1 : Int32))])) _
        refine XS.ifNo X71.here hx rfl (hb hby at_181) rfl ((if0 _ _).trans (feq (by decide)).1) ?_
        show Steps p.tables e below (T71.setTop (mkF m 184 #[.val (.int x0), .val (.int x1), .val (.int x2), .val (.int x3), .val (.int x4), .val (.int (2147483647 : Int32)), .val (.int vp1), .val (.int vr1), .val (.int vp3), .val (.int vr3), .val (.ref b19), .val (.ref b30), .val (.int (1 : Int32)), .val (.int (own_eq vp1 vr1 vp3 vr3)), .val (.int (own_eq vp3 vr3 vp1 vr1)), .val (.int (1 : Int32)), .val (.int (0 : Int32)), .val (.int (0 : Int32))] [])) _
        refine XS.iload X71.here hx rfl (hb hby at_184) rfl ?_
        show Steps p.tables e below (T71.setTop (mkF m 186 #[.val (.int x0), .val (.int x1), .val (.int x2), .val (.int x3), .val (.int x4), .val (.int (2147483647 : Int32)), .val (.int vp1), .val (.int vr1), .val (.int vp3), .val (.int vr3), .val (.ref b19), .val (.ref b30), .val (.int (1 : Int32)), .val (.int (own_eq vp1 vr1 vp3 vr3)), .val (.int (own_eq vp3 vr3 vp1 vr1)), .val (.int (1 : Int32)), .val (.int (0 : Int32)), .val (.int (0 : Int32))] [(.int (0 : Int32))])) _
        refine XS.ifNo X71.here hx rfl (hb hby at_186) rfl ((if0 _ _).trans (teq (rfl)).2) ?_
        show Steps p.tables e below (T71.setTop (mkF m 189 #[.val (.int x0), .val (.int x1), .val (.int x2), .val (.int x3), .val (.int x4), .val (.int (2147483647 : Int32)), .val (.int vp1), .val (.int vr1), .val (.int vp3), .val (.int vr3), .val (.ref b19), .val (.ref b30), .val (.int (1 : Int32)), .val (.int (own_eq vp1 vr1 vp3 vr3)), .val (.int (own_eq vp3 vr3 vp1 vr1)), .val (.int (1 : Int32)), .val (.int (0 : Int32)), .val (.int (0 : Int32))] [])) _
        refine XS.iload X71.here hx rfl (hb hby at_189) rfl ?_
        show Steps p.tables e below (T71.setTop (mkF m 191 #[.val (.int x0), .val (.int x1), .val (.int x2), .val (.int x3), .val (.int x4), .val (.int (2147483647 : Int32)), .val (.int vp1), .val (.int vr1), .val (.int vp3), .val (.int vr3), .val (.ref b19), .val (.ref b30), .val (.int (1 : Int32)), .val (.int (own_eq vp1 vr1 vp3 vr3)), .val (.int (own_eq vp3 vr3 vp1 vr1)), .val (.int (1 : Int32)), .val (.int (0 : Int32)), .val (.int (0 : Int32))] [(.int (0 : Int32))])) _
        refine XS.ifNo X71.here hx rfl (hb hby at_191) rfl ((if0 _ _).trans (teq (rfl)).2) ?_
        show Steps p.tables e below (T71.setTop (mkF m 194 #[.val (.int x0), .val (.int x1), .val (.int x2), .val (.int x3), .val (.int x4), .val (.int (2147483647 : Int32)), .val (.int vp1), .val (.int vr1), .val (.int vp3), .val (.int vr3), .val (.ref b19), .val (.ref b30), .val (.int (1 : Int32)), .val (.int (own_eq vp1 vr1 vp3 vr3)), .val (.int (own_eq vp3 vr3 vp1 vr1)), .val (.int (1 : Int32)), .val (.int (0 : Int32)), .val (.int (0 : Int32))] [])) _
        refine XS.iconst X71.here hx rfl (hb hby at_194) ?_
        show Steps p.tables e below (T71.setTop (mkF m 195 #[.val (.int x0), .val (.int x1), .val (.int x2), .val (.int x3), .val (.int x4), .val (.int (2147483647 : Int32)), .val (.int vp1), .val (.int vr1), .val (.int vp3), .val (.int vr3), .val (.ref b19), .val (.ref b30), .val (.int (1 : Int32)), .val (.int (own_eq vp1 vr1 vp3 vr3)), .val (.int (own_eq vp3 vr3 vp1 vr1)), .val (.int (1 : Int32)), .val (.int (0 : Int32)), .val (.int (0 : Int32))] [(.int (1 : Int32))])) _
        refine XS.goto X71.here hx rfl (pc0 := 195) (pc' := 199) rfl (hb hby at_195) (by decide) (by decide) ?_
        exact k)
      obtain ⟨fs, hr, hrun, hended, hW, hsame⟩ := X71.leave (v := some (.int (1 : Int32))) (fun h => by rw [Bd.returns] at h; cases h)
      refine ⟨_, _, p73 _ ?_, hrun, hended, _, _, rfl, ?_, ⟨_, rfl⟩, hW, hsame.mono (by decide) (by decide)⟩
      · show Steps p.tables e below (T71.setTop (mkF m 199 #[.val (.int x0), .val (.int x1), .val (.int x2), .val (.int x3), .val (.int x4), .val (.int (2147483647 : Int32)), .val (.int vp1), .val (.int vr1), .val (.int vp3), .val (.int vr3), .val (.ref b19), .val (.ref b30), .val (.int (1 : Int32)), .val (.int (own_eq vp1 vr1 vp3 vr3)), .val (.int (own_eq vp3 vr3 vp1 vr1)), .val (.int (1 : Int32)), .val (.int (0 : Int32)), .val (.int (0 : Int32))] [(.int (1 : Int32))])) _
        exact retN X71 hx (t := .boolean) Bd.returns (by simp) (hb hby at_199) hr
      · show Q0 Z x0 x1 x2 x3 x4 a_C cc own_val h0 n0 _ T71.heap _
        rw [e71]
        exact ⟨rfl, N71⟩
    · have p74 : ∀ t, Steps p.tables e below (T40.setTop (mkF m 122 #[.val (.int x0), .val (.int x1), .val (.int x2), .val (.int x3), .val (.int x4), .val (.int (2147483647 : Int32)), .val (.int vp1), .val (.int vr1), .val (.int vp3), .val (.int vr3), .val (.ref b19), .val (.ref b30), .val (.int (0 : Int32)), .unset, .unset, .unset, .unset, .unset] [(.ref b30), (.ref b19)])) t → Steps p.tables e below (s₁.setTop (entryFrame m #[(.int x0), (.int x1), (.int x2), (.int x3), (.int x4)] maxLocals)) t := fun t k => p48 t (by
        show Steps p.tables e below (T40.setTop (mkF m 108 #[.val (.int x0), .val (.int x1), .val (.int x2), .val (.int x3), .val (.int x4), .val (.int (2147483647 : Int32)), .val (.int vp1), .val (.int vr1), .val (.int vp3), .val (.int vr3), .val (.ref b19), .val (.ref b30), .unset, .unset, .unset, .unset, .unset, .unset] [(.int vr3), (.int vr1)])) _
        refine XS.icmpYes X40.here hx rfl (pc0 := 108) (pc' := 115) rfl (hb hby at_108) rfl ((feq (hc108)).2) (by decide) (by decide) ?_
        show Steps p.tables e below (T40.setTop (mkF m 115 #[.val (.int x0), .val (.int x1), .val (.int x2), .val (.int x3), .val (.int x4), .val (.int (2147483647 : Int32)), .val (.int vp1), .val (.int vr1), .val (.int vp3), .val (.int vr3), .val (.ref b19), .val (.ref b30), .unset, .unset, .unset, .unset, .unset, .unset] [])) _
        refine XS.iconst X40.here hx rfl (hb hby at_115) ?_
        show Steps p.tables e below (T40.setTop (mkF m 116 #[.val (.int x0), .val (.int x1), .val (.int x2), .val (.int x3), .val (.int x4), .val (.int (2147483647 : Int32)), .val (.int vp1), .val (.int vr1), .val (.int vp3), .val (.int vr3), .val (.ref b19), .val (.ref b30), .unset, .unset, .unset, .unset, .unset, .unset] [(.int (0 : Int32))])) _
        refine XS.istore X40.here hx rfl (hb hby at_116) rfl (l' := #[.val (.int x0), .val (.int x1), .val (.int x2), .val (.int x3), .val (.int x4), .val (.int (2147483647 : Int32)), .val (.int vp1), .val (.int vr1), .val (.int vp3), .val (.int vr3), .val (.ref b19), .val (.ref b30), .val (.int (0 : Int32)), .unset, .unset, .unset, .unset, .unset]) rfl ?_
        show Steps p.tables e below (T40.setTop (mkF m 118 #[.val (.int x0), .val (.int x1), .val (.int x2), .val (.int x3), .val (.int x4), .val (.int (2147483647 : Int32)), .val (.int vp1), .val (.int vr1), .val (.int vp3), .val (.int vr3), .val (.ref b19), .val (.ref b30), .val (.int (0 : Int32)), .unset, .unset, .unset, .unset, .unset] [])) _
        refine XS.aload X40.here hx rfl (hb hby at_118) rfl rfl ?_
        show Steps p.tables e below (T40.setTop (mkF m 120 #[.val (.int x0), .val (.int x1), .val (.int x2), .val (.int x3), .val (.int x4), .val (.int (2147483647 : Int32)), .val (.int vp1), .val (.int vr1), .val (.int vp3), .val (.int vr3), .val (.ref b19), .val (.ref b30), .val (.int (0 : Int32)), .unset, .unset, .unset, .unset, .unset] [(.ref b19)])) _
        refine XS.aload X40.here hx rfl (hb hby at_120) rfl rfl ?_
        exact k)
      obtain ⟨cq75, kq75, qa75, qb75, qc75⟩ := isOf hZ rfl f42
      obtain ⟨_, _, ⟨T75, L75, k75, n75⟩, -, X75, ⟨Lc75, hQ75, l75, y75, z75⟩, st75⟩ := X40.virtualBack hx (y := (⟨"com/example/kvota/kvota/PartitionReplica", "equals", "(Ljava/lang/Object;)Z"⟩ : MethodName)) (z := (⟨"com/example/kvota/kvota/PartitionReplica", "equals", "(Ljava/lang/Object;)Z"⟩ : MethodName)) hown (mvT hZ (hw _ (List.mem_of_getElem? (i := 14) rfl))) (mvT hZ (hw _ (List.mem_of_getElem? (i := 15) rfl))) (notFace_of_selects (args := #[]) (mvT hZ (hw _ (List.mem_of_getElem? (i := 17) rfl)))) (mvT hZ (hw _ (List.mem_of_getElem? (i := 17) rfl))) (mvT hZ (hw _ (List.mem_of_getElem? (i := 16) rfl))) (by decide) (backOf (W := 0) (rmA l Z a0 hw [] b19 b30 vp1 vr1 vp3 vr3 T40.heap n0 Z40 f45 f43 f44 Fa40 Fb40) hZ (hw _ (List.mem_of_getElem? (i := 18) rfl)) (hw _ (List.mem_of_getElem? (i := 3) rfl)) (by decide) (by decide)) qa75 qc75 (g := (mkF m 122 #[.val (.int x0), .val (.int x1), .val (.int x2), .val (.int x3), .val (.int x4), .val (.int (2147483647 : Int32)), .val (.int vp1), .val (.int vr1), .val (.int vp3), .val (.int vr3), .val (.ref b19), .val (.ref b30), .val (.int (0 : Int32)), .unset, .unset, .unset, .unset, .unset] [(.ref b30), (.ref b19)])) rfl (by rw [hml]; rfl) (Steps.refl _) (argsL := [(.ref b30)]) (rest := []) (lenOf pd0_1 rfl) rfl (by show 2 * 0 + _ ≤ _; exact Nat.le_of_eq rfl) (hb hby at_122) (fun _ _ => ⟨rfl, rfl, (by decide : 2 + 0 ≤ _), (by decide : 4 + 0 ≤ _)⟩)
      dsimp only [Pt.U, Pt.locs, Pt.cells, Pt.slots] at X75 l75 y75 z75 st75 hQ75
      subst l75 y75 z75
      obtain ⟨rfl, Nq75, e75⟩ := hQ75
      have N75 := Fr.app N40 Nq75
      have p76 : ∀ t, Steps p.tables e below (T75.setTop (mkF m 125 #[.val (.int x0), .val (.int x1), .val (.int x2), .val (.int x3), .val (.int x4), .val (.int (2147483647 : Int32)), .val (.int vp1), .val (.int vr1), .val (.int vp3), .val (.int vr3), .val (.ref b19), .val (.ref b30), .val (.int (0 : Int32)), .unset, .unset, .unset, .unset, .unset] [(.int (own_eq vp1 vr1 vp3 vr3))])) t → Steps p.tables e below (s₁.setTop (entryFrame m #[(.int x0), (.int x1), (.int x2), (.int x3), (.int x4)] maxLocals)) t := fun t k => p74 t (st75.trans k)
      have p77 : ∀ t, Steps p.tables e below (T75.setTop (mkF m 131 #[.val (.int x0), .val (.int x1), .val (.int x2), .val (.int x3), .val (.int x4), .val (.int (2147483647 : Int32)), .val (.int vp1), .val (.int vr1), .val (.int vp3), .val (.int vr3), .val (.ref b19), .val (.ref b30), .val (.int (0 : Int32)), .val (.int (own_eq vp1 vr1 vp3 vr3)), .unset, .unset, .unset, .unset] [(.ref b19), (.ref b30)])) t → Steps p.tables e below (s₁.setTop (entryFrame m #[(.int x0), (.int x1), (.int x2), (.int x3), (.int x4)] maxLocals)) t := fun t k => p76 t (by
        show Steps p.tables e below (T75.setTop (mkF m 125 #[.val (.int x0), .val (.int x1), .val (.int x2), .val (.int x3), .val (.int x4), .val (.int (2147483647 : Int32)), .val (.int vp1), .val (.int vr1), .val (.int vp3), .val (.int vr3), .val (.ref b19), .val (.ref b30), .val (.int (0 : Int32)), .unset, .unset, .unset, .unset, .unset] [(.int (own_eq vp1 vr1 vp3 vr3))])) _
        refine XS.istore X75.here hx rfl (hb hby at_125) rfl (l' := #[.val (.int x0), .val (.int x1), .val (.int x2), .val (.int x3), .val (.int x4), .val (.int (2147483647 : Int32)), .val (.int vp1), .val (.int vr1), .val (.int vp3), .val (.int vr3), .val (.ref b19), .val (.ref b30), .val (.int (0 : Int32)), .val (.int (own_eq vp1 vr1 vp3 vr3)), .unset, .unset, .unset, .unset]) rfl ?_
        show Steps p.tables e below (T75.setTop (mkF m 127 #[.val (.int x0), .val (.int x1), .val (.int x2), .val (.int x3), .val (.int x4), .val (.int (2147483647 : Int32)), .val (.int vp1), .val (.int vr1), .val (.int vp3), .val (.int vr3), .val (.ref b19), .val (.ref b30), .val (.int (0 : Int32)), .val (.int (own_eq vp1 vr1 vp3 vr3)), .unset, .unset, .unset, .unset] [])) _
        refine XS.aload X75.here hx rfl (hb hby at_127) rfl rfl ?_
        show Steps p.tables e below (T75.setTop (mkF m 129 #[.val (.int x0), .val (.int x1), .val (.int x2), .val (.int x3), .val (.int x4), .val (.int (2147483647 : Int32)), .val (.int vp1), .val (.int vr1), .val (.int vp3), .val (.int vr3), .val (.ref b19), .val (.ref b30), .val (.int (0 : Int32)), .val (.int (own_eq vp1 vr1 vp3 vr3)), .unset, .unset, .unset, .unset] [(.ref b30)])) _
        refine XS.aload X75.here hx rfl (hb hby at_129) rfl rfl ?_
        exact k)
      obtain ⟨cq78, kq78, qa78, qb78, qc78⟩ := isOf hZ e75 f45
      obtain ⟨_, _, ⟨T78, L78, k78, n78⟩, -, X78, ⟨Lc78, hQ78, l78, y78, z78⟩, st78⟩ := X75.virtualBack hx (y := (⟨"com/example/kvota/kvota/PartitionReplica", "equals", "(Ljava/lang/Object;)Z"⟩ : MethodName)) (z := (⟨"com/example/kvota/kvota/PartitionReplica", "equals", "(Ljava/lang/Object;)Z"⟩ : MethodName)) hown (mvT hZ (hw _ (List.mem_of_getElem? (i := 14) rfl))) (mvT hZ (hw _ (List.mem_of_getElem? (i := 15) rfl))) (notFace_of_selects (args := #[]) (mvT hZ (hw _ (List.mem_of_getElem? (i := 17) rfl)))) (mvT hZ (hw _ (List.mem_of_getElem? (i := 17) rfl))) (mvT hZ (hw _ (List.mem_of_getElem? (i := 16) rfl))) (by decide) (backOf (W := 0) (rmA l Z a0 hw [] b30 b19 vp3 vr3 vp1 vr1 T40.heap n0 Z40 f42 Fa40 Fb40 f43 f44) hZ (hw _ (List.mem_of_getElem? (i := 18) rfl)) (hw _ (List.mem_of_getElem? (i := 3) rfl)) (by decide) (by decide)) qa78 qc78 (g := (mkF m 131 #[.val (.int x0), .val (.int x1), .val (.int x2), .val (.int x3), .val (.int x4), .val (.int (2147483647 : Int32)), .val (.int vp1), .val (.int vr1), .val (.int vp3), .val (.int vr3), .val (.ref b19), .val (.ref b30), .val (.int (0 : Int32)), .val (.int (own_eq vp1 vr1 vp3 vr3)), .unset, .unset, .unset, .unset] [(.ref b19), (.ref b30)])) rfl (by rw [hml]; rfl) (Steps.refl _) (argsL := [(.ref b19)]) (rest := []) (lenOf pd0_1 rfl) rfl (by show 2 * 0 + _ ≤ _; exact Nat.le_of_eq rfl) (hb hby at_131) (fun _ _ => ⟨rfl, e75, (by decide : 2 + 0 ≤ _), (by decide : 4 + 0 ≤ _)⟩)
      dsimp only [Pt.U, Pt.locs, Pt.cells, Pt.slots] at X78 l78 y78 z78 st78 hQ78
      subst l78 y78 z78
      obtain ⟨rfl, Nq78, e78⟩ := hQ78
      have N78 := Fr.app N75 Nq78
      have p79 : ∀ t, Steps p.tables e below (T78.setTop (mkF m 134 #[.val (.int x0), .val (.int x1), .val (.int x2), .val (.int x3), .val (.int x4), .val (.int (2147483647 : Int32)), .val (.int vp1), .val (.int vr1), .val (.int vp3), .val (.int vr3), .val (.ref b19), .val (.ref b30), .val (.int (0 : Int32)), .val (.int (own_eq vp1 vr1 vp3 vr3)), .unset, .unset, .unset, .unset] [(.int (own_eq vp3 vr3 vp1 vr1))])) t → Steps p.tables e below (s₁.setTop (entryFrame m #[(.int x0), (.int x1), (.int x2), (.int x3), (.int x4)] maxLocals)) t := fun t k => p77 t (st78.trans k)
      have p80 : ∀ t, Steps p.tables e below (T78.setTop (mkF m 140 #[.val (.int x0), .val (.int x1), .val (.int x2), .val (.int x3), .val (.int x4), .val (.int (2147483647 : Int32)), .val (.int vp1), .val (.int vr1), .val (.int vp3), .val (.int vr3), .val (.ref b19), .val (.ref b30), .val (.int (0 : Int32)), .val (.int (own_eq vp1 vr1 vp3 vr3)), .val (.int (own_eq vp3 vr3 vp1 vr1)), .unset, .unset, .unset] [(.ref b19), (.ref b19)])) t → Steps p.tables e below (s₁.setTop (entryFrame m #[(.int x0), (.int x1), (.int x2), (.int x3), (.int x4)] maxLocals)) t := fun t k => p79 t (by
        show Steps p.tables e below (T78.setTop (mkF m 134 #[.val (.int x0), .val (.int x1), .val (.int x2), .val (.int x3), .val (.int x4), .val (.int (2147483647 : Int32)), .val (.int vp1), .val (.int vr1), .val (.int vp3), .val (.int vr3), .val (.ref b19), .val (.ref b30), .val (.int (0 : Int32)), .val (.int (own_eq vp1 vr1 vp3 vr3)), .unset, .unset, .unset, .unset] [(.int (own_eq vp3 vr3 vp1 vr1))])) _
        refine XS.istore X78.here hx rfl (hb hby at_134) rfl (l' := #[.val (.int x0), .val (.int x1), .val (.int x2), .val (.int x3), .val (.int x4), .val (.int (2147483647 : Int32)), .val (.int vp1), .val (.int vr1), .val (.int vp3), .val (.int vr3), .val (.ref b19), .val (.ref b30), .val (.int (0 : Int32)), .val (.int (own_eq vp1 vr1 vp3 vr3)), .val (.int (own_eq vp3 vr3 vp1 vr1)), .unset, .unset, .unset]) rfl ?_
        show Steps p.tables e below (T78.setTop (mkF m 136 #[.val (.int x0), .val (.int x1), .val (.int x2), .val (.int x3), .val (.int x4), .val (.int (2147483647 : Int32)), .val (.int vp1), .val (.int vr1), .val (.int vp3), .val (.int vr3), .val (.ref b19), .val (.ref b30), .val (.int (0 : Int32)), .val (.int (own_eq vp1 vr1 vp3 vr3)), .val (.int (own_eq vp3 vr3 vp1 vr1)), .unset, .unset, .unset] [])) _
        refine XS.aload X78.here hx rfl (hb hby at_136) rfl rfl ?_
        show Steps p.tables e below (T78.setTop (mkF m 138 #[.val (.int x0), .val (.int x1), .val (.int x2), .val (.int x3), .val (.int x4), .val (.int (2147483647 : Int32)), .val (.int vp1), .val (.int vr1), .val (.int vp3), .val (.int vr3), .val (.ref b19), .val (.ref b30), .val (.int (0 : Int32)), .val (.int (own_eq vp1 vr1 vp3 vr3)), .val (.int (own_eq vp3 vr3 vp1 vr1)), .unset, .unset, .unset] [(.ref b19)])) _
        refine XS.aload X78.here hx rfl (hb hby at_138) rfl rfl ?_
        exact k)
      obtain ⟨cq81, kq81, qa81, qb81, qc81⟩ := isOf hZ e78 f42
      obtain ⟨_, _, ⟨T81, L81, k81, n81⟩, -, X81, ⟨Lc81, hQ81, l81, y81, z81⟩, st81⟩ := X78.virtualBack hx (y := (⟨"com/example/kvota/kvota/PartitionReplica", "equals", "(Ljava/lang/Object;)Z"⟩ : MethodName)) (z := (⟨"com/example/kvota/kvota/PartitionReplica", "equals", "(Ljava/lang/Object;)Z"⟩ : MethodName)) hown (mvT hZ (hw _ (List.mem_of_getElem? (i := 14) rfl))) (mvT hZ (hw _ (List.mem_of_getElem? (i := 15) rfl))) (notFace_of_selects (args := #[]) (mvT hZ (hw _ (List.mem_of_getElem? (i := 17) rfl)))) (mvT hZ (hw _ (List.mem_of_getElem? (i := 17) rfl))) (mvT hZ (hw _ (List.mem_of_getElem? (i := 16) rfl))) (by decide) (backOf (W := 0) (rmS l Z a0 hw [] b19 vp1 vr1 T40.heap n0 Z40 f42 f43 f44) hZ (hw _ (List.mem_of_getElem? (i := 18) rfl)) (hw _ (List.mem_of_getElem? (i := 3) rfl)) (by decide) (by decide)) qa81 qc81 (g := (mkF m 140 #[.val (.int x0), .val (.int x1), .val (.int x2), .val (.int x3), .val (.int x4), .val (.int (2147483647 : Int32)), .val (.int vp1), .val (.int vr1), .val (.int vp3), .val (.int vr3), .val (.ref b19), .val (.ref b30), .val (.int (0 : Int32)), .val (.int (own_eq vp1 vr1 vp3 vr3)), .val (.int (own_eq vp3 vr3 vp1 vr1)), .unset, .unset, .unset] [(.ref b19), (.ref b19)])) rfl (by rw [hml]; rfl) (Steps.refl _) (argsL := [(.ref b19)]) (rest := []) (lenOf pd0_1 rfl) rfl (by show 2 * 0 + _ ≤ _; exact Nat.le_of_eq rfl) (hb hby at_140) (fun _ _ => ⟨rfl, e78, (by decide : 2 + 0 ≤ _), (by decide : 4 + 0 ≤ _)⟩)
      dsimp only [Pt.U, Pt.locs, Pt.cells, Pt.slots] at X81 l81 y81 z81 st81 hQ81
      subst l81 y81 z81
      obtain ⟨rfl, Nq81, e81⟩ := hQ81
      have N81 := Fr.app N78 Nq81
      have p82 : ∀ t, Steps p.tables e below (T81.setTop (mkF m 143 #[.val (.int x0), .val (.int x1), .val (.int x2), .val (.int x3), .val (.int x4), .val (.int (2147483647 : Int32)), .val (.int vp1), .val (.int vr1), .val (.int vp3), .val (.int vr3), .val (.ref b19), .val (.ref b30), .val (.int (0 : Int32)), .val (.int (own_eq vp1 vr1 vp3 vr3)), .val (.int (own_eq vp3 vr3 vp1 vr1)), .unset, .unset, .unset] [(.int (1 : Int32))])) t → Steps p.tables e below (s₁.setTop (entryFrame m #[(.int x0), (.int x1), (.int x2), (.int x3), (.int x4)] maxLocals)) t := fun t k => p80 t (st81.trans k)
      have p83 : ∀ t, Steps p.tables e below (T81.setTop (mkF m 148 #[.val (.int x0), .val (.int x1), .val (.int x2), .val (.int x3), .val (.int x4), .val (.int (2147483647 : Int32)), .val (.int vp1), .val (.int vr1), .val (.int vp3), .val (.int vr3), .val (.ref b19), .val (.ref b30), .val (.int (0 : Int32)), .val (.int (own_eq vp1 vr1 vp3 vr3)), .val (.int (own_eq vp3 vr3 vp1 vr1)), .val (.int (1 : Int32)), .unset, .unset] [.null, (.ref b19)])) t → Steps p.tables e below (s₁.setTop (entryFrame m #[(.int x0), (.int x1), (.int x2), (.int x3), (.int x4)] maxLocals)) t := fun t k => p82 t (by
        show Steps p.tables e below (T81.setTop (mkF m 143 #[.val (.int x0), .val (.int x1), .val (.int x2), .val (.int x3), .val (.int x4), .val (.int (2147483647 : Int32)), .val (.int vp1), .val (.int vr1), .val (.int vp3), .val (.int vr3), .val (.ref b19), .val (.ref b30), .val (.int (0 : Int32)), .val (.int (own_eq vp1 vr1 vp3 vr3)), .val (.int (own_eq vp3 vr3 vp1 vr1)), .unset, .unset, .unset] [(.int (1 : Int32))])) _
        refine XS.istore X81.here hx rfl (hb hby at_143) rfl (l' := #[.val (.int x0), .val (.int x1), .val (.int x2), .val (.int x3), .val (.int x4), .val (.int (2147483647 : Int32)), .val (.int vp1), .val (.int vr1), .val (.int vp3), .val (.int vr3), .val (.ref b19), .val (.ref b30), .val (.int (0 : Int32)), .val (.int (own_eq vp1 vr1 vp3 vr3)), .val (.int (own_eq vp3 vr3 vp1 vr1)), .val (.int (1 : Int32)), .unset, .unset]) rfl ?_
        show Steps p.tables e below (T81.setTop (mkF m 145 #[.val (.int x0), .val (.int x1), .val (.int x2), .val (.int x3), .val (.int x4), .val (.int (2147483647 : Int32)), .val (.int vp1), .val (.int vr1), .val (.int vp3), .val (.int vr3), .val (.ref b19), .val (.ref b30), .val (.int (0 : Int32)), .val (.int (own_eq vp1 vr1 vp3 vr3)), .val (.int (own_eq vp3 vr3 vp1 vr1)), .val (.int (1 : Int32)), .unset, .unset] [])) _
        refine XS.aload X81.here hx rfl (hb hby at_145) rfl rfl ?_
        show Steps p.tables e below (T81.setTop (mkF m 147 #[.val (.int x0), .val (.int x1), .val (.int x2), .val (.int x3), .val (.int x4), .val (.int (2147483647 : Int32)), .val (.int vp1), .val (.int vr1), .val (.int vp3), .val (.int vr3), .val (.ref b19), .val (.ref b30), .val (.int (0 : Int32)), .val (.int (own_eq vp1 vr1 vp3 vr3)), .val (.int (own_eq vp3 vr3 vp1 vr1)), .val (.int (1 : Int32)), .unset, .unset] [(.ref b19)])) _
        refine XS.aconstNull X81.here hx rfl (hb hby at_147) ?_
        exact k)
      obtain ⟨cq84, kq84, qa84, qb84, qc84⟩ := isOf hZ e81 f42
      obtain ⟨_, _, ⟨T84, L84, k84, n84⟩, -, X84, ⟨Lc84, hQ84, l84, y84, z84⟩, st84⟩ := X81.virtualBack hx (y := (⟨"com/example/kvota/kvota/PartitionReplica", "equals", "(Ljava/lang/Object;)Z"⟩ : MethodName)) (z := (⟨"com/example/kvota/kvota/PartitionReplica", "equals", "(Ljava/lang/Object;)Z"⟩ : MethodName)) hown (mvT hZ (hw _ (List.mem_of_getElem? (i := 14) rfl))) (mvT hZ (hw _ (List.mem_of_getElem? (i := 15) rfl))) (notFace_of_selects (args := #[]) (mvT hZ (hw _ (List.mem_of_getElem? (i := 17) rfl)))) (mvT hZ (hw _ (List.mem_of_getElem? (i := 17) rfl))) (mvT hZ (hw _ (List.mem_of_getElem? (i := 16) rfl))) (by decide) (backOf (W := 0) (rmN l Z a0 hw [] b19  T40.heap n0 Z40 ) hZ (hw _ (List.mem_of_getElem? (i := 18) rfl)) (hw _ (List.mem_of_getElem? (i := 3) rfl)) (by decide) (by decide)) qa84 qc84 (g := (mkF m 148 #[.val (.int x0), .val (.int x1), .val (.int x2), .val (.int x3), .val (.int x4), .val (.int (2147483647 : Int32)), .val (.int vp1), .val (.int vr1), .val (.int vp3), .val (.int vr3), .val (.ref b19), .val (.ref b30), .val (.int (0 : Int32)), .val (.int (own_eq vp1 vr1 vp3 vr3)), .val (.int (own_eq vp3 vr3 vp1 vr1)), .val (.int (1 : Int32)), .unset, .unset] [.null, (.ref b19)])) rfl (by rw [hml]; rfl) (Steps.refl _) (argsL := [.null]) (rest := []) (lenOf pd0_1 rfl) rfl (by show 2 * 0 + _ ≤ _; exact Nat.le_of_eq rfl) (hb hby at_148) (fun _ _ => ⟨rfl, e81, (by decide : 2 + 0 ≤ _), (by decide : 4 + 0 ≤ _)⟩)
      dsimp only [Pt.U, Pt.locs, Pt.cells, Pt.slots] at X84 l84 y84 z84 st84 hQ84
      subst l84 y84 z84
      obtain ⟨rfl, Nq84, e84⟩ := hQ84
      have N84 := Fr.app N81 Nq84
      have p85 : ∀ t, Steps p.tables e below (T84.setTop (mkF m 151 #[.val (.int x0), .val (.int x1), .val (.int x2), .val (.int x3), .val (.int x4), .val (.int (2147483647 : Int32)), .val (.int vp1), .val (.int vr1), .val (.int vp3), .val (.int vr3), .val (.ref b19), .val (.ref b30), .val (.int (0 : Int32)), .val (.int (own_eq vp1 vr1 vp3 vr3)), .val (.int (own_eq vp3 vr3 vp1 vr1)), .val (.int (1 : Int32)), .unset, .unset] [(.int (0 : Int32))])) t → Steps p.tables e below (s₁.setTop (entryFrame m #[(.int x0), (.int x1), (.int x2), (.int x3), (.int x4)] maxLocals)) t := fun t k => p83 t (st84.trans k)
      have p86 : ∀ t, Steps p.tables e below (T84.setTop (mkF m 157 #[.val (.int x0), .val (.int x1), .val (.int x2), .val (.int x3), .val (.int x4), .val (.int (2147483647 : Int32)), .val (.int vp1), .val (.int vr1), .val (.int vp3), .val (.int vr3), .val (.ref b19), .val (.ref b30), .val (.int (0 : Int32)), .val (.int (own_eq vp1 vr1 vp3 vr3)), .val (.int (own_eq vp3 vr3 vp1 vr1)), .val (.int (1 : Int32)), .val (.int (0 : Int32)), .unset] [(.int vp1), (.ref b19)])) t → Steps p.tables e below (s₁.setTop (entryFrame m #[(.int x0), (.int x1), (.int x2), (.int x3), (.int x4)] maxLocals)) t := fun t k => p85 t (by
        show Steps p.tables e below (T84.setTop (mkF m 151 #[.val (.int x0), .val (.int x1), .val (.int x2), .val (.int x3), .val (.int x4), .val (.int (2147483647 : Int32)), .val (.int vp1), .val (.int vr1), .val (.int vp3), .val (.int vr3), .val (.ref b19), .val (.ref b30), .val (.int (0 : Int32)), .val (.int (own_eq vp1 vr1 vp3 vr3)), .val (.int (own_eq vp3 vr3 vp1 vr1)), .val (.int (1 : Int32)), .unset, .unset] [(.int (0 : Int32))])) _
        refine XS.istore X84.here hx rfl (hb hby at_151) rfl (l' := #[.val (.int x0), .val (.int x1), .val (.int x2), .val (.int x3), .val (.int x4), .val (.int (2147483647 : Int32)), .val (.int vp1), .val (.int vr1), .val (.int vp3), .val (.int vr3), .val (.ref b19), .val (.ref b30), .val (.int (0 : Int32)), .val (.int (own_eq vp1 vr1 vp3 vr3)), .val (.int (own_eq vp3 vr3 vp1 vr1)), .val (.int (1 : Int32)), .val (.int (0 : Int32)), .unset]) rfl ?_
        show Steps p.tables e below (T84.setTop (mkF m 153 #[.val (.int x0), .val (.int x1), .val (.int x2), .val (.int x3), .val (.int x4), .val (.int (2147483647 : Int32)), .val (.int vp1), .val (.int vr1), .val (.int vp3), .val (.int vr3), .val (.ref b19), .val (.ref b30), .val (.int (0 : Int32)), .val (.int (own_eq vp1 vr1 vp3 vr3)), .val (.int (own_eq vp3 vr3 vp1 vr1)), .val (.int (1 : Int32)), .val (.int (0 : Int32)), .unset] [])) _
        refine XS.aload X84.here hx rfl (hb hby at_153) rfl rfl ?_
        show Steps p.tables e below (T84.setTop (mkF m 155 #[.val (.int x0), .val (.int x1), .val (.int x2), .val (.int x3), .val (.int x4), .val (.int (2147483647 : Int32)), .val (.int vp1), .val (.int vr1), .val (.int vp3), .val (.int vr3), .val (.ref b19), .val (.ref b30), .val (.int (0 : Int32)), .val (.int (own_eq vp1 vr1 vp3 vr3)), .val (.int (own_eq vp3 vr3 vp1 vr1)), .val (.int (1 : Int32)), .val (.int (0 : Int32)), .unset] [(.ref b19)])) _
        refine XS.iload X84.here hx rfl (hb hby at_155) rfl ?_
        exact k)
      obtain ⟨_, _, ⟨T87, L87, k87, n87⟩, -, X87, ⟨Lc87, hQ87, l87, y87, z87⟩, st87⟩ := Jvm.LawKit.callS X84 hx (y := (⟨"java/lang/Integer", "valueOf", "(I)Ljava/lang/Integer;"⟩ : MethodName)) hown (mvT hZ (hw _ (List.mem_of_getElem? (i := 21) rfl))) (mvT hZ (hw _ (List.mem_of_getElem? (i := 22) rfl))) (mvT hZ (hw _ (List.mem_of_getElem? (i := 23) rfl))) (mvT hZ (hw _ (List.mem_of_getElem? (i := 24) rfl))) (by decide) (backOf (W := 1) (rmV l Z a0 hw [] vp1 a_C cc own_val T40.heap n0 Z40 h0vp1 f41 S_h S_c B0) hZ (hw _ (List.mem_of_getElem? (i := 24) rfl)) (hw _ (List.mem_of_getElem? (i := 23) rfl)) (by decide) (by decide)) (g := (mkF m 157 #[.val (.int x0), .val (.int x1), .val (.int x2), .val (.int x3), .val (.int x4), .val (.int (2147483647 : Int32)), .val (.int vp1), .val (.int vr1), .val (.int vp3), .val (.int vr3), .val (.ref b19), .val (.ref b30), .val (.int (0 : Int32)), .val (.int (own_eq vp1 vr1 vp3 vr3)), .val (.int (own_eq vp3 vr3 vp1 vr1)), .val (.int (1 : Int32)), .val (.int (0 : Int32)), .unset] [(.int vp1), (.ref b19)])) rfl (by rw [hml]; rfl) (argsL := [(.int vp1)]) (rest := [(.ref b19)]) (lenOf pd0_2 rfl) rfl (by show 2 * 0 + _ ≤ _; exact Nat.le_of_eq rfl) (hb hby at_157) (fun _ _ => ⟨rfl, e84, (by decide : 2 + 1 ≤ _), (by decide : 4 + 1 ≤ _)⟩)
      dsimp only [Pt.U, Pt.locs, Pt.cells, Pt.slots] at X87 l87 y87 z87 st87 hQ87
      subst l87 y87 z87
      obtain ⟨r87, rfl, Nq87, K87, EI87⟩ := hQ87
      have N87 := Fr.app N84 Nq87
      have f88 := f41.keep K87 (all0)
      have f89 := f42.keep K87
      have f90 := f43.keep K87 nin0
      have f91 := f44.keep K87 nin0
      have f92 := f45.keep K87
      have f93 := Fa40.keep K87 nin0
      have f94 := Fb40.keep K87 nin0
      have Z87 := Nat.le_trans Z40 K87.1
      have p95 : ∀ t, Steps p.tables e below (T87.setTop (mkF m 160 #[.val (.int x0), .val (.int x1), .val (.int x2), .val (.int x3), .val (.int x4), .val (.int (2147483647 : Int32)), .val (.int vp1), .val (.int vr1), .val (.int vp3), .val (.int vr3), .val (.ref b19), .val (.ref b30), .val (.int (0 : Int32)), .val (.int (own_eq vp1 vr1 vp3 vr3)), .val (.int (own_eq vp3 vr3 vp1 vr1)), .val (.int (1 : Int32)), .val (.int (0 : Int32)), .unset] [(.ref r87), (.ref b19)])) t → Steps p.tables e below (s₁.setTop (entryFrame m #[(.int x0), (.int x1), (.int x2), (.int x3), (.int x4)] maxLocals)) t := fun t k => p86 t (st87 _ k)
      obtain ⟨cq96, kq96, qa96, qb96, qc96⟩ := isOf hZ rfl f89
      obtain ⟨_, _, ⟨T96, L96, k96, n96⟩, -, X96, ⟨Lc96, hQ96, l96, y96, z96⟩, st96⟩ := X87.virtualBack hx (y := (⟨"com/example/kvota/kvota/PartitionReplica", "equals", "(Ljava/lang/Object;)Z"⟩ : MethodName)) (z := (⟨"com/example/kvota/kvota/PartitionReplica", "equals", "(Ljava/lang/Object;)Z"⟩ : MethodName)) hown (mvT hZ (hw _ (List.mem_of_getElem? (i := 14) rfl))) (mvT hZ (hw _ (List.mem_of_getElem? (i := 15) rfl))) (notFace_of_selects (args := #[]) (mvT hZ (hw _ (List.mem_of_getElem? (i := 17) rfl)))) (mvT hZ (hw _ (List.mem_of_getElem? (i := 17) rfl))) (mvT hZ (hw _ (List.mem_of_getElem? (i := 16) rfl))) (by decide) (backOf (W := 0) (rmO l Z a0 hw [] b19 r87  T87.heap n0 Z87 EI87 hno) hZ (hw _ (List.mem_of_getElem? (i := 18) rfl)) (hw _ (List.mem_of_getElem? (i := 3) rfl)) (by decide) (by decide)) qa96 qc96 (g := (mkF m 160 #[.val (.int x0), .val (.int x1), .val (.int x2), .val (.int x3), .val (.int x4), .val (.int (2147483647 : Int32)), .val (.int vp1), .val (.int vr1), .val (.int vp3), .val (.int vr3), .val (.ref b19), .val (.ref b30), .val (.int (0 : Int32)), .val (.int (own_eq vp1 vr1 vp3 vr3)), .val (.int (own_eq vp3 vr3 vp1 vr1)), .val (.int (1 : Int32)), .val (.int (0 : Int32)), .unset] [(.ref r87), (.ref b19)])) rfl (by rw [hml]; rfl) (Steps.refl _) (argsL := [(.ref r87)]) (rest := []) (lenOf pd0_1 rfl) rfl (by show 2 * 0 + _ ≤ _; exact Nat.le_of_eq rfl) (hb hby at_160) (fun _ _ => ⟨rfl, rfl, (by decide : 3 + 0 ≤ _), (by decide : 5 + 0 ≤ _)⟩)
      dsimp only [Pt.U, Pt.locs, Pt.cells, Pt.slots] at X96 l96 y96 z96 st96 hQ96
      subst l96 y96 z96
      obtain ⟨rfl, Nq96, e96⟩ := hQ96
      have N96 := Fr.app N87 Nq96
      have p97 : ∀ t, Steps p.tables e below (T96.setTop (mkF m 163 #[.val (.int x0), .val (.int x1), .val (.int x2), .val (.int x3), .val (.int x4), .val (.int (2147483647 : Int32)), .val (.int vp1), .val (.int vr1), .val (.int vp3), .val (.int vr3), .val (.ref b19), .val (.ref b30), .val (.int (0 : Int32)), .val (.int (own_eq vp1 vr1 vp3 vr3)), .val (.int (own_eq vp3 vr3 vp1 vr1)), .val (.int (1 : Int32)), .val (.int (0 : Int32)), .unset] [(.int (0 : Int32))])) t → Steps p.tables e below (s₁.setTop (entryFrame m #[(.int x0), (.int x1), (.int x2), (.int x3), (.int x4)] maxLocals)) t := fun t k => p95 t (st96.trans k)
      have p98 : ∀ t, Steps p.tables e below (T96.setTop (mkF m 199 #[.val (.int x0), .val (.int x1), .val (.int x2), .val (.int x3), .val (.int x4), .val (.int (2147483647 : Int32)), .val (.int vp1), .val (.int vr1), .val (.int vp3), .val (.int vr3), .val (.ref b19), .val (.ref b30), .val (.int (0 : Int32)), .val (.int (own_eq vp1 vr1 vp3 vr3)), .val (.int (own_eq vp3 vr3 vp1 vr1)), .val (.int (1 : Int32)), .val (.int (0 : Int32)), .val (.int (0 : Int32))] [(.int (1 : Int32))])) t → Steps p.tables e below (s₁.setTop (entryFrame m #[(.int x0), (.int x1), (.int x2), (.int x3), (.int x4)] maxLocals)) t := fun t k => p97 t (by
        show Steps p.tables e below (T96.setTop (mkF m 163 #[.val (.int x0), .val (.int x1), .val (.int x2), .val (.int x3), .val (.int x4), .val (.int (2147483647 : Int32)), .val (.int vp1), .val (.int vr1), .val (.int vp3), .val (.int vr3), .val (.ref b19), .val (.ref b30), .val (.int (0 : Int32)), .val (.int (own_eq vp1 vr1 vp3 vr3)), .val (.int (own_eq vp3 vr3 vp1 vr1)), .val (.int (1 : Int32)), .val (.int (0 : Int32)), .unset] [(.int (0 : Int32))])) _
        refine XS.istore X96.here hx rfl (hb hby at_163) rfl (l' := #[.val (.int x0), .val (.int x1), .val (.int x2), .val (.int x3), .val (.int x4), .val (.int (2147483647 : Int32)), .val (.int vp1), .val (.int vr1), .val (.int vp3), .val (.int vr3), .val (.ref b19), .val (.ref b30), .val (.int (0 : Int32)), .val (.int (own_eq vp1 vr1 vp3 vr3)), .val (.int (own_eq vp3 vr3 vp1 vr1)), .val (.int (1 : Int32)), .val (.int (0 : Int32)), .val (.int (0 : Int32))]) rfl ?_
        show Steps p.tables e below (T96.setTop (mkF m 165 #[.val (.int x0), .val (.int x1), .val (.int x2), .val (.int x3), .val (.int x4), .val (.int (2147483647 : Int32)), .val (.int vp1), .val (.int vr1), .val (.int vp3), .val (.int vr3), .val (.ref b19), .val (.ref b30), .val (.int (0 : Int32)), .val (.int (own_eq vp1 vr1 vp3 vr3)), .val (.int (own_eq vp3 vr3 vp1 vr1)), .val (.int (1 : Int32)), .val (.int (0 : Int32)), .val (.int (0 : Int32))] [])) _
        refine XS.iload X96.here hx rfl (hb hby at_165) rfl ?_
        show Steps p.tables e below (T96.setTop (mkF m 167 #[.val (.int x0), .val (.int x1), .val (.int x2), .val (.int x3), .val (.int x4), .val (.int (2147483647 : Int32)), .val (.int vp1), .val (.int vr1), .val (.int vp3), .val (.int vr3), .val (.ref b19), .val (.ref b30), .val (.int (0 : Int32)), .val (.int (own_eq vp1 vr1 vp3 vr3)), .val (.int (own_eq vp3 vr3 vp1 vr1)), .val (.int (1 : Int32)), .val (.int (0 : Int32)), .val (.int (0 : Int32))] [(.int (own_eq vp1 vr1 vp3 vr3))])) _
        refine XS.iload X96.here hx rfl (hb hby at_167) rfl ?_
        show Steps p.tables e below (T96.setTop (mkF m 169 #[.val (.int x0), .val (.int x1), .val (.int x2), .val (.int x3), .val (.int x4), .val (.int (2147483647 : Int32)), .val (.int vp1), .val (.int vr1), .val (.int vp3), .val (.int vr3), .val (.ref b19), .val (.ref b30), .val (.int (0 : Int32)), .val (.int (own_eq vp1 vr1 vp3 vr3)), .val (.int (own_eq vp3 vr3 vp1 vr1)), .val (.int (1 : Int32)), .val (.int (0 : Int32)), .val (.int (0 : Int32))] [(.int (0 : Int32)), (.int (own_eq vp1 vr1 vp3 vr3))])) _
        refine XS.icmpNo X96.here hx rfl (hb hby at_169) rfl ((teq (by unfold own_eq; rw [if_pos (Eq.symm hc101), if_neg (fun q => hc108 (Eq.symm q))])).2) ?_
        show Steps p.tables e below (T96.setTop (mkF m 172 #[.val (.int x0), .val (.int x1), .val (.int x2), .val (.int x3), .val (.int x4), .val (.int (2147483647 : Int32)), .val (.int vp1), .val (.int vr1), .val (.int vp3), .val (.int vr3), .val (.ref b19), .val (.ref b30), .val (.int (0 : Int32)), .val (.int (own_eq vp1 vr1 vp3 vr3)), .val (.int (own_eq vp3 vr3 vp1 vr1)), .val (.int (1 : Int32)), .val (.int (0 : Int32)), .val (.int (0 : Int32))] [])) _
        refine XS.iload X96.here hx rfl (hb hby at_172) rfl ?_
        show Steps p.tables e below (T96.setTop (mkF m 174 #[.val (.int x0), .val (.int x1), .val (.int x2), .val (.int x3), .val (.int x4), .val (.int (2147483647 : Int32)), .val (.int vp1), .val (.int vr1), .val (.int vp3), .val (.int vr3), .val (.ref b19), .val (.ref b30), .val (.int (0 : Int32)), .val (.int (own_eq vp1 vr1 vp3 vr3)), .val (.int (own_eq vp3 vr3 vp1 vr1)), .val (.int (1 : Int32)), .val (.int (0 : Int32)), .val (.int (0 : Int32))] [(.int (own_eq vp3 vr3 vp1 vr1))])) _
        refine XS.iload X96.here hx rfl (hb hby at_174) rfl ?_
        show Steps p.tables e below (T96.setTop (mkF m 176 #[.val (.int x0), .val (.int x1), .val (.int x2), .val (.int x3), .val (.int x4), .val (.int (2147483647 : Int32)), .val (.int vp1), .val (.int vr1), .val (.int vp3), .val (.int vr3), .val (.ref b19), .val (.ref b30), .val (.int (0 : Int32)), .val (.int (own_eq vp1 vr1 vp3 vr3)), .val (.int (own_eq vp3 vr3 vp1 vr1)), .val (.int (1 : Int32)), .val (.int (0 : Int32)), .val (.int (0 : Int32))] [(.int (0 : Int32)), (.int (own_eq vp3 vr3 vp1 vr1))])) _
        refine XS.icmpNo X96.here hx rfl (hb hby at_176) rfl ((teq (by unfold own_eq; rw [if_pos hc101, if_neg hc108])).2) ?_
        show Steps p.tables e below (T96.setTop (mkF m 179 #[.val (.int x0), .val (.int x1), .val (.int x2), .val (.int x3), .val (.int x4), .val (.int (2147483647 : Int32)), .val (.int vp1), .val (.int vr1), .val (.int vp3), .val (.int vr3), .val (.ref b19), .val (.ref b30), .val (.int (0 : Int32)), .val (.int (own_eq vp1 vr1 vp3 vr3)), .val (.int (own_eq vp3 vr3 vp1 vr1)), .val (.int (1 : Int32)), .val (.int (0 : Int32)), .val (.int (0 : Int32))] [])) _
        refine XS.iload X96.here hx rfl (hb hby at_179) rfl ?_
        show Steps p.tables e below (T96.setTop (mkF m 181 #[.val (.int x0), .val (.int x1), .val (.int x2), .val (.int x3), .val (.int x4), .val (.int (2147483647 : Int32)), .val (.int vp1), .val (.int vr1), .val (.int vp3), .val (.int vr3), .val (.ref b19), .val (.ref b30), .val (.int (0 : Int32)), .val (.int (own_eq vp1 vr1 vp3 vr3)), .val (.int (own_eq vp3 vr3 vp1 vr1)), .val (.int (1 : Int32)), .val (.int (0 : Int32)), .val (.int (0 : Int32))] [(.int (1 : Int32))])) _
        refine XS.ifNo X96.here hx rfl (hb hby at_181) rfl ((if0 _ _).trans (feq (by decide)).1) ?_
        show Steps p.tables e below (T96.setTop (mkF m 184 #[.val (.int x0), .val (.int x1), .val (.int x2), .val (.int x3), .val (.int x4), .val (.int (2147483647 : Int32)), .val (.int vp1), .val (.int vr1), .val (.int vp3), .val (.int vr3), .val (.ref b19), .val (.ref b30), .val (.int (0 : Int32)), .val (.int (own_eq vp1 vr1 vp3 vr3)), .val (.int (own_eq vp3 vr3 vp1 vr1)), .val (.int (1 : Int32)), .val (.int (0 : Int32)), .val (.int (0 : Int32))] [])) _
        refine XS.iload X96.here hx rfl (hb hby at_184) rfl ?_
        show Steps p.tables e below (T96.setTop (mkF m 186 #[.val (.int x0), .val (.int x1), .val (.int x2), .val (.int x3), .val (.int x4), .val (.int (2147483647 : Int32)), .val (.int vp1), .val (.int vr1), .val (.int vp3), .val (.int vr3), .val (.ref b19), .val (.ref b30), .val (.int (0 : Int32)), .val (.int (own_eq vp1 vr1 vp3 vr3)), .val (.int (own_eq vp3 vr3 vp1 vr1)), .val (.int (1 : Int32)), .val (.int (0 : Int32)), .val (.int (0 : Int32))] [(.int (0 : Int32))])) _
        refine XS.ifNo X96.here hx rfl (hb hby at_186) rfl ((if0 _ _).trans (teq (rfl)).2) ?_
        show Steps p.tables e below (T96.setTop (mkF m 189 #[.val (.int x0), .val (.int x1), .val (.int x2), .val (.int x3), .val (.int x4), .val (.int (2147483647 : Int32)), .val (.int vp1), .val (.int vr1), .val (.int vp3), .val (.int vr3), .val (.ref b19), .val (.ref b30), .val (.int (0 : Int32)), .val (.int (own_eq vp1 vr1 vp3 vr3)), .val (.int (own_eq vp3 vr3 vp1 vr1)), .val (.int (1 : Int32)), .val (.int (0 : Int32)), .val (.int (0 : Int32))] [])) _
        refine XS.iload X96.here hx rfl (hb hby at_189) rfl ?_
        show Steps p.tables e below (T96.setTop (mkF m 191 #[.val (.int x0), .val (.int x1), .val (.int x2), .val (.int x3), .val (.int x4), .val (.int (2147483647 : Int32)), .val (.int vp1), .val (.int vr1), .val (.int vp3), .val (.int vr3), .val (.ref b19), .val (.ref b30), .val (.int (0 : Int32)), .val (.int (own_eq vp1 vr1 vp3 vr3)), .val (.int (own_eq vp3 vr3 vp1 vr1)), .val (.int (1 : Int32)), .val (.int (0 : Int32)), .val (.int (0 : Int32))] [(.int (0 : Int32))])) _
        refine XS.ifNo X96.here hx rfl (hb hby at_191) rfl ((if0 _ _).trans (teq (rfl)).2) ?_
        show Steps p.tables e below (T96.setTop (mkF m 194 #[.val (.int x0), .val (.int x1), .val (.int x2), .val (.int x3), .val (.int x4), .val (.int (2147483647 : Int32)), .val (.int vp1), .val (.int vr1), .val (.int vp3), .val (.int vr3), .val (.ref b19), .val (.ref b30), .val (.int (0 : Int32)), .val (.int (own_eq vp1 vr1 vp3 vr3)), .val (.int (own_eq vp3 vr3 vp1 vr1)), .val (.int (1 : Int32)), .val (.int (0 : Int32)), .val (.int (0 : Int32))] [])) _
        refine XS.iconst X96.here hx rfl (hb hby at_194) ?_
        show Steps p.tables e below (T96.setTop (mkF m 195 #[.val (.int x0), .val (.int x1), .val (.int x2), .val (.int x3), .val (.int x4), .val (.int (2147483647 : Int32)), .val (.int vp1), .val (.int vr1), .val (.int vp3), .val (.int vr3), .val (.ref b19), .val (.ref b30), .val (.int (0 : Int32)), .val (.int (own_eq vp1 vr1 vp3 vr3)), .val (.int (own_eq vp3 vr3 vp1 vr1)), .val (.int (1 : Int32)), .val (.int (0 : Int32)), .val (.int (0 : Int32))] [(.int (1 : Int32))])) _
        refine XS.goto X96.here hx rfl (pc0 := 195) (pc' := 199) rfl (hb hby at_195) (by decide) (by decide) ?_
        exact k)
      obtain ⟨fs, hr, hrun, hended, hW, hsame⟩ := X96.leave (v := some (.int (1 : Int32))) (fun h => by rw [Bd.returns] at h; cases h)
      refine ⟨_, _, p98 _ ?_, hrun, hended, _, _, rfl, ?_, ⟨_, rfl⟩, hW, hsame.mono (by decide) (by decide)⟩
      · show Steps p.tables e below (T96.setTop (mkF m 199 #[.val (.int x0), .val (.int x1), .val (.int x2), .val (.int x3), .val (.int x4), .val (.int (2147483647 : Int32)), .val (.int vp1), .val (.int vr1), .val (.int vp3), .val (.int vr3), .val (.ref b19), .val (.ref b30), .val (.int (0 : Int32)), .val (.int (own_eq vp1 vr1 vp3 vr3)), .val (.int (own_eq vp3 vr3 vp1 vr1)), .val (.int (1 : Int32)), .val (.int (0 : Int32)), .val (.int (0 : Int32))] [(.int (1 : Int32))])) _
        exact retN X96 hx (t := .boolean) Bd.returns (by simp) (hb hby at_199) hr
      · show Q0 Z x0 x1 x2 x3 x4 a_C cc own_val h0 n0 _ T96.heap _
        rw [e96]
        exact ⟨rfl, N96⟩
  · have p99 : ∀ t, Steps p.tables e below (T40.setTop (mkF m 122 #[.val (.int x0), .val (.int x1), .val (.int x2), .val (.int x3), .val (.int x4), .val (.int (2147483647 : Int32)), .val (.int vp1), .val (.int vr1), .val (.int vp3), .val (.int vr3), .val (.ref b19), .val (.ref b30), .val (.int (0 : Int32)), .unset, .unset, .unset, .unset, .unset] [(.ref b30), (.ref b19)])) t → Steps p.tables e below (s₁.setTop (entryFrame m #[(.int x0), (.int x1), (.int x2), (.int x3), (.int x4)] maxLocals)) t := fun t k => p47 t (by
      show Steps p.tables e below (T40.setTop (mkF m 101 #[.val (.int x0), .val (.int x1), .val (.int x2), .val (.int x3), .val (.int x4), .val (.int (2147483647 : Int32)), .val (.int vp1), .val (.int vr1), .val (.int vp3), .val (.int vr3), .val (.ref b19), .val (.ref b30), .unset, .unset, .unset, .unset, .unset, .unset] [(.int vp3), (.int vp1)])) _
      refine XS.icmpYes X40.here hx rfl (pc0 := 101) (pc' := 115) rfl (hb hby at_101) rfl ((feq (hc101)).2) (by decide) (by decide) ?_
      show Steps p.tables e below (T40.setTop (mkF m 115 #[.val (.int x0), .val (.int x1), .val (.int x2), .val (.int x3), .val (.int x4), .val (.int (2147483647 : Int32)), .val (.int vp1), .val (.int vr1), .val (.int vp3), .val (.int vr3), .val (.ref b19), .val (.ref b30), .unset, .unset, .unset, .unset, .unset, .unset] [])) _
      refine XS.iconst X40.here hx rfl (hb hby at_115) ?_
      show Steps p.tables e below (T40.setTop (mkF m 116 #[.val (.int x0), .val (.int x1), .val (.int x2), .val (.int x3), .val (.int x4), .val (.int (2147483647 : Int32)), .val (.int vp1), .val (.int vr1), .val (.int vp3), .val (.int vr3), .val (.ref b19), .val (.ref b30), .unset, .unset, .unset, .unset, .unset, .unset] [(.int (0 : Int32))])) _
      refine XS.istore X40.here hx rfl (hb hby at_116) rfl (l' := #[.val (.int x0), .val (.int x1), .val (.int x2), .val (.int x3), .val (.int x4), .val (.int (2147483647 : Int32)), .val (.int vp1), .val (.int vr1), .val (.int vp3), .val (.int vr3), .val (.ref b19), .val (.ref b30), .val (.int (0 : Int32)), .unset, .unset, .unset, .unset, .unset]) rfl ?_
      show Steps p.tables e below (T40.setTop (mkF m 118 #[.val (.int x0), .val (.int x1), .val (.int x2), .val (.int x3), .val (.int x4), .val (.int (2147483647 : Int32)), .val (.int vp1), .val (.int vr1), .val (.int vp3), .val (.int vr3), .val (.ref b19), .val (.ref b30), .val (.int (0 : Int32)), .unset, .unset, .unset, .unset, .unset] [])) _
      refine XS.aload X40.here hx rfl (hb hby at_118) rfl rfl ?_
      show Steps p.tables e below (T40.setTop (mkF m 120 #[.val (.int x0), .val (.int x1), .val (.int x2), .val (.int x3), .val (.int x4), .val (.int (2147483647 : Int32)), .val (.int vp1), .val (.int vr1), .val (.int vp3), .val (.int vr3), .val (.ref b19), .val (.ref b30), .val (.int (0 : Int32)), .unset, .unset, .unset, .unset, .unset] [(.ref b19)])) _
      refine XS.aload X40.here hx rfl (hb hby at_120) rfl rfl ?_
      exact k)
    obtain ⟨cq100, kq100, qa100, qb100, qc100⟩ := isOf hZ rfl f42
    obtain ⟨_, _, ⟨T100, L100, k100, n100⟩, -, X100, ⟨Lc100, hQ100, l100, y100, z100⟩, st100⟩ := X40.virtualBack hx (y := (⟨"com/example/kvota/kvota/PartitionReplica", "equals", "(Ljava/lang/Object;)Z"⟩ : MethodName)) (z := (⟨"com/example/kvota/kvota/PartitionReplica", "equals", "(Ljava/lang/Object;)Z"⟩ : MethodName)) hown (mvT hZ (hw _ (List.mem_of_getElem? (i := 14) rfl))) (mvT hZ (hw _ (List.mem_of_getElem? (i := 15) rfl))) (notFace_of_selects (args := #[]) (mvT hZ (hw _ (List.mem_of_getElem? (i := 17) rfl)))) (mvT hZ (hw _ (List.mem_of_getElem? (i := 17) rfl))) (mvT hZ (hw _ (List.mem_of_getElem? (i := 16) rfl))) (by decide) (backOf (W := 0) (rmA l Z a0 hw [] b19 b30 vp1 vr1 vp3 vr3 T40.heap n0 Z40 f45 f43 f44 Fa40 Fb40) hZ (hw _ (List.mem_of_getElem? (i := 18) rfl)) (hw _ (List.mem_of_getElem? (i := 3) rfl)) (by decide) (by decide)) qa100 qc100 (g := (mkF m 122 #[.val (.int x0), .val (.int x1), .val (.int x2), .val (.int x3), .val (.int x4), .val (.int (2147483647 : Int32)), .val (.int vp1), .val (.int vr1), .val (.int vp3), .val (.int vr3), .val (.ref b19), .val (.ref b30), .val (.int (0 : Int32)), .unset, .unset, .unset, .unset, .unset] [(.ref b30), (.ref b19)])) rfl (by rw [hml]; rfl) (Steps.refl _) (argsL := [(.ref b30)]) (rest := []) (lenOf pd0_1 rfl) rfl (by show 2 * 0 + _ ≤ _; exact Nat.le_of_eq rfl) (hb hby at_122) (fun _ _ => ⟨rfl, rfl, (by decide : 2 + 0 ≤ _), (by decide : 4 + 0 ≤ _)⟩)
    dsimp only [Pt.U, Pt.locs, Pt.cells, Pt.slots] at X100 l100 y100 z100 st100 hQ100
    subst l100 y100 z100
    obtain ⟨rfl, Nq100, e100⟩ := hQ100
    have N100 := Fr.app N40 Nq100
    have p101 : ∀ t, Steps p.tables e below (T100.setTop (mkF m 125 #[.val (.int x0), .val (.int x1), .val (.int x2), .val (.int x3), .val (.int x4), .val (.int (2147483647 : Int32)), .val (.int vp1), .val (.int vr1), .val (.int vp3), .val (.int vr3), .val (.ref b19), .val (.ref b30), .val (.int (0 : Int32)), .unset, .unset, .unset, .unset, .unset] [(.int (own_eq vp1 vr1 vp3 vr3))])) t → Steps p.tables e below (s₁.setTop (entryFrame m #[(.int x0), (.int x1), (.int x2), (.int x3), (.int x4)] maxLocals)) t := fun t k => p99 t (st100.trans k)
    have p102 : ∀ t, Steps p.tables e below (T100.setTop (mkF m 131 #[.val (.int x0), .val (.int x1), .val (.int x2), .val (.int x3), .val (.int x4), .val (.int (2147483647 : Int32)), .val (.int vp1), .val (.int vr1), .val (.int vp3), .val (.int vr3), .val (.ref b19), .val (.ref b30), .val (.int (0 : Int32)), .val (.int (own_eq vp1 vr1 vp3 vr3)), .unset, .unset, .unset, .unset] [(.ref b19), (.ref b30)])) t → Steps p.tables e below (s₁.setTop (entryFrame m #[(.int x0), (.int x1), (.int x2), (.int x3), (.int x4)] maxLocals)) t := fun t k => p101 t (by
      show Steps p.tables e below (T100.setTop (mkF m 125 #[.val (.int x0), .val (.int x1), .val (.int x2), .val (.int x3), .val (.int x4), .val (.int (2147483647 : Int32)), .val (.int vp1), .val (.int vr1), .val (.int vp3), .val (.int vr3), .val (.ref b19), .val (.ref b30), .val (.int (0 : Int32)), .unset, .unset, .unset, .unset, .unset] [(.int (own_eq vp1 vr1 vp3 vr3))])) _
      refine XS.istore X100.here hx rfl (hb hby at_125) rfl (l' := #[.val (.int x0), .val (.int x1), .val (.int x2), .val (.int x3), .val (.int x4), .val (.int (2147483647 : Int32)), .val (.int vp1), .val (.int vr1), .val (.int vp3), .val (.int vr3), .val (.ref b19), .val (.ref b30), .val (.int (0 : Int32)), .val (.int (own_eq vp1 vr1 vp3 vr3)), .unset, .unset, .unset, .unset]) rfl ?_
      show Steps p.tables e below (T100.setTop (mkF m 127 #[.val (.int x0), .val (.int x1), .val (.int x2), .val (.int x3), .val (.int x4), .val (.int (2147483647 : Int32)), .val (.int vp1), .val (.int vr1), .val (.int vp3), .val (.int vr3), .val (.ref b19), .val (.ref b30), .val (.int (0 : Int32)), .val (.int (own_eq vp1 vr1 vp3 vr3)), .unset, .unset, .unset, .unset] [])) _
      refine XS.aload X100.here hx rfl (hb hby at_127) rfl rfl ?_
      show Steps p.tables e below (T100.setTop (mkF m 129 #[.val (.int x0), .val (.int x1), .val (.int x2), .val (.int x3), .val (.int x4), .val (.int (2147483647 : Int32)), .val (.int vp1), .val (.int vr1), .val (.int vp3), .val (.int vr3), .val (.ref b19), .val (.ref b30), .val (.int (0 : Int32)), .val (.int (own_eq vp1 vr1 vp3 vr3)), .unset, .unset, .unset, .unset] [(.ref b30)])) _
      refine XS.aload X100.here hx rfl (hb hby at_129) rfl rfl ?_
      exact k)
    obtain ⟨cq103, kq103, qa103, qb103, qc103⟩ := isOf hZ e100 f45
    obtain ⟨_, _, ⟨T103, L103, k103, n103⟩, -, X103, ⟨Lc103, hQ103, l103, y103, z103⟩, st103⟩ := X100.virtualBack hx (y := (⟨"com/example/kvota/kvota/PartitionReplica", "equals", "(Ljava/lang/Object;)Z"⟩ : MethodName)) (z := (⟨"com/example/kvota/kvota/PartitionReplica", "equals", "(Ljava/lang/Object;)Z"⟩ : MethodName)) hown (mvT hZ (hw _ (List.mem_of_getElem? (i := 14) rfl))) (mvT hZ (hw _ (List.mem_of_getElem? (i := 15) rfl))) (notFace_of_selects (args := #[]) (mvT hZ (hw _ (List.mem_of_getElem? (i := 17) rfl)))) (mvT hZ (hw _ (List.mem_of_getElem? (i := 17) rfl))) (mvT hZ (hw _ (List.mem_of_getElem? (i := 16) rfl))) (by decide) (backOf (W := 0) (rmA l Z a0 hw [] b30 b19 vp3 vr3 vp1 vr1 T40.heap n0 Z40 f42 Fa40 Fb40 f43 f44) hZ (hw _ (List.mem_of_getElem? (i := 18) rfl)) (hw _ (List.mem_of_getElem? (i := 3) rfl)) (by decide) (by decide)) qa103 qc103 (g := (mkF m 131 #[.val (.int x0), .val (.int x1), .val (.int x2), .val (.int x3), .val (.int x4), .val (.int (2147483647 : Int32)), .val (.int vp1), .val (.int vr1), .val (.int vp3), .val (.int vr3), .val (.ref b19), .val (.ref b30), .val (.int (0 : Int32)), .val (.int (own_eq vp1 vr1 vp3 vr3)), .unset, .unset, .unset, .unset] [(.ref b19), (.ref b30)])) rfl (by rw [hml]; rfl) (Steps.refl _) (argsL := [(.ref b19)]) (rest := []) (lenOf pd0_1 rfl) rfl (by show 2 * 0 + _ ≤ _; exact Nat.le_of_eq rfl) (hb hby at_131) (fun _ _ => ⟨rfl, e100, (by decide : 2 + 0 ≤ _), (by decide : 4 + 0 ≤ _)⟩)
    dsimp only [Pt.U, Pt.locs, Pt.cells, Pt.slots] at X103 l103 y103 z103 st103 hQ103
    subst l103 y103 z103
    obtain ⟨rfl, Nq103, e103⟩ := hQ103
    have N103 := Fr.app N100 Nq103
    have p104 : ∀ t, Steps p.tables e below (T103.setTop (mkF m 134 #[.val (.int x0), .val (.int x1), .val (.int x2), .val (.int x3), .val (.int x4), .val (.int (2147483647 : Int32)), .val (.int vp1), .val (.int vr1), .val (.int vp3), .val (.int vr3), .val (.ref b19), .val (.ref b30), .val (.int (0 : Int32)), .val (.int (own_eq vp1 vr1 vp3 vr3)), .unset, .unset, .unset, .unset] [(.int (own_eq vp3 vr3 vp1 vr1))])) t → Steps p.tables e below (s₁.setTop (entryFrame m #[(.int x0), (.int x1), (.int x2), (.int x3), (.int x4)] maxLocals)) t := fun t k => p102 t (st103.trans k)
    have p105 : ∀ t, Steps p.tables e below (T103.setTop (mkF m 140 #[.val (.int x0), .val (.int x1), .val (.int x2), .val (.int x3), .val (.int x4), .val (.int (2147483647 : Int32)), .val (.int vp1), .val (.int vr1), .val (.int vp3), .val (.int vr3), .val (.ref b19), .val (.ref b30), .val (.int (0 : Int32)), .val (.int (own_eq vp1 vr1 vp3 vr3)), .val (.int (own_eq vp3 vr3 vp1 vr1)), .unset, .unset, .unset] [(.ref b19), (.ref b19)])) t → Steps p.tables e below (s₁.setTop (entryFrame m #[(.int x0), (.int x1), (.int x2), (.int x3), (.int x4)] maxLocals)) t := fun t k => p104 t (by
      show Steps p.tables e below (T103.setTop (mkF m 134 #[.val (.int x0), .val (.int x1), .val (.int x2), .val (.int x3), .val (.int x4), .val (.int (2147483647 : Int32)), .val (.int vp1), .val (.int vr1), .val (.int vp3), .val (.int vr3), .val (.ref b19), .val (.ref b30), .val (.int (0 : Int32)), .val (.int (own_eq vp1 vr1 vp3 vr3)), .unset, .unset, .unset, .unset] [(.int (own_eq vp3 vr3 vp1 vr1))])) _
      refine XS.istore X103.here hx rfl (hb hby at_134) rfl (l' := #[.val (.int x0), .val (.int x1), .val (.int x2), .val (.int x3), .val (.int x4), .val (.int (2147483647 : Int32)), .val (.int vp1), .val (.int vr1), .val (.int vp3), .val (.int vr3), .val (.ref b19), .val (.ref b30), .val (.int (0 : Int32)), .val (.int (own_eq vp1 vr1 vp3 vr3)), .val (.int (own_eq vp3 vr3 vp1 vr1)), .unset, .unset, .unset]) rfl ?_
      show Steps p.tables e below (T103.setTop (mkF m 136 #[.val (.int x0), .val (.int x1), .val (.int x2), .val (.int x3), .val (.int x4), .val (.int (2147483647 : Int32)), .val (.int vp1), .val (.int vr1), .val (.int vp3), .val (.int vr3), .val (.ref b19), .val (.ref b30), .val (.int (0 : Int32)), .val (.int (own_eq vp1 vr1 vp3 vr3)), .val (.int (own_eq vp3 vr3 vp1 vr1)), .unset, .unset, .unset] [])) _
      refine XS.aload X103.here hx rfl (hb hby at_136) rfl rfl ?_
      show Steps p.tables e below (T103.setTop (mkF m 138 #[.val (.int x0), .val (.int x1), .val (.int x2), .val (.int x3), .val (.int x4), .val (.int (2147483647 : Int32)), .val (.int vp1), .val (.int vr1), .val (.int vp3), .val (.int vr3), .val (.ref b19), .val (.ref b30), .val (.int (0 : Int32)), .val (.int (own_eq vp1 vr1 vp3 vr3)), .val (.int (own_eq vp3 vr3 vp1 vr1)), .unset, .unset, .unset] [(.ref b19)])) _
      refine XS.aload X103.here hx rfl (hb hby at_138) rfl rfl ?_
      exact k)
    obtain ⟨cq106, kq106, qa106, qb106, qc106⟩ := isOf hZ e103 f42
    obtain ⟨_, _, ⟨T106, L106, k106, n106⟩, -, X106, ⟨Lc106, hQ106, l106, y106, z106⟩, st106⟩ := X103.virtualBack hx (y := (⟨"com/example/kvota/kvota/PartitionReplica", "equals", "(Ljava/lang/Object;)Z"⟩ : MethodName)) (z := (⟨"com/example/kvota/kvota/PartitionReplica", "equals", "(Ljava/lang/Object;)Z"⟩ : MethodName)) hown (mvT hZ (hw _ (List.mem_of_getElem? (i := 14) rfl))) (mvT hZ (hw _ (List.mem_of_getElem? (i := 15) rfl))) (notFace_of_selects (args := #[]) (mvT hZ (hw _ (List.mem_of_getElem? (i := 17) rfl)))) (mvT hZ (hw _ (List.mem_of_getElem? (i := 17) rfl))) (mvT hZ (hw _ (List.mem_of_getElem? (i := 16) rfl))) (by decide) (backOf (W := 0) (rmS l Z a0 hw [] b19 vp1 vr1 T40.heap n0 Z40 f42 f43 f44) hZ (hw _ (List.mem_of_getElem? (i := 18) rfl)) (hw _ (List.mem_of_getElem? (i := 3) rfl)) (by decide) (by decide)) qa106 qc106 (g := (mkF m 140 #[.val (.int x0), .val (.int x1), .val (.int x2), .val (.int x3), .val (.int x4), .val (.int (2147483647 : Int32)), .val (.int vp1), .val (.int vr1), .val (.int vp3), .val (.int vr3), .val (.ref b19), .val (.ref b30), .val (.int (0 : Int32)), .val (.int (own_eq vp1 vr1 vp3 vr3)), .val (.int (own_eq vp3 vr3 vp1 vr1)), .unset, .unset, .unset] [(.ref b19), (.ref b19)])) rfl (by rw [hml]; rfl) (Steps.refl _) (argsL := [(.ref b19)]) (rest := []) (lenOf pd0_1 rfl) rfl (by show 2 * 0 + _ ≤ _; exact Nat.le_of_eq rfl) (hb hby at_140) (fun _ _ => ⟨rfl, e103, (by decide : 2 + 0 ≤ _), (by decide : 4 + 0 ≤ _)⟩)
    dsimp only [Pt.U, Pt.locs, Pt.cells, Pt.slots] at X106 l106 y106 z106 st106 hQ106
    subst l106 y106 z106
    obtain ⟨rfl, Nq106, e106⟩ := hQ106
    have N106 := Fr.app N103 Nq106
    have p107 : ∀ t, Steps p.tables e below (T106.setTop (mkF m 143 #[.val (.int x0), .val (.int x1), .val (.int x2), .val (.int x3), .val (.int x4), .val (.int (2147483647 : Int32)), .val (.int vp1), .val (.int vr1), .val (.int vp3), .val (.int vr3), .val (.ref b19), .val (.ref b30), .val (.int (0 : Int32)), .val (.int (own_eq vp1 vr1 vp3 vr3)), .val (.int (own_eq vp3 vr3 vp1 vr1)), .unset, .unset, .unset] [(.int (1 : Int32))])) t → Steps p.tables e below (s₁.setTop (entryFrame m #[(.int x0), (.int x1), (.int x2), (.int x3), (.int x4)] maxLocals)) t := fun t k => p105 t (st106.trans k)
    have p108 : ∀ t, Steps p.tables e below (T106.setTop (mkF m 148 #[.val (.int x0), .val (.int x1), .val (.int x2), .val (.int x3), .val (.int x4), .val (.int (2147483647 : Int32)), .val (.int vp1), .val (.int vr1), .val (.int vp3), .val (.int vr3), .val (.ref b19), .val (.ref b30), .val (.int (0 : Int32)), .val (.int (own_eq vp1 vr1 vp3 vr3)), .val (.int (own_eq vp3 vr3 vp1 vr1)), .val (.int (1 : Int32)), .unset, .unset] [.null, (.ref b19)])) t → Steps p.tables e below (s₁.setTop (entryFrame m #[(.int x0), (.int x1), (.int x2), (.int x3), (.int x4)] maxLocals)) t := fun t k => p107 t (by
      show Steps p.tables e below (T106.setTop (mkF m 143 #[.val (.int x0), .val (.int x1), .val (.int x2), .val (.int x3), .val (.int x4), .val (.int (2147483647 : Int32)), .val (.int vp1), .val (.int vr1), .val (.int vp3), .val (.int vr3), .val (.ref b19), .val (.ref b30), .val (.int (0 : Int32)), .val (.int (own_eq vp1 vr1 vp3 vr3)), .val (.int (own_eq vp3 vr3 vp1 vr1)), .unset, .unset, .unset] [(.int (1 : Int32))])) _
      refine XS.istore X106.here hx rfl (hb hby at_143) rfl (l' := #[.val (.int x0), .val (.int x1), .val (.int x2), .val (.int x3), .val (.int x4), .val (.int (2147483647 : Int32)), .val (.int vp1), .val (.int vr1), .val (.int vp3), .val (.int vr3), .val (.ref b19), .val (.ref b30), .val (.int (0 : Int32)), .val (.int (own_eq vp1 vr1 vp3 vr3)), .val (.int (own_eq vp3 vr3 vp1 vr1)), .val (.int (1 : Int32)), .unset, .unset]) rfl ?_
      show Steps p.tables e below (T106.setTop (mkF m 145 #[.val (.int x0), .val (.int x1), .val (.int x2), .val (.int x3), .val (.int x4), .val (.int (2147483647 : Int32)), .val (.int vp1), .val (.int vr1), .val (.int vp3), .val (.int vr3), .val (.ref b19), .val (.ref b30), .val (.int (0 : Int32)), .val (.int (own_eq vp1 vr1 vp3 vr3)), .val (.int (own_eq vp3 vr3 vp1 vr1)), .val (.int (1 : Int32)), .unset, .unset] [])) _
      refine XS.aload X106.here hx rfl (hb hby at_145) rfl rfl ?_
      show Steps p.tables e below (T106.setTop (mkF m 147 #[.val (.int x0), .val (.int x1), .val (.int x2), .val (.int x3), .val (.int x4), .val (.int (2147483647 : Int32)), .val (.int vp1), .val (.int vr1), .val (.int vp3), .val (.int vr3), .val (.ref b19), .val (.ref b30), .val (.int (0 : Int32)), .val (.int (own_eq vp1 vr1 vp3 vr3)), .val (.int (own_eq vp3 vr3 vp1 vr1)), .val (.int (1 : Int32)), .unset, .unset] [(.ref b19)])) _
      refine XS.aconstNull X106.here hx rfl (hb hby at_147) ?_
      exact k)
    obtain ⟨cq109, kq109, qa109, qb109, qc109⟩ := isOf hZ e106 f42
    obtain ⟨_, _, ⟨T109, L109, k109, n109⟩, -, X109, ⟨Lc109, hQ109, l109, y109, z109⟩, st109⟩ := X106.virtualBack hx (y := (⟨"com/example/kvota/kvota/PartitionReplica", "equals", "(Ljava/lang/Object;)Z"⟩ : MethodName)) (z := (⟨"com/example/kvota/kvota/PartitionReplica", "equals", "(Ljava/lang/Object;)Z"⟩ : MethodName)) hown (mvT hZ (hw _ (List.mem_of_getElem? (i := 14) rfl))) (mvT hZ (hw _ (List.mem_of_getElem? (i := 15) rfl))) (notFace_of_selects (args := #[]) (mvT hZ (hw _ (List.mem_of_getElem? (i := 17) rfl)))) (mvT hZ (hw _ (List.mem_of_getElem? (i := 17) rfl))) (mvT hZ (hw _ (List.mem_of_getElem? (i := 16) rfl))) (by decide) (backOf (W := 0) (rmN l Z a0 hw [] b19  T40.heap n0 Z40 ) hZ (hw _ (List.mem_of_getElem? (i := 18) rfl)) (hw _ (List.mem_of_getElem? (i := 3) rfl)) (by decide) (by decide)) qa109 qc109 (g := (mkF m 148 #[.val (.int x0), .val (.int x1), .val (.int x2), .val (.int x3), .val (.int x4), .val (.int (2147483647 : Int32)), .val (.int vp1), .val (.int vr1), .val (.int vp3), .val (.int vr3), .val (.ref b19), .val (.ref b30), .val (.int (0 : Int32)), .val (.int (own_eq vp1 vr1 vp3 vr3)), .val (.int (own_eq vp3 vr3 vp1 vr1)), .val (.int (1 : Int32)), .unset, .unset] [.null, (.ref b19)])) rfl (by rw [hml]; rfl) (Steps.refl _) (argsL := [.null]) (rest := []) (lenOf pd0_1 rfl) rfl (by show 2 * 0 + _ ≤ _; exact Nat.le_of_eq rfl) (hb hby at_148) (fun _ _ => ⟨rfl, e106, (by decide : 2 + 0 ≤ _), (by decide : 4 + 0 ≤ _)⟩)
    dsimp only [Pt.U, Pt.locs, Pt.cells, Pt.slots] at X109 l109 y109 z109 st109 hQ109
    subst l109 y109 z109
    obtain ⟨rfl, Nq109, e109⟩ := hQ109
    have N109 := Fr.app N106 Nq109
    have p110 : ∀ t, Steps p.tables e below (T109.setTop (mkF m 151 #[.val (.int x0), .val (.int x1), .val (.int x2), .val (.int x3), .val (.int x4), .val (.int (2147483647 : Int32)), .val (.int vp1), .val (.int vr1), .val (.int vp3), .val (.int vr3), .val (.ref b19), .val (.ref b30), .val (.int (0 : Int32)), .val (.int (own_eq vp1 vr1 vp3 vr3)), .val (.int (own_eq vp3 vr3 vp1 vr1)), .val (.int (1 : Int32)), .unset, .unset] [(.int (0 : Int32))])) t → Steps p.tables e below (s₁.setTop (entryFrame m #[(.int x0), (.int x1), (.int x2), (.int x3), (.int x4)] maxLocals)) t := fun t k => p108 t (st109.trans k)
    have p111 : ∀ t, Steps p.tables e below (T109.setTop (mkF m 157 #[.val (.int x0), .val (.int x1), .val (.int x2), .val (.int x3), .val (.int x4), .val (.int (2147483647 : Int32)), .val (.int vp1), .val (.int vr1), .val (.int vp3), .val (.int vr3), .val (.ref b19), .val (.ref b30), .val (.int (0 : Int32)), .val (.int (own_eq vp1 vr1 vp3 vr3)), .val (.int (own_eq vp3 vr3 vp1 vr1)), .val (.int (1 : Int32)), .val (.int (0 : Int32)), .unset] [(.int vp1), (.ref b19)])) t → Steps p.tables e below (s₁.setTop (entryFrame m #[(.int x0), (.int x1), (.int x2), (.int x3), (.int x4)] maxLocals)) t := fun t k => p110 t (by
      show Steps p.tables e below (T109.setTop (mkF m 151 #[.val (.int x0), .val (.int x1), .val (.int x2), .val (.int x3), .val (.int x4), .val (.int (2147483647 : Int32)), .val (.int vp1), .val (.int vr1), .val (.int vp3), .val (.int vr3), .val (.ref b19), .val (.ref b30), .val (.int (0 : Int32)), .val (.int (own_eq vp1 vr1 vp3 vr3)), .val (.int (own_eq vp3 vr3 vp1 vr1)), .val (.int (1 : Int32)), .unset, .unset] [(.int (0 : Int32))])) _
      refine XS.istore X109.here hx rfl (hb hby at_151) rfl (l' := #[.val (.int x0), .val (.int x1), .val (.int x2), .val (.int x3), .val (.int x4), .val (.int (2147483647 : Int32)), .val (.int vp1), .val (.int vr1), .val (.int vp3), .val (.int vr3), .val (.ref b19), .val (.ref b30), .val (.int (0 : Int32)), .val (.int (own_eq vp1 vr1 vp3 vr3)), .val (.int (own_eq vp3 vr3 vp1 vr1)), .val (.int (1 : Int32)), .val (.int (0 : Int32)), .unset]) rfl ?_
      show Steps p.tables e below (T109.setTop (mkF m 153 #[.val (.int x0), .val (.int x1), .val (.int x2), .val (.int x3), .val (.int x4), .val (.int (2147483647 : Int32)), .val (.int vp1), .val (.int vr1), .val (.int vp3), .val (.int vr3), .val (.ref b19), .val (.ref b30), .val (.int (0 : Int32)), .val (.int (own_eq vp1 vr1 vp3 vr3)), .val (.int (own_eq vp3 vr3 vp1 vr1)), .val (.int (1 : Int32)), .val (.int (0 : Int32)), .unset] [])) _
      refine XS.aload X109.here hx rfl (hb hby at_153) rfl rfl ?_
      show Steps p.tables e below (T109.setTop (mkF m 155 #[.val (.int x0), .val (.int x1), .val (.int x2), .val (.int x3), .val (.int x4), .val (.int (2147483647 : Int32)), .val (.int vp1), .val (.int vr1), .val (.int vp3), .val (.int vr3), .val (.ref b19), .val (.ref b30), .val (.int (0 : Int32)), .val (.int (own_eq vp1 vr1 vp3 vr3)), .val (.int (own_eq vp3 vr3 vp1 vr1)), .val (.int (1 : Int32)), .val (.int (0 : Int32)), .unset] [(.ref b19)])) _
      refine XS.iload X109.here hx rfl (hb hby at_155) rfl ?_
      exact k)
    obtain ⟨_, _, ⟨T112, L112, k112, n112⟩, -, X112, ⟨Lc112, hQ112, l112, y112, z112⟩, st112⟩ := Jvm.LawKit.callS X109 hx (y := (⟨"java/lang/Integer", "valueOf", "(I)Ljava/lang/Integer;"⟩ : MethodName)) hown (mvT hZ (hw _ (List.mem_of_getElem? (i := 21) rfl))) (mvT hZ (hw _ (List.mem_of_getElem? (i := 22) rfl))) (mvT hZ (hw _ (List.mem_of_getElem? (i := 23) rfl))) (mvT hZ (hw _ (List.mem_of_getElem? (i := 24) rfl))) (by decide) (backOf (W := 1) (rmV l Z a0 hw [] vp1 a_C cc own_val T40.heap n0 Z40 h0vp1 f41 S_h S_c B0) hZ (hw _ (List.mem_of_getElem? (i := 24) rfl)) (hw _ (List.mem_of_getElem? (i := 23) rfl)) (by decide) (by decide)) (g := (mkF m 157 #[.val (.int x0), .val (.int x1), .val (.int x2), .val (.int x3), .val (.int x4), .val (.int (2147483647 : Int32)), .val (.int vp1), .val (.int vr1), .val (.int vp3), .val (.int vr3), .val (.ref b19), .val (.ref b30), .val (.int (0 : Int32)), .val (.int (own_eq vp1 vr1 vp3 vr3)), .val (.int (own_eq vp3 vr3 vp1 vr1)), .val (.int (1 : Int32)), .val (.int (0 : Int32)), .unset] [(.int vp1), (.ref b19)])) rfl (by rw [hml]; rfl) (argsL := [(.int vp1)]) (rest := [(.ref b19)]) (lenOf pd0_2 rfl) rfl (by show 2 * 0 + _ ≤ _; exact Nat.le_of_eq rfl) (hb hby at_157) (fun _ _ => ⟨rfl, e109, (by decide : 2 + 1 ≤ _), (by decide : 4 + 1 ≤ _)⟩)
    dsimp only [Pt.U, Pt.locs, Pt.cells, Pt.slots] at X112 l112 y112 z112 st112 hQ112
    subst l112 y112 z112
    obtain ⟨r112, rfl, Nq112, K112, EI112⟩ := hQ112
    have N112 := Fr.app N109 Nq112
    have f113 := f41.keep K112 (all0)
    have f114 := f42.keep K112
    have f115 := f43.keep K112 nin0
    have f116 := f44.keep K112 nin0
    have f117 := f45.keep K112
    have f118 := Fa40.keep K112 nin0
    have f119 := Fb40.keep K112 nin0
    have Z112 := Nat.le_trans Z40 K112.1
    have p120 : ∀ t, Steps p.tables e below (T112.setTop (mkF m 160 #[.val (.int x0), .val (.int x1), .val (.int x2), .val (.int x3), .val (.int x4), .val (.int (2147483647 : Int32)), .val (.int vp1), .val (.int vr1), .val (.int vp3), .val (.int vr3), .val (.ref b19), .val (.ref b30), .val (.int (0 : Int32)), .val (.int (own_eq vp1 vr1 vp3 vr3)), .val (.int (own_eq vp3 vr3 vp1 vr1)), .val (.int (1 : Int32)), .val (.int (0 : Int32)), .unset] [(.ref r112), (.ref b19)])) t → Steps p.tables e below (s₁.setTop (entryFrame m #[(.int x0), (.int x1), (.int x2), (.int x3), (.int x4)] maxLocals)) t := fun t k => p111 t (st112 _ k)
    obtain ⟨cq121, kq121, qa121, qb121, qc121⟩ := isOf hZ rfl f114
    obtain ⟨_, _, ⟨T121, L121, k121, n121⟩, -, X121, ⟨Lc121, hQ121, l121, y121, z121⟩, st121⟩ := X112.virtualBack hx (y := (⟨"com/example/kvota/kvota/PartitionReplica", "equals", "(Ljava/lang/Object;)Z"⟩ : MethodName)) (z := (⟨"com/example/kvota/kvota/PartitionReplica", "equals", "(Ljava/lang/Object;)Z"⟩ : MethodName)) hown (mvT hZ (hw _ (List.mem_of_getElem? (i := 14) rfl))) (mvT hZ (hw _ (List.mem_of_getElem? (i := 15) rfl))) (notFace_of_selects (args := #[]) (mvT hZ (hw _ (List.mem_of_getElem? (i := 17) rfl)))) (mvT hZ (hw _ (List.mem_of_getElem? (i := 17) rfl))) (mvT hZ (hw _ (List.mem_of_getElem? (i := 16) rfl))) (by decide) (backOf (W := 0) (rmO l Z a0 hw [] b19 r112  T112.heap n0 Z112 EI112 hno) hZ (hw _ (List.mem_of_getElem? (i := 18) rfl)) (hw _ (List.mem_of_getElem? (i := 3) rfl)) (by decide) (by decide)) qa121 qc121 (g := (mkF m 160 #[.val (.int x0), .val (.int x1), .val (.int x2), .val (.int x3), .val (.int x4), .val (.int (2147483647 : Int32)), .val (.int vp1), .val (.int vr1), .val (.int vp3), .val (.int vr3), .val (.ref b19), .val (.ref b30), .val (.int (0 : Int32)), .val (.int (own_eq vp1 vr1 vp3 vr3)), .val (.int (own_eq vp3 vr3 vp1 vr1)), .val (.int (1 : Int32)), .val (.int (0 : Int32)), .unset] [(.ref r112), (.ref b19)])) rfl (by rw [hml]; rfl) (Steps.refl _) (argsL := [(.ref r112)]) (rest := []) (lenOf pd0_1 rfl) rfl (by show 2 * 0 + _ ≤ _; exact Nat.le_of_eq rfl) (hb hby at_160) (fun _ _ => ⟨rfl, rfl, (by decide : 3 + 0 ≤ _), (by decide : 5 + 0 ≤ _)⟩)
    dsimp only [Pt.U, Pt.locs, Pt.cells, Pt.slots] at X121 l121 y121 z121 st121 hQ121
    subst l121 y121 z121
    obtain ⟨rfl, Nq121, e121⟩ := hQ121
    have N121 := Fr.app N112 Nq121
    have p122 : ∀ t, Steps p.tables e below (T121.setTop (mkF m 163 #[.val (.int x0), .val (.int x1), .val (.int x2), .val (.int x3), .val (.int x4), .val (.int (2147483647 : Int32)), .val (.int vp1), .val (.int vr1), .val (.int vp3), .val (.int vr3), .val (.ref b19), .val (.ref b30), .val (.int (0 : Int32)), .val (.int (own_eq vp1 vr1 vp3 vr3)), .val (.int (own_eq vp3 vr3 vp1 vr1)), .val (.int (1 : Int32)), .val (.int (0 : Int32)), .unset] [(.int (0 : Int32))])) t → Steps p.tables e below (s₁.setTop (entryFrame m #[(.int x0), (.int x1), (.int x2), (.int x3), (.int x4)] maxLocals)) t := fun t k => p120 t (st121.trans k)
    have p123 : ∀ t, Steps p.tables e below (T121.setTop (mkF m 199 #[.val (.int x0), .val (.int x1), .val (.int x2), .val (.int x3), .val (.int x4), .val (.int (2147483647 : Int32)), .val (.int vp1), .val (.int vr1), .val (.int vp3), .val (.int vr3), .val (.ref b19), .val (.ref b30), .val (.int (0 : Int32)), .val (.int (own_eq vp1 vr1 vp3 vr3)), .val (.int (own_eq vp3 vr3 vp1 vr1)), .val (.int (1 : Int32)), .val (.int (0 : Int32)), .val (.int (0 : Int32))] [(.int (1 : Int32))])) t → Steps p.tables e below (s₁.setTop (entryFrame m #[(.int x0), (.int x1), (.int x2), (.int x3), (.int x4)] maxLocals)) t := fun t k => p122 t (by
      show Steps p.tables e below (T121.setTop (mkF m 163 #[.val (.int x0), .val (.int x1), .val (.int x2), .val (.int x3), .val (.int x4), .val (.int (2147483647 : Int32)), .val (.int vp1), .val (.int vr1), .val (.int vp3), .val (.int vr3), .val (.ref b19), .val (.ref b30), .val (.int (0 : Int32)), .val (.int (own_eq vp1 vr1 vp3 vr3)), .val (.int (own_eq vp3 vr3 vp1 vr1)), .val (.int (1 : Int32)), .val (.int (0 : Int32)), .unset] [(.int (0 : Int32))])) _
      refine XS.istore X121.here hx rfl (hb hby at_163) rfl (l' := #[.val (.int x0), .val (.int x1), .val (.int x2), .val (.int x3), .val (.int x4), .val (.int (2147483647 : Int32)), .val (.int vp1), .val (.int vr1), .val (.int vp3), .val (.int vr3), .val (.ref b19), .val (.ref b30), .val (.int (0 : Int32)), .val (.int (own_eq vp1 vr1 vp3 vr3)), .val (.int (own_eq vp3 vr3 vp1 vr1)), .val (.int (1 : Int32)), .val (.int (0 : Int32)), .val (.int (0 : Int32))]) rfl ?_
      show Steps p.tables e below (T121.setTop (mkF m 165 #[.val (.int x0), .val (.int x1), .val (.int x2), .val (.int x3), .val (.int x4), .val (.int (2147483647 : Int32)), .val (.int vp1), .val (.int vr1), .val (.int vp3), .val (.int vr3), .val (.ref b19), .val (.ref b30), .val (.int (0 : Int32)), .val (.int (own_eq vp1 vr1 vp3 vr3)), .val (.int (own_eq vp3 vr3 vp1 vr1)), .val (.int (1 : Int32)), .val (.int (0 : Int32)), .val (.int (0 : Int32))] [])) _
      refine XS.iload X121.here hx rfl (hb hby at_165) rfl ?_
      show Steps p.tables e below (T121.setTop (mkF m 167 #[.val (.int x0), .val (.int x1), .val (.int x2), .val (.int x3), .val (.int x4), .val (.int (2147483647 : Int32)), .val (.int vp1), .val (.int vr1), .val (.int vp3), .val (.int vr3), .val (.ref b19), .val (.ref b30), .val (.int (0 : Int32)), .val (.int (own_eq vp1 vr1 vp3 vr3)), .val (.int (own_eq vp3 vr3 vp1 vr1)), .val (.int (1 : Int32)), .val (.int (0 : Int32)), .val (.int (0 : Int32))] [(.int (own_eq vp1 vr1 vp3 vr3))])) _
      refine XS.iload X121.here hx rfl (hb hby at_167) rfl ?_
      show Steps p.tables e below (T121.setTop (mkF m 169 #[.val (.int x0), .val (.int x1), .val (.int x2), .val (.int x3), .val (.int x4), .val (.int (2147483647 : Int32)), .val (.int vp1), .val (.int vr1), .val (.int vp3), .val (.int vr3), .val (.ref b19), .val (.ref b30), .val (.int (0 : Int32)), .val (.int (own_eq vp1 vr1 vp3 vr3)), .val (.int (own_eq vp3 vr3 vp1 vr1)), .val (.int (1 : Int32)), .val (.int (0 : Int32)), .val (.int (0 : Int32))] [(.int (0 : Int32)), (.int (own_eq vp1 vr1 vp3 vr3))])) _
      refine XS.icmpNo X121.here hx rfl (hb hby at_169) rfl ((teq (by unfold own_eq; rw [if_neg (fun q => hc101 (Eq.symm q))])).2) ?_
      show Steps p.tables e below (T121.setTop (mkF m 172 #[.val (.int x0), .val (.int x1), .val (.int x2), .val (.int x3), .val (.int x4), .val (.int (2147483647 : Int32)), .val (.int vp1), .val (.int vr1), .val (.int vp3), .val (.int vr3), .val (.ref b19), .val (.ref b30), .val (.int (0 : Int32)), .val (.int (own_eq vp1 vr1 vp3 vr3)), .val (.int (own_eq vp3 vr3 vp1 vr1)), .val (.int (1 : Int32)), .val (.int (0 : Int32)), .val (.int (0 : Int32))] [])) _
      refine XS.iload X121.here hx rfl (hb hby at_172) rfl ?_
      show Steps p.tables e below (T121.setTop (mkF m 174 #[.val (.int x0), .val (.int x1), .val (.int x2), .val (.int x3), .val (.int x4), .val (.int (2147483647 : Int32)), .val (.int vp1), .val (.int vr1), .val (.int vp3), .val (.int vr3), .val (.ref b19), .val (.ref b30), .val (.int (0 : Int32)), .val (.int (own_eq vp1 vr1 vp3 vr3)), .val (.int (own_eq vp3 vr3 vp1 vr1)), .val (.int (1 : Int32)), .val (.int (0 : Int32)), .val (.int (0 : Int32))] [(.int (own_eq vp3 vr3 vp1 vr1))])) _
      refine XS.iload X121.here hx rfl (hb hby at_174) rfl ?_
      show Steps p.tables e below (T121.setTop (mkF m 176 #[.val (.int x0), .val (.int x1), .val (.int x2), .val (.int x3), .val (.int x4), .val (.int (2147483647 : Int32)), .val (.int vp1), .val (.int vr1), .val (.int vp3), .val (.int vr3), .val (.ref b19), .val (.ref b30), .val (.int (0 : Int32)), .val (.int (own_eq vp1 vr1 vp3 vr3)), .val (.int (own_eq vp3 vr3 vp1 vr1)), .val (.int (1 : Int32)), .val (.int (0 : Int32)), .val (.int (0 : Int32))] [(.int (0 : Int32)), (.int (own_eq vp3 vr3 vp1 vr1))])) _
      refine XS.icmpNo X121.here hx rfl (hb hby at_176) rfl ((teq (by unfold own_eq; rw [if_neg hc101])).2) ?_
      show Steps p.tables e below (T121.setTop (mkF m 179 #[.val (.int x0), .val (.int x1), .val (.int x2), .val (.int x3), .val (.int x4), .val (.int (2147483647 : Int32)), .val (.int vp1), .val (.int vr1), .val (.int vp3), .val (.int vr3), .val (.ref b19), .val (.ref b30), .val (.int (0 : Int32)), .val (.int (own_eq vp1 vr1 vp3 vr3)), .val (.int (own_eq vp3 vr3 vp1 vr1)), .val (.int (1 : Int32)), .val (.int (0 : Int32)), .val (.int (0 : Int32))] [])) _
      refine XS.iload X121.here hx rfl (hb hby at_179) rfl ?_
      show Steps p.tables e below (T121.setTop (mkF m 181 #[.val (.int x0), .val (.int x1), .val (.int x2), .val (.int x3), .val (.int x4), .val (.int (2147483647 : Int32)), .val (.int vp1), .val (.int vr1), .val (.int vp3), .val (.int vr3), .val (.ref b19), .val (.ref b30), .val (.int (0 : Int32)), .val (.int (own_eq vp1 vr1 vp3 vr3)), .val (.int (own_eq vp3 vr3 vp1 vr1)), .val (.int (1 : Int32)), .val (.int (0 : Int32)), .val (.int (0 : Int32))] [(.int (1 : Int32))])) _
      refine XS.ifNo X121.here hx rfl (hb hby at_181) rfl ((if0 _ _).trans (feq (by decide)).1) ?_
      show Steps p.tables e below (T121.setTop (mkF m 184 #[.val (.int x0), .val (.int x1), .val (.int x2), .val (.int x3), .val (.int x4), .val (.int (2147483647 : Int32)), .val (.int vp1), .val (.int vr1), .val (.int vp3), .val (.int vr3), .val (.ref b19), .val (.ref b30), .val (.int (0 : Int32)), .val (.int (own_eq vp1 vr1 vp3 vr3)), .val (.int (own_eq vp3 vr3 vp1 vr1)), .val (.int (1 : Int32)), .val (.int (0 : Int32)), .val (.int (0 : Int32))] [])) _
      refine XS.iload X121.here hx rfl (hb hby at_184) rfl ?_
      show Steps p.tables e below (T121.setTop (mkF m 186 #[.val (.int x0), .val (.int x1), .val (.int x2), .val (.int x3), .val (.int x4), .val (.int (2147483647 : Int32)), .val (.int vp1), .val (.int vr1), .val (.int vp3), .val (.int vr3), .val (.ref b19), .val (.ref b30), .val (.int (0 : Int32)), .val (.int (own_eq vp1 vr1 vp3 vr3)), .val (.int (own_eq vp3 vr3 vp1 vr1)), .val (.int (1 : Int32)), .val (.int (0 : Int32)), .val (.int (0 : Int32))] [(.int (0 : Int32))])) _
      refine XS.ifNo X121.here hx rfl (hb hby at_186) rfl ((if0 _ _).trans (teq (rfl)).2) ?_
      show Steps p.tables e below (T121.setTop (mkF m 189 #[.val (.int x0), .val (.int x1), .val (.int x2), .val (.int x3), .val (.int x4), .val (.int (2147483647 : Int32)), .val (.int vp1), .val (.int vr1), .val (.int vp3), .val (.int vr3), .val (.ref b19), .val (.ref b30), .val (.int (0 : Int32)), .val (.int (own_eq vp1 vr1 vp3 vr3)), .val (.int (own_eq vp3 vr3 vp1 vr1)), .val (.int (1 : Int32)), .val (.int (0 : Int32)), .val (.int (0 : Int32))] [])) _
      refine XS.iload X121.here hx rfl (hb hby at_189) rfl ?_
      show Steps p.tables e below (T121.setTop (mkF m 191 #[.val (.int x0), .val (.int x1), .val (.int x2), .val (.int x3), .val (.int x4), .val (.int (2147483647 : Int32)), .val (.int vp1), .val (.int vr1), .val (.int vp3), .val (.int vr3), .val (.ref b19), .val (.ref b30), .val (.int (0 : Int32)), .val (.int (own_eq vp1 vr1 vp3 vr3)), .val (.int (own_eq vp3 vr3 vp1 vr1)), .val (.int (1 : Int32)), .val (.int (0 : Int32)), .val (.int (0 : Int32))] [(.int (0 : Int32))])) _
      refine XS.ifNo X121.here hx rfl (hb hby at_191) rfl ((if0 _ _).trans (teq (rfl)).2) ?_
      show Steps p.tables e below (T121.setTop (mkF m 194 #[.val (.int x0), .val (.int x1), .val (.int x2), .val (.int x3), .val (.int x4), .val (.int (2147483647 : Int32)), .val (.int vp1), .val (.int vr1), .val (.int vp3), .val (.int vr3), .val (.ref b19), .val (.ref b30), .val (.int (0 : Int32)), .val (.int (own_eq vp1 vr1 vp3 vr3)), .val (.int (own_eq vp3 vr3 vp1 vr1)), .val (.int (1 : Int32)), .val (.int (0 : Int32)), .val (.int (0 : Int32))] [])) _
      refine XS.iconst X121.here hx rfl (hb hby at_194) ?_
      show Steps p.tables e below (T121.setTop (mkF m 195 #[.val (.int x0), .val (.int x1), .val (.int x2), .val (.int x3), .val (.int x4), .val (.int (2147483647 : Int32)), .val (.int vp1), .val (.int vr1), .val (.int vp3), .val (.int vr3), .val (.ref b19), .val (.ref b30), .val (.int (0 : Int32)), .val (.int (own_eq vp1 vr1 vp3 vr3)), .val (.int (own_eq vp3 vr3 vp1 vr1)), .val (.int (1 : Int32)), .val (.int (0 : Int32)), .val (.int (0 : Int32))] [(.int (1 : Int32))])) _
      refine XS.goto X121.here hx rfl (pc0 := 195) (pc' := 199) rfl (hb hby at_195) (by decide) (by decide) ?_
      exact k)
    obtain ⟨fs, hr, hrun, hended, hW, hsame⟩ := X121.leave (v := some (.int (1 : Int32))) (fun h => by rw [Bd.returns] at h; cases h)
    refine ⟨_, _, p123 _ ?_, hrun, hended, _, _, rfl, ?_, ⟨_, rfl⟩, hW, hsame.mono (by decide) (by decide)⟩
    · show Steps p.tables e below (T121.setTop (mkF m 199 #[.val (.int x0), .val (.int x1), .val (.int x2), .val (.int x3), .val (.int x4), .val (.int (2147483647 : Int32)), .val (.int vp1), .val (.int vr1), .val (.int vp3), .val (.int vr3), .val (.ref b19), .val (.ref b30), .val (.int (0 : Int32)), .val (.int (own_eq vp1 vr1 vp3 vr3)), .val (.int (own_eq vp3 vr3 vp1 vr1)), .val (.int (1 : Int32)), .val (.int (0 : Int32)), .val (.int (0 : Int32))] [(.int (1 : Int32))])) _
      exact retN X121 hx (t := .boolean) Bd.returns (by simp) (hb hby at_199) hr
    · show Q0 Z x0 x1 x2 x3 x4 a_C cc own_val h0 n0 _ T121.heap _
      rw [e121]
      exact ⟨rfl, N121⟩
set_option maxRecDepth 65536 in
set_option maxHeartbeats 40000000 in
theorem comes_1 {Post : Tables → Env → Array Value → State → Outcome → State → Prop} (hpost : ∀ tb e args s v u, (limb_1_1.after args s (.returned v) u = true ∧ limb_1_2.after args s (.returned v) u = true ∧ True) → FrameEnd s (.returned v) u (Jvm.fieldLocs frame_1_writes args s ++ Jvm.arrayLocs frame_1_arrays args s ++ Jvm.staticLocs frame_1_statics s) 16 128 → Post tb e args s (.returned v) u) :
    ArmFor flags0 classFile x code maxLocals ret World_1 tables_1 room_1 Calls_1 rest_1 Pre_1 Post := by
  intro l hfl _ _ p e ha hc hk s m args below hf hA hF happ hP
  obtain ⟨hcalls, hrest, hpre⟩ := hP
  obtain ⟨-, -, -, hnamed, -, -, -, hat⟩ := (Spec.applies_iff hf).mp happ
  obtain ⟨hg, hn⟩ := and_e (Cond.before_iff.mp (show (Jvm.Cond.and given_1 narrow_1).before args s = true from hpre))
  obtain ⟨hcount, ga0⟩ := and_e hg
  obtain ⟨gb0, ga1⟩ := and_e ga0
  obtain ⟨gb1, ga2⟩ := and_e ga1
  obtain ⟨gb2, ga3⟩ := and_e ga2
  obtain ⟨gb3, ga4⟩ := and_e ga3
  obtain ⟨w0, w1, w2, w3, w4, rfl⟩ : ∃ w0 w1 w2 w3 w4 : Value, args = #[w0, w1, w2, w3, w4] := by
    have hs : args.size = 5 := by simpa [Cond.value, given_1] using hcount
    obtain ⟨L⟩ := args
    match L, hs with
    | [w0, w1, w2, w3, w4], _ => exact ⟨w0, w1, w2, w3, w4, rfl⟩
  have hw := fun d (hd : d ∈ tables_1) => atoms_spec (ws := Jvm.Cond.code x code maxLocals ret :: tables_1) hat d (List.mem_cons_of_mem _ hd)
  have hfit : Fit s := fun {y c} hc i hi => by
    obtain ⟨ha, rfl⟩ := Array.getElem?_eq_some_iff.mp hc
    have q := List.all_eq_true.mp ((Array.all_eq_true_iff_forall_mem.mp hF) _ (Array.getElem_mem ha)) i (List.mem_range.mpr hi)
    simpa [Array.getElem?_eq_getElem hi] using q
  obtain ⟨hsets, hown0⟩ := atoms_of _ (rest_1_c_eq ▸ (show rest_1_c.before _ s = true from hrest))
  obtain ⟨i0, ei0⟩ := is_v gb0
  obtain rfl : w0 = (.int i0) := Option.some.inj ei0
  obtain ⟨i1, ei1⟩ := is_v gb1
  obtain rfl : w1 = (.int i1) := Option.some.inj ei1
  obtain ⟨i2, ei2⟩ := is_v gb2
  obtain rfl : w2 = (.int i2) := Option.some.inj ei2
  obtain ⟨i3, ei3⟩ := is_v gb3
  obtain rfl : w3 = (.int i3) := Option.some.inj ei3
  obtain ⟨i4, ei4⟩ := is_v ga4
  obtain rfl : w4 = (.int i4) := Option.some.inj ei4
  have O0 := Old.start s
  have S_h : Sta s s.heap "java/lang/Integer$IntegerCache" "high" "I" (.int (127 : Int32)) := Sta.start (eqv_i (Term.int_eval (127)) (Cond.before_iff.mp (hsets _ (List.mem_of_getElem? (i := 3) rfl)))) (Or.inl (hsets _ (List.mem_of_getElem? (i := 1) rfl)))
  obtain ⟨a_C, ev_C⟩ := arr_v (Cond.before_iff.mp (hsets _ (List.mem_of_getElem? (i := 4) rfl)))
  obtain ⟨cc, A_C⟩ := Arr.start ev_C (Cond.before_iff.mp (hsets _ (List.mem_of_getElem? (i := 4) rfl)))
  have S_c : Sta s s.heap "java/lang/Integer$IntegerCache" "cache" "[Ljava/lang/Integer;" (.ref a_C) := Sta.start ev_C (Or.inr ⟨(hw _ (List.mem_of_getElem? (i := 26) rfl)), (hsets _ (List.mem_of_getElem? (i := 2) rfl))⟩)
  obtain ⟨hsz, hlen⟩ := own_len ev_C (A_C.fin (Vm.Alike.refl _)) (eqv_i (Term.int_eval (256)) (Cond.before_iff.mp (hsets _ (List.mem_of_getElem? (i := 6) rfl))))
  have B0 : Bxs s a_C cc "java/lang/Integer" "I" (256 : Int32) (fun j => .int (j - (128 : Int32))) := Bxs.start (fun idx => ev_C) A_C hsz hlen (by decide) (Cond.before_iff.mp (hsets _ (List.mem_of_getElem? (i := 7) rfl))) (fun X j hj hX => eqv_i (Term.sub_int (idx_at hj) (Term.int_eval (128))) hX)
  obtain ⟨n, o, h1, h2, h3, _, L, rfl, ⟨rfl, N⟩, hq⟩ := rm0 l s _ hw tables_1 i0 i1 i2 i3 i4 a_C cc _ s.heap s.heap.size (Nat.le_refl _) O0 S_h S_c B0 p e ha hc hk s m _ below hf ((Spec.applies_iff_loose hf).mp happ).1 ⟨rfl, State.Warmed39.refl s, rfl⟩ trivial
  refine ⟨n, _, h1, h2, h3, hpost _ _ _ _ _ _ ⟨Cond.after_iff.mpr rfl, Cond.after_iff.mpr (eq_i res_at (Term.int_eval (1)) rfl), trivial⟩ ⟨hq.1, hq.2.1, (hq.2.2.sift fun y hy => Or.inr (N y hy)).mono (by decide) (by decide)⟩⟩
theorem main_1_1 : Claimed_1_1 := comes_1 fun _ _ _ _ _ _ h hF => ⟨h.1, hF⟩
theorem main_1_2 : Claimed_1_2 := comes_1 fun _ _ _ _ _ _ h hF => ⟨h.2.1, hF⟩
end Jvm.Pilot.@@N@@
namespace Jvm.Pilot.@@N@@
open Jvm Jvm.ClassFile Sem Op Lib Jvm.Free Jvm.Stand Jvm.Pilot.@@N@@.Jvm.D
/-! MADE BY PROGRAM (witnessworld.py) out of the Statement's table words and the real class files: 14 classes; the members and pool entries that the words name. The judged class is class 1, her method 1. -/
namespace start1
open Jvm.ClassFile
def u (s : String) : CpInfo := .utf8 (stringToUtf16 s)
/-- a pool by its gaps: so many unusable entries, then the entry; so many at the end -/
def gap : Nat → List CpInfo → List CpInfo
  | 0, r => r
  | n + 1, r => .unusable :: gap n r
def poolList (es : List (Nat × CpInfo)) (last : Nat) : List CpInfo := es.foldr (fun e r => gap e.1 (e.2 :: r)) (gap last [])
def pool (es : List (Nat × CpInfo)) (last : Nat) : Array CpInfo := ⟨poolList es last⟩
def fileOf (pool : Array CpInfo) (this : Nat) (attrs : Array Attribute := #[]) (ms : Array MethodInfo := #[]) (fl : Nat := 33) (sup : Nat := 0) (ifs : Array Nat := #[]) (fds : Array FieldInfo := #[]) : ClassFile where
  minorVersion := 0
  majorVersion := 65
  constantPool := pool
  accessFlags := fl
  thisClass := this
  superClass := sup
  interfaces := ifs
  fields := fds
  methods := ms
  attributes := attrs
def plain (name : String) (sup : Option ClassId) : Class where
  name := name
  kind := .ordinary
  loader := none
  accessFlags := 33
  super := sup
  interfaces := #[]
  cf := none
  fields := #[]
  methods := #[]
  instanceTypes := #[]
  staticTypes := #[]
  resolved := #[]
  callSites := []
  init := .initialized
  statics := none
  mirror := none

def pool0 : Array CpInfo := pool [(5, u "<init>"), (0, u "()V"), (1, .class_ 10), (1, u "java/lang/Object")] 113

def k0c0 : Code := { maxStack := 0, maxLocals := 1, code := object_method_1_code, exceptionTable := #[], attributes := #[] }
def k0m0 : Method := { name := "<init>", desc := "()V", sig := { parameters := [], returnType := none }, accessFlags := 1, code := some k0c0 }
/-- java/lang/Object -/
def k0 : Class := { plain "java/lang/Object" none with
  accessFlags := 33
  interfaces := #[]
  cf := some (fileOf pool0 8 #[] #[{ accessFlags := 1, nameIndex := 5, descriptorIndex := 6, attributes := #[] }] 33 0 #[] #[])
  fields := #[]
  methods := #[k0m0]
  instanceTypes := #[]
  staticTypes := #[]
  resolved := Array.replicate 124 none
  statics := none }

def pool1 : Array CpInfo := pool [(2, .class_ 4), (1, u "java/lang/Object"), (0, u "<init>"), (0, u "()V"), (0, .integer 2147483647), (0, .class_ 9), (0, u "com/example/kvota/kvota/PartitionReplica"), (0, .methodref 8 11), (0, .nameAndType 5 12), (0, u "(II)V"), (0, .methodref 8 14), (0, .nameAndType 15 16), (0, u "equals"), (0, u "(Ljava/lang/Object;)Z"), (0, .methodref 18 19), (0, .class_ 20), (0, .nameAndType 21 22), (0, u "java/lang/Integer"), (0, u "valueOf"), (0, u "(I)Ljava/lang/Integer;"), (0, .class_ 24), (0, u "com/example/kvota/kvota/PartitionReplicaEqualsPinLaw"), (2, u "law"), (0, u "(IIIII)Z")] 3

def k1m0 : Method := { name := "<init>", desc := "()V", sig := { parameters := [], returnType := none }, accessFlags := 1, code := none }
def k1c1 : Code := { maxStack := 4, maxLocals := 18, code := code, exceptionTable := #[], attributes := #[] }
def k1m1 : Method := { name := "law", desc := "(IIIII)Z", sig := { parameters := [.int, .int, .int, .int, .int], returnType := some .boolean }, accessFlags := 9, code := some k1c1 }
/-- com/example/kvota/kvota/PartitionReplicaEqualsPinLaw -/
def k1 : Class := { plain "com/example/kvota/kvota/PartitionReplicaEqualsPinLaw" (some 0) with
  accessFlags := 49
  interfaces := #[]
  cf := some (fileOf pool1 23 #[] #[{ accessFlags := 1, nameIndex := 5, descriptorIndex := 6, attributes := #[] }, { accessFlags := 9, nameIndex := 27, descriptorIndex := 28, attributes := #[] }] 49 2 #[] #[])
  fields := #[]
  methods := #[k1m0, k1m1]
  instanceTypes := #[]
  staticTypes := #[]
  resolved := Array.replicate 32 none
  statics := none }

def pool2 : Array CpInfo := pool [(1, .methodref 2 3), (0, .class_ 4), (0, .nameAndType 5 6), (0, u "java/lang/Object"), (0, u "<init>"), (0, u "()V"), (9, .fieldref 17 18), (0, .class_ 19), (0, .nameAndType 20 21), (0, u "com/example/kvota/kvota/PartitionReplica"), (0, u "partition"), (0, u "I"), (0, .fieldref 17 23), (0, .nameAndType 24 21), (0, u "replica"), (28, u "(Ljava/lang/Object;)Z"), (8, u "WRITTEN_FORM"), (0, u "Ljava/util/regex/Pattern;"), (25, u "(II)V"), (45, u "equals")] 27

def k2c0 : Code := { maxStack := 4, maxLocals := 3, code := prog_20_method_1_code, exceptionTable := #[], attributes := #[] }
def k2m0 : Method := { name := "<init>", desc := "(II)V", sig := { parameters := [.int, .int], returnType := none }, accessFlags := 1, code := some k2c0 }
def k2c1 : Code := { maxStack := 2, maxLocals := 2, code := prog_20_method_7_code, exceptionTable := #[], attributes := #[] }
def k2m1 : Method := { name := "equals", desc := "(Ljava/lang/Object;)Z", sig := { parameters := [(.object "java/lang/Object")], returnType := some .boolean }, accessFlags := 1, code := some k2c1 }
/-- com/example/kvota/kvota/PartitionReplica -/
def k2 : Class := { plain "com/example/kvota/kvota/PartitionReplica" (some 0) with
  accessFlags := 33
  interfaces := #[]
  cf := some (fileOf pool2 17 #[] #[{ accessFlags := 1, nameIndex := 5, descriptorIndex := 89, attributes := #[] }, { accessFlags := 1, nameIndex := 135, descriptorIndex := 53, attributes := #[] }] 33 2 #[] #[{ accessFlags := 26, nameIndex := 62, descriptorIndex := 63, attributes := #[] }, { accessFlags := 18, nameIndex := 20, descriptorIndex := 21, attributes := #[] }, { accessFlags := 18, nameIndex := 24, descriptorIndex := 21, attributes := #[] }])
  fields := #[{ name := "WRITTEN_FORM", type := (.object "java/util/regex/Pattern"), accessFlags := 26, slot := 0, constantValue := 0 }, { name := "partition", type := .int, accessFlags := 18, slot := 0, constantValue := 0 }, { name := "replica", type := .int, accessFlags := 18, slot := 1, constantValue := 0 }]
  methods := #[k2m0, k2m1]
  instanceTypes := #[.int, .int]
  staticTypes := #[(.object "java/util/regex/Pattern")]
  resolved := Array.replicate 163 none
  statics := none }

def pool3 : Array CpInfo := pool [(1, .class_ 2), (0, u "java/io/Serializable"), (0, .class_ 4), (0, u "java/lang/Object")] 2

/-- java/io/Serializable -/
def k3 : Class := { plain "java/io/Serializable" (some 0) with
  accessFlags := 1537
  interfaces := #[]
  cf := some (fileOf pool3 1 #[] #[] 1537 3 #[] #[])
  fields := #[]
  methods := #[]
  instanceTypes := #[]
  staticTypes := #[]
  resolved := Array.replicate 7 none
  statics := none }

def pool4 : Array CpInfo := pool [(1, .methodref 2 3), (0, .class_ 4), (0, .nameAndType 5 6), (0, u "java/lang/Object"), (0, u "<init>"), (0, u "()V"), (1, .class_ 10), (1, u "java/lang/Number"), (2, .class_ 14), (0, u "java/io/Serializable"), (0, u "serialVersionUID"), (0, u "J")] 20

def k4c0 : Code := { maxStack := 1, maxLocals := 1, code := jdk_18_method_1_code, exceptionTable := #[], attributes := #[] }
def k4m0 : Method := { name := "<init>", desc := "()V", sig := { parameters := [], returnType := none }, accessFlags := 1, code := some k4c0 }
/-- java/lang/Number -/
def k4 : Class := { plain "java/lang/Number" (some 0) with
  accessFlags := 1057
  interfaces := #[3]
  cf := some (fileOf pool4 8 #[] #[{ accessFlags := 1, nameIndex := 5, descriptorIndex := 6, attributes := #[] }] 1057 2 #[13] #[{ accessFlags := 26, nameIndex := 15, descriptorIndex := 16, attributes := #[] }])
  fields := #[{ name := "serialVersionUID", type := .long, accessFlags := 26, slot := 0, constantValue := 0 }]
  methods := #[k4m0]
  instanceTypes := #[]
  staticTypes := #[.long]
  resolved := Array.replicate 37 none
  statics := none }

def pool5 : Array CpInfo := pool [(1, .class_ 2), (0, u "java/lang/Comparable"), (0, .class_ 4), (0, u "java/lang/Object")] 7

/-- java/lang/Comparable -/
def k5 : Class := { plain "java/lang/Comparable" (some 0) with
  accessFlags := 1537
  interfaces := #[]
  cf := some (fileOf pool5 1 #[] #[] 1537 3 #[] #[])
  fields := #[]
  methods := #[]
  instanceTypes := #[]
  staticTypes := #[]
  resolved := Array.replicate 12 none
  statics := none }

def pool6 : Array CpInfo := pool [(1, .class_ 2), (0, u "java/lang/constant/Constable"), (0, .class_ 4), (0, u "java/lang/Object")] 6

/-- java/lang/constant/Constable -/
def k6 : Class := { plain "java/lang/constant/Constable" (some 0) with
  accessFlags := 1537
  interfaces := #[]
  cf := some (fileOf pool6 1 #[] #[] 1537 3 #[] #[])
  fields := #[]
  methods := #[]
  instanceTypes := #[]
  staticTypes := #[]
  resolved := Array.replicate 11 none
  statics := none }

def pool7 : Array CpInfo := pool [(1, .class_ 2), (0, u "java/lang/constant/ConstantDesc"), (0, .class_ 4), (0, u "java/lang/Object")] 32

/-- java/lang/constant/ConstantDesc -/
def k7 : Class := { plain "java/lang/constant/ConstantDesc" (some 0) with
  accessFlags := 1537
  interfaces := #[]
  cf := some (fileOf pool7 1 #[] #[] 1537 3 #[] #[])
  fields := #[]
  methods := #[]
  instanceTypes := #[]
  staticTypes := #[]
  resolved := Array.replicate 37 none
  statics := none }

def pool8 : Array CpInfo := pool [(1, .class_ 2), (0, u "java/lang/Integer"), (16, u "digits"), (0, u "[C"), (46, u "<init>"), (17, u "DigitOnes"), (0, u "[B"), (2, u "DigitTens"), (10, .nameAndType 67 101), (0, u "()V"), (85, u "valueOf"), (0, u "(I)Ljava/lang/Integer;"), (0, .class_ 190), (0, u "java/lang/Integer$IntegerCache"), (0, .fieldref 189 192), (0, .nameAndType 193 194), (0, u "high"), (0, u "I"), (0, .fieldref 189 196), (0, .nameAndType 197 198), (0, u "cache"), (0, u "[Ljava/lang/Integer;"), (0, .methodref 1 200), (0, .nameAndType 67 201), (0, u "(I)V"), (0, .methodref 203 100), (0, .class_ 204), (0, u "java/lang/Number"), (0, .fieldref 1 206), (0, .nameAndType 207 194), (0, u "value"), (94, u "TYPE"), (0, u "Ljava/lang/Class;"), (0, .class_ 305), (0, u "java/lang/Comparable"), (0, .class_ 307), (0, u "java/lang/constant/Constable"), (0, .class_ 309), (0, u "java/lang/constant/ConstantDesc"), (0, u "MIN_VALUE"), (1, u "MAX_VALUE"), (3, u "SIZE"), (1, u "BYTES"), (1, u "serialVersionUID"), (0, u "J")] 131

def k8c0 : Code := { maxStack := 3, maxLocals := 1, code := jdk_33_method_22_code, exceptionTable := #[], attributes := #[] }
def k8m0 : Method := { name := "valueOf", desc := "(I)Ljava/lang/Integer;", sig := { parameters := [.int], returnType := some (.object "java/lang/Integer") }, accessFlags := 9, code := some k8c0 }
def k8c1 : Code := { maxStack := 2, maxLocals := 2, code := jdk_33_method_23_code, exceptionTable := #[], attributes := #[] }
def k8m1 : Method := { name := "<init>", desc := "(I)V", sig := { parameters := [.int], returnType := none }, accessFlags := 1, code := some k8c1 }
/-- java/lang/Integer -/
def k8 : Class := { plain "java/lang/Integer" (some 4) with
  accessFlags := 49
  interfaces := #[5, 6, 7]
  cf := some (fileOf pool8 1 #[.nestMembers #[189]] #[{ accessFlags := 9, nameIndex := 187, descriptorIndex := 188, attributes := #[] }, { accessFlags := 1, nameIndex := 67, descriptorIndex := 201, attributes := #[] }] 49 203 #[304, 306, 308] #[{ accessFlags := 25, nameIndex := 310, descriptorIndex := 194, attributes := #[] }, { accessFlags := 25, nameIndex := 312, descriptorIndex := 194, attributes := #[] }, { accessFlags := 25, nameIndex := 302, descriptorIndex := 303, attributes := #[] }, { accessFlags := 24, nameIndex := 19, descriptorIndex := 20, attributes := #[] }, { accessFlags := 24, nameIndex := 89, descriptorIndex := 86, attributes := #[] }, { accessFlags := 24, nameIndex := 85, descriptorIndex := 86, attributes := #[] }, { accessFlags := 18, nameIndex := 207, descriptorIndex := 194, attributes := #[] }, { accessFlags := 25, nameIndex := 316, descriptorIndex := 194, attributes := #[] }, { accessFlags := 25, nameIndex := 318, descriptorIndex := 194, attributes := #[] }, { accessFlags := 26, nameIndex := 320, descriptorIndex := 321, attributes := #[] }])
  fields := #[{ name := "MIN_VALUE", type := .int, accessFlags := 25, slot := 0, constantValue := 0 }, { name := "MAX_VALUE", type := .int, accessFlags := 25, slot := 1, constantValue := 0 }, { name := "TYPE", type := (.object "java/lang/Class"), accessFlags := 25, slot := 2, constantValue := 0 }, { name := "digits", type := (.array .char), accessFlags := 24, slot := 3, constantValue := 0 }, { name := "DigitTens", type := (.array .byte), accessFlags := 24, slot := 4, constantValue := 0 }, { name := "DigitOnes", type := (.array .byte), accessFlags := 24, slot := 5, constantValue := 0 }, { name := "value", type := .int, accessFlags := 18, slot := 0, constantValue := 0 }, { name := "SIZE", type := .int, accessFlags := 25, slot := 6, constantValue := 0 }, { name := "BYTES", type := .int, accessFlags := 25, slot := 7, constantValue := 0 }, { name := "serialVersionUID", type := .long, accessFlags := 26, slot := 8, constantValue := 0 }]
  methods := #[k8m0, k8m1]
  instanceTypes := #[.int]
  staticTypes := #[.int, .int, (.object "java/lang/Class"), (.array .char), (.array .byte), (.array .byte), .int, .int, .long]
  resolved := Array.replicate 453 none
  statics := none }

def pool9 : Array CpInfo := pool [(2, .class_ 4), (1, u "java/lang/Object"), (0, u "<init>"), (0, u "()V"), (0, .class_ 8), (0, u "java/lang/Integer"), (7, .class_ 18), (1, u "java/lang/Integer$IntegerCache"), (0, u "$assertionsDisabled"), (0, u "Z"), (26, u "high"), (0, u "I"), (8, u "archivedCache"), (0, u "[Ljava/lang/Integer;"), (12, u "cache"), (0, u "low")] 27

def k9m0 : Method := { name := "<init>", desc := "()V", sig := { parameters := [], returnType := none }, accessFlags := 2, code := none }
/-- java/lang/Integer$IntegerCache -/
def k9 : Class := { plain "java/lang/Integer$IntegerCache" (some 0) with
  accessFlags := 48
  interfaces := #[]
  cf := some (fileOf pool9 16 #[.nestHost 7] #[{ accessFlags := 2, nameIndex := 5, descriptorIndex := 6, attributes := #[] }] 48 2 #[] #[{ accessFlags := 24, nameIndex := 72, descriptorIndex := 48, attributes := #[] }, { accessFlags := 24, nameIndex := 47, descriptorIndex := 48, attributes := #[] }, { accessFlags := 24, nameIndex := 71, descriptorIndex := 58, attributes := #[] }, { accessFlags := 8, nameIndex := 57, descriptorIndex := 58, attributes := #[] }, { accessFlags := 4120, nameIndex := 19, descriptorIndex := 20, attributes := #[] }])
  fields := #[{ name := "low", type := .int, accessFlags := 24, slot := 0, constantValue := 0 }, { name := "high", type := .int, accessFlags := 24, slot := 1, constantValue := 0 }, { name := "cache", type := (.array (.object "java/lang/Integer")), accessFlags := 24, slot := 2, constantValue := 0 }, { name := "archivedCache", type := (.array (.object "java/lang/Integer")), accessFlags := 8, slot := 3, constantValue := 0 }, { name := "$assertionsDisabled", type := .boolean, accessFlags := 4120, slot := 4, constantValue := 0 }]
  methods := #[k9m0]
  instanceTypes := #[]
  staticTypes := #[.int, .int, (.array (.object "java/lang/Integer")), (.array (.object "java/lang/Integer")), .boolean]
  resolved := Array.replicate 100 none
  statics := some 0 }

def pool10 : Array CpInfo := pool [(1, u "java/lang/Cloneable"), (0, .class_ 1), (0, u "java/lang/Object"), (0, .class_ 3)] 3

/-- java/lang/Cloneable -/
def k10 : Class := { plain "java/lang/Cloneable" (some 0) with
  accessFlags := 1537
  interfaces := #[]
  cf := some (fileOf pool10 2 #[] #[] 1537 4 #[] #[])
  fields := #[]
  methods := #[]
  instanceTypes := #[]
  staticTypes := #[]
  resolved := Array.replicate 8 none
  statics := none }

/-- the primitive byte -/
def k11 : Class := { plain "byte" none with kind := .primitive 'B', accessFlags := 0x411 }
/-- [B -/
def k12 : Class := { plain "[B" (some 0) with kind := .array 11 .byte, interfaces := #[10, 3], accessFlags := 1041 }

/-- [Ljava/lang/Integer; -/
def k13 : Class := { plain "[Ljava/lang/Integer;" (some 0) with kind := .array 8 (.object "java/lang/Integer"), interfaces := #[10, 3], accessFlags := 1041 }

def heap : Heap := #[{ cls := 9, slots := #[.int 0, .int 127, .ref 1, .null, .int 0], vm := .statics 9 },
  { cls := 13, slots := #[.ref 2, .ref 3, .ref 4, .ref 5, .ref 6, .ref 7, .ref 8, .ref 9, .ref 10, .ref 11, .ref 12, .ref 13, .ref 14, .ref 15, .ref 16, .ref 17, .ref 18, .ref 19, .ref 20, .ref 21, .ref 22, .ref 23, .ref 24, .ref 25, .ref 26, .ref 27, .ref 28, .ref 29, .ref 30, .ref 31, .ref 32, .ref 33, .ref 34, .ref 35, .ref 36, .ref 37, .ref 38, .ref 39, .ref 40, .ref 41, .ref 42, .ref 43, .ref 44, .ref 45, .ref 46, .ref 47, .ref 48, .ref 49, .ref 50, .ref 51, .ref 52, .ref 53, .ref 54, .ref 55, .ref 56, .ref 57, .ref 58, .ref 59, .ref 60, .ref 61, .ref 62, .ref 63, .ref 64, .ref 65, .ref 66, .ref 67, .ref 68, .ref 69, .ref 70, .ref 71, .ref 72, .ref 73, .ref 74, .ref 75, .ref 76, .ref 77, .ref 78, .ref 79, .ref 80, .ref 81, .ref 82, .ref 83, .ref 84, .ref 85, .ref 86, .ref 87, .ref 88, .ref 89, .ref 90, .ref 91, .ref 92, .ref 93, .ref 94, .ref 95, .ref 96, .ref 97, .ref 98, .ref 99, .ref 100, .ref 101, .ref 102, .ref 103, .ref 104, .ref 105, .ref 106, .ref 107, .ref 108, .ref 109, .ref 110, .ref 111, .ref 112, .ref 113, .ref 114, .ref 115, .ref 116, .ref 117, .ref 118, .ref 119, .ref 120, .ref 121, .ref 122, .ref 123, .ref 124, .ref 125, .ref 126, .ref 127, .ref 128, .ref 129, .ref 130, .ref 131, .ref 132, .ref 133, .ref 134, .ref 135, .ref 136, .ref 137, .ref 138, .ref 139, .ref 140, .ref 141, .ref 142, .ref 143, .ref 144, .ref 145, .ref 146, .ref 147, .ref 148, .ref 149, .ref 150, .ref 151, .ref 152, .ref 153, .ref 154, .ref 155, .ref 156, .ref 157, .ref 158, .ref 159, .ref 160, .ref 161, .ref 162, .ref 163, .ref 164, .ref 165, .ref 166, .ref 167, .ref 168, .ref 169, .ref 170, .ref 171, .ref 172, .ref 173, .ref 174, .ref 175, .ref 176, .ref 177, .ref 178, .ref 179, .ref 180, .ref 181, .ref 182, .ref 183, .ref 184, .ref 185, .ref 186, .ref 187, .ref 188, .ref 189, .ref 190, .ref 191, .ref 192, .ref 193, .ref 194, .ref 195, .ref 196, .ref 197, .ref 198, .ref 199, .ref 200, .ref 201, .ref 202, .ref 203, .ref 204, .ref 205, .ref 206, .ref 207, .ref 208, .ref 209, .ref 210, .ref 211, .ref 212, .ref 213, .ref 214, .ref 215, .ref 216, .ref 217, .ref 218, .ref 219, .ref 220, .ref 221, .ref 222, .ref 223, .ref 224, .ref 225, .ref 226, .ref 227, .ref 228, .ref 229, .ref 230, .ref 231, .ref 232, .ref 233, .ref 234, .ref 235, .ref 236, .ref 237, .ref 238, .ref 239, .ref 240, .ref 241, .ref 242, .ref 243, .ref 244, .ref 245, .ref 246, .ref 247, .ref 248, .ref 249, .ref 250, .ref 251, .ref 252, .ref 253, .ref 254, .ref 255, .ref 256, .ref 257], vm := .none },
  { cls := 8, slots := #[.int (-128)], vm := .none },
  { cls := 8, slots := #[.int (-127)], vm := .none },
  { cls := 8, slots := #[.int (-126)], vm := .none },
  { cls := 8, slots := #[.int (-125)], vm := .none },
  { cls := 8, slots := #[.int (-124)], vm := .none },
  { cls := 8, slots := #[.int (-123)], vm := .none },
  { cls := 8, slots := #[.int (-122)], vm := .none },
  { cls := 8, slots := #[.int (-121)], vm := .none },
  { cls := 8, slots := #[.int (-120)], vm := .none },
  { cls := 8, slots := #[.int (-119)], vm := .none },
  { cls := 8, slots := #[.int (-118)], vm := .none },
  { cls := 8, slots := #[.int (-117)], vm := .none },
  { cls := 8, slots := #[.int (-116)], vm := .none },
  { cls := 8, slots := #[.int (-115)], vm := .none },
  { cls := 8, slots := #[.int (-114)], vm := .none },
  { cls := 8, slots := #[.int (-113)], vm := .none },
  { cls := 8, slots := #[.int (-112)], vm := .none },
  { cls := 8, slots := #[.int (-111)], vm := .none },
  { cls := 8, slots := #[.int (-110)], vm := .none },
  { cls := 8, slots := #[.int (-109)], vm := .none },
  { cls := 8, slots := #[.int (-108)], vm := .none },
  { cls := 8, slots := #[.int (-107)], vm := .none },
  { cls := 8, slots := #[.int (-106)], vm := .none },
  { cls := 8, slots := #[.int (-105)], vm := .none },
  { cls := 8, slots := #[.int (-104)], vm := .none },
  { cls := 8, slots := #[.int (-103)], vm := .none },
  { cls := 8, slots := #[.int (-102)], vm := .none },
  { cls := 8, slots := #[.int (-101)], vm := .none },
  { cls := 8, slots := #[.int (-100)], vm := .none },
  { cls := 8, slots := #[.int (-99)], vm := .none },
  { cls := 8, slots := #[.int (-98)], vm := .none },
  { cls := 8, slots := #[.int (-97)], vm := .none },
  { cls := 8, slots := #[.int (-96)], vm := .none },
  { cls := 8, slots := #[.int (-95)], vm := .none },
  { cls := 8, slots := #[.int (-94)], vm := .none },
  { cls := 8, slots := #[.int (-93)], vm := .none },
  { cls := 8, slots := #[.int (-92)], vm := .none },
  { cls := 8, slots := #[.int (-91)], vm := .none },
  { cls := 8, slots := #[.int (-90)], vm := .none },
  { cls := 8, slots := #[.int (-89)], vm := .none },
  { cls := 8, slots := #[.int (-88)], vm := .none },
  { cls := 8, slots := #[.int (-87)], vm := .none },
  { cls := 8, slots := #[.int (-86)], vm := .none },
  { cls := 8, slots := #[.int (-85)], vm := .none },
  { cls := 8, slots := #[.int (-84)], vm := .none },
  { cls := 8, slots := #[.int (-83)], vm := .none },
  { cls := 8, slots := #[.int (-82)], vm := .none },
  { cls := 8, slots := #[.int (-81)], vm := .none },
  { cls := 8, slots := #[.int (-80)], vm := .none },
  { cls := 8, slots := #[.int (-79)], vm := .none },
  { cls := 8, slots := #[.int (-78)], vm := .none },
  { cls := 8, slots := #[.int (-77)], vm := .none },
  { cls := 8, slots := #[.int (-76)], vm := .none },
  { cls := 8, slots := #[.int (-75)], vm := .none },
  { cls := 8, slots := #[.int (-74)], vm := .none },
  { cls := 8, slots := #[.int (-73)], vm := .none },
  { cls := 8, slots := #[.int (-72)], vm := .none },
  { cls := 8, slots := #[.int (-71)], vm := .none },
  { cls := 8, slots := #[.int (-70)], vm := .none },
  { cls := 8, slots := #[.int (-69)], vm := .none },
  { cls := 8, slots := #[.int (-68)], vm := .none },
  { cls := 8, slots := #[.int (-67)], vm := .none },
  { cls := 8, slots := #[.int (-66)], vm := .none },
  { cls := 8, slots := #[.int (-65)], vm := .none },
  { cls := 8, slots := #[.int (-64)], vm := .none },
  { cls := 8, slots := #[.int (-63)], vm := .none },
  { cls := 8, slots := #[.int (-62)], vm := .none },
  { cls := 8, slots := #[.int (-61)], vm := .none },
  { cls := 8, slots := #[.int (-60)], vm := .none },
  { cls := 8, slots := #[.int (-59)], vm := .none },
  { cls := 8, slots := #[.int (-58)], vm := .none },
  { cls := 8, slots := #[.int (-57)], vm := .none },
  { cls := 8, slots := #[.int (-56)], vm := .none },
  { cls := 8, slots := #[.int (-55)], vm := .none },
  { cls := 8, slots := #[.int (-54)], vm := .none },
  { cls := 8, slots := #[.int (-53)], vm := .none },
  { cls := 8, slots := #[.int (-52)], vm := .none },
  { cls := 8, slots := #[.int (-51)], vm := .none },
  { cls := 8, slots := #[.int (-50)], vm := .none },
  { cls := 8, slots := #[.int (-49)], vm := .none },
  { cls := 8, slots := #[.int (-48)], vm := .none },
  { cls := 8, slots := #[.int (-47)], vm := .none },
  { cls := 8, slots := #[.int (-46)], vm := .none },
  { cls := 8, slots := #[.int (-45)], vm := .none },
  { cls := 8, slots := #[.int (-44)], vm := .none },
  { cls := 8, slots := #[.int (-43)], vm := .none },
  { cls := 8, slots := #[.int (-42)], vm := .none },
  { cls := 8, slots := #[.int (-41)], vm := .none },
  { cls := 8, slots := #[.int (-40)], vm := .none },
  { cls := 8, slots := #[.int (-39)], vm := .none },
  { cls := 8, slots := #[.int (-38)], vm := .none },
  { cls := 8, slots := #[.int (-37)], vm := .none },
  { cls := 8, slots := #[.int (-36)], vm := .none },
  { cls := 8, slots := #[.int (-35)], vm := .none },
  { cls := 8, slots := #[.int (-34)], vm := .none },
  { cls := 8, slots := #[.int (-33)], vm := .none },
  { cls := 8, slots := #[.int (-32)], vm := .none },
  { cls := 8, slots := #[.int (-31)], vm := .none },
  { cls := 8, slots := #[.int (-30)], vm := .none },
  { cls := 8, slots := #[.int (-29)], vm := .none },
  { cls := 8, slots := #[.int (-28)], vm := .none },
  { cls := 8, slots := #[.int (-27)], vm := .none },
  { cls := 8, slots := #[.int (-26)], vm := .none },
  { cls := 8, slots := #[.int (-25)], vm := .none },
  { cls := 8, slots := #[.int (-24)], vm := .none },
  { cls := 8, slots := #[.int (-23)], vm := .none },
  { cls := 8, slots := #[.int (-22)], vm := .none },
  { cls := 8, slots := #[.int (-21)], vm := .none },
  { cls := 8, slots := #[.int (-20)], vm := .none },
  { cls := 8, slots := #[.int (-19)], vm := .none },
  { cls := 8, slots := #[.int (-18)], vm := .none },
  { cls := 8, slots := #[.int (-17)], vm := .none },
  { cls := 8, slots := #[.int (-16)], vm := .none },
  { cls := 8, slots := #[.int (-15)], vm := .none },
  { cls := 8, slots := #[.int (-14)], vm := .none },
  { cls := 8, slots := #[.int (-13)], vm := .none },
  { cls := 8, slots := #[.int (-12)], vm := .none },
  { cls := 8, slots := #[.int (-11)], vm := .none },
  { cls := 8, slots := #[.int (-10)], vm := .none },
  { cls := 8, slots := #[.int (-9)], vm := .none },
  { cls := 8, slots := #[.int (-8)], vm := .none },
  { cls := 8, slots := #[.int (-7)], vm := .none },
  { cls := 8, slots := #[.int (-6)], vm := .none },
  { cls := 8, slots := #[.int (-5)], vm := .none },
  { cls := 8, slots := #[.int (-4)], vm := .none },
  { cls := 8, slots := #[.int (-3)], vm := .none },
  { cls := 8, slots := #[.int (-2)], vm := .none },
  { cls := 8, slots := #[.int (-1)], vm := .none },
  { cls := 8, slots := #[.int 0], vm := .none },
  { cls := 8, slots := #[.int 1], vm := .none },
  { cls := 8, slots := #[.int 2], vm := .none },
  { cls := 8, slots := #[.int 3], vm := .none },
  { cls := 8, slots := #[.int 4], vm := .none },
  { cls := 8, slots := #[.int 5], vm := .none },
  { cls := 8, slots := #[.int 6], vm := .none },
  { cls := 8, slots := #[.int 7], vm := .none },
  { cls := 8, slots := #[.int 8], vm := .none },
  { cls := 8, slots := #[.int 9], vm := .none },
  { cls := 8, slots := #[.int 10], vm := .none },
  { cls := 8, slots := #[.int 11], vm := .none },
  { cls := 8, slots := #[.int 12], vm := .none },
  { cls := 8, slots := #[.int 13], vm := .none },
  { cls := 8, slots := #[.int 14], vm := .none },
  { cls := 8, slots := #[.int 15], vm := .none },
  { cls := 8, slots := #[.int 16], vm := .none },
  { cls := 8, slots := #[.int 17], vm := .none },
  { cls := 8, slots := #[.int 18], vm := .none },
  { cls := 8, slots := #[.int 19], vm := .none },
  { cls := 8, slots := #[.int 20], vm := .none },
  { cls := 8, slots := #[.int 21], vm := .none },
  { cls := 8, slots := #[.int 22], vm := .none },
  { cls := 8, slots := #[.int 23], vm := .none },
  { cls := 8, slots := #[.int 24], vm := .none },
  { cls := 8, slots := #[.int 25], vm := .none },
  { cls := 8, slots := #[.int 26], vm := .none },
  { cls := 8, slots := #[.int 27], vm := .none },
  { cls := 8, slots := #[.int 28], vm := .none },
  { cls := 8, slots := #[.int 29], vm := .none },
  { cls := 8, slots := #[.int 30], vm := .none },
  { cls := 8, slots := #[.int 31], vm := .none },
  { cls := 8, slots := #[.int 32], vm := .none },
  { cls := 8, slots := #[.int 33], vm := .none },
  { cls := 8, slots := #[.int 34], vm := .none },
  { cls := 8, slots := #[.int 35], vm := .none },
  { cls := 8, slots := #[.int 36], vm := .none },
  { cls := 8, slots := #[.int 37], vm := .none },
  { cls := 8, slots := #[.int 38], vm := .none },
  { cls := 8, slots := #[.int 39], vm := .none },
  { cls := 8, slots := #[.int 40], vm := .none },
  { cls := 8, slots := #[.int 41], vm := .none },
  { cls := 8, slots := #[.int 42], vm := .none },
  { cls := 8, slots := #[.int 43], vm := .none },
  { cls := 8, slots := #[.int 44], vm := .none },
  { cls := 8, slots := #[.int 45], vm := .none },
  { cls := 8, slots := #[.int 46], vm := .none },
  { cls := 8, slots := #[.int 47], vm := .none },
  { cls := 8, slots := #[.int 48], vm := .none },
  { cls := 8, slots := #[.int 49], vm := .none },
  { cls := 8, slots := #[.int 50], vm := .none },
  { cls := 8, slots := #[.int 51], vm := .none },
  { cls := 8, slots := #[.int 52], vm := .none },
  { cls := 8, slots := #[.int 53], vm := .none },
  { cls := 8, slots := #[.int 54], vm := .none },
  { cls := 8, slots := #[.int 55], vm := .none },
  { cls := 8, slots := #[.int 56], vm := .none },
  { cls := 8, slots := #[.int 57], vm := .none },
  { cls := 8, slots := #[.int 58], vm := .none },
  { cls := 8, slots := #[.int 59], vm := .none },
  { cls := 8, slots := #[.int 60], vm := .none },
  { cls := 8, slots := #[.int 61], vm := .none },
  { cls := 8, slots := #[.int 62], vm := .none },
  { cls := 8, slots := #[.int 63], vm := .none },
  { cls := 8, slots := #[.int 64], vm := .none },
  { cls := 8, slots := #[.int 65], vm := .none },
  { cls := 8, slots := #[.int 66], vm := .none },
  { cls := 8, slots := #[.int 67], vm := .none },
  { cls := 8, slots := #[.int 68], vm := .none },
  { cls := 8, slots := #[.int 69], vm := .none },
  { cls := 8, slots := #[.int 70], vm := .none },
  { cls := 8, slots := #[.int 71], vm := .none },
  { cls := 8, slots := #[.int 72], vm := .none },
  { cls := 8, slots := #[.int 73], vm := .none },
  { cls := 8, slots := #[.int 74], vm := .none },
  { cls := 8, slots := #[.int 75], vm := .none },
  { cls := 8, slots := #[.int 76], vm := .none },
  { cls := 8, slots := #[.int 77], vm := .none },
  { cls := 8, slots := #[.int 78], vm := .none },
  { cls := 8, slots := #[.int 79], vm := .none },
  { cls := 8, slots := #[.int 80], vm := .none },
  { cls := 8, slots := #[.int 81], vm := .none },
  { cls := 8, slots := #[.int 82], vm := .none },
  { cls := 8, slots := #[.int 83], vm := .none },
  { cls := 8, slots := #[.int 84], vm := .none },
  { cls := 8, slots := #[.int 85], vm := .none },
  { cls := 8, slots := #[.int 86], vm := .none },
  { cls := 8, slots := #[.int 87], vm := .none },
  { cls := 8, slots := #[.int 88], vm := .none },
  { cls := 8, slots := #[.int 89], vm := .none },
  { cls := 8, slots := #[.int 90], vm := .none },
  { cls := 8, slots := #[.int 91], vm := .none },
  { cls := 8, slots := #[.int 92], vm := .none },
  { cls := 8, slots := #[.int 93], vm := .none },
  { cls := 8, slots := #[.int 94], vm := .none },
  { cls := 8, slots := #[.int 95], vm := .none },
  { cls := 8, slots := #[.int 96], vm := .none },
  { cls := 8, slots := #[.int 97], vm := .none },
  { cls := 8, slots := #[.int 98], vm := .none },
  { cls := 8, slots := #[.int 99], vm := .none },
  { cls := 8, slots := #[.int 100], vm := .none },
  { cls := 8, slots := #[.int 101], vm := .none },
  { cls := 8, slots := #[.int 102], vm := .none },
  { cls := 8, slots := #[.int 103], vm := .none },
  { cls := 8, slots := #[.int 104], vm := .none },
  { cls := 8, slots := #[.int 105], vm := .none },
  { cls := 8, slots := #[.int 106], vm := .none },
  { cls := 8, slots := #[.int 107], vm := .none },
  { cls := 8, slots := #[.int 108], vm := .none },
  { cls := 8, slots := #[.int 109], vm := .none },
  { cls := 8, slots := #[.int 110], vm := .none },
  { cls := 8, slots := #[.int 111], vm := .none },
  { cls := 8, slots := #[.int 112], vm := .none },
  { cls := 8, slots := #[.int 113], vm := .none },
  { cls := 8, slots := #[.int 114], vm := .none },
  { cls := 8, slots := #[.int 115], vm := .none },
  { cls := 8, slots := #[.int 116], vm := .none },
  { cls := 8, slots := #[.int 117], vm := .none },
  { cls := 8, slots := #[.int 118], vm := .none },
  { cls := 8, slots := #[.int 119], vm := .none },
  { cls := 8, slots := #[.int 120], vm := .none },
  { cls := 8, slots := #[.int 121], vm := .none },
  { cls := 8, slots := #[.int 122], vm := .none },
  { cls := 8, slots := #[.int 123], vm := .none },
  { cls := 8, slots := #[.int 124], vm := .none },
  { cls := 8, slots := #[.int 125], vm := .none },
  { cls := 8, slots := #[.int 126], vm := .none },
  { cls := 8, slots := #[.int 127], vm := .none }]
def classes : Array Class := #[k0, k1, k2, k3, k4, k5, k6, k7, k8, k9, k10, k11, k12, k13]
def interned : List (Array UInt16 × Addr) := []
def slotsUsed : Nat := 517
def theMethod : MethodId := ⟨1, 1⟩
def args0 : Array Value := #[.int 5, .int 6, .int 7, .int 8, .int 0]
def aboutOver (below : List Frame) : State where
  vm := { classes := classes, interned := interned.toArray }
  heap := heap
  slotsUsed := slotsUsed
  threads := #[{ frames := .invoking theMethod args0 :: below }]
def below0 : List Frame := [.native { method := ⟨0, 0⟩, args := #[] }]
def about1 : State := aboutOver below0
def p0 : Program := .bare "" "" ""
def e0 : Env := launch0.env 0 0 0
theorem w_frames : about1.frames = Frame.invoking theMethod args0 :: below0 := rfl
set_option maxRecDepth 65536 in
theorem w_args : argsFit about1.vm theMethod args0 = true := by decide +kernel
set_option maxRecDepth 65536 in
theorem w_heap : heapFits about1 = true := by decide +kernel
set_option maxRecDepth 65536 in
theorem w_runnable : about1.curStatus? = some .runnable := by decide +kernel
set_option maxRecDepth 65536 in
theorem w_alone : about1.alone = true := by decide +kernel
set_option maxRecDepth 65536 in
theorem w_named : about1.methodNamed? x = some theMethod := by decide +kernel
set_option maxRecDepth 65536 in
theorem w_hears : about1.hears theMethod below0 = true := by decide +kernel
set_option maxRecDepth 65536 in
theorem w_ripe : about1.ripe theMethod args0 below0 = true := by decide +kernel
theorem w_running : about1.status = .running := rfl
set_option maxRecDepth 65536 in
theorem w_room : about1.hasRoom e0.platform room_1 = true :=
  launch0.hasRoom_least _ room_1 (by decide +kernel) (by decide +kernel) (by decide +kernel) (by decide +kernel) (by decide +kernel) (by decide +kernel)
theorem allAtoms_all (ts : List Jvm.Cond) (a : Array Jvm.Value) (st : Jvm.State) : (allAtoms ts).before a st = ts.all (fun c => c.before a st) := by
  induction ts with
  | nil => rfl
  | cons c t ih =>
    show (Jvm.Cond.and c (allAtoms t)).before a st = _
    rw [Jvm.Cond.before_and, ih, List.all_cons]
def words1 : List Jvm.Cond := Jvm.Cond.code x code maxLocals ret :: tables_1
/-- a 'code' word, met by the world's own term for the bytes: nothing is compared byte by byte -/
theorem code_word {y : MethodName} {bytes : ByteArray} {mx : Nat} {rt : Option FieldType} {a : Array Value} {s : State} {m : MethodId} {meth : Method} {c : Code} (h1 : s.methodNamed? y = some m) (h2 : s.vm.method? m = some meth) (h3 : meth.code = some c) (h4 : c.code = bytes)
    (h5 : (c.maxLocals == mx && c.exceptionTable.isEmpty && decide (c.maxStack ≤ mostOperands) && decide (meth.sig.returnType = rt) && !meth.locks && decide (parseMethodDescriptor y.desc = some meth.sig)) = true) : (Jvm.Cond.code y bytes mx rt).before a s = true := by
  simp only [Bool.and_eq_true, beq_iff_eq, Bool.not_eq_true', decide_eq_true_eq] at h5
  obtain ⟨⟨⟨⟨⟨g1, g2⟩, g3⟩, g4⟩, g5⟩, g6⟩ := h5
  simp [Cond.before, Cond.holds, Cond.value, h1, h2, h3, h4, g1, g2, g3, g4, g5, g6]
def isCode : Jvm.Cond → Bool
  | .code _ _ _ _ => true
  | _ => false
theorem all_split {L : List Jvm.Cond} {P : Jvm.Cond → Bool} (h1 : L.all (fun c => isCode c || P c) = true) (h2 : ∀ c ∈ L.filter isCode, P c = true) : L.all P = true := by
  refine List.all_eq_true.mpr fun c hc => ?_
  have h := List.all_eq_true.mp h1 c hc
  rcases Bool.eq_false_or_eq_true (isCode c) with hi | hi
  · exact h2 c (List.mem_filter.mpr ⟨hc, hi⟩)
  · simpa [hi] using h
set_option maxRecDepth 65536 in
theorem w_c0 : (Jvm.Cond.code x code maxLocals ret).before args0 about1 = true := code_word (m := ⟨1, 1⟩) (meth := k1m1) (c := k1c1) (by decide +kernel) rfl rfl rfl (by decide +kernel)
set_option maxRecDepth 65536 in
theorem w_c1 : (Jvm.Cond.code ({ cls := "com/example/kvota/kvota/PartitionReplica", name := "<init>", desc := "(II)V" } : Jvm.MethodName) prog_20_method_1_code (3 : Nat) (Option.none : Option Jvm.ClassFile.FieldType)).before args0 about1 = true := code_word (m := ⟨2, 0⟩) (meth := k2m0) (c := k2c0) (by decide +kernel) rfl rfl rfl (by decide +kernel)
set_option maxRecDepth 65536 in
theorem w_c2 : (Jvm.Cond.code ({ cls := "java/lang/Object", name := "<init>", desc := "()V" } : Jvm.MethodName) object_method_1_code (1 : Nat) (Option.none : Option Jvm.ClassFile.FieldType)).before args0 about1 = true := code_word (m := ⟨0, 0⟩) (meth := k0m0) (c := k0c0) (by decide +kernel) rfl rfl rfl (by decide +kernel)
set_option maxRecDepth 65536 in
theorem w_c3 : (Jvm.Cond.code ({ cls := "com/example/kvota/kvota/PartitionReplica", name := "equals", desc := "(Ljava/lang/Object;)Z" } : Jvm.MethodName) prog_20_method_7_code (2 : Nat) (Option.some Jvm.ClassFile.FieldType.boolean)).before args0 about1 = true := code_word (m := ⟨2, 1⟩) (meth := k2m1) (c := k2c1) (by decide +kernel) rfl rfl rfl (by decide +kernel)
set_option maxRecDepth 65536 in
theorem w_c4 : (Jvm.Cond.code ({ cls := "java/lang/Integer", name := "valueOf", desc := "(I)Ljava/lang/Integer;" } : Jvm.MethodName) jdk_33_method_22_code (1 : Nat) (Option.some (Jvm.ClassFile.FieldType.object "java/lang/Integer"))).before args0 about1 = true := code_word (m := ⟨8, 0⟩) (meth := k8m0) (c := k8c0) (by decide +kernel) rfl rfl rfl (by decide +kernel)
set_option maxRecDepth 65536 in
theorem w_c5 : (Jvm.Cond.code ({ cls := "java/lang/Integer", name := "<init>", desc := "(I)V" } : Jvm.MethodName) jdk_33_method_23_code (2 : Nat) (Option.none : Option Jvm.ClassFile.FieldType)).before args0 about1 = true := code_word (m := ⟨8, 1⟩) (meth := k8m1) (c := k8c1) (by decide +kernel) rfl rfl rfl (by decide +kernel)
set_option maxRecDepth 65536 in
theorem w_c6 : (Jvm.Cond.code ({ cls := "java/lang/Number", name := "<init>", desc := "()V" } : Jvm.MethodName) jdk_18_method_1_code (1 : Nat) (Option.none : Option Jvm.ClassFile.FieldType)).before args0 about1 = true := code_word (m := ⟨4, 0⟩) (meth := k4m0) (c := k4c0) (by decide +kernel) rfl rfl rfl (by decide +kernel)
def codes1 : List Jvm.Cond := [Jvm.Cond.code x code maxLocals ret, Jvm.Cond.code ({ cls := "com/example/kvota/kvota/PartitionReplica", name := "<init>", desc := "(II)V" } : Jvm.MethodName) prog_20_method_1_code (3 : Nat) (Option.none : Option Jvm.ClassFile.FieldType), Jvm.Cond.code ({ cls := "java/lang/Object", name := "<init>", desc := "()V" } : Jvm.MethodName) object_method_1_code (1 : Nat) (Option.none : Option Jvm.ClassFile.FieldType), Jvm.Cond.code ({ cls := "com/example/kvota/kvota/PartitionReplica", name := "equals", desc := "(Ljava/lang/Object;)Z" } : Jvm.MethodName) prog_20_method_7_code (2 : Nat) (Option.some Jvm.ClassFile.FieldType.boolean), Jvm.Cond.code ({ cls := "java/lang/Integer", name := "valueOf", desc := "(I)Ljava/lang/Integer;" } : Jvm.MethodName) jdk_33_method_22_code (1 : Nat) (Option.some (Jvm.ClassFile.FieldType.object "java/lang/Integer")), Jvm.Cond.code ({ cls := "java/lang/Integer", name := "<init>", desc := "(I)V" } : Jvm.MethodName) jdk_33_method_23_code (2 : Nat) (Option.none : Option Jvm.ClassFile.FieldType), Jvm.Cond.code ({ cls := "java/lang/Number", name := "<init>", desc := "()V" } : Jvm.MethodName) jdk_18_method_1_code (1 : Nat) (Option.none : Option Jvm.ClassFile.FieldType)]
set_option maxRecDepth 65536 in
theorem codes_eq : words1.filter isCode = codes1 := rfl
theorem w_codes : ∀ c ∈ words1.filter isCode, c.before args0 about1 = true := by
  rw [codes_eq]
  intro c hc
  simp only [codes1, List.mem_cons, List.not_mem_nil, or_false] at hc
  rcases hc with rfl | rfl | rfl | rfl | rfl | rfl | rfl
  · exact w_c0
  · exact w_c1
  · exact w_c2
  · exact w_c3
  · exact w_c4
  · exact w_c5
  · exact w_c6
set_option maxRecDepth 65536 in
theorem w_t1 : (words1.take 24).all (fun c => isCode c || c.before args0 about1) = true := by decide +kernel
set_option maxRecDepth 65536 in
theorem w_t2 : (words1.drop 24).all (fun c => isCode c || c.before args0 about1) = true := by decide +kernel
theorem w_tables : (allAtoms (Jvm.Cond.code x code maxLocals ret :: tables_1)).before args0 about1 = true := by
  rw [allAtoms_all]
  show words1.all (fun c => c.before args0 about1) = true
  refine all_split ?_ w_codes
  rw [← List.take_append_drop 24 words1, List.all_append, w_t1, w_t2]
  rfl
set_option maxRecDepth 65536 in
theorem w_rest : rest_1_c.before args0 about1 = true := by decide +kernel
set_option maxRecDepth 65536 in
theorem w_case : (Jvm.Cond.and given_1 narrow_1).before args0 about1 = true := by decide +kernel
theorem w_applies : (headSpec (Jvm.Cond.code x code maxLocals ret :: tables_1) room_1).applies x e0.platform about1 = true :=
  (Spec.applies_iff w_frames).mpr ⟨w_running, w_runnable, w_alone, w_named, w_hears, w_ripe, w_room, w_tables⟩
theorem atStart : AtStart classFile x code maxLocals ret World_1 tables_1 room_1 Calls_1 rest_1 Pre_1 launch0 p0 e0 about1 theMethod args0 below0 :=
  ⟨lists_1, trivial, launch0.admits_env _ _ _, launch0.least_env, fairChoices_fair.cas, fairChoices_fair.clock, w_frames, w_args, w_heap, w_applies, trivial, w_rest, w_case⟩
end start1
theorem witness_1 : WitnessClaimed_1 := ⟨start1.p0, start1.e0, start1.about1, start1.theMethod, start1.args0, start1.below0, start1.atStart⟩
end Jvm.Pilot.@@N@@
