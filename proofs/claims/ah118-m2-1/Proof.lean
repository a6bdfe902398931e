import JvmDerived
import JvmDerived.Pilot.@@N@@Statement
import JvmDerived.Pilot.@@N@@Code
set_option linter.unusedVariables false
set_option linter.unusedSimpArgs false
namespace Jvm.Pilot.@@N@@
open Jvm Jvm.ClassFile Sem Op Lib Jvm.Free Jvm.Stand Jvm.LawKit Jvm.RoadKit Bundle Jvm.Pilot.@@N@@.Jvm.D

def own_B0 (Z : State) (h : Heap) (a : Addr) (y : Int32) : Prop := ∃ c : Cell, Arr Z h a c .byte ∧ 0 < c.slots.size ∧ c.slots[(0 : Nat)]? = some (.int y)
theorem own_B0.ext {Z : State} {h h' : Heap} {a : Addr} {y : Int32} (F : own_B0 Z h a y) (E : Ext h h') : own_B0 Z h' a y := by obtain ⟨c, A, r⟩ := F; exact ⟨c, A.ext E, r⟩
theorem own_B0.keep {Z : State} {h h' : Heap} {a : Addr} {y : Int32} {ws : List Addr} (F : own_B0 Z h a y) (K : Keep h h' ws) (q : a ∉ ws) : own_B0 Z h' a y := by obtain ⟨c, A, r⟩ := F; exact ⟨c, ⟨K.2.1 a c A.1 q, A.2⟩, r⟩
theorem own_B0.lt {Z : State} {h : Heap} {a : Addr} {y : Int32} (F : own_B0 Z h a y) : a < h.size := by obtain ⟨c, A, r⟩ := F; exact A.lt
theorem own_B0.of {Z : State} {h : Heap} {a : Addr} {k : ClassId} {n : Int32} {vs : List Value} {d : Value} {y : Int32} (F : Arv Z h a k .byte n vs d) (hn : 0 < n.toNatClampNeg) (hy : vs.getD 0 d = .int y) : own_B0 Z h a y := by
  obtain ⟨c, A, -, S, -, H, -⟩ := F
  exact ⟨c, A, by rw [S]; exact hn, by rw [H 0 (by rw [S]; exact hn), hy]⟩
theorem own_eqv_r {Z : State} {args : Array Value} {X F : Term} {idx : List Nat} {a : Addr} (hF : F.eval args Z none idx Z = some (.ref a)) (h : (Cond.eq X F).value args Z none Z idx = some true) : X.eval args Z none idx Z = some (.ref a) := by
  obtain ⟨x, y, e1, e2, k1, k2⟩ := cmp_v (Or.inl h)
  cases hF.symm.trans e2
  have q : x = .ref a := gotT (eq_R e1 hF k2.2 rfl) h
  rw [e1, q]
theorem own_len {t : Term} {args : Array Value} {s : State} {x : Addr} {cl : Cell} {n : Int32} (ht : t.eval args s none [] s = some (.ref x)) (ha : s.arrayAt? x = some cl) (h : (Term.length t).eval args s none [] s = some (.int n)) : cl.slots.size < 2 ^ 31 ∧ cl.slots.size.toInt32 = n := by
  by_cases q : cl.slots.size < 2 ^ 31
  · rw [len_f ht ha q] at h; cases h; exact ⟨q, rfl⟩
  · exfalso; simp [Term.eval, ht, ha] at h; omega
theorem dV_0 : decode prog_23_method_1_code 0 = .ok (.getstatic 16, 3) := by decide +kernel
theorem dV_3 : decode prog_23_method_1_code 3 = .ok (.invokevirtual 20, 3) := by decide +kernel
theorem dV_6 : decode prog_23_method_1_code 6 = .ok (.checkcast 21, 3) := by decide +kernel
theorem dV_9 : decode prog_23_method_1_code 9 = .ok (.areturn, 1) := by decide +kernel
theorem pnV : plainName "com/example/disposition/disposition/store/JobQueue" = true := by first | (simp [plainName, overriddenIn]; done) | decide +kernel
theorem efV (m : MethodId)  : entryFrame m #[] 0 = mkF m 0 #[] [] := by first | (simp [entryFrame, mkF, argsToLocals, Value.category]; done) | rfl
def QV (Z : State)  (a_V : Addr) (kk : ClassId) (a_IN_PLACE : Addr) (a_STAYING : Addr) (a_RETAINED : Addr) (a_HELD : Addr) (h0 : Heap) (n0 : Nat) (v : Option Value) (h : Heap) (L : List Loc) : Prop := ∃ r : Addr, v = some (.ref r) ∧ Fr n0 L ∧ Keep h0 h [] ∧ h0.size ≤ r ∧ Arv Z h r kk (.object "com/example/disposition/disposition/store/JobQueue") (4 : Int32) [(.ref a_IN_PLACE), (.ref a_STAYING), (.ref a_RETAINED), (.ref a_HELD)] .null
set_option maxRecDepth 65536 in
set_option maxHeartbeats 40000000 in
theorem rmV (l : Launch) (Z : State) (a0 : Array Value) (hw : ∀ d ∈ tables_1, d.before a0 Z = true) (ws : List Jvm.Cond)  (a_V : Addr) (kk : ClassId) (a_IN_PLACE : Addr) (a_STAYING : Addr) (a_RETAINED : Addr) (a_HELD : Addr) (h0 : Heap) (n0 : Nat) (Z0 : n0 ≤ h0.size) (S_V : Sta Z h0 "com/example/disposition/disposition/store/JobQueue" "$VALUES" "[Lcom/example/disposition/disposition/store/JobQueue;" (.ref a_V)) (V_V : Arv Z h0 a_V kk (.object "com/example/disposition/disposition/store/JobQueue") (4 : Int32) [(.ref a_IN_PLACE), (.ref a_STAYING), (.ref a_RETAINED), (.ref a_HELD)] .null) (E_V : Exa Z h0 a_V "[Lcom/example/disposition/disposition/store/JobQueue;") :
    MetFree l (⟨"com/example/disposition/disposition/store/JobQueue", "values", "()[Lcom/example/disposition/disposition/store/JobQueue;"⟩ : MethodName) (head1 (Jvm.Cond.code (⟨"com/example/disposition/disposition/store/JobQueue", "values", "()[Lcom/example/disposition/disposition/store/JobQueue;"⟩ : MethodName) prog_23_method_1_code 0 (some (.array (.object "com/example/disposition/disposition/store/JobQueue"))) :: ws) ({ frames := 1, cells := 1, slots := 4, locals := 14 } : Room)) (fun a U => a = #[] ∧ Z.Warmed39 U.vm ∧ U.heap = h0) (fun _ _ _ _ _ => True) (fun _ U o U' => ∃ v L, o = .returned v ∧ QV Z a_V kk a_IN_PLACE a_STAYING a_RETAINED a_HELD h0 n0 v U'.heap L ∧ FrameEnd U o U' L ({ frames := 1, cells := 1, slots := 4, locals := 14 } : Room).cells ({ frames := 1, cells := 1, slots := 4, locals := 14 } : Room).slots) := by
  refine MetFree.of_bodySF (plainFor_of_name pnV) hisR ?_
  intro p e s m args below meth c s₁ Bd hml0 hP hK
  obtain ⟨rfl, hZ, hh⟩ := hP
  have hx := Bd.exec
  have hby := Bd.bytes
  have hml : c.maxLocals = 0 := hml0
  have hown : s.vm.findClass "com/example/disposition/disposition/store/JobQueue" = some m.cls := findClass_of_methodNamed Bd.named
  have hnm := (name_of_methodNamed Bd.named Bd.method).1
  have X0 : Stand p l e ({ frames := 1, cells := 1, slots := 4, locals := 14 } : Room) s m #[] below meth c s₁ [] 0 0 := Stand.of_body Bd
  have e0 : s₁.heap = h0 := by rw [← hh, Bd.state]; rfl
  have N0 := Fr.nil n0
  have pre0 : ∀ t, Steps p.tables e below (s₁.setTop (mkF m 0 #[] [])) t → Steps p.tables e below (s₁.setTop (entryFrame m #[] 0)) t := fun t k => castTop (efV m ) k
  have K0 := Keep.refl h0 []
  obtain ⟨T1, X1, e1, st1⟩ := getS2 X0 hx hZ hown (host := "") (Or.inl (hw _ (List.mem_of_getElem? (i := 11) rfl))) Via.refl e0 S_V (g := (mkF m 0 #[] [])) rfl (hb hby dV_0)
  have p2 : ∀ t, Steps p.tables e below (T1.setTop (mkF m 3 #[] [(.ref a_V)])) t → Steps p.tables e below (s₁.setTop (entryFrame m #[] 0)) t := fun t k => pre0 t (st1 t k)
  obtain ⟨T3, h3, X3, e3, E3, VV3, EA3, st3⟩ := cloneH X1 hx hZ hown (hw _ (List.mem_of_getElem? (i := 13) rfl)) (hw _ (List.mem_of_getElem? (i := 14) rfl)) (hw _ (List.mem_of_getElem? (i := 18) rfl)) (hw _ (List.mem_of_getElem? (i := 16) rfl)) (hw _ (List.mem_of_getElem? (i := 17) rfl)) (hw _ (List.mem_of_getElem? (i := 19) rfl)) e1 (Arv.arh V_V) E_V (g := (mkF m 3 #[] [(.ref a_V)])) rfl (by rw [hml]; rfl) rfl (hb hby dV_3) (by decide) (W := 0) (cap := 4) (by show 2 * 0 + _ ≤ _; exact Nat.le_of_eq rfl) (by decide) (by decide) (by decide) (by decide)
  obtain ⟨rr, g3⟩ : ∃ z, z = h0.size := ⟨_, rfl⟩
  rw [← g3] at VV3 EA3 st3
  have gn_rr : n0 ≤ rr := Nat.le_trans Z0 (Nat.le_of_eq g3.symm)
  have gk_rr : h0.size ≤ rr := Nat.le_trans K0.1 (Nat.le_of_eq g3.symm)
  have ne4 : a_V ≠ rr := Nat.ne_of_lt (Nat.lt_of_lt_of_le V_V.lt (Nat.le_of_eq g3.symm))
  have f5 := S_V.ext E3
  have f6 := V_V.ext E3
  have f7 := E_V.ext E3
  have Z3 := Nat.le_trans Z0 E3.1
  have KK3 := K0.ext E3
  have p8 : ∀ t, Steps p.tables e below (T3.setTop (mkF m 6 #[] [(.ref rr)])) t → Steps p.tables e below (s₁.setTop (entryFrame m #[] 0)) t := fun t k => p2 t (st3 t k)
  obtain ⟨T9, X9, e9, st9⟩ := castY X3 hx hZ hown (hw _ (List.mem_of_getElem? (i := 24) rfl)) e3 (Ins.self EA3) (g := (mkF m 6 #[] [(.ref rr)])) rfl rfl (hb hby dV_6)
  have p10 : ∀ t, Steps p.tables e below (T9.setTop (mkF m 9 #[] [(.ref rr)])) t → Steps p.tables e below (s₁.setTop (entryFrame m #[] 0)) t := fun t k => p8 t (st9 t k)
  obtain ⟨fs, hr, hrun, hended, hW, hsame⟩ := X9.leave (v := some (.ref rr)) (fun h => by rw [Bd.returns] at h; cases h)
  refine ⟨_, _, p10 _ ?_, hrun, hended, _, _, rfl, ?_, ⟨_, rfl⟩, hW, hsame.mono (by decide) (by decide)⟩
  · show Steps p.tables e below (T9.setTop (mkF m 9 #[] [(.ref rr)])) _
    exact retOut X9 hx Bd.returns rfl (Or.inr (Or.inr (Or.inr (Or.inr ⟨rfl, rfl, rfl⟩)))) (hb hby dV_9) hr
  · show QV Z a_V kk a_IN_PLACE a_STAYING a_RETAINED a_HELD h0 n0 _ T9.heap _
    rw [e9]
    exact ⟨rr, rfl, N0, KK3, gk_rr, VV3⟩
theorem dk0_0 : decode prog_23_method_4_code 0 = .ok (.aload_n 0, 1) := by decide +kernel
theorem dk0_1 : decode prog_23_method_4_code 1 = .ok (.getfield 35, 3) := by decide +kernel
theorem dk0_4 : decode prog_23_method_4_code 4 = .ok (.ireturn, 1) := by decide +kernel
theorem pnk0 : plainName "com/example/disposition/disposition/store/JobQueue" = true := by first | (simp [plainName, overriddenIn]; done) | decide +kernel
theorem efk0 (m : MethodId) (x0 : Addr) : entryFrame m #[(.ref x0)] 1 = mkF m 0 #[.val (.ref x0)] [] := by first | (simp [entryFrame, mkF, argsToLocals, Value.category]; done) | rfl
def Qk0 (Z : State) (x0 : Addr) (h0 : Heap) (n0 : Nat) (v : Option Value) (h : Heap) (L : List Loc) : Prop := v = some (.int (73 : Int32)) ∧ Fr n0 L ∧ h = h0
set_option maxRecDepth 65536 in
set_option maxHeartbeats 40000000 in
theorem rmk0 (l : Launch) (Z : State) (a0 : Array Value) (hw : ∀ d ∈ tables_1, d.before a0 Z = true) (ws : List Jvm.Cond) (x0 : Addr) (h0 : Heap) (n0 : Nat) (Z0 : n0 ≤ h0.size) (F0 : Fld Z h0 x0 "com/example/disposition/disposition/store/JobQueue" "kind" "B" (.int (73 : Int32))) :
    MetFree l (⟨"com/example/disposition/disposition/store/JobQueue", "kind", "()B"⟩ : MethodName) (head1 (Jvm.Cond.code (⟨"com/example/disposition/disposition/store/JobQueue", "kind", "()B"⟩ : MethodName) prog_23_method_4_code 1 (some .byte) :: ws) ({ frames := 0, cells := 0, slots := 0, locals := 0 } : Room)) (fun a U => a = #[(.ref x0)] ∧ Z.Warmed39 U.vm ∧ U.heap = h0) (fun _ _ _ _ _ => True) (fun _ U o U' => ∃ v L, o = .returned v ∧ Qk0 Z x0 h0 n0 v U'.heap L ∧ FrameEnd U o U' L ({ frames := 0, cells := 0, slots := 0, locals := 0 } : Room).cells ({ frames := 0, cells := 0, slots := 0, locals := 0 } : Room).slots) := by
  refine MetFree.of_bodySF (plainFor_of_name pnk0) hisR ?_
  intro p e s m args below meth c s₁ Bd hml0 hP hK
  obtain ⟨rfl, hZ, hh⟩ := hP
  have hx := Bd.exec
  have hby := Bd.bytes
  have hml : c.maxLocals = 1 := hml0
  have hown : s.vm.findClass "com/example/disposition/disposition/store/JobQueue" = some m.cls := findClass_of_methodNamed Bd.named
  have hnm := (name_of_methodNamed Bd.named Bd.method).1
  have X0 : Stand p l e ({ frames := 0, cells := 0, slots := 0, locals := 0 } : Room) s m #[(.ref x0)] below meth c s₁ [] 0 0 := Stand.of_body Bd
  have e0 : s₁.heap = h0 := by rw [← hh, Bd.state]; rfl
  have N0 := Fr.nil n0
  have pre0 : ∀ t, Steps p.tables e below (s₁.setTop (mkF m 0 #[.val (.ref x0)] [])) t → Steps p.tables e below (s₁.setTop (entryFrame m #[(.ref x0)] 1)) t := fun t k => castTop (efk0 m x0) k
  have p1 : ∀ t, Steps p.tables e below (s₁.setTop (mkF m 1 #[.val (.ref x0)] [(.ref x0)])) t → Steps p.tables e below (s₁.setTop (entryFrame m #[(.ref x0)] 1)) t := fun t k => pre0 t (by
    show Steps p.tables e below (s₁.setTop (mkF m 0 #[.val (.ref x0)] [])) _
    refine XS.aloadN X0.here hx rfl (hb hby dk0_0) rfl rfl ?_
    exact k)
  obtain ⟨T2, X2, e2, st2⟩ := getF X0 hx hZ hown (host := "") (Or.inl (hw _ (List.mem_of_getElem? (i := 31) rfl))) Via.refl e0 F0 (g := (mkF m 1 #[.val (.ref x0)] [(.ref x0)])) rfl rfl (hb hby dk0_1)
  have p3 : ∀ t, Steps p.tables e below (T2.setTop (mkF m 4 #[.val (.ref x0)] [(.int (73 : Int32))])) t → Steps p.tables e below (s₁.setTop (entryFrame m #[(.ref x0)] 1)) t := fun t k => p1 t (st2 t k)
  obtain ⟨fs, hr, hrun, hended, hW, hsame⟩ := X2.leave (v := some (.int (73 : Int32))) (fun h => by rw [Bd.returns] at h; cases h)
  refine ⟨_, _, p3 _ ?_, hrun, hended, _, _, rfl, ?_, ⟨_, rfl⟩, hW, hsame.mono (by decide) (by decide)⟩
  · show Steps p.tables e below (T2.setTop (mkF m 4 #[.val (.ref x0)] [(.int (73 : Int32))])) _
    exact retN X2 hx (t := .byte) Bd.returns (by simp) (hb hby dk0_4) hr
  · show Qk0 Z x0 h0 n0 _ T2.heap _
    rw [e2]
    exact ⟨rfl, N0, rfl⟩
theorem dk1_0 : decode prog_23_method_4_code 0 = .ok (.aload_n 0, 1) := by decide +kernel
theorem dk1_1 : decode prog_23_method_4_code 1 = .ok (.getfield 35, 3) := by decide +kernel
theorem dk1_4 : decode prog_23_method_4_code 4 = .ok (.ireturn, 1) := by decide +kernel
theorem pnk1 : plainName "com/example/disposition/disposition/store/JobQueue" = true := by first | (simp [plainName, overriddenIn]; done) | decide +kernel
theorem efk1 (m : MethodId) (x0 : Addr) : entryFrame m #[(.ref x0)] 1 = mkF m 0 #[.val (.ref x0)] [] := by first | (simp [entryFrame, mkF, argsToLocals, Value.category]; done) | rfl
def Qk1 (Z : State) (x0 : Addr) (h0 : Heap) (n0 : Nat) (v : Option Value) (h : Heap) (L : List Loc) : Prop := v = some (.int (89 : Int32)) ∧ Fr n0 L ∧ h = h0
set_option maxRecDepth 65536 in
set_option maxHeartbeats 40000000 in
theorem rmk1 (l : Launch) (Z : State) (a0 : Array Value) (hw : ∀ d ∈ tables_1, d.before a0 Z = true) (ws : List Jvm.Cond) (x0 : Addr) (h0 : Heap) (n0 : Nat) (Z0 : n0 ≤ h0.size) (F0 : Fld Z h0 x0 "com/example/disposition/disposition/store/JobQueue" "kind" "B" (.int (89 : Int32))) :
    MetFree l (⟨"com/example/disposition/disposition/store/JobQueue", "kind", "()B"⟩ : MethodName) (head1 (Jvm.Cond.code (⟨"com/example/disposition/disposition/store/JobQueue", "kind", "()B"⟩ : MethodName) prog_23_method_4_code 1 (some .byte) :: ws) ({ frames := 0, cells := 0, slots := 0, locals := 0 } : Room)) (fun a U => a = #[(.ref x0)] ∧ Z.Warmed39 U.vm ∧ U.heap = h0) (fun _ _ _ _ _ => True) (fun _ U o U' => ∃ v L, o = .returned v ∧ Qk1 Z x0 h0 n0 v U'.heap L ∧ FrameEnd U o U' L ({ frames := 0, cells := 0, slots := 0, locals := 0 } : Room).cells ({ frames := 0, cells := 0, slots := 0, locals := 0 } : Room).slots) := by
  refine MetFree.of_bodySF (plainFor_of_name pnk1) hisR ?_
  intro p e s m args below meth c s₁ Bd hml0 hP hK
  obtain ⟨rfl, hZ, hh⟩ := hP
  have hx := Bd.exec
  have hby := Bd.bytes
  have hml : c.maxLocals = 1 := hml0
  have hown : s.vm.findClass "com/example/disposition/disposition/store/JobQueue" = some m.cls := findClass_of_methodNamed Bd.named
  have hnm := (name_of_methodNamed Bd.named Bd.method).1
  have X0 : Stand p l e ({ frames := 0, cells := 0, slots := 0, locals := 0 } : Room) s m #[(.ref x0)] below meth c s₁ [] 0 0 := Stand.of_body Bd
  have e0 : s₁.heap = h0 := by rw [← hh, Bd.state]; rfl
  have N0 := Fr.nil n0
  have pre0 : ∀ t, Steps p.tables e below (s₁.setTop (mkF m 0 #[.val (.ref x0)] [])) t → Steps p.tables e below (s₁.setTop (entryFrame m #[(.ref x0)] 1)) t := fun t k => castTop (efk1 m x0) k
  have p1 : ∀ t, Steps p.tables e below (s₁.setTop (mkF m 1 #[.val (.ref x0)] [(.ref x0)])) t → Steps p.tables e below (s₁.setTop (entryFrame m #[(.ref x0)] 1)) t := fun t k => pre0 t (by
    show Steps p.tables e below (s₁.setTop (mkF m 0 #[.val (.ref x0)] [])) _
    refine XS.aloadN X0.here hx rfl (hb hby dk1_0) rfl rfl ?_
    exact k)
  obtain ⟨T2, X2, e2, st2⟩ := getF X0 hx hZ hown (host := "") (Or.inl (hw _ (List.mem_of_getElem? (i := 31) rfl))) Via.refl e0 F0 (g := (mkF m 1 #[.val (.ref x0)] [(.ref x0)])) rfl rfl (hb hby dk1_1)
  have p3 : ∀ t, Steps p.tables e below (T2.setTop (mkF m 4 #[.val (.ref x0)] [(.int (89 : Int32))])) t → Steps p.tables e below (s₁.setTop (entryFrame m #[(.ref x0)] 1)) t := fun t k => p1 t (st2 t k)
  obtain ⟨fs, hr, hrun, hended, hW, hsame⟩ := X2.leave (v := some (.int (89 : Int32))) (fun h => by rw [Bd.returns] at h; cases h)
  refine ⟨_, _, p3 _ ?_, hrun, hended, _, _, rfl, ?_, ⟨_, rfl⟩, hW, hsame.mono (by decide) (by decide)⟩
  · show Steps p.tables e below (T2.setTop (mkF m 4 #[.val (.ref x0)] [(.int (89 : Int32))])) _
    exact retN X2 hx (t := .byte) Bd.returns (by simp) (hb hby dk1_4) hr
  · show Qk1 Z x0 h0 n0 _ T2.heap _
    rw [e2]
    exact ⟨rfl, N0, rfl⟩
theorem dk2_0 : decode prog_23_method_4_code 0 = .ok (.aload_n 0, 1) := by decide +kernel
theorem dk2_1 : decode prog_23_method_4_code 1 = .ok (.getfield 35, 3) := by decide +kernel
theorem dk2_4 : decode prog_23_method_4_code 4 = .ok (.ireturn, 1) := by decide +kernel
theorem pnk2 : plainName "com/example/disposition/disposition/store/JobQueue" = true := by first | (simp [plainName, overriddenIn]; done) | decide +kernel
theorem efk2 (m : MethodId) (x0 : Addr) : entryFrame m #[(.ref x0)] 1 = mkF m 0 #[.val (.ref x0)] [] := by first | (simp [entryFrame, mkF, argsToLocals, Value.category]; done) | rfl
def Qk2 (Z : State) (x0 : Addr) (h0 : Heap) (n0 : Nat) (v : Option Value) (h : Heap) (L : List Loc) : Prop := v = some (.int (82 : Int32)) ∧ Fr n0 L ∧ h = h0
set_option maxRecDepth 65536 in
set_option maxHeartbeats 40000000 in
theorem rmk2 (l : Launch) (Z : State) (a0 : Array Value) (hw : ∀ d ∈ tables_1, d.before a0 Z = true) (ws : List Jvm.Cond) (x0 : Addr) (h0 : Heap) (n0 : Nat) (Z0 : n0 ≤ h0.size) (F0 : Fld Z h0 x0 "com/example/disposition/disposition/store/JobQueue" "kind" "B" (.int (82 : Int32))) :
    MetFree l (⟨"com/example/disposition/disposition/store/JobQueue", "kind", "()B"⟩ : MethodName) (head1 (Jvm.Cond.code (⟨"com/example/disposition/disposition/store/JobQueue", "kind", "()B"⟩ : MethodName) prog_23_method_4_code 1 (some .byte) :: ws) ({ frames := 0, cells := 0, slots := 0, locals := 0 } : Room)) (fun a U => a = #[(.ref x0)] ∧ Z.Warmed39 U.vm ∧ U.heap = h0) (fun _ _ _ _ _ => True) (fun _ U o U' => ∃ v L, o = .returned v ∧ Qk2 Z x0 h0 n0 v U'.heap L ∧ FrameEnd U o U' L ({ frames := 0, cells := 0, slots := 0, locals := 0 } : Room).cells ({ frames := 0, cells := 0, slots := 0, locals := 0 } : Room).slots) := by
  refine MetFree.of_bodySF (plainFor_of_name pnk2) hisR ?_
  intro p e s m args below meth c s₁ Bd hml0 hP hK
  obtain ⟨rfl, hZ, hh⟩ := hP
  have hx := Bd.exec
  have hby := Bd.bytes
  have hml : c.maxLocals = 1 := hml0
  have hown : s.vm.findClass "com/example/disposition/disposition/store/JobQueue" = some m.cls := findClass_of_methodNamed Bd.named
  have hnm := (name_of_methodNamed Bd.named Bd.method).1
  have X0 : Stand p l e ({ frames := 0, cells := 0, slots := 0, locals := 0 } : Room) s m #[(.ref x0)] below meth c s₁ [] 0 0 := Stand.of_body Bd
  have e0 : s₁.heap = h0 := by rw [← hh, Bd.state]; rfl
  have N0 := Fr.nil n0
  have pre0 : ∀ t, Steps p.tables e below (s₁.setTop (mkF m 0 #[.val (.ref x0)] [])) t → Steps p.tables e below (s₁.setTop (entryFrame m #[(.ref x0)] 1)) t := fun t k => castTop (efk2 m x0) k
  have p1 : ∀ t, Steps p.tables e below (s₁.setTop (mkF m 1 #[.val (.ref x0)] [(.ref x0)])) t → Steps p.tables e below (s₁.setTop (entryFrame m #[(.ref x0)] 1)) t := fun t k => pre0 t (by
    show Steps p.tables e below (s₁.setTop (mkF m 0 #[.val (.ref x0)] [])) _
    refine XS.aloadN X0.here hx rfl (hb hby dk2_0) rfl rfl ?_
    exact k)
  obtain ⟨T2, X2, e2, st2⟩ := getF X0 hx hZ hown (host := "") (Or.inl (hw _ (List.mem_of_getElem? (i := 31) rfl))) Via.refl e0 F0 (g := (mkF m 1 #[.val (.ref x0)] [(.ref x0)])) rfl rfl (hb hby dk2_1)
  have p3 : ∀ t, Steps p.tables e below (T2.setTop (mkF m 4 #[.val (.ref x0)] [(.int (82 : Int32))])) t → Steps p.tables e below (s₁.setTop (entryFrame m #[(.ref x0)] 1)) t := fun t k => p1 t (st2 t k)
  obtain ⟨fs, hr, hrun, hended, hW, hsame⟩ := X2.leave (v := some (.int (82 : Int32))) (fun h => by rw [Bd.returns] at h; cases h)
  refine ⟨_, _, p3 _ ?_, hrun, hended, _, _, rfl, ?_, ⟨_, rfl⟩, hW, hsame.mono (by decide) (by decide)⟩
  · show Steps p.tables e below (T2.setTop (mkF m 4 #[.val (.ref x0)] [(.int (82 : Int32))])) _
    exact retN X2 hx (t := .byte) Bd.returns (by simp) (hb hby dk2_4) hr
  · show Qk2 Z x0 h0 n0 _ T2.heap _
    rw [e2]
    exact ⟨rfl, N0, rfl⟩
theorem dk3_0 : decode prog_23_method_4_code 0 = .ok (.aload_n 0, 1) := by decide +kernel
theorem dk3_1 : decode prog_23_method_4_code 1 = .ok (.getfield 35, 3) := by decide +kernel
theorem dk3_4 : decode prog_23_method_4_code 4 = .ok (.ireturn, 1) := by decide +kernel
theorem pnk3 : plainName "com/example/disposition/disposition/store/JobQueue" = true := by first | (simp [plainName, overriddenIn]; done) | decide +kernel
theorem efk3 (m : MethodId) (x0 : Addr) : entryFrame m #[(.ref x0)] 1 = mkF m 0 #[.val (.ref x0)] [] := by first | (simp [entryFrame, mkF, argsToLocals, Value.category]; done) | rfl
def Qk3 (Z : State) (x0 : Addr) (h0 : Heap) (n0 : Nat) (v : Option Value) (h : Heap) (L : List Loc) : Prop := v = some (.int (87 : Int32)) ∧ Fr n0 L ∧ h = h0
set_option maxRecDepth 65536 in
set_option maxHeartbeats 40000000 in
theorem rmk3 (l : Launch) (Z : State) (a0 : Array Value) (hw : ∀ d ∈ tables_1, d.before a0 Z = true) (ws : List Jvm.Cond) (x0 : Addr) (h0 : Heap) (n0 : Nat) (Z0 : n0 ≤ h0.size) (F0 : Fld Z h0 x0 "com/example/disposition/disposition/store/JobQueue" "kind" "B" (.int (87 : Int32))) :
    MetFree l (⟨"com/example/disposition/disposition/store/JobQueue", "kind", "()B"⟩ : MethodName) (head1 (Jvm.Cond.code (⟨"com/example/disposition/disposition/store/JobQueue", "kind", "()B"⟩ : MethodName) prog_23_method_4_code 1 (some .byte) :: ws) ({ frames := 0, cells := 0, slots := 0, locals := 0 } : Room)) (fun a U => a = #[(.ref x0)] ∧ Z.Warmed39 U.vm ∧ U.heap = h0) (fun _ _ _ _ _ => True) (fun _ U o U' => ∃ v L, o = .returned v ∧ Qk3 Z x0 h0 n0 v U'.heap L ∧ FrameEnd U o U' L ({ frames := 0, cells := 0, slots := 0, locals := 0 } : Room).cells ({ frames := 0, cells := 0, slots := 0, locals := 0 } : Room).slots) := by
  refine MetFree.of_bodySF (plainFor_of_name pnk3) hisR ?_
  intro p e s m args below meth c s₁ Bd hml0 hP hK
  obtain ⟨rfl, hZ, hh⟩ := hP
  have hx := Bd.exec
  have hby := Bd.bytes
  have hml : c.maxLocals = 1 := hml0
  have hown : s.vm.findClass "com/example/disposition/disposition/store/JobQueue" = some m.cls := findClass_of_methodNamed Bd.named
  have hnm := (name_of_methodNamed Bd.named Bd.method).1
  have X0 : Stand p l e ({ frames := 0, cells := 0, slots := 0, locals := 0 } : Room) s m #[(.ref x0)] below meth c s₁ [] 0 0 := Stand.of_body Bd
  have e0 : s₁.heap = h0 := by rw [← hh, Bd.state]; rfl
  have N0 := Fr.nil n0
  have pre0 : ∀ t, Steps p.tables e below (s₁.setTop (mkF m 0 #[.val (.ref x0)] [])) t → Steps p.tables e below (s₁.setTop (entryFrame m #[(.ref x0)] 1)) t := fun t k => castTop (efk3 m x0) k
  have p1 : ∀ t, Steps p.tables e below (s₁.setTop (mkF m 1 #[.val (.ref x0)] [(.ref x0)])) t → Steps p.tables e below (s₁.setTop (entryFrame m #[(.ref x0)] 1)) t := fun t k => pre0 t (by
    show Steps p.tables e below (s₁.setTop (mkF m 0 #[.val (.ref x0)] [])) _
    refine XS.aloadN X0.here hx rfl (hb hby dk3_0) rfl rfl ?_
    exact k)
  obtain ⟨T2, X2, e2, st2⟩ := getF X0 hx hZ hown (host := "") (Or.inl (hw _ (List.mem_of_getElem? (i := 31) rfl))) Via.refl e0 F0 (g := (mkF m 1 #[.val (.ref x0)] [(.ref x0)])) rfl rfl (hb hby dk3_1)
  have p3 : ∀ t, Steps p.tables e below (T2.setTop (mkF m 4 #[.val (.ref x0)] [(.int (87 : Int32))])) t → Steps p.tables e below (s₁.setTop (entryFrame m #[(.ref x0)] 1)) t := fun t k => p1 t (st2 t k)
  obtain ⟨fs, hr, hrun, hended, hW, hsame⟩ := X2.leave (v := some (.int (87 : Int32))) (fun h => by rw [Bd.returns] at h; cases h)
  refine ⟨_, _, p3 _ ?_, hrun, hended, _, _, rfl, ?_, ⟨_, rfl⟩, hW, hsame.mono (by decide) (by decide)⟩
  · show Steps p.tables e below (T2.setTop (mkF m 4 #[.val (.ref x0)] [(.int (87 : Int32))])) _
    exact retN X2 hx (t := .byte) Bd.returns (by simp) (hb hby dk3_4) hr
  · show Qk3 Z x0 h0 n0 _ T2.heap _
    rw [e2]
    exact ⟨rfl, N0, rfl⟩
theorem dq0_0 : decode prog_24_method_30_code 0 = .ok (.invokestatic 156, 3) := by decide +kernel
theorem dq0_3 : decode prog_24_method_30_code 3 = .ok (.astore_n 1, 1) := by decide +kernel
theorem dq0_4 : decode prog_24_method_30_code 4 = .ok (.aload_n 1, 1) := by decide +kernel
theorem dq0_5 : decode prog_24_method_30_code 5 = .ok (.arraylength, 1) := by decide +kernel
theorem dq0_6 : decode prog_24_method_30_code 6 = .ok (.istore_n 2, 1) := by decide +kernel
theorem dq0_7 : decode prog_24_method_30_code 7 = .ok (.iconst 0, 1) := by decide +kernel
theorem dq0_8 : decode prog_24_method_30_code 8 = .ok (.istore_n 3, 1) := by decide +kernel
theorem dq0_9 : decode prog_24_method_30_code 9 = .ok (.iload_n 3, 1) := by decide +kernel
theorem dq0_10 : decode prog_24_method_30_code 10 = .ok (.iload_n 2, 1) := by decide +kernel
theorem dq0_11 : decode prog_24_method_30_code 11 = .ok (.if_icmp .ge 28, 3) := by decide +kernel
theorem dq0_14 : decode prog_24_method_30_code 14 = .ok (.aload_n 1, 1) := by decide +kernel
theorem dq0_15 : decode prog_24_method_30_code 15 = .ok (.iload_n 3, 1) := by decide +kernel
theorem dq0_16 : decode prog_24_method_30_code 16 = .ok (.aaload, 1) := by decide +kernel
theorem dq0_17 : decode prog_24_method_30_code 17 = .ok (.astore 4, 2) := by decide +kernel
theorem dq0_19 : decode prog_24_method_30_code 19 = .ok (.aload 4, 2) := by decide +kernel
theorem dq0_21 : decode prog_24_method_30_code 21 = .ok (.invokevirtual 144, 3) := by decide +kernel
theorem dq0_24 : decode prog_24_method_30_code 24 = .ok (.aload_n 0, 1) := by decide +kernel
theorem dq0_25 : decode prog_24_method_30_code 25 = .ok (.iconst 0, 1) := by decide +kernel
theorem dq0_26 : decode prog_24_method_30_code 26 = .ok (.baload, 1) := by decide +kernel
theorem dq0_27 : decode prog_24_method_30_code 27 = .ok (.if_icmp .ne 6, 3) := by decide +kernel
theorem dq0_30 : decode prog_24_method_30_code 30 = .ok (.aload 4, 2) := by decide +kernel
theorem dq0_32 : decode prog_24_method_30_code 32 = .ok (.areturn, 1) := by decide +kernel
theorem pnq0 : plainName "com/example/disposition/disposition/store/Keys" = true := by first | (simp [plainName, overriddenIn]; done) | decide +kernel
theorem pdq0_0 : parseMethodDescriptor "()[Lcom/example/disposition/disposition/store/JobQueue;" = some ⟨[], some (.array (.object "com/example/disposition/disposition/store/JobQueue"))⟩ := by decide +kernel
theorem pdq0_1 : parseMethodDescriptor "()B" = some ⟨[], some .byte⟩ := by decide +kernel
theorem efq0 (m : MethodId) (x0 : Addr) : entryFrame m #[(.ref x0)] 5 = mkF m 0 #[.val (.ref x0), .unset, .unset, .unset, .unset] [] := by first | (simp [entryFrame, mkF, argsToLocals, Value.category]; done) | rfl
def Qq0 (Z : State) (x0 : Addr) (a_V : Addr) (kk : ClassId) (a_IN_PLACE : Addr) (a_STAYING : Addr) (a_RETAINED : Addr) (a_HELD : Addr) (y0 : Int32) (h0 : Heap) (n0 : Nat) (v : Option Value) (h : Heap) (L : List Loc) : Prop := v = some (.ref a_IN_PLACE) ∧ Fr n0 L ∧ Keep h0 h []
set_option maxRecDepth 65536 in
set_option maxHeartbeats 40000000 in
theorem rmq0 (l : Launch) (Z : State) (a0 : Array Value) (hw : ∀ d ∈ tables_1, d.before a0 Z = true) (ws : List Jvm.Cond) (x0 : Addr) (a_V : Addr) (kk : ClassId) (a_IN_PLACE : Addr) (a_STAYING : Addr) (a_RETAINED : Addr) (a_HELD : Addr) (y0 : Int32) (h0 : Heap) (n0 : Nat) (Z0 : n0 ≤ h0.size) (O0 : Old Z n0 h0) (S_V : Sta Z Z.heap "com/example/disposition/disposition/store/JobQueue" "$VALUES" "[Lcom/example/disposition/disposition/store/JobQueue;" (.ref a_V)) (V_V : Arv Z Z.heap a_V kk (.object "com/example/disposition/disposition/store/JobQueue") (4 : Int32) [(.ref a_IN_PLACE), (.ref a_STAYING), (.ref a_RETAINED), (.ref a_HELD)] .null) (E_V : Exa Z Z.heap a_V "[Lcom/example/disposition/disposition/store/JobQueue;") (E_IN_PLACE : Exa Z Z.heap a_IN_PLACE "com/example/disposition/disposition/store/JobQueue") (E_STAYING : Exa Z Z.heap a_STAYING "com/example/disposition/disposition/store/JobQueue") (E_RETAINED : Exa Z Z.heap a_RETAINED "com/example/disposition/disposition/store/JobQueue") (E_HELD : Exa Z Z.heap a_HELD "com/example/disposition/disposition/store/JobQueue") (F_IN_PLACE : Fld Z Z.heap a_IN_PLACE "com/example/disposition/disposition/store/JobQueue" "kind" "B" (.int (73 : Int32))) (F_STAYING : Fld Z Z.heap a_STAYING "com/example/disposition/disposition/store/JobQueue" "kind" "B" (.int (89 : Int32))) (F_RETAINED : Fld Z Z.heap a_RETAINED "com/example/disposition/disposition/store/JobQueue" "kind" "B" (.int (82 : Int32))) (F_HELD : Fld Z Z.heap a_HELD "com/example/disposition/disposition/store/JobQueue" "kind" "B" (.int (87 : Int32))) (B0 : own_B0 Z h0 x0 y0) (hy : y0 = (73 : Int32)) :
    MetFree l (⟨"com/example/disposition/disposition/store/Keys", "parseQueue", "([B)Lcom/example/disposition/disposition/store/JobQueue;"⟩ : MethodName) (head1 (Jvm.Cond.code (⟨"com/example/disposition/disposition/store/Keys", "parseQueue", "([B)Lcom/example/disposition/disposition/store/JobQueue;"⟩ : MethodName) prog_24_method_30_code 5 (some (.object "com/example/disposition/disposition/store/JobQueue")) :: ws) ({ frames := 2, cells := 1, slots := 4, locals := 25 } : Room)) (fun a U => a = #[(.ref x0)] ∧ Z.Warmed39 U.vm ∧ U.heap = h0) (fun _ _ _ _ _ => True) (fun _ U o U' => ∃ v L, o = .returned v ∧ Qq0 Z x0 a_V kk a_IN_PLACE a_STAYING a_RETAINED a_HELD y0 h0 n0 v U'.heap L ∧ FrameEnd U o U' L ({ frames := 2, cells := 1, slots := 4, locals := 25 } : Room).cells ({ frames := 2, cells := 1, slots := 4, locals := 25 } : Room).slots) := by
  refine MetFree.of_bodySF (plainFor_of_name pnq0) hisR ?_
  intro p e s m args below meth c s₁ Bd hml0 hP hK
  obtain ⟨rfl, hZ, hh⟩ := hP
  have hx := Bd.exec
  have hby := Bd.bytes
  have hml : c.maxLocals = 5 := hml0
  have hown : s.vm.findClass "com/example/disposition/disposition/store/Keys" = some m.cls := findClass_of_methodNamed Bd.named
  have hnm := (name_of_methodNamed Bd.named Bd.method).1
  have X0 : Stand p l e ({ frames := 2, cells := 1, slots := 4, locals := 25 } : Room) s m #[(.ref x0)] below meth c s₁ [] 0 0 := Stand.of_body Bd
  have e0 : s₁.heap = h0 := by rw [← hh, Bd.state]; rfl
  have N0 := Fr.nil n0
  have pre0 : ∀ t, Steps p.tables e below (s₁.setTop (mkF m 0 #[.val (.ref x0), .unset, .unset, .unset, .unset] [])) t → Steps p.tables e below (s₁.setTop (entryFrame m #[(.ref x0)] 5)) t := fun t k => castTop (efq0 m x0) k
  have K0 := Keep.refl h0 []
  have S_Vh := S_V.ext O0.2
  have V_Vh := V_V.ext O0.2
  have E_Vh := E_V.ext O0.2
  have E_IN_PLACEh := E_IN_PLACE.ext O0.2
  have F_IN_PLACEh := F_IN_PLACE.ext O0.2
  have E_STAYINGh := E_STAYING.ext O0.2
  have F_STAYINGh := F_STAYING.ext O0.2
  have E_RETAINEDh := E_RETAINED.ext O0.2
  have F_RETAINEDh := F_RETAINED.ext O0.2
  have E_HELDh := E_HELD.ext O0.2
  have F_HELDh := F_HELD.ext O0.2
  obtain ⟨_, _, ⟨T1, L1, k1, n1⟩, -, X1, ⟨Lc1, hQ1, l1, y1, z1⟩, st1⟩ := Jvm.LawKit.callS X0 hx (y := (⟨"com/example/disposition/disposition/store/JobQueue", "values", "()[Lcom/example/disposition/disposition/store/JobQueue;"⟩ : MethodName)) hown (mvT hZ (hw _ (List.mem_of_getElem? (i := 8) rfl))) (mvT hZ (hw _ (List.mem_of_getElem? (i := 9) rfl))) (mvT hZ (hw _ (List.mem_of_getElem? (i := 1) rfl))) (mvT hZ (hw _ (List.mem_of_getElem? (i := 10) rfl))) (by decide) (backOf (W := 0) (rmV l Z a0 hw []  a_V kk a_IN_PLACE a_STAYING a_RETAINED a_HELD h0 n0 Z0 S_Vh V_Vh E_Vh) hZ (hw _ (List.mem_of_getElem? (i := 10) rfl)) (hw _ (List.mem_of_getElem? (i := 1) rfl)) (by decide) (by decide)) (g := (mkF m 0 #[.val (.ref x0), .unset, .unset, .unset, .unset] [])) rfl (by rw [hml]; rfl) (argsL := []) (rest := []) (lenOf pdq0_0 rfl) rfl (by show 2 * 0 + _ ≤ _; exact Nat.le_of_eq rfl) (hb hby dq0_0) (fun _ _ => ⟨rfl, e0, (by decide : 0 + 1 ≤ _), (by decide : 0 + 4 ≤ _)⟩)
  dsimp only [Pt.U, Pt.locs, Pt.cells, Pt.slots] at X1 l1 y1 z1 st1 hQ1
  subst l1 y1 z1
  obtain ⟨r1, rfl, Nq1, K1, gr1, VR1⟩ := hQ1
  have N1 := Fr.app N0 Nq1
  have f2 := E_IN_PLACEh.keep K1
  have f3 := F_IN_PLACEh.keep K1 nin0
  have f4 := E_STAYINGh.keep K1
  have f5 := F_STAYINGh.keep K1 nin0
  have f6 := E_RETAINEDh.keep K1
  have f7 := F_RETAINEDh.keep K1 nin0
  have f8 := E_HELDh.keep K1
  have f9 := F_HELDh.keep K1 nin0
  have f10 := B0.keep K1 nin0
  have Z1 := Nat.le_trans Z0 K1.1
  have KK1 := K0.trans K1 (all0)
  have p11 : ∀ t, Steps p.tables e below (T1.setTop (mkF m 3 #[.val (.ref x0), .unset, .unset, .unset, .unset] [(.ref r1)])) t → Steps p.tables e below (s₁.setTop (entryFrame m #[(.ref x0)] 5)) t := fun t k => pre0 t (st1 _ k)
  have p12 : ∀ t, Steps p.tables e below (T1.setTop (mkF m 5 #[.val (.ref x0), .val (.ref r1), .unset, .unset, .unset] [(.ref r1)])) t → Steps p.tables e below (s₁.setTop (entryFrame m #[(.ref x0)] 5)) t := fun t k => p11 t (by
    show Steps p.tables e below (T1.setTop (mkF m 3 #[.val (.ref x0), .unset, .unset, .unset, .unset] [(.ref r1)])) _
    refine XS.astoreN X1.here hx rfl (hb hby dq0_3) rfl rfl (l' := #[.val (.ref x0), .val (.ref r1), .unset, .unset, .unset]) rfl ?_
    show Steps p.tables e below (T1.setTop (mkF m 4 #[.val (.ref x0), .val (.ref r1), .unset, .unset, .unset] [])) _
    refine XS.aloadN X1.here hx rfl (hb hby dq0_4) rfl rfl ?_
    exact k)
  obtain ⟨cl13, Ar13, -, Sz13, Ng13, -, -⟩ := id VR1
  have p14 : ∀ t, Steps p.tables e below (T1.setTop (mkF m 16 #[.val (.ref x0), .val (.ref r1), .val (.int (4 : Int32)), .val (.int (0 : Int32)), .unset] [(.int (0 : Int32)), (.ref r1)])) t → Steps p.tables e below (s₁.setTop (entryFrame m #[(.ref x0)] 5)) t := fun t k => p12 t (by
    show Steps p.tables e below (T1.setTop (mkF m 5 #[.val (.ref x0), .val (.ref r1), .unset, .unset, .unset] [(.ref r1)])) _
    refine X1.arraylength hx Ar13.1 (State.isArrayOf_alike hZ.alike Ar13.2.1) (g := (mkF m 5 #[.val (.ref x0), .val (.ref r1), .unset, .unset, .unset] [(.ref r1)])) rfl rfl (hb hby dq0_5) _ ?_
    rw [len_of Sz13 Ng13]
    show Steps p.tables e below (T1.setTop (mkF m 6 #[.val (.ref x0), .val (.ref r1), .unset, .unset, .unset] [(.int (4 : Int32))])) _
    refine XS.istoreN X1.here hx rfl (hb hby dq0_6) rfl (l' := #[.val (.ref x0), .val (.ref r1), .val (.int (4 : Int32)), .unset, .unset]) rfl ?_
    show Steps p.tables e below (T1.setTop (mkF m 7 #[.val (.ref x0), .val (.ref r1), .val (.int (4 : Int32)), .unset, .unset] [])) _
    refine XS.iconst X1.here hx rfl (hb hby dq0_7) ?_
    show Steps p.tables e below (T1.setTop (mkF m 8 #[.val (.ref x0), .val (.ref r1), .val (.int (4 : Int32)), .unset, .unset] [(.int (0 : Int32))])) _
    refine XS.istoreN X1.here hx rfl (hb hby dq0_8) rfl (l' := #[.val (.ref x0), .val (.ref r1), .val (.int (4 : Int32)), .val (.int (0 : Int32)), .unset]) rfl ?_
    show Steps p.tables e below (T1.setTop (mkF m 9 #[.val (.ref x0), .val (.ref r1), .val (.int (4 : Int32)), .val (.int (0 : Int32)), .unset] [])) _
    refine XS.iloadN X1.here hx rfl (hb hby dq0_9) rfl ?_
    show Steps p.tables e below (T1.setTop (mkF m 10 #[.val (.ref x0), .val (.ref r1), .val (.int (4 : Int32)), .val (.int (0 : Int32)), .unset] [(.int (0 : Int32))])) _
    refine XS.iloadN X1.here hx rfl (hb hby dq0_10) rfl ?_
    show Steps p.tables e below (T1.setTop (mkF m 11 #[.val (.ref x0), .val (.ref r1), .val (.int (4 : Int32)), .val (.int (0 : Int32)), .unset] [(.int (4 : Int32)), (.int (0 : Int32))])) _
    refine XS.icmpNo X1.here hx rfl (hb hby dq0_11) rfl ((tlt (by decide)).2.1) ?_
    show Steps p.tables e below (T1.setTop (mkF m 14 #[.val (.ref x0), .val (.ref r1), .val (.int (4 : Int32)), .val (.int (0 : Int32)), .unset] [])) _
    refine XS.aloadN X1.here hx rfl (hb hby dq0_14) rfl rfl ?_
    show Steps p.tables e below (T1.setTop (mkF m 15 #[.val (.ref x0), .val (.ref r1), .val (.int (4 : Int32)), .val (.int (0 : Int32)), .unset] [(.ref r1)])) _
    refine XS.iloadN X1.here hx rfl (hb hby dq0_15) rfl ?_
    exact k)
  obtain ⟨cl15, Ar15, q15, Sz15, Ng15, Hs15, G15⟩ := id VR1
  have hin15 : ¬ ((0 : Int32) < 0 ∨ cl15.slots.size ≤ ((0 : Int32)).toNatClampNeg) := inb_of Sz15 ⟨by decide, by decide⟩
  have hat15 : cl15.slots[((0 : Int32)).toNatClampNeg]? = some (.ref a_IN_PLACE) := Hs15.at hin15 (rfl)
  have p16 : ∀ t, Steps p.tables e below (T1.setTop (mkF m 21 #[.val (.ref x0), .val (.ref r1), .val (.int (4 : Int32)), .val (.int (0 : Int32)), .val (.ref a_IN_PLACE)] [(.ref a_IN_PLACE)])) t → Steps p.tables e below (s₁.setTop (entryFrame m #[(.ref x0)] 5)) t := fun t k => p14 t (by
    show Steps p.tables e below (T1.setTop (mkF m 16 #[.val (.ref x0), .val (.ref r1), .val (.int (4 : Int32)), .val (.int (0 : Int32)), .unset] [(.int (0 : Int32)), (.ref r1)])) _
    refine X1.aaload hx (j := (0 : Int32)) (v := (.ref a_IN_PLACE)) Ar15.1 (State.isArrayOf_alike hZ.alike Ar15.2.1) rfl Ar15.2.2 hin15 hat15 (g := (mkF m 16 #[.val (.ref x0), .val (.ref r1), .val (.int (4 : Int32)), .val (.int (0 : Int32)), .unset] [(.int (0 : Int32)), (.ref r1)])) rfl rfl (hb hby dq0_16) _ ?_
    show Steps p.tables e below (T1.setTop (mkF m 17 #[.val (.ref x0), .val (.ref r1), .val (.int (4 : Int32)), .val (.int (0 : Int32)), .unset] [(.ref a_IN_PLACE)])) _
    refine XS.astore X1.here hx rfl (hb hby dq0_17) rfl rfl (l' := #[.val (.ref x0), .val (.ref r1), .val (.int (4 : Int32)), .val (.int (0 : Int32)), .val (.ref a_IN_PLACE)]) rfl ?_
    show Steps p.tables e below (T1.setTop (mkF m 19 #[.val (.ref x0), .val (.ref r1), .val (.int (4 : Int32)), .val (.int (0 : Int32)), .val (.ref a_IN_PLACE)] [])) _
    refine XS.aload X1.here hx rfl (hb hby dq0_19) rfl rfl ?_
    exact k)
  obtain ⟨cq17, kq17, qa17, qb17, qc17⟩ := isOf hZ rfl f2
  obtain ⟨_, _, ⟨T17, L17, k17, n17⟩, -, X17, ⟨Lc17, hQ17, l17, y17, z17⟩, st17⟩ := X1.virtualBack hx (y := (⟨"com/example/disposition/disposition/store/JobQueue", "kind", "()B"⟩ : MethodName)) (z := (⟨"com/example/disposition/disposition/store/JobQueue", "kind", "()B"⟩ : MethodName)) hown (mvT hZ (hw _ (List.mem_of_getElem? (i := 26) rfl))) (mvT hZ (hw _ (List.mem_of_getElem? (i := 27) rfl))) (notFace_of_selects (args := #[]) (mvT hZ (hw _ (List.mem_of_getElem? (i := 29) rfl)))) (mvT hZ (hw _ (List.mem_of_getElem? (i := 29) rfl))) (mvT hZ (hw _ (List.mem_of_getElem? (i := 28) rfl))) (by decide) (backOf (W := 0) (rmk0 l Z a0 hw [] a_IN_PLACE  T1.heap n0 Z1 f3) hZ (hw _ (List.mem_of_getElem? (i := 30) rfl)) (hw _ (List.mem_of_getElem? (i := 1) rfl)) (by decide) (by decide)) qa17 qc17 (g := (mkF m 21 #[.val (.ref x0), .val (.ref r1), .val (.int (4 : Int32)), .val (.int (0 : Int32)), .val (.ref a_IN_PLACE)] [(.ref a_IN_PLACE)])) rfl (by rw [hml]; rfl) (Steps.refl _) (argsL := []) (rest := []) (lenOf pdq0_1 rfl) rfl (by show 2 * 0 + _ ≤ _; exact Nat.le_of_eq rfl) (hb hby dq0_21) (fun _ _ => ⟨rfl, rfl, (by decide : 1 + 0 ≤ _), (by decide : 4 + 0 ≤ _)⟩)
  dsimp only [Pt.U, Pt.locs, Pt.cells, Pt.slots] at X17 l17 y17 z17 st17 hQ17
  subst l17 y17 z17
  obtain ⟨rfl, Nq17, e17⟩ := hQ17
  have N17 := Fr.app N1 Nq17
  have p18 : ∀ t, Steps p.tables e below (T17.setTop (mkF m 24 #[.val (.ref x0), .val (.ref r1), .val (.int (4 : Int32)), .val (.int (0 : Int32)), .val (.ref a_IN_PLACE)] [(.int (73 : Int32))])) t → Steps p.tables e below (s₁.setTop (entryFrame m #[(.ref x0)] 5)) t := fun t k => p16 t (st17.trans k)
  have p19 : ∀ t, Steps p.tables e below (T17.setTop (mkF m 26 #[.val (.ref x0), .val (.ref r1), .val (.int (4 : Int32)), .val (.int (0 : Int32)), .val (.ref a_IN_PLACE)] [(.int (0 : Int32)), (.ref x0), (.int (73 : Int32))])) t → Steps p.tables e below (s₁.setTop (entryFrame m #[(.ref x0)] 5)) t := fun t k => p18 t (by
    show Steps p.tables e below (T17.setTop (mkF m 24 #[.val (.ref x0), .val (.ref r1), .val (.int (4 : Int32)), .val (.int (0 : Int32)), .val (.ref a_IN_PLACE)] [(.int (73 : Int32))])) _
    refine XS.aloadN X17.here hx rfl (hb hby dq0_24) rfl rfl ?_
    show Steps p.tables e below (T17.setTop (mkF m 25 #[.val (.ref x0), .val (.ref r1), .val (.int (4 : Int32)), .val (.int (0 : Int32)), .val (.ref a_IN_PLACE)] [(.ref x0), (.int (73 : Int32))])) _
    refine XS.iconst X17.here hx rfl (hb hby dq0_25) ?_
    exact k)
  obtain ⟨cb20, Ab20, sb20, hb20⟩ := id f10
  have hib20 : ¬ ((0 : Int32) < 0 ∨ cb20.slots.size ≤ ((0 : Int32)).toNatClampNeg) := fun q => q.elim (by decide) (fun q => Nat.not_lt.mpr q sb20)
  have p21 : ∀ t, Steps p.tables e below (T17.setTop (mkF m 32 #[.val (.ref x0), .val (.ref r1), .val (.int (4 : Int32)), .val (.int (0 : Int32)), .val (.ref a_IN_PLACE)] [(.ref a_IN_PLACE)])) t → Steps p.tables e below (s₁.setTop (entryFrame m #[(.ref x0)] 5)) t := fun t k => p19 t (by
    show Steps p.tables e below (T17.setTop (mkF m 26 #[.val (.ref x0), .val (.ref r1), .val (.int (4 : Int32)), .val (.int (0 : Int32)), .val (.ref a_IN_PLACE)] [(.int (0 : Int32)), (.ref x0), (.int (73 : Int32))])) _
    refine X17.baloadBytes hx (j := (0 : Int32)) (v := (.int y0)) (by rw [e17]; exact Ab20.1) (State.isArrayOf_alike hZ.alike Ab20.2.1) Ab20.2.2 hib20 hb20 (g := (mkF m 26 #[.val (.ref x0), .val (.ref r1), .val (.int (4 : Int32)), .val (.int (0 : Int32)), .val (.ref a_IN_PLACE)] [(.int (0 : Int32)), (.ref x0), (.int (73 : Int32))])) rfl rfl (hb hby dq0_26) _ ?_
    show Steps p.tables e below (T17.setTop (mkF m 27 #[.val (.ref x0), .val (.ref r1), .val (.int (4 : Int32)), .val (.int (0 : Int32)), .val (.ref a_IN_PLACE)] [(.int y0), (.int (73 : Int32))])) _
    refine XS.icmpNo X17.here hx rfl (hb hby dq0_27) rfl ((teq (by rw [hy])).2) ?_
    show Steps p.tables e below (T17.setTop (mkF m 30 #[.val (.ref x0), .val (.ref r1), .val (.int (4 : Int32)), .val (.int (0 : Int32)), .val (.ref a_IN_PLACE)] [])) _
    refine XS.aload X17.here hx rfl (hb hby dq0_30) rfl rfl ?_
    exact k)
  obtain ⟨fs, hr, hrun, hended, hW, hsame⟩ := X17.leave (v := some (.ref a_IN_PLACE)) (fun h => by rw [Bd.returns] at h; cases h)
  refine ⟨_, _, p21 _ ?_, hrun, hended, _, _, rfl, ?_, ⟨_, rfl⟩, hW, hsame.mono (by decide) (by decide)⟩
  · show Steps p.tables e below (T17.setTop (mkF m 32 #[.val (.ref x0), .val (.ref r1), .val (.int (4 : Int32)), .val (.int (0 : Int32)), .val (.ref a_IN_PLACE)] [(.ref a_IN_PLACE)])) _
    exact retOut X17 hx Bd.returns rfl (Or.inr (Or.inr (Or.inr (Or.inr ⟨rfl, rfl, rfl⟩)))) (hb hby dq0_32) hr
  · show Qq0 Z x0 a_V kk a_IN_PLACE a_STAYING a_RETAINED a_HELD y0 h0 n0 _ T17.heap _
    rw [e17]
    exact ⟨rfl, N17, KK1⟩
theorem dq1_0 : decode prog_24_method_30_code 0 = .ok (.invokestatic 156, 3) := by decide +kernel
theorem dq1_3 : decode prog_24_method_30_code 3 = .ok (.astore_n 1, 1) := by decide +kernel
theorem dq1_4 : decode prog_24_method_30_code 4 = .ok (.aload_n 1, 1) := by decide +kernel
theorem dq1_5 : decode prog_24_method_30_code 5 = .ok (.arraylength, 1) := by decide +kernel
theorem dq1_6 : decode prog_24_method_30_code 6 = .ok (.istore_n 2, 1) := by decide +kernel
theorem dq1_7 : decode prog_24_method_30_code 7 = .ok (.iconst 0, 1) := by decide +kernel
theorem dq1_8 : decode prog_24_method_30_code 8 = .ok (.istore_n 3, 1) := by decide +kernel
theorem dq1_9 : decode prog_24_method_30_code 9 = .ok (.iload_n 3, 1) := by decide +kernel
theorem dq1_10 : decode prog_24_method_30_code 10 = .ok (.iload_n 2, 1) := by decide +kernel
theorem dq1_11 : decode prog_24_method_30_code 11 = .ok (.if_icmp .ge 28, 3) := by decide +kernel
theorem dq1_14 : decode prog_24_method_30_code 14 = .ok (.aload_n 1, 1) := by decide +kernel
theorem dq1_15 : decode prog_24_method_30_code 15 = .ok (.iload_n 3, 1) := by decide +kernel
theorem dq1_16 : decode prog_24_method_30_code 16 = .ok (.aaload, 1) := by decide +kernel
theorem dq1_17 : decode prog_24_method_30_code 17 = .ok (.astore 4, 2) := by decide +kernel
theorem dq1_19 : decode prog_24_method_30_code 19 = .ok (.aload 4, 2) := by decide +kernel
theorem dq1_21 : decode prog_24_method_30_code 21 = .ok (.invokevirtual 144, 3) := by decide +kernel
theorem dq1_24 : decode prog_24_method_30_code 24 = .ok (.aload_n 0, 1) := by decide +kernel
theorem dq1_25 : decode prog_24_method_30_code 25 = .ok (.iconst 0, 1) := by decide +kernel
theorem dq1_26 : decode prog_24_method_30_code 26 = .ok (.baload, 1) := by decide +kernel
theorem dq1_27 : decode prog_24_method_30_code 27 = .ok (.if_icmp .ne 6, 3) := by decide +kernel
theorem dq1_30 : decode prog_24_method_30_code 30 = .ok (.aload 4, 2) := by decide +kernel
theorem dq1_32 : decode prog_24_method_30_code 32 = .ok (.areturn, 1) := by decide +kernel
theorem dq1_33 : decode prog_24_method_30_code 33 = .ok (.iinc 3 1, 3) := by decide +kernel
theorem dq1_36 : decode prog_24_method_30_code 36 = .ok (.goto (-27), 3) := by decide +kernel
theorem pnq1 : plainName "com/example/disposition/disposition/store/Keys" = true := by first | (simp [plainName, overriddenIn]; done) | decide +kernel
theorem pdq1_0 : parseMethodDescriptor "()[Lcom/example/disposition/disposition/store/JobQueue;" = some ⟨[], some (.array (.object "com/example/disposition/disposition/store/JobQueue"))⟩ := by decide +kernel
theorem pdq1_1 : parseMethodDescriptor "()B" = some ⟨[], some .byte⟩ := by decide +kernel
theorem efq1 (m : MethodId) (x0 : Addr) : entryFrame m #[(.ref x0)] 5 = mkF m 0 #[.val (.ref x0), .unset, .unset, .unset, .unset] [] := by first | (simp [entryFrame, mkF, argsToLocals, Value.category]; done) | rfl
def Qq1 (Z : State) (x0 : Addr) (a_V : Addr) (kk : ClassId) (a_IN_PLACE : Addr) (a_STAYING : Addr) (a_RETAINED : Addr) (a_HELD : Addr) (y0 : Int32) (h0 : Heap) (n0 : Nat) (v : Option Value) (h : Heap) (L : List Loc) : Prop := v = some (.ref a_STAYING) ∧ Fr n0 L ∧ Keep h0 h []
set_option maxRecDepth 65536 in
set_option maxHeartbeats 40000000 in
theorem rmq1 (l : Launch) (Z : State) (a0 : Array Value) (hw : ∀ d ∈ tables_1, d.before a0 Z = true) (ws : List Jvm.Cond) (x0 : Addr) (a_V : Addr) (kk : ClassId) (a_IN_PLACE : Addr) (a_STAYING : Addr) (a_RETAINED : Addr) (a_HELD : Addr) (y0 : Int32) (h0 : Heap) (n0 : Nat) (Z0 : n0 ≤ h0.size) (O0 : Old Z n0 h0) (S_V : Sta Z Z.heap "com/example/disposition/disposition/store/JobQueue" "$VALUES" "[Lcom/example/disposition/disposition/store/JobQueue;" (.ref a_V)) (V_V : Arv Z Z.heap a_V kk (.object "com/example/disposition/disposition/store/JobQueue") (4 : Int32) [(.ref a_IN_PLACE), (.ref a_STAYING), (.ref a_RETAINED), (.ref a_HELD)] .null) (E_V : Exa Z Z.heap a_V "[Lcom/example/disposition/disposition/store/JobQueue;") (E_IN_PLACE : Exa Z Z.heap a_IN_PLACE "com/example/disposition/disposition/store/JobQueue") (E_STAYING : Exa Z Z.heap a_STAYING "com/example/disposition/disposition/store/JobQueue") (E_RETAINED : Exa Z Z.heap a_RETAINED "com/example/disposition/disposition/store/JobQueue") (E_HELD : Exa Z Z.heap a_HELD "com/example/disposition/disposition/store/JobQueue") (F_IN_PLACE : Fld Z Z.heap a_IN_PLACE "com/example/disposition/disposition/store/JobQueue" "kind" "B" (.int (73 : Int32))) (F_STAYING : Fld Z Z.heap a_STAYING "com/example/disposition/disposition/store/JobQueue" "kind" "B" (.int (89 : Int32))) (F_RETAINED : Fld Z Z.heap a_RETAINED "com/example/disposition/disposition/store/JobQueue" "kind" "B" (.int (82 : Int32))) (F_HELD : Fld Z Z.heap a_HELD "com/example/disposition/disposition/store/JobQueue" "kind" "B" (.int (87 : Int32))) (B0 : own_B0 Z h0 x0 y0) (hy : y0 = (89 : Int32)) :
    MetFree l (⟨"com/example/disposition/disposition/store/Keys", "parseQueue", "([B)Lcom/example/disposition/disposition/store/JobQueue;"⟩ : MethodName) (head1 (Jvm.Cond.code (⟨"com/example/disposition/disposition/store/Keys", "parseQueue", "([B)Lcom/example/disposition/disposition/store/JobQueue;"⟩ : MethodName) prog_24_method_30_code 5 (some (.object "com/example/disposition/disposition/store/JobQueue")) :: ws) ({ frames := 2, cells := 1, slots := 4, locals := 25 } : Room)) (fun a U => a = #[(.ref x0)] ∧ Z.Warmed39 U.vm ∧ U.heap = h0) (fun _ _ _ _ _ => True) (fun _ U o U' => ∃ v L, o = .returned v ∧ Qq1 Z x0 a_V kk a_IN_PLACE a_STAYING a_RETAINED a_HELD y0 h0 n0 v U'.heap L ∧ FrameEnd U o U' L ({ frames := 2, cells := 1, slots := 4, locals := 25 } : Room).cells ({ frames := 2, cells := 1, slots := 4, locals := 25 } : Room).slots) := by
  refine MetFree.of_bodySF (plainFor_of_name pnq1) hisR ?_
  intro p e s m args below meth c s₁ Bd hml0 hP hK
  obtain ⟨rfl, hZ, hh⟩ := hP
  have hx := Bd.exec
  have hby := Bd.bytes
  have hml : c.maxLocals = 5 := hml0
  have hown : s.vm.findClass "com/example/disposition/disposition/store/Keys" = some m.cls := findClass_of_methodNamed Bd.named
  have hnm := (name_of_methodNamed Bd.named Bd.method).1
  have X0 : Stand p l e ({ frames := 2, cells := 1, slots := 4, locals := 25 } : Room) s m #[(.ref x0)] below meth c s₁ [] 0 0 := Stand.of_body Bd
  have e0 : s₁.heap = h0 := by rw [← hh, Bd.state]; rfl
  have N0 := Fr.nil n0
  have pre0 : ∀ t, Steps p.tables e below (s₁.setTop (mkF m 0 #[.val (.ref x0), .unset, .unset, .unset, .unset] [])) t → Steps p.tables e below (s₁.setTop (entryFrame m #[(.ref x0)] 5)) t := fun t k => castTop (efq1 m x0) k
  have K0 := Keep.refl h0 []
  have S_Vh := S_V.ext O0.2
  have V_Vh := V_V.ext O0.2
  have E_Vh := E_V.ext O0.2
  have E_IN_PLACEh := E_IN_PLACE.ext O0.2
  have F_IN_PLACEh := F_IN_PLACE.ext O0.2
  have E_STAYINGh := E_STAYING.ext O0.2
  have F_STAYINGh := F_STAYING.ext O0.2
  have E_RETAINEDh := E_RETAINED.ext O0.2
  have F_RETAINEDh := F_RETAINED.ext O0.2
  have E_HELDh := E_HELD.ext O0.2
  have F_HELDh := F_HELD.ext O0.2
  obtain ⟨_, _, ⟨T1, L1, k1, n1⟩, -, X1, ⟨Lc1, hQ1, l1, y1, z1⟩, st1⟩ := Jvm.LawKit.callS X0 hx (y := (⟨"com/example/disposition/disposition/store/JobQueue", "values", "()[Lcom/example/disposition/disposition/store/JobQueue;"⟩ : MethodName)) hown (mvT hZ (hw _ (List.mem_of_getElem? (i := 8) rfl))) (mvT hZ (hw _ (List.mem_of_getElem? (i := 9) rfl))) (mvT hZ (hw _ (List.mem_of_getElem? (i := 1) rfl))) (mvT hZ (hw _ (List.mem_of_getElem? (i := 10) rfl))) (by decide) (backOf (W := 0) (rmV l Z a0 hw []  a_V kk a_IN_PLACE a_STAYING a_RETAINED a_HELD h0 n0 Z0 S_Vh V_Vh E_Vh) hZ (hw _ (List.mem_of_getElem? (i := 10) rfl)) (hw _ (List.mem_of_getElem? (i := 1) rfl)) (by decide) (by decide)) (g := (mkF m 0 #[.val (.ref x0), .unset, .unset, .unset, .unset] [])) rfl (by rw [hml]; rfl) (argsL := []) (rest := []) (lenOf pdq1_0 rfl) rfl (by show 2 * 0 + _ ≤ _; exact Nat.le_of_eq rfl) (hb hby dq1_0) (fun _ _ => ⟨rfl, e0, (by decide : 0 + 1 ≤ _), (by decide : 0 + 4 ≤ _)⟩)
  dsimp only [Pt.U, Pt.locs, Pt.cells, Pt.slots] at X1 l1 y1 z1 st1 hQ1
  subst l1 y1 z1
  obtain ⟨r1, rfl, Nq1, K1, gr1, VR1⟩ := hQ1
  have N1 := Fr.app N0 Nq1
  have f2 := E_IN_PLACEh.keep K1
  have f3 := F_IN_PLACEh.keep K1 nin0
  have f4 := E_STAYINGh.keep K1
  have f5 := F_STAYINGh.keep K1 nin0
  have f6 := E_RETAINEDh.keep K1
  have f7 := F_RETAINEDh.keep K1 nin0
  have f8 := E_HELDh.keep K1
  have f9 := F_HELDh.keep K1 nin0
  have f10 := B0.keep K1 nin0
  have Z1 := Nat.le_trans Z0 K1.1
  have KK1 := K0.trans K1 (all0)
  have p11 : ∀ t, Steps p.tables e below (T1.setTop (mkF m 3 #[.val (.ref x0), .unset, .unset, .unset, .unset] [(.ref r1)])) t → Steps p.tables e below (s₁.setTop (entryFrame m #[(.ref x0)] 5)) t := fun t k => pre0 t (st1 _ k)
  have p12 : ∀ t, Steps p.tables e below (T1.setTop (mkF m 5 #[.val (.ref x0), .val (.ref r1), .unset, .unset, .unset] [(.ref r1)])) t → Steps p.tables e below (s₁.setTop (entryFrame m #[(.ref x0)] 5)) t := fun t k => p11 t (by
    show Steps p.tables e below (T1.setTop (mkF m 3 #[.val (.ref x0), .unset, .unset, .unset, .unset] [(.ref r1)])) _
    refine XS.astoreN X1.here hx rfl (hb hby dq1_3) rfl rfl (l' := #[.val (.ref x0), .val (.ref r1), .unset, .unset, .unset]) rfl ?_
    show Steps p.tables e below (T1.setTop (mkF m 4 #[.val (.ref x0), .val (.ref r1), .unset, .unset, .unset] [])) _
    refine XS.aloadN X1.here hx rfl (hb hby dq1_4) rfl rfl ?_
    exact k)
  obtain ⟨cl13, Ar13, -, Sz13, Ng13, -, -⟩ := id VR1
  have p14 : ∀ t, Steps p.tables e below (T1.setTop (mkF m 16 #[.val (.ref x0), .val (.ref r1), .val (.int (4 : Int32)), .val (.int (0 : Int32)), .unset] [(.int (0 : Int32)), (.ref r1)])) t → Steps p.tables e below (s₁.setTop (entryFrame m #[(.ref x0)] 5)) t := fun t k => p12 t (by
    show Steps p.tables e below (T1.setTop (mkF m 5 #[.val (.ref x0), .val (.ref r1), .unset, .unset, .unset] [(.ref r1)])) _
    refine X1.arraylength hx Ar13.1 (State.isArrayOf_alike hZ.alike Ar13.2.1) (g := (mkF m 5 #[.val (.ref x0), .val (.ref r1), .unset, .unset, .unset] [(.ref r1)])) rfl rfl (hb hby dq1_5) _ ?_
    rw [len_of Sz13 Ng13]
    show Steps p.tables e below (T1.setTop (mkF m 6 #[.val (.ref x0), .val (.ref r1), .unset, .unset, .unset] [(.int (4 : Int32))])) _
    refine XS.istoreN X1.here hx rfl (hb hby dq1_6) rfl (l' := #[.val (.ref x0), .val (.ref r1), .val (.int (4 : Int32)), .unset, .unset]) rfl ?_
    show Steps p.tables e below (T1.setTop (mkF m 7 #[.val (.ref x0), .val (.ref r1), .val (.int (4 : Int32)), .unset, .unset] [])) _
    refine XS.iconst X1.here hx rfl (hb hby dq1_7) ?_
    show Steps p.tables e below (T1.setTop (mkF m 8 #[.val (.ref x0), .val (.ref r1), .val (.int (4 : Int32)), .unset, .unset] [(.int (0 : Int32))])) _
    refine XS.istoreN X1.here hx rfl (hb hby dq1_8) rfl (l' := #[.val (.ref x0), .val (.ref r1), .val (.int (4 : Int32)), .val (.int (0 : Int32)), .unset]) rfl ?_
    show Steps p.tables e below (T1.setTop (mkF m 9 #[.val (.ref x0), .val (.ref r1), .val (.int (4 : Int32)), .val (.int (0 : Int32)), .unset] [])) _
    refine XS.iloadN X1.here hx rfl (hb hby dq1_9) rfl ?_
    show Steps p.tables e below (T1.setTop (mkF m 10 #[.val (.ref x0), .val (.ref r1), .val (.int (4 : Int32)), .val (.int (0 : Int32)), .unset] [(.int (0 : Int32))])) _
    refine XS.iloadN X1.here hx rfl (hb hby dq1_10) rfl ?_
    show Steps p.tables e below (T1.setTop (mkF m 11 #[.val (.ref x0), .val (.ref r1), .val (.int (4 : Int32)), .val (.int (0 : Int32)), .unset] [(.int (4 : Int32)), (.int (0 : Int32))])) _
    refine XS.icmpNo X1.here hx rfl (hb hby dq1_11) rfl ((tlt (by decide)).2.1) ?_
    show Steps p.tables e below (T1.setTop (mkF m 14 #[.val (.ref x0), .val (.ref r1), .val (.int (4 : Int32)), .val (.int (0 : Int32)), .unset] [])) _
    refine XS.aloadN X1.here hx rfl (hb hby dq1_14) rfl rfl ?_
    show Steps p.tables e below (T1.setTop (mkF m 15 #[.val (.ref x0), .val (.ref r1), .val (.int (4 : Int32)), .val (.int (0 : Int32)), .unset] [(.ref r1)])) _
    refine XS.iloadN X1.here hx rfl (hb hby dq1_15) rfl ?_
    exact k)
  obtain ⟨cl15, Ar15, q15, Sz15, Ng15, Hs15, G15⟩ := id VR1
  have hin15 : ¬ ((0 : Int32) < 0 ∨ cl15.slots.size ≤ ((0 : Int32)).toNatClampNeg) := inb_of Sz15 ⟨by decide, by decide⟩
  have hat15 : cl15.slots[((0 : Int32)).toNatClampNeg]? = some (.ref a_IN_PLACE) := Hs15.at hin15 (rfl)
  have p16 : ∀ t, Steps p.tables e below (T1.setTop (mkF m 21 #[.val (.ref x0), .val (.ref r1), .val (.int (4 : Int32)), .val (.int (0 : Int32)), .val (.ref a_IN_PLACE)] [(.ref a_IN_PLACE)])) t → Steps p.tables e below (s₁.setTop (entryFrame m #[(.ref x0)] 5)) t := fun t k => p14 t (by
    show Steps p.tables e below (T1.setTop (mkF m 16 #[.val (.ref x0), .val (.ref r1), .val (.int (4 : Int32)), .val (.int (0 : Int32)), .unset] [(.int (0 : Int32)), (.ref r1)])) _
    refine X1.aaload hx (j := (0 : Int32)) (v := (.ref a_IN_PLACE)) Ar15.1 (State.isArrayOf_alike hZ.alike Ar15.2.1) rfl Ar15.2.2 hin15 hat15 (g := (mkF m 16 #[.val (.ref x0), .val (.ref r1), .val (.int (4 : Int32)), .val (.int (0 : Int32)), .unset] [(.int (0 : Int32)), (.ref r1)])) rfl rfl (hb hby dq1_16) _ ?_
    show Steps p.tables e below (T1.setTop (mkF m 17 #[.val (.ref x0), .val (.ref r1), .val (.int (4 : Int32)), .val (.int (0 : Int32)), .unset] [(.ref a_IN_PLACE)])) _
    refine XS.astore X1.here hx rfl (hb hby dq1_17) rfl rfl (l' := #[.val (.ref x0), .val (.ref r1), .val (.int (4 : Int32)), .val (.int (0 : Int32)), .val (.ref a_IN_PLACE)]) rfl ?_
    show Steps p.tables e below (T1.setTop (mkF m 19 #[.val (.ref x0), .val (.ref r1), .val (.int (4 : Int32)), .val (.int (0 : Int32)), .val (.ref a_IN_PLACE)] [])) _
    refine XS.aload X1.here hx rfl (hb hby dq1_19) rfl rfl ?_
    exact k)
  obtain ⟨cq17, kq17, qa17, qb17, qc17⟩ := isOf hZ rfl f2
  obtain ⟨_, _, ⟨T17, L17, k17, n17⟩, -, X17, ⟨Lc17, hQ17, l17, y17, z17⟩, st17⟩ := X1.virtualBack hx (y := (⟨"com/example/disposition/disposition/store/JobQueue", "kind", "()B"⟩ : MethodName)) (z := (⟨"com/example/disposition/disposition/store/JobQueue", "kind", "()B"⟩ : MethodName)) hown (mvT hZ (hw _ (List.mem_of_getElem? (i := 26) rfl))) (mvT hZ (hw _ (List.mem_of_getElem? (i := 27) rfl))) (notFace_of_selects (args := #[]) (mvT hZ (hw _ (List.mem_of_getElem? (i := 29) rfl)))) (mvT hZ (hw _ (List.mem_of_getElem? (i := 29) rfl))) (mvT hZ (hw _ (List.mem_of_getElem? (i := 28) rfl))) (by decide) (backOf (W := 0) (rmk0 l Z a0 hw [] a_IN_PLACE  T1.heap n0 Z1 f3) hZ (hw _ (List.mem_of_getElem? (i := 30) rfl)) (hw _ (List.mem_of_getElem? (i := 1) rfl)) (by decide) (by decide)) qa17 qc17 (g := (mkF m 21 #[.val (.ref x0), .val (.ref r1), .val (.int (4 : Int32)), .val (.int (0 : Int32)), .val (.ref a_IN_PLACE)] [(.ref a_IN_PLACE)])) rfl (by rw [hml]; rfl) (Steps.refl _) (argsL := []) (rest := []) (lenOf pdq1_1 rfl) rfl (by show 2 * 0 + _ ≤ _; exact Nat.le_of_eq rfl) (hb hby dq1_21) (fun _ _ => ⟨rfl, rfl, (by decide : 1 + 0 ≤ _), (by decide : 4 + 0 ≤ _)⟩)
  dsimp only [Pt.U, Pt.locs, Pt.cells, Pt.slots] at X17 l17 y17 z17 st17 hQ17
  subst l17 y17 z17
  obtain ⟨rfl, Nq17, e17⟩ := hQ17
  have N17 := Fr.app N1 Nq17
  have p18 : ∀ t, Steps p.tables e below (T17.setTop (mkF m 24 #[.val (.ref x0), .val (.ref r1), .val (.int (4 : Int32)), .val (.int (0 : Int32)), .val (.ref a_IN_PLACE)] [(.int (73 : Int32))])) t → Steps p.tables e below (s₁.setTop (entryFrame m #[(.ref x0)] 5)) t := fun t k => p16 t (st17.trans k)
  have p19 : ∀ t, Steps p.tables e below (T17.setTop (mkF m 26 #[.val (.ref x0), .val (.ref r1), .val (.int (4 : Int32)), .val (.int (0 : Int32)), .val (.ref a_IN_PLACE)] [(.int (0 : Int32)), (.ref x0), (.int (73 : Int32))])) t → Steps p.tables e below (s₁.setTop (entryFrame m #[(.ref x0)] 5)) t := fun t k => p18 t (by
    show Steps p.tables e below (T17.setTop (mkF m 24 #[.val (.ref x0), .val (.ref r1), .val (.int (4 : Int32)), .val (.int (0 : Int32)), .val (.ref a_IN_PLACE)] [(.int (73 : Int32))])) _
    refine XS.aloadN X17.here hx rfl (hb hby dq1_24) rfl rfl ?_
    show Steps p.tables e below (T17.setTop (mkF m 25 #[.val (.ref x0), .val (.ref r1), .val (.int (4 : Int32)), .val (.int (0 : Int32)), .val (.ref a_IN_PLACE)] [(.ref x0), (.int (73 : Int32))])) _
    refine XS.iconst X17.here hx rfl (hb hby dq1_25) ?_
    exact k)
  obtain ⟨cb20, Ab20, sb20, hb20⟩ := id f10
  have hib20 : ¬ ((0 : Int32) < 0 ∨ cb20.slots.size ≤ ((0 : Int32)).toNatClampNeg) := fun q => q.elim (by decide) (fun q => Nat.not_lt.mpr q sb20)
  have p21 : ∀ t, Steps p.tables e below (T17.setTop (mkF m 16 #[.val (.ref x0), .val (.ref r1), .val (.int (4 : Int32)), .val (.int ((0 : Int32) + (1 : Int32))), .val (.ref a_IN_PLACE)] [(.int ((0 : Int32) + (1 : Int32))), (.ref r1)])) t → Steps p.tables e below (s₁.setTop (entryFrame m #[(.ref x0)] 5)) t := fun t k => p19 t (by
    show Steps p.tables e below (T17.setTop (mkF m 26 #[.val (.ref x0), .val (.ref r1), .val (.int (4 : Int32)), .val (.int (0 : Int32)), .val (.ref a_IN_PLACE)] [(.int (0 : Int32)), (.ref x0), (.int (73 : Int32))])) _
    refine X17.baloadBytes hx (j := (0 : Int32)) (v := (.int y0)) (by rw [e17]; exact Ab20.1) (State.isArrayOf_alike hZ.alike Ab20.2.1) Ab20.2.2 hib20 hb20 (g := (mkF m 26 #[.val (.ref x0), .val (.ref r1), .val (.int (4 : Int32)), .val (.int (0 : Int32)), .val (.ref a_IN_PLACE)] [(.int (0 : Int32)), (.ref x0), (.int (73 : Int32))])) rfl rfl (hb hby dq1_26) _ ?_
    show Steps p.tables e below (T17.setTop (mkF m 27 #[.val (.ref x0), .val (.ref r1), .val (.int (4 : Int32)), .val (.int (0 : Int32)), .val (.ref a_IN_PLACE)] [(.int y0), (.int (73 : Int32))])) _
    refine XS.icmpYes X17.here hx rfl (pc0 := 27) (pc' := 33) rfl (hb hby dq1_27) rfl ((feq (by rw [hy]; decide)).2) (by decide) (by decide) ?_
    show Steps p.tables e below (T17.setTop (mkF m 33 #[.val (.ref x0), .val (.ref r1), .val (.int (4 : Int32)), .val (.int (0 : Int32)), .val (.ref a_IN_PLACE)] [])) _
    refine XS.iinc X17.here hx rfl (hb hby dq1_33) rfl (l' := #[.val (.ref x0), .val (.ref r1), .val (.int (4 : Int32)), .val (.int ((0 : Int32) + (1 : Int32))), .val (.ref a_IN_PLACE)]) rfl ?_
    show Steps p.tables e below (T17.setTop (mkF m 36 #[.val (.ref x0), .val (.ref r1), .val (.int (4 : Int32)), .val (.int ((0 : Int32) + (1 : Int32))), .val (.ref a_IN_PLACE)] [])) _
    refine XS.goto X17.here hx rfl (pc0 := 36) (pc' := 9) rfl (hb hby dq1_36) (by decide) (by decide) ?_
    show Steps p.tables e below (T17.setTop (mkF m 9 #[.val (.ref x0), .val (.ref r1), .val (.int (4 : Int32)), .val (.int ((0 : Int32) + (1 : Int32))), .val (.ref a_IN_PLACE)] [])) _
    refine XS.iloadN X17.here hx rfl (hb hby dq1_9) rfl ?_
    show Steps p.tables e below (T17.setTop (mkF m 10 #[.val (.ref x0), .val (.ref r1), .val (.int (4 : Int32)), .val (.int ((0 : Int32) + (1 : Int32))), .val (.ref a_IN_PLACE)] [(.int ((0 : Int32) + (1 : Int32)))])) _
    refine XS.iloadN X17.here hx rfl (hb hby dq1_10) rfl ?_
    show Steps p.tables e below (T17.setTop (mkF m 11 #[.val (.ref x0), .val (.ref r1), .val (.int (4 : Int32)), .val (.int ((0 : Int32) + (1 : Int32))), .val (.ref a_IN_PLACE)] [(.int (4 : Int32)), (.int ((0 : Int32) + (1 : Int32)))])) _
    refine XS.icmpNo X17.here hx rfl (hb hby dq1_11) rfl ((tlt (by decide)).2.1) ?_
    show Steps p.tables e below (T17.setTop (mkF m 14 #[.val (.ref x0), .val (.ref r1), .val (.int (4 : Int32)), .val (.int ((0 : Int32) + (1 : Int32))), .val (.ref a_IN_PLACE)] [])) _
    refine XS.aloadN X17.here hx rfl (hb hby dq1_14) rfl rfl ?_
    show Steps p.tables e below (T17.setTop (mkF m 15 #[.val (.ref x0), .val (.ref r1), .val (.int (4 : Int32)), .val (.int ((0 : Int32) + (1 : Int32))), .val (.ref a_IN_PLACE)] [(.ref r1)])) _
    refine XS.iloadN X17.here hx rfl (hb hby dq1_15) rfl ?_
    exact k)
  obtain ⟨cl22, Ar22, q22, Sz22, Ng22, Hs22, G22⟩ := id VR1
  have hin22 : ¬ (((0 : Int32) + (1 : Int32)) < 0 ∨ cl22.slots.size ≤ (((0 : Int32) + (1 : Int32))).toNatClampNeg) := inb_of Sz22 ⟨by decide, by decide⟩
  have hat22 : cl22.slots[(((0 : Int32) + (1 : Int32))).toNatClampNeg]? = some (.ref a_STAYING) := Hs22.at hin22 (rfl)
  have p23 : ∀ t, Steps p.tables e below (T17.setTop (mkF m 21 #[.val (.ref x0), .val (.ref r1), .val (.int (4 : Int32)), .val (.int ((0 : Int32) + (1 : Int32))), .val (.ref a_STAYING)] [(.ref a_STAYING)])) t → Steps p.tables e below (s₁.setTop (entryFrame m #[(.ref x0)] 5)) t := fun t k => p21 t (by
    show Steps p.tables e below (T17.setTop (mkF m 16 #[.val (.ref x0), .val (.ref r1), .val (.int (4 : Int32)), .val (.int ((0 : Int32) + (1 : Int32))), .val (.ref a_IN_PLACE)] [(.int ((0 : Int32) + (1 : Int32))), (.ref r1)])) _
    refine X17.aaload hx (j := ((0 : Int32) + (1 : Int32))) (v := (.ref a_STAYING)) (by rw [e17]; exact Ar22.1) (State.isArrayOf_alike hZ.alike Ar22.2.1) rfl Ar22.2.2 hin22 hat22 (g := (mkF m 16 #[.val (.ref x0), .val (.ref r1), .val (.int (4 : Int32)), .val (.int ((0 : Int32) + (1 : Int32))), .val (.ref a_IN_PLACE)] [(.int ((0 : Int32) + (1 : Int32))), (.ref r1)])) rfl rfl (hb hby dq1_16) _ ?_
    show Steps p.tables e below (T17.setTop (mkF m 17 #[.val (.ref x0), .val (.ref r1), .val (.int (4 : Int32)), .val (.int ((0 : Int32) + (1 : Int32))), .val (.ref a_IN_PLACE)] [(.ref a_STAYING)])) _
    refine XS.astore X17.here hx rfl (hb hby dq1_17) rfl rfl (l' := #[.val (.ref x0), .val (.ref r1), .val (.int (4 : Int32)), .val (.int ((0 : Int32) + (1 : Int32))), .val (.ref a_STAYING)]) rfl ?_
    show Steps p.tables e below (T17.setTop (mkF m 19 #[.val (.ref x0), .val (.ref r1), .val (.int (4 : Int32)), .val (.int ((0 : Int32) + (1 : Int32))), .val (.ref a_STAYING)] [])) _
    refine XS.aload X17.here hx rfl (hb hby dq1_19) rfl rfl ?_
    exact k)
  obtain ⟨cq24, kq24, qa24, qb24, qc24⟩ := isOf hZ e17 f4
  obtain ⟨_, _, ⟨T24, L24, k24, n24⟩, -, X24, ⟨Lc24, hQ24, l24, y24, z24⟩, st24⟩ := X17.virtualBack hx (y := (⟨"com/example/disposition/disposition/store/JobQueue", "kind", "()B"⟩ : MethodName)) (z := (⟨"com/example/disposition/disposition/store/JobQueue", "kind", "()B"⟩ : MethodName)) hown (mvT hZ (hw _ (List.mem_of_getElem? (i := 26) rfl))) (mvT hZ (hw _ (List.mem_of_getElem? (i := 27) rfl))) (notFace_of_selects (args := #[]) (mvT hZ (hw _ (List.mem_of_getElem? (i := 29) rfl)))) (mvT hZ (hw _ (List.mem_of_getElem? (i := 29) rfl))) (mvT hZ (hw _ (List.mem_of_getElem? (i := 28) rfl))) (by decide) (backOf (W := 0) (rmk1 l Z a0 hw [] a_STAYING  T1.heap n0 Z1 f5) hZ (hw _ (List.mem_of_getElem? (i := 30) rfl)) (hw _ (List.mem_of_getElem? (i := 1) rfl)) (by decide) (by decide)) qa24 qc24 (g := (mkF m 21 #[.val (.ref x0), .val (.ref r1), .val (.int (4 : Int32)), .val (.int ((0 : Int32) + (1 : Int32))), .val (.ref a_STAYING)] [(.ref a_STAYING)])) rfl (by rw [hml]; rfl) (Steps.refl _) (argsL := []) (rest := []) (lenOf pdq1_1 rfl) rfl (by show 2 * 0 + _ ≤ _; exact Nat.le_of_eq rfl) (hb hby dq1_21) (fun _ _ => ⟨rfl, e17, (by decide : 1 + 0 ≤ _), (by decide : 4 + 0 ≤ _)⟩)
  dsimp only [Pt.U, Pt.locs, Pt.cells, Pt.slots] at X24 l24 y24 z24 st24 hQ24
  subst l24 y24 z24
  obtain ⟨rfl, Nq24, e24⟩ := hQ24
  have N24 := Fr.app N17 Nq24
  have p25 : ∀ t, Steps p.tables e below (T24.setTop (mkF m 24 #[.val (.ref x0), .val (.ref r1), .val (.int (4 : Int32)), .val (.int ((0 : Int32) + (1 : Int32))), .val (.ref a_STAYING)] [(.int (89 : Int32))])) t → Steps p.tables e below (s₁.setTop (entryFrame m #[(.ref x0)] 5)) t := fun t k => p23 t (st24.trans k)
  have p26 : ∀ t, Steps p.tables e below (T24.setTop (mkF m 26 #[.val (.ref x0), .val (.ref r1), .val (.int (4 : Int32)), .val (.int ((0 : Int32) + (1 : Int32))), .val (.ref a_STAYING)] [(.int (0 : Int32)), (.ref x0), (.int (89 : Int32))])) t → Steps p.tables e below (s₁.setTop (entryFrame m #[(.ref x0)] 5)) t := fun t k => p25 t (by
    show Steps p.tables e below (T24.setTop (mkF m 24 #[.val (.ref x0), .val (.ref r1), .val (.int (4 : Int32)), .val (.int ((0 : Int32) + (1 : Int32))), .val (.ref a_STAYING)] [(.int (89 : Int32))])) _
    refine XS.aloadN X24.here hx rfl (hb hby dq1_24) rfl rfl ?_
    show Steps p.tables e below (T24.setTop (mkF m 25 #[.val (.ref x0), .val (.ref r1), .val (.int (4 : Int32)), .val (.int ((0 : Int32) + (1 : Int32))), .val (.ref a_STAYING)] [(.ref x0), (.int (89 : Int32))])) _
    refine XS.iconst X24.here hx rfl (hb hby dq1_25) ?_
    exact k)
  obtain ⟨cb27, Ab27, sb27, hb27⟩ := id f10
  have hib27 : ¬ ((0 : Int32) < 0 ∨ cb27.slots.size ≤ ((0 : Int32)).toNatClampNeg) := fun q => q.elim (by decide) (fun q => Nat.not_lt.mpr q sb27)
  have p28 : ∀ t, Steps p.tables e below (T24.setTop (mkF m 32 #[.val (.ref x0), .val (.ref r1), .val (.int (4 : Int32)), .val (.int ((0 : Int32) + (1 : Int32))), .val (.ref a_STAYING)] [(.ref a_STAYING)])) t → Steps p.tables e below (s₁.setTop (entryFrame m #[(.ref x0)] 5)) t := fun t k => p26 t (by
    show Steps p.tables e below (T24.setTop (mkF m 26 #[.val (.ref x0), .val (.ref r1), .val (.int (4 : Int32)), .val (.int ((0 : Int32) + (1 : Int32))), .val (.ref a_STAYING)] [(.int (0 : Int32)), (.ref x0), (.int (89 : Int32))])) _
    refine X24.baloadBytes hx (j := (0 : Int32)) (v := (.int y0)) (by rw [e24]; exact Ab27.1) (State.isArrayOf_alike hZ.alike Ab27.2.1) Ab27.2.2 hib27 hb27 (g := (mkF m 26 #[.val (.ref x0), .val (.ref r1), .val (.int (4 : Int32)), .val (.int ((0 : Int32) + (1 : Int32))), .val (.ref a_STAYING)] [(.int (0 : Int32)), (.ref x0), (.int (89 : Int32))])) rfl rfl (hb hby dq1_26) _ ?_
    show Steps p.tables e below (T24.setTop (mkF m 27 #[.val (.ref x0), .val (.ref r1), .val (.int (4 : Int32)), .val (.int ((0 : Int32) + (1 : Int32))), .val (.ref a_STAYING)] [(.int y0), (.int (89 : Int32))])) _
    refine XS.icmpNo X24.here hx rfl (hb hby dq1_27) rfl ((teq (by rw [hy])).2) ?_
    show Steps p.tables e below (T24.setTop (mkF m 30 #[.val (.ref x0), .val (.ref r1), .val (.int (4 : Int32)), .val (.int ((0 : Int32) + (1 : Int32))), .val (.ref a_STAYING)] [])) _
    refine XS.aload X24.here hx rfl (hb hby dq1_30) rfl rfl ?_
    exact k)
  obtain ⟨fs, hr, hrun, hended, hW, hsame⟩ := X24.leave (v := some (.ref a_STAYING)) (fun h => by rw [Bd.returns] at h; cases h)
  refine ⟨_, _, p28 _ ?_, hrun, hended, _, _, rfl, ?_, ⟨_, rfl⟩, hW, hsame.mono (by decide) (by decide)⟩
  · show Steps p.tables e below (T24.setTop (mkF m 32 #[.val (.ref x0), .val (.ref r1), .val (.int (4 : Int32)), .val (.int ((0 : Int32) + (1 : Int32))), .val (.ref a_STAYING)] [(.ref a_STAYING)])) _
    exact retOut X24 hx Bd.returns rfl (Or.inr (Or.inr (Or.inr (Or.inr ⟨rfl, rfl, rfl⟩)))) (hb hby dq1_32) hr
  · show Qq1 Z x0 a_V kk a_IN_PLACE a_STAYING a_RETAINED a_HELD y0 h0 n0 _ T24.heap _
    rw [e24]
    exact ⟨rfl, N24, KK1⟩
theorem dq2_0 : decode prog_24_method_30_code 0 = .ok (.invokestatic 156, 3) := by decide +kernel
theorem dq2_3 : decode prog_24_method_30_code 3 = .ok (.astore_n 1, 1) := by decide +kernel
theorem dq2_4 : decode prog_24_method_30_code 4 = .ok (.aload_n 1, 1) := by decide +kernel
theorem dq2_5 : decode prog_24_method_30_code 5 = .ok (.arraylength, 1) := by decide +kernel
theorem dq2_6 : decode prog_24_method_30_code 6 = .ok (.istore_n 2, 1) := by decide +kernel
theorem dq2_7 : decode prog_24_method_30_code 7 = .ok (.iconst 0, 1) := by decide +kernel
theorem dq2_8 : decode prog_24_method_30_code 8 = .ok (.istore_n 3, 1) := by decide +kernel
theorem dq2_9 : decode prog_24_method_30_code 9 = .ok (.iload_n 3, 1) := by decide +kernel
theorem dq2_10 : decode prog_24_method_30_code 10 = .ok (.iload_n 2, 1) := by decide +kernel
theorem dq2_11 : decode prog_24_method_30_code 11 = .ok (.if_icmp .ge 28, 3) := by decide +kernel
theorem dq2_14 : decode prog_24_method_30_code 14 = .ok (.aload_n 1, 1) := by decide +kernel
theorem dq2_15 : decode prog_24_method_30_code 15 = .ok (.iload_n 3, 1) := by decide +kernel
theorem dq2_16 : decode prog_24_method_30_code 16 = .ok (.aaload, 1) := by decide +kernel
theorem dq2_17 : decode prog_24_method_30_code 17 = .ok (.astore 4, 2) := by decide +kernel
theorem dq2_19 : decode prog_24_method_30_code 19 = .ok (.aload 4, 2) := by decide +kernel
theorem dq2_21 : decode prog_24_method_30_code 21 = .ok (.invokevirtual 144, 3) := by decide +kernel
theorem dq2_24 : decode prog_24_method_30_code 24 = .ok (.aload_n 0, 1) := by decide +kernel
theorem dq2_25 : decode prog_24_method_30_code 25 = .ok (.iconst 0, 1) := by decide +kernel
theorem dq2_26 : decode prog_24_method_30_code 26 = .ok (.baload, 1) := by decide +kernel
theorem dq2_27 : decode prog_24_method_30_code 27 = .ok (.if_icmp .ne 6, 3) := by decide +kernel
theorem dq2_30 : decode prog_24_method_30_code 30 = .ok (.aload 4, 2) := by decide +kernel
theorem dq2_32 : decode prog_24_method_30_code 32 = .ok (.areturn, 1) := by decide +kernel
theorem dq2_33 : decode prog_24_method_30_code 33 = .ok (.iinc 3 1, 3) := by decide +kernel
theorem dq2_36 : decode prog_24_method_30_code 36 = .ok (.goto (-27), 3) := by decide +kernel
theorem pnq2 : plainName "com/example/disposition/disposition/store/Keys" = true := by first | (simp [plainName, overriddenIn]; done) | decide +kernel
theorem pdq2_0 : parseMethodDescriptor "()[Lcom/example/disposition/disposition/store/JobQueue;" = some ⟨[], some (.array (.object "com/example/disposition/disposition/store/JobQueue"))⟩ := by decide +kernel
theorem pdq2_1 : parseMethodDescriptor "()B" = some ⟨[], some .byte⟩ := by decide +kernel
theorem efq2 (m : MethodId) (x0 : Addr) : entryFrame m #[(.ref x0)] 5 = mkF m 0 #[.val (.ref x0), .unset, .unset, .unset, .unset] [] := by first | (simp [entryFrame, mkF, argsToLocals, Value.category]; done) | rfl
def Qq2 (Z : State) (x0 : Addr) (a_V : Addr) (kk : ClassId) (a_IN_PLACE : Addr) (a_STAYING : Addr) (a_RETAINED : Addr) (a_HELD : Addr) (y0 : Int32) (h0 : Heap) (n0 : Nat) (v : Option Value) (h : Heap) (L : List Loc) : Prop := v = some (.ref a_RETAINED) ∧ Fr n0 L ∧ Keep h0 h []
set_option maxRecDepth 65536 in
set_option maxHeartbeats 40000000 in
theorem rmq2 (l : Launch) (Z : State) (a0 : Array Value) (hw : ∀ d ∈ tables_1, d.before a0 Z = true) (ws : List Jvm.Cond) (x0 : Addr) (a_V : Addr) (kk : ClassId) (a_IN_PLACE : Addr) (a_STAYING : Addr) (a_RETAINED : Addr) (a_HELD : Addr) (y0 : Int32) (h0 : Heap) (n0 : Nat) (Z0 : n0 ≤ h0.size) (O0 : Old Z n0 h0) (S_V : Sta Z Z.heap "com/example/disposition/disposition/store/JobQueue" "$VALUES" "[Lcom/example/disposition/disposition/store/JobQueue;" (.ref a_V)) (V_V : Arv Z Z.heap a_V kk (.object "com/example/disposition/disposition/store/JobQueue") (4 : Int32) [(.ref a_IN_PLACE), (.ref a_STAYING), (.ref a_RETAINED), (.ref a_HELD)] .null) (E_V : Exa Z Z.heap a_V "[Lcom/example/disposition/disposition/store/JobQueue;") (E_IN_PLACE : Exa Z Z.heap a_IN_PLACE "com/example/disposition/disposition/store/JobQueue") (E_STAYING : Exa Z Z.heap a_STAYING "com/example/disposition/disposition/store/JobQueue") (E_RETAINED : Exa Z Z.heap a_RETAINED "com/example/disposition/disposition/store/JobQueue") (E_HELD : Exa Z Z.heap a_HELD "com/example/disposition/disposition/store/JobQueue") (F_IN_PLACE : Fld Z Z.heap a_IN_PLACE "com/example/disposition/disposition/store/JobQueue" "kind" "B" (.int (73 : Int32))) (F_STAYING : Fld Z Z.heap a_STAYING "com/example/disposition/disposition/store/JobQueue" "kind" "B" (.int (89 : Int32))) (F_RETAINED : Fld Z Z.heap a_RETAINED "com/example/disposition/disposition/store/JobQueue" "kind" "B" (.int (82 : Int32))) (F_HELD : Fld Z Z.heap a_HELD "com/example/disposition/disposition/store/JobQueue" "kind" "B" (.int (87 : Int32))) (B0 : own_B0 Z h0 x0 y0) (hy : y0 = (82 : Int32)) :
    MetFree l (⟨"com/example/disposition/disposition/store/Keys", "parseQueue", "([B)Lcom/example/disposition/disposition/store/JobQueue;"⟩ : MethodName) (head1 (Jvm.Cond.code (⟨"com/example/disposition/disposition/store/Keys", "parseQueue", "([B)Lcom/example/disposition/disposition/store/JobQueue;"⟩ : MethodName) prog_24_method_30_code 5 (some (.object "com/example/disposition/disposition/store/JobQueue")) :: ws) ({ frames := 2, cells := 1, slots := 4, locals := 25 } : Room)) (fun a U => a = #[(.ref x0)] ∧ Z.Warmed39 U.vm ∧ U.heap = h0) (fun _ _ _ _ _ => True) (fun _ U o U' => ∃ v L, o = .returned v ∧ Qq2 Z x0 a_V kk a_IN_PLACE a_STAYING a_RETAINED a_HELD y0 h0 n0 v U'.heap L ∧ FrameEnd U o U' L ({ frames := 2, cells := 1, slots := 4, locals := 25 } : Room).cells ({ frames := 2, cells := 1, slots := 4, locals := 25 } : Room).slots) := by
  refine MetFree.of_bodySF (plainFor_of_name pnq2) hisR ?_
  intro p e s m args below meth c s₁ Bd hml0 hP hK
  obtain ⟨rfl, hZ, hh⟩ := hP
  have hx := Bd.exec
  have hby := Bd.bytes
  have hml : c.maxLocals = 5 := hml0
  have hown : s.vm.findClass "com/example/disposition/disposition/store/Keys" = some m.cls := findClass_of_methodNamed Bd.named
  have hnm := (name_of_methodNamed Bd.named Bd.method).1
  have X0 : Stand p l e ({ frames := 2, cells := 1, slots := 4, locals := 25 } : Room) s m #[(.ref x0)] below meth c s₁ [] 0 0 := Stand.of_body Bd
  have e0 : s₁.heap = h0 := by rw [← hh, Bd.state]; rfl
  have N0 := Fr.nil n0
  have pre0 : ∀ t, Steps p.tables e below (s₁.setTop (mkF m 0 #[.val (.ref x0), .unset, .unset, .unset, .unset] [])) t → Steps p.tables e below (s₁.setTop (entryFrame m #[(.ref x0)] 5)) t := fun t k => castTop (efq2 m x0) k
  have K0 := Keep.refl h0 []
  have S_Vh := S_V.ext O0.2
  have V_Vh := V_V.ext O0.2
  have E_Vh := E_V.ext O0.2
  have E_IN_PLACEh := E_IN_PLACE.ext O0.2
  have F_IN_PLACEh := F_IN_PLACE.ext O0.2
  have E_STAYINGh := E_STAYING.ext O0.2
  have F_STAYINGh := F_STAYING.ext O0.2
  have E_RETAINEDh := E_RETAINED.ext O0.2
  have F_RETAINEDh := F_RETAINED.ext O0.2
  have E_HELDh := E_HELD.ext O0.2
  have F_HELDh := F_HELD.ext O0.2
  obtain ⟨_, _, ⟨T1, L1, k1, n1⟩, -, X1, ⟨Lc1, hQ1, l1, y1, z1⟩, st1⟩ := Jvm.LawKit.callS X0 hx (y := (⟨"com/example/disposition/disposition/store/JobQueue", "values", "()[Lcom/example/disposition/disposition/store/JobQueue;"⟩ : MethodName)) hown (mvT hZ (hw _ (List.mem_of_getElem? (i := 8) rfl))) (mvT hZ (hw _ (List.mem_of_getElem? (i := 9) rfl))) (mvT hZ (hw _ (List.mem_of_getElem? (i := 1) rfl))) (mvT hZ (hw _ (List.mem_of_getElem? (i := 10) rfl))) (by decide) (backOf (W := 0) (rmV l Z a0 hw []  a_V kk a_IN_PLACE a_STAYING a_RETAINED a_HELD h0 n0 Z0 S_Vh V_Vh E_Vh) hZ (hw _ (List.mem_of_getElem? (i := 10) rfl)) (hw _ (List.mem_of_getElem? (i := 1) rfl)) (by decide) (by decide)) (g := (mkF m 0 #[.val (.ref x0), .unset, .unset, .unset, .unset] [])) rfl (by rw [hml]; rfl) (argsL := []) (rest := []) (lenOf pdq2_0 rfl) rfl (by show 2 * 0 + _ ≤ _; exact Nat.le_of_eq rfl) (hb hby dq2_0) (fun _ _ => ⟨rfl, e0, (by decide : 0 + 1 ≤ _), (by decide : 0 + 4 ≤ _)⟩)
  dsimp only [Pt.U, Pt.locs, Pt.cells, Pt.slots] at X1 l1 y1 z1 st1 hQ1
  subst l1 y1 z1
  obtain ⟨r1, rfl, Nq1, K1, gr1, VR1⟩ := hQ1
  have N1 := Fr.app N0 Nq1
  have f2 := E_IN_PLACEh.keep K1
  have f3 := F_IN_PLACEh.keep K1 nin0
  have f4 := E_STAYINGh.keep K1
  have f5 := F_STAYINGh.keep K1 nin0
  have f6 := E_RETAINEDh.keep K1
  have f7 := F_RETAINEDh.keep K1 nin0
  have f8 := E_HELDh.keep K1
  have f9 := F_HELDh.keep K1 nin0
  have f10 := B0.keep K1 nin0
  have Z1 := Nat.le_trans Z0 K1.1
  have KK1 := K0.trans K1 (all0)
  have p11 : ∀ t, Steps p.tables e below (T1.setTop (mkF m 3 #[.val (.ref x0), .unset, .unset, .unset, .unset] [(.ref r1)])) t → Steps p.tables e below (s₁.setTop (entryFrame m #[(.ref x0)] 5)) t := fun t k => pre0 t (st1 _ k)
  have p12 : ∀ t, Steps p.tables e below (T1.setTop (mkF m 5 #[.val (.ref x0), .val (.ref r1), .unset, .unset, .unset] [(.ref r1)])) t → Steps p.tables e below (s₁.setTop (entryFrame m #[(.ref x0)] 5)) t := fun t k => p11 t (by
    show Steps p.tables e below (T1.setTop (mkF m 3 #[.val (.ref x0), .unset, .unset, .unset, .unset] [(.ref r1)])) _
    refine XS.astoreN X1.here hx rfl (hb hby dq2_3) rfl rfl (l' := #[.val (.ref x0), .val (.ref r1), .unset, .unset, .unset]) rfl ?_
    show Steps p.tables e below (T1.setTop (mkF m 4 #[.val (.ref x0), .val (.ref r1), .unset, .unset, .unset] [])) _
    refine XS.aloadN X1.here hx rfl (hb hby dq2_4) rfl rfl ?_
    exact k)
  obtain ⟨cl13, Ar13, -, Sz13, Ng13, -, -⟩ := id VR1
  have p14 : ∀ t, Steps p.tables e below (T1.setTop (mkF m 16 #[.val (.ref x0), .val (.ref r1), .val (.int (4 : Int32)), .val (.int (0 : Int32)), .unset] [(.int (0 : Int32)), (.ref r1)])) t → Steps p.tables e below (s₁.setTop (entryFrame m #[(.ref x0)] 5)) t := fun t k => p12 t (by
    show Steps p.tables e below (T1.setTop (mkF m 5 #[.val (.ref x0), .val (.ref r1), .unset, .unset, .unset] [(.ref r1)])) _
    refine X1.arraylength hx Ar13.1 (State.isArrayOf_alike hZ.alike Ar13.2.1) (g := (mkF m 5 #[.val (.ref x0), .val (.ref r1), .unset, .unset, .unset] [(.ref r1)])) rfl rfl (hb hby dq2_5) _ ?_
    rw [len_of Sz13 Ng13]
    show Steps p.tables e below (T1.setTop (mkF m 6 #[.val (.ref x0), .val (.ref r1), .unset, .unset, .unset] [(.int (4 : Int32))])) _
    refine XS.istoreN X1.here hx rfl (hb hby dq2_6) rfl (l' := #[.val (.ref x0), .val (.ref r1), .val (.int (4 : Int32)), .unset, .unset]) rfl ?_
    show Steps p.tables e below (T1.setTop (mkF m 7 #[.val (.ref x0), .val (.ref r1), .val (.int (4 : Int32)), .unset, .unset] [])) _
    refine XS.iconst X1.here hx rfl (hb hby dq2_7) ?_
    show Steps p.tables e below (T1.setTop (mkF m 8 #[.val (.ref x0), .val (.ref r1), .val (.int (4 : Int32)), .unset, .unset] [(.int (0 : Int32))])) _
    refine XS.istoreN X1.here hx rfl (hb hby dq2_8) rfl (l' := #[.val (.ref x0), .val (.ref r1), .val (.int (4 : Int32)), .val (.int (0 : Int32)), .unset]) rfl ?_
    show Steps p.tables e below (T1.setTop (mkF m 9 #[.val (.ref x0), .val (.ref r1), .val (.int (4 : Int32)), .val (.int (0 : Int32)), .unset] [])) _
    refine XS.iloadN X1.here hx rfl (hb hby dq2_9) rfl ?_
    show Steps p.tables e below (T1.setTop (mkF m 10 #[.val (.ref x0), .val (.ref r1), .val (.int (4 : Int32)), .val (.int (0 : Int32)), .unset] [(.int (0 : Int32))])) _
    refine XS.iloadN X1.here hx rfl (hb hby dq2_10) rfl ?_
    show Steps p.tables e below (T1.setTop (mkF m 11 #[.val (.ref x0), .val (.ref r1), .val (.int (4 : Int32)), .val (.int (0 : Int32)), .unset] [(.int (4 : Int32)), (.int (0 : Int32))])) _
    refine XS.icmpNo X1.here hx rfl (hb hby dq2_11) rfl ((tlt (by decide)).2.1) ?_
    show Steps p.tables e below (T1.setTop (mkF m 14 #[.val (.ref x0), .val (.ref r1), .val (.int (4 : Int32)), .val (.int (0 : Int32)), .unset] [])) _
    refine XS.aloadN X1.here hx rfl (hb hby dq2_14) rfl rfl ?_
    show Steps p.tables e below (T1.setTop (mkF m 15 #[.val (.ref x0), .val (.ref r1), .val (.int (4 : Int32)), .val (.int (0 : Int32)), .unset] [(.ref r1)])) _
    refine XS.iloadN X1.here hx rfl (hb hby dq2_15) rfl ?_
    exact k)
  obtain ⟨cl15, Ar15, q15, Sz15, Ng15, Hs15, G15⟩ := id VR1
  have hin15 : ¬ ((0 : Int32) < 0 ∨ cl15.slots.size ≤ ((0 : Int32)).toNatClampNeg) := inb_of Sz15 ⟨by decide, by decide⟩
  have hat15 : cl15.slots[((0 : Int32)).toNatClampNeg]? = some (.ref a_IN_PLACE) := Hs15.at hin15 (rfl)
  have p16 : ∀ t, Steps p.tables e below (T1.setTop (mkF m 21 #[.val (.ref x0), .val (.ref r1), .val (.int (4 : Int32)), .val (.int (0 : Int32)), .val (.ref a_IN_PLACE)] [(.ref a_IN_PLACE)])) t → Steps p.tables e below (s₁.setTop (entryFrame m #[(.ref x0)] 5)) t := fun t k => p14 t (by
    show Steps p.tables e below (T1.setTop (mkF m 16 #[.val (.ref x0), .val (.ref r1), .val (.int (4 : Int32)), .val (.int (0 : Int32)), .unset] [(.int (0 : Int32)), (.ref r1)])) _
    refine X1.aaload hx (j := (0 : Int32)) (v := (.ref a_IN_PLACE)) Ar15.1 (State.isArrayOf_alike hZ.alike Ar15.2.1) rfl Ar15.2.2 hin15 hat15 (g := (mkF m 16 #[.val (.ref x0), .val (.ref r1), .val (.int (4 : Int32)), .val (.int (0 : Int32)), .unset] [(.int (0 : Int32)), (.ref r1)])) rfl rfl (hb hby dq2_16) _ ?_
    show Steps p.tables e below (T1.setTop (mkF m 17 #[.val (.ref x0), .val (.ref r1), .val (.int (4 : Int32)), .val (.int (0 : Int32)), .unset] [(.ref a_IN_PLACE)])) _
    refine XS.astore X1.here hx rfl (hb hby dq2_17) rfl rfl (l' := #[.val (.ref x0), .val (.ref r1), .val (.int (4 : Int32)), .val (.int (0 : Int32)), .val (.ref a_IN_PLACE)]) rfl ?_
    show Steps p.tables e below (T1.setTop (mkF m 19 #[.val (.ref x0), .val (.ref r1), .val (.int (4 : Int32)), .val (.int (0 : Int32)), .val (.ref a_IN_PLACE)] [])) _
    refine XS.aload X1.here hx rfl (hb hby dq2_19) rfl rfl ?_
    exact k)
  obtain ⟨cq17, kq17, qa17, qb17, qc17⟩ := isOf hZ rfl f2
  obtain ⟨_, _, ⟨T17, L17, k17, n17⟩, -, X17, ⟨Lc17, hQ17, l17, y17, z17⟩, st17⟩ := X1.virtualBack hx (y := (⟨"com/example/disposition/disposition/store/JobQueue", "kind", "()B"⟩ : MethodName)) (z := (⟨"com/example/disposition/disposition/store/JobQueue", "kind", "()B"⟩ : MethodName)) hown (mvT hZ (hw _ (List.mem_of_getElem? (i := 26) rfl))) (mvT hZ (hw _ (List.mem_of_getElem? (i := 27) rfl))) (notFace_of_selects (args := #[]) (mvT hZ (hw _ (List.mem_of_getElem? (i := 29) rfl)))) (mvT hZ (hw _ (List.mem_of_getElem? (i := 29) rfl))) (mvT hZ (hw _ (List.mem_of_getElem? (i := 28) rfl))) (by decide) (backOf (W := 0) (rmk0 l Z a0 hw [] a_IN_PLACE  T1.heap n0 Z1 f3) hZ (hw _ (List.mem_of_getElem? (i := 30) rfl)) (hw _ (List.mem_of_getElem? (i := 1) rfl)) (by decide) (by decide)) qa17 qc17 (g := (mkF m 21 #[.val (.ref x0), .val (.ref r1), .val (.int (4 : Int32)), .val (.int (0 : Int32)), .val (.ref a_IN_PLACE)] [(.ref a_IN_PLACE)])) rfl (by rw [hml]; rfl) (Steps.refl _) (argsL := []) (rest := []) (lenOf pdq2_1 rfl) rfl (by show 2 * 0 + _ ≤ _; exact Nat.le_of_eq rfl) (hb hby dq2_21) (fun _ _ => ⟨rfl, rfl, (by decide : 1 + 0 ≤ _), (by decide : 4 + 0 ≤ _)⟩)
  dsimp only [Pt.U, Pt.locs, Pt.cells, Pt.slots] at X17 l17 y17 z17 st17 hQ17
  subst l17 y17 z17
  obtain ⟨rfl, Nq17, e17⟩ := hQ17
  have N17 := Fr.app N1 Nq17
  have p18 : ∀ t, Steps p.tables e below (T17.setTop (mkF m 24 #[.val (.ref x0), .val (.ref r1), .val (.int (4 : Int32)), .val (.int (0 : Int32)), .val (.ref a_IN_PLACE)] [(.int (73 : Int32))])) t → Steps p.tables e below (s₁.setTop (entryFrame m #[(.ref x0)] 5)) t := fun t k => p16 t (st17.trans k)
  have p19 : ∀ t, Steps p.tables e below (T17.setTop (mkF m 26 #[.val (.ref x0), .val (.ref r1), .val (.int (4 : Int32)), .val (.int (0 : Int32)), .val (.ref a_IN_PLACE)] [(.int (0 : Int32)), (.ref x0), (.int (73 : Int32))])) t → Steps p.tables e below (s₁.setTop (entryFrame m #[(.ref x0)] 5)) t := fun t k => p18 t (by
    show Steps p.tables e below (T17.setTop (mkF m 24 #[.val (.ref x0), .val (.ref r1), .val (.int (4 : Int32)), .val (.int (0 : Int32)), .val (.ref a_IN_PLACE)] [(.int (73 : Int32))])) _
    refine XS.aloadN X17.here hx rfl (hb hby dq2_24) rfl rfl ?_
    show Steps p.tables e below (T17.setTop (mkF m 25 #[.val (.ref x0), .val (.ref r1), .val (.int (4 : Int32)), .val (.int (0 : Int32)), .val (.ref a_IN_PLACE)] [(.ref x0), (.int (73 : Int32))])) _
    refine XS.iconst X17.here hx rfl (hb hby dq2_25) ?_
    exact k)
  obtain ⟨cb20, Ab20, sb20, hb20⟩ := id f10
  have hib20 : ¬ ((0 : Int32) < 0 ∨ cb20.slots.size ≤ ((0 : Int32)).toNatClampNeg) := fun q => q.elim (by decide) (fun q => Nat.not_lt.mpr q sb20)
  have p21 : ∀ t, Steps p.tables e below (T17.setTop (mkF m 16 #[.val (.ref x0), .val (.ref r1), .val (.int (4 : Int32)), .val (.int ((0 : Int32) + (1 : Int32))), .val (.ref a_IN_PLACE)] [(.int ((0 : Int32) + (1 : Int32))), (.ref r1)])) t → Steps p.tables e below (s₁.setTop (entryFrame m #[(.ref x0)] 5)) t := fun t k => p19 t (by
    show Steps p.tables e below (T17.setTop (mkF m 26 #[.val (.ref x0), .val (.ref r1), .val (.int (4 : Int32)), .val (.int (0 : Int32)), .val (.ref a_IN_PLACE)] [(.int (0 : Int32)), (.ref x0), (.int (73 : Int32))])) _
    refine X17.baloadBytes hx (j := (0 : Int32)) (v := (.int y0)) (by rw [e17]; exact Ab20.1) (State.isArrayOf_alike hZ.alike Ab20.2.1) Ab20.2.2 hib20 hb20 (g := (mkF m 26 #[.val (.ref x0), .val (.ref r1), .val (.int (4 : Int32)), .val (.int (0 : Int32)), .val (.ref a_IN_PLACE)] [(.int (0 : Int32)), (.ref x0), (.int (73 : Int32))])) rfl rfl (hb hby dq2_26) _ ?_
    show Steps p.tables e below (T17.setTop (mkF m 27 #[.val (.ref x0), .val (.ref r1), .val (.int (4 : Int32)), .val (.int (0 : Int32)), .val (.ref a_IN_PLACE)] [(.int y0), (.int (73 : Int32))])) _
    refine XS.icmpYes X17.here hx rfl (pc0 := 27) (pc' := 33) rfl (hb hby dq2_27) rfl ((feq (by rw [hy]; decide)).2) (by decide) (by decide) ?_
    show Steps p.tables e below (T17.setTop (mkF m 33 #[.val (.ref x0), .val (.ref r1), .val (.int (4 : Int32)), .val (.int (0 : Int32)), .val (.ref a_IN_PLACE)] [])) _
    refine XS.iinc X17.here hx rfl (hb hby dq2_33) rfl (l' := #[.val (.ref x0), .val (.ref r1), .val (.int (4 : Int32)), .val (.int ((0 : Int32) + (1 : Int32))), .val (.ref a_IN_PLACE)]) rfl ?_
    show Steps p.tables e below (T17.setTop (mkF m 36 #[.val (.ref x0), .val (.ref r1), .val (.int (4 : Int32)), .val (.int ((0 : Int32) + (1 : Int32))), .val (.ref a_IN_PLACE)] [])) _
    refine XS.goto X17.here hx rfl (pc0 := 36) (pc' := 9) rfl (hb hby dq2_36) (by decide) (by decide) ?_
    show Steps p.tables e below (T17.setTop (mkF m 9 #[.val (.ref x0), .val (.ref r1), .val (.int (4 : Int32)), .val (.int ((0 : Int32) + (1 : Int32))), .val (.ref a_IN_PLACE)] [])) _
    refine XS.iloadN X17.here hx rfl (hb hby dq2_9) rfl ?_
    show Steps p.tables e below (T17.setTop (mkF m 10 #[.val (.ref x0), .val (.ref r1), .val (.int (4 : Int32)), .val (.int ((0 : Int32) + (1 : Int32))), .val (.ref a_IN_PLACE)] [(.int ((0 : Int32) + (1 : Int32)))])) _
    refine XS.iloadN X17.here hx rfl (hb hby dq2_10) rfl ?_
    show Steps p.tables e below (T17.setTop (mkF m 11 #[.val (.ref x0), .val (.ref r1), .val (.int (4 : Int32)), .val (.int ((0 : Int32) + (1 : Int32))), .val (.ref a_IN_PLACE)] [(.int (4 : Int32)), (.int ((0 : Int32) + (1 : Int32)))])) _
    refine XS.icmpNo X17.here hx rfl (hb hby dq2_11) rfl ((tlt (by decide)).2.1) ?_
    show Steps p.tables e below (T17.setTop (mkF m 14 #[.val (.ref x0), .val (.ref r1), .val (.int (4 : Int32)), .val (.int ((0 : Int32) + (1 : Int32))), .val (.ref a_IN_PLACE)] [])) _
    refine XS.aloadN X17.here hx rfl (hb hby dq2_14) rfl rfl ?_
    show Steps p.tables e below (T17.setTop (mkF m 15 #[.val (.ref x0), .val (.ref r1), .val (.int (4 : Int32)), .val (.int ((0 : Int32) + (1 : Int32))), .val (.ref a_IN_PLACE)] [(.ref r1)])) _
    refine XS.iloadN X17.here hx rfl (hb hby dq2_15) rfl ?_
    exact k)
  obtain ⟨cl22, Ar22, q22, Sz22, Ng22, Hs22, G22⟩ := id VR1
  have hin22 : ¬ (((0 : Int32) + (1 : Int32)) < 0 ∨ cl22.slots.size ≤ (((0 : Int32) + (1 : Int32))).toNatClampNeg) := inb_of Sz22 ⟨by decide, by decide⟩
  have hat22 : cl22.slots[(((0 : Int32) + (1 : Int32))).toNatClampNeg]? = some (.ref a_STAYING) := Hs22.at hin22 (rfl)
  have p23 : ∀ t, Steps p.tables e below (T17.setTop (mkF m 21 #[.val (.ref x0), .val (.ref r1), .val (.int (4 : Int32)), .val (.int ((0 : Int32) + (1 : Int32))), .val (.ref a_STAYING)] [(.ref a_STAYING)])) t → Steps p.tables e below (s₁.setTop (entryFrame m #[(.ref x0)] 5)) t := fun t k => p21 t (by
    show Steps p.tables e below (T17.setTop (mkF m 16 #[.val (.ref x0), .val (.ref r1), .val (.int (4 : Int32)), .val (.int ((0 : Int32) + (1 : Int32))), .val (.ref a_IN_PLACE)] [(.int ((0 : Int32) + (1 : Int32))), (.ref r1)])) _
    refine X17.aaload hx (j := ((0 : Int32) + (1 : Int32))) (v := (.ref a_STAYING)) (by rw [e17]; exact Ar22.1) (State.isArrayOf_alike hZ.alike Ar22.2.1) rfl Ar22.2.2 hin22 hat22 (g := (mkF m 16 #[.val (.ref x0), .val (.ref r1), .val (.int (4 : Int32)), .val (.int ((0 : Int32) + (1 : Int32))), .val (.ref a_IN_PLACE)] [(.int ((0 : Int32) + (1 : Int32))), (.ref r1)])) rfl rfl (hb hby dq2_16) _ ?_
    show Steps p.tables e below (T17.setTop (mkF m 17 #[.val (.ref x0), .val (.ref r1), .val (.int (4 : Int32)), .val (.int ((0 : Int32) + (1 : Int32))), .val (.ref a_IN_PLACE)] [(.ref a_STAYING)])) _
    refine XS.astore X17.here hx rfl (hb hby dq2_17) rfl rfl (l' := #[.val (.ref x0), .val (.ref r1), .val (.int (4 : Int32)), .val (.int ((0 : Int32) + (1 : Int32))), .val (.ref a_STAYING)]) rfl ?_
    show Steps p.tables e below (T17.setTop (mkF m 19 #[.val (.ref x0), .val (.ref r1), .val (.int (4 : Int32)), .val (.int ((0 : Int32) + (1 : Int32))), .val (.ref a_STAYING)] [])) _
    refine XS.aload X17.here hx rfl (hb hby dq2_19) rfl rfl ?_
    exact k)
  obtain ⟨cq24, kq24, qa24, qb24, qc24⟩ := isOf hZ e17 f4
  obtain ⟨_, _, ⟨T24, L24, k24, n24⟩, -, X24, ⟨Lc24, hQ24, l24, y24, z24⟩, st24⟩ := X17.virtualBack hx (y := (⟨"com/example/disposition/disposition/store/JobQueue", "kind", "()B"⟩ : MethodName)) (z := (⟨"com/example/disposition/disposition/store/JobQueue", "kind", "()B"⟩ : MethodName)) hown (mvT hZ (hw _ (List.mem_of_getElem? (i := 26) rfl))) (mvT hZ (hw _ (List.mem_of_getElem? (i := 27) rfl))) (notFace_of_selects (args := #[]) (mvT hZ (hw _ (List.mem_of_getElem? (i := 29) rfl)))) (mvT hZ (hw _ (List.mem_of_getElem? (i := 29) rfl))) (mvT hZ (hw _ (List.mem_of_getElem? (i := 28) rfl))) (by decide) (backOf (W := 0) (rmk1 l Z a0 hw [] a_STAYING  T1.heap n0 Z1 f5) hZ (hw _ (List.mem_of_getElem? (i := 30) rfl)) (hw _ (List.mem_of_getElem? (i := 1) rfl)) (by decide) (by decide)) qa24 qc24 (g := (mkF m 21 #[.val (.ref x0), .val (.ref r1), .val (.int (4 : Int32)), .val (.int ((0 : Int32) + (1 : Int32))), .val (.ref a_STAYING)] [(.ref a_STAYING)])) rfl (by rw [hml]; rfl) (Steps.refl _) (argsL := []) (rest := []) (lenOf pdq2_1 rfl) rfl (by show 2 * 0 + _ ≤ _; exact Nat.le_of_eq rfl) (hb hby dq2_21) (fun _ _ => ⟨rfl, e17, (by decide : 1 + 0 ≤ _), (by decide : 4 + 0 ≤ _)⟩)
  dsimp only [Pt.U, Pt.locs, Pt.cells, Pt.slots] at X24 l24 y24 z24 st24 hQ24
  subst l24 y24 z24
  obtain ⟨rfl, Nq24, e24⟩ := hQ24
  have N24 := Fr.app N17 Nq24
  have p25 : ∀ t, Steps p.tables e below (T24.setTop (mkF m 24 #[.val (.ref x0), .val (.ref r1), .val (.int (4 : Int32)), .val (.int ((0 : Int32) + (1 : Int32))), .val (.ref a_STAYING)] [(.int (89 : Int32))])) t → Steps p.tables e below (s₁.setTop (entryFrame m #[(.ref x0)] 5)) t := fun t k => p23 t (st24.trans k)
  have p26 : ∀ t, Steps p.tables e below (T24.setTop (mkF m 26 #[.val (.ref x0), .val (.ref r1), .val (.int (4 : Int32)), .val (.int ((0 : Int32) + (1 : Int32))), .val (.ref a_STAYING)] [(.int (0 : Int32)), (.ref x0), (.int (89 : Int32))])) t → Steps p.tables e below (s₁.setTop (entryFrame m #[(.ref x0)] 5)) t := fun t k => p25 t (by
    show Steps p.tables e below (T24.setTop (mkF m 24 #[.val (.ref x0), .val (.ref r1), .val (.int (4 : Int32)), .val (.int ((0 : Int32) + (1 : Int32))), .val (.ref a_STAYING)] [(.int (89 : Int32))])) _
    refine XS.aloadN X24.here hx rfl (hb hby dq2_24) rfl rfl ?_
    show Steps p.tables e below (T24.setTop (mkF m 25 #[.val (.ref x0), .val (.ref r1), .val (.int (4 : Int32)), .val (.int ((0 : Int32) + (1 : Int32))), .val (.ref a_STAYING)] [(.ref x0), (.int (89 : Int32))])) _
    refine XS.iconst X24.here hx rfl (hb hby dq2_25) ?_
    exact k)
  obtain ⟨cb27, Ab27, sb27, hb27⟩ := id f10
  have hib27 : ¬ ((0 : Int32) < 0 ∨ cb27.slots.size ≤ ((0 : Int32)).toNatClampNeg) := fun q => q.elim (by decide) (fun q => Nat.not_lt.mpr q sb27)
  have p28 : ∀ t, Steps p.tables e below (T24.setTop (mkF m 16 #[.val (.ref x0), .val (.ref r1), .val (.int (4 : Int32)), .val (.int (((0 : Int32) + (1 : Int32)) + (1 : Int32))), .val (.ref a_STAYING)] [(.int (((0 : Int32) + (1 : Int32)) + (1 : Int32))), (.ref r1)])) t → Steps p.tables e below (s₁.setTop (entryFrame m #[(.ref x0)] 5)) t := fun t k => p26 t (by
    show Steps p.tables e below (T24.setTop (mkF m 26 #[.val (.ref x0), .val (.ref r1), .val (.int (4 : Int32)), .val (.int ((0 : Int32) + (1 : Int32))), .val (.ref a_STAYING)] [(.int (0 : Int32)), (.ref x0), (.int (89 : Int32))])) _
    refine X24.baloadBytes hx (j := (0 : Int32)) (v := (.int y0)) (by rw [e24]; exact Ab27.1) (State.isArrayOf_alike hZ.alike Ab27.2.1) Ab27.2.2 hib27 hb27 (g := (mkF m 26 #[.val (.ref x0), .val (.ref r1), .val (.int (4 : Int32)), .val (.int ((0 : Int32) + (1 : Int32))), .val (.ref a_STAYING)] [(.int (0 : Int32)), (.ref x0), (.int (89 : Int32))])) rfl rfl (hb hby dq2_26) _ ?_
    show Steps p.tables e below (T24.setTop (mkF m 27 #[.val (.ref x0), .val (.ref r1), .val (.int (4 : Int32)), .val (.int ((0 : Int32) + (1 : Int32))), .val (.ref a_STAYING)] [(.int y0), (.int (89 : Int32))])) _
    refine XS.icmpYes X24.here hx rfl (pc0 := 27) (pc' := 33) rfl (hb hby dq2_27) rfl ((feq (by rw [hy]; decide)).2) (by decide) (by decide) ?_
    show Steps p.tables e below (T24.setTop (mkF m 33 #[.val (.ref x0), .val (.ref r1), .val (.int (4 : Int32)), .val (.int ((0 : Int32) + (1 : Int32))), .val (.ref a_STAYING)] [])) _
    refine XS.iinc X24.here hx rfl (hb hby dq2_33) rfl (l' := #[.val (.ref x0), .val (.ref r1), .val (.int (4 : Int32)), .val (.int (((0 : Int32) + (1 : Int32)) + (1 : Int32))), .val (.ref a_STAYING)]) rfl ?_
    show Steps p.tables e below (T24.setTop (mkF m 36 #[.val (.ref x0), .val (.ref r1), .val (.int (4 : Int32)), .val (.int (((0 : Int32) + (1 : Int32)) + (1 : Int32))), .val (.ref a_STAYING)] [])) _
    refine XS.goto X24.here hx rfl (pc0 := 36) (pc' := 9) rfl (hb hby dq2_36) (by decide) (by decide) ?_
    show Steps p.tables e below (T24.setTop (mkF m 9 #[.val (.ref x0), .val (.ref r1), .val (.int (4 : Int32)), .val (.int (((0 : Int32) + (1 : Int32)) + (1 : Int32))), .val (.ref a_STAYING)] [])) _
    refine XS.iloadN X24.here hx rfl (hb hby dq2_9) rfl ?_
    show Steps p.tables e below (T24.setTop (mkF m 10 #[.val (.ref x0), .val (.ref r1), .val (.int (4 : Int32)), .val (.int (((0 : Int32) + (1 : Int32)) + (1 : Int32))), .val (.ref a_STAYING)] [(.int (((0 : Int32) + (1 : Int32)) + (1 : Int32)))])) _
    refine XS.iloadN X24.here hx rfl (hb hby dq2_10) rfl ?_
    show Steps p.tables e below (T24.setTop (mkF m 11 #[.val (.ref x0), .val (.ref r1), .val (.int (4 : Int32)), .val (.int (((0 : Int32) + (1 : Int32)) + (1 : Int32))), .val (.ref a_STAYING)] [(.int (4 : Int32)), (.int (((0 : Int32) + (1 : Int32)) + (1 : Int32)))])) _
    refine XS.icmpNo X24.here hx rfl (hb hby dq2_11) rfl ((tlt (by decide)).2.1) ?_
    show Steps p.tables e below (T24.setTop (mkF m 14 #[.val (.ref x0), .val (.ref r1), .val (.int (4 : Int32)), .val (.int (((0 : Int32) + (1 : Int32)) + (1 : Int32))), .val (.ref a_STAYING)] [])) _
    refine XS.aloadN X24.here hx rfl (hb hby dq2_14) rfl rfl ?_
    show Steps p.tables e below (T24.setTop (mkF m 15 #[.val (.ref x0), .val (.ref r1), .val (.int (4 : Int32)), .val (.int (((0 : Int32) + (1 : Int32)) + (1 : Int32))), .val (.ref a_STAYING)] [(.ref r1)])) _
    refine XS.iloadN X24.here hx rfl (hb hby dq2_15) rfl ?_
    exact k)
  obtain ⟨cl29, Ar29, q29, Sz29, Ng29, Hs29, G29⟩ := id VR1
  have hin29 : ¬ ((((0 : Int32) + (1 : Int32)) + (1 : Int32)) < 0 ∨ cl29.slots.size ≤ ((((0 : Int32) + (1 : Int32)) + (1 : Int32))).toNatClampNeg) := inb_of Sz29 ⟨by decide, by decide⟩
  have hat29 : cl29.slots[((((0 : Int32) + (1 : Int32)) + (1 : Int32))).toNatClampNeg]? = some (.ref a_RETAINED) := Hs29.at hin29 (rfl)
  have p30 : ∀ t, Steps p.tables e below (T24.setTop (mkF m 21 #[.val (.ref x0), .val (.ref r1), .val (.int (4 : Int32)), .val (.int (((0 : Int32) + (1 : Int32)) + (1 : Int32))), .val (.ref a_RETAINED)] [(.ref a_RETAINED)])) t → Steps p.tables e below (s₁.setTop (entryFrame m #[(.ref x0)] 5)) t := fun t k => p28 t (by
    show Steps p.tables e below (T24.setTop (mkF m 16 #[.val (.ref x0), .val (.ref r1), .val (.int (4 : Int32)), .val (.int (((0 : Int32) + (1 : Int32)) + (1 : Int32))), .val (.ref a_STAYING)] [(.int (((0 : Int32) + (1 : Int32)) + (1 : Int32))), (.ref r1)])) _
    refine X24.aaload hx (j := (((0 : Int32) + (1 : Int32)) + (1 : Int32))) (v := (.ref a_RETAINED)) (by rw [e24]; exact Ar29.1) (State.isArrayOf_alike hZ.alike Ar29.2.1) rfl Ar29.2.2 hin29 hat29 (g := (mkF m 16 #[.val (.ref x0), .val (.ref r1), .val (.int (4 : Int32)), .val (.int (((0 : Int32) + (1 : Int32)) + (1 : Int32))), .val (.ref a_STAYING)] [(.int (((0 : Int32) + (1 : Int32)) + (1 : Int32))), (.ref r1)])) rfl rfl (hb hby dq2_16) _ ?_
    show Steps p.tables e below (T24.setTop (mkF m 17 #[.val (.ref x0), .val (.ref r1), .val (.int (4 : Int32)), .val (.int (((0 : Int32) + (1 : Int32)) + (1 : Int32))), .val (.ref a_STAYING)] [(.ref a_RETAINED)])) _
    refine XS.astore X24.here hx rfl (hb hby dq2_17) rfl rfl (l' := #[.val (.ref x0), .val (.ref r1), .val (.int (4 : Int32)), .val (.int (((0 : Int32) + (1 : Int32)) + (1 : Int32))), .val (.ref a_RETAINED)]) rfl ?_
    show Steps p.tables e below (T24.setTop (mkF m 19 #[.val (.ref x0), .val (.ref r1), .val (.int (4 : Int32)), .val (.int (((0 : Int32) + (1 : Int32)) + (1 : Int32))), .val (.ref a_RETAINED)] [])) _
    refine XS.aload X24.here hx rfl (hb hby dq2_19) rfl rfl ?_
    exact k)
  obtain ⟨cq31, kq31, qa31, qb31, qc31⟩ := isOf hZ e24 f6
  obtain ⟨_, _, ⟨T31, L31, k31, n31⟩, -, X31, ⟨Lc31, hQ31, l31, y31, z31⟩, st31⟩ := X24.virtualBack hx (y := (⟨"com/example/disposition/disposition/store/JobQueue", "kind", "()B"⟩ : MethodName)) (z := (⟨"com/example/disposition/disposition/store/JobQueue", "kind", "()B"⟩ : MethodName)) hown (mvT hZ (hw _ (List.mem_of_getElem? (i := 26) rfl))) (mvT hZ (hw _ (List.mem_of_getElem? (i := 27) rfl))) (notFace_of_selects (args := #[]) (mvT hZ (hw _ (List.mem_of_getElem? (i := 29) rfl)))) (mvT hZ (hw _ (List.mem_of_getElem? (i := 29) rfl))) (mvT hZ (hw _ (List.mem_of_getElem? (i := 28) rfl))) (by decide) (backOf (W := 0) (rmk2 l Z a0 hw [] a_RETAINED  T1.heap n0 Z1 f7) hZ (hw _ (List.mem_of_getElem? (i := 30) rfl)) (hw _ (List.mem_of_getElem? (i := 1) rfl)) (by decide) (by decide)) qa31 qc31 (g := (mkF m 21 #[.val (.ref x0), .val (.ref r1), .val (.int (4 : Int32)), .val (.int (((0 : Int32) + (1 : Int32)) + (1 : Int32))), .val (.ref a_RETAINED)] [(.ref a_RETAINED)])) rfl (by rw [hml]; rfl) (Steps.refl _) (argsL := []) (rest := []) (lenOf pdq2_1 rfl) rfl (by show 2 * 0 + _ ≤ _; exact Nat.le_of_eq rfl) (hb hby dq2_21) (fun _ _ => ⟨rfl, e24, (by decide : 1 + 0 ≤ _), (by decide : 4 + 0 ≤ _)⟩)
  dsimp only [Pt.U, Pt.locs, Pt.cells, Pt.slots] at X31 l31 y31 z31 st31 hQ31
  subst l31 y31 z31
  obtain ⟨rfl, Nq31, e31⟩ := hQ31
  have N31 := Fr.app N24 Nq31
  have p32 : ∀ t, Steps p.tables e below (T31.setTop (mkF m 24 #[.val (.ref x0), .val (.ref r1), .val (.int (4 : Int32)), .val (.int (((0 : Int32) + (1 : Int32)) + (1 : Int32))), .val (.ref a_RETAINED)] [(.int (82 : Int32))])) t → Steps p.tables e below (s₁.setTop (entryFrame m #[(.ref x0)] 5)) t := fun t k => p30 t (st31.trans k)
  have p33 : ∀ t, Steps p.tables e below (T31.setTop (mkF m 26 #[.val (.ref x0), .val (.ref r1), .val (.int (4 : Int32)), .val (.int (((0 : Int32) + (1 : Int32)) + (1 : Int32))), .val (.ref a_RETAINED)] [(.int (0 : Int32)), (.ref x0), (.int (82 : Int32))])) t → Steps p.tables e below (s₁.setTop (entryFrame m #[(.ref x0)] 5)) t := fun t k => p32 t (by
    show Steps p.tables e below (T31.setTop (mkF m 24 #[.val (.ref x0), .val (.ref r1), .val (.int (4 : Int32)), .val (.int (((0 : Int32) + (1 : Int32)) + (1 : Int32))), .val (.ref a_RETAINED)] [(.int (82 : Int32))])) _
    refine XS.aloadN X31.here hx rfl (hb hby dq2_24) rfl rfl ?_
    show Steps p.tables e below (T31.setTop (mkF m 25 #[.val (.ref x0), .val (.ref r1), .val (.int (4 : Int32)), .val (.int (((0 : Int32) + (1 : Int32)) + (1 : Int32))), .val (.ref a_RETAINED)] [(.ref x0), (.int (82 : Int32))])) _
    refine XS.iconst X31.here hx rfl (hb hby dq2_25) ?_
    exact k)
  obtain ⟨cb34, Ab34, sb34, hb34⟩ := id f10
  have hib34 : ¬ ((0 : Int32) < 0 ∨ cb34.slots.size ≤ ((0 : Int32)).toNatClampNeg) := fun q => q.elim (by decide) (fun q => Nat.not_lt.mpr q sb34)
  have p35 : ∀ t, Steps p.tables e below (T31.setTop (mkF m 32 #[.val (.ref x0), .val (.ref r1), .val (.int (4 : Int32)), .val (.int (((0 : Int32) + (1 : Int32)) + (1 : Int32))), .val (.ref a_RETAINED)] [(.ref a_RETAINED)])) t → Steps p.tables e below (s₁.setTop (entryFrame m #[(.ref x0)] 5)) t := fun t k => p33 t (by
    show Steps p.tables e below (T31.setTop (mkF m 26 #[.val (.ref x0), .val (.ref r1), .val (.int (4 : Int32)), .val (.int (((0 : Int32) + (1 : Int32)) + (1 : Int32))), .val (.ref a_RETAINED)] [(.int (0 : Int32)), (.ref x0), (.int (82 : Int32))])) _
    refine X31.baloadBytes hx (j := (0 : Int32)) (v := (.int y0)) (by rw [e31]; exact Ab34.1) (State.isArrayOf_alike hZ.alike Ab34.2.1) Ab34.2.2 hib34 hb34 (g := (mkF m 26 #[.val (.ref x0), .val (.ref r1), .val (.int (4 : Int32)), .val (.int (((0 : Int32) + (1 : Int32)) + (1 : Int32))), .val (.ref a_RETAINED)] [(.int (0 : Int32)), (.ref x0), (.int (82 : Int32))])) rfl rfl (hb hby dq2_26) _ ?_
    show Steps p.tables e below (T31.setTop (mkF m 27 #[.val (.ref x0), .val (.ref r1), .val (.int (4 : Int32)), .val (.int (((0 : Int32) + (1 : Int32)) + (1 : Int32))), .val (.ref a_RETAINED)] [(.int y0), (.int (82 : Int32))])) _
    refine XS.icmpNo X31.here hx rfl (hb hby dq2_27) rfl ((teq (by rw [hy])).2) ?_
    show Steps p.tables e below (T31.setTop (mkF m 30 #[.val (.ref x0), .val (.ref r1), .val (.int (4 : Int32)), .val (.int (((0 : Int32) + (1 : Int32)) + (1 : Int32))), .val (.ref a_RETAINED)] [])) _
    refine XS.aload X31.here hx rfl (hb hby dq2_30) rfl rfl ?_
    exact k)
  obtain ⟨fs, hr, hrun, hended, hW, hsame⟩ := X31.leave (v := some (.ref a_RETAINED)) (fun h => by rw [Bd.returns] at h; cases h)
  refine ⟨_, _, p35 _ ?_, hrun, hended, _, _, rfl, ?_, ⟨_, rfl⟩, hW, hsame.mono (by decide) (by decide)⟩
  · show Steps p.tables e below (T31.setTop (mkF m 32 #[.val (.ref x0), .val (.ref r1), .val (.int (4 : Int32)), .val (.int (((0 : Int32) + (1 : Int32)) + (1 : Int32))), .val (.ref a_RETAINED)] [(.ref a_RETAINED)])) _
    exact retOut X31 hx Bd.returns rfl (Or.inr (Or.inr (Or.inr (Or.inr ⟨rfl, rfl, rfl⟩)))) (hb hby dq2_32) hr
  · show Qq2 Z x0 a_V kk a_IN_PLACE a_STAYING a_RETAINED a_HELD y0 h0 n0 _ T31.heap _
    rw [e31]
    exact ⟨rfl, N31, KK1⟩
theorem dq3_0 : decode prog_24_method_30_code 0 = .ok (.invokestatic 156, 3) := by decide +kernel
theorem dq3_3 : decode prog_24_method_30_code 3 = .ok (.astore_n 1, 1) := by decide +kernel
theorem dq3_4 : decode prog_24_method_30_code 4 = .ok (.aload_n 1, 1) := by decide +kernel
theorem dq3_5 : decode prog_24_method_30_code 5 = .ok (.arraylength, 1) := by decide +kernel
theorem dq3_6 : decode prog_24_method_30_code 6 = .ok (.istore_n 2, 1) := by decide +kernel
theorem dq3_7 : decode prog_24_method_30_code 7 = .ok (.iconst 0, 1) := by decide +kernel
theorem dq3_8 : decode prog_24_method_30_code 8 = .ok (.istore_n 3, 1) := by decide +kernel
theorem dq3_9 : decode prog_24_method_30_code 9 = .ok (.iload_n 3, 1) := by decide +kernel
theorem dq3_10 : decode prog_24_method_30_code 10 = .ok (.iload_n 2, 1) := by decide +kernel
theorem dq3_11 : decode prog_24_method_30_code 11 = .ok (.if_icmp .ge 28, 3) := by decide +kernel
theorem dq3_14 : decode prog_24_method_30_code 14 = .ok (.aload_n 1, 1) := by decide +kernel
theorem dq3_15 : decode prog_24_method_30_code 15 = .ok (.iload_n 3, 1) := by decide +kernel
theorem dq3_16 : decode prog_24_method_30_code 16 = .ok (.aaload, 1) := by decide +kernel
theorem dq3_17 : decode prog_24_method_30_code 17 = .ok (.astore 4, 2) := by decide +kernel
theorem dq3_19 : decode prog_24_method_30_code 19 = .ok (.aload 4, 2) := by decide +kernel
theorem dq3_21 : decode prog_24_method_30_code 21 = .ok (.invokevirtual 144, 3) := by decide +kernel
theorem dq3_24 : decode prog_24_method_30_code 24 = .ok (.aload_n 0, 1) := by decide +kernel
theorem dq3_25 : decode prog_24_method_30_code 25 = .ok (.iconst 0, 1) := by decide +kernel
theorem dq3_26 : decode prog_24_method_30_code 26 = .ok (.baload, 1) := by decide +kernel
theorem dq3_27 : decode prog_24_method_30_code 27 = .ok (.if_icmp .ne 6, 3) := by decide +kernel
theorem dq3_30 : decode prog_24_method_30_code 30 = .ok (.aload 4, 2) := by decide +kernel
theorem dq3_32 : decode prog_24_method_30_code 32 = .ok (.areturn, 1) := by decide +kernel
theorem dq3_33 : decode prog_24_method_30_code 33 = .ok (.iinc 3 1, 3) := by decide +kernel
theorem dq3_36 : decode prog_24_method_30_code 36 = .ok (.goto (-27), 3) := by decide +kernel
theorem pnq3 : plainName "com/example/disposition/disposition/store/Keys" = true := by first | (simp [plainName, overriddenIn]; done) | decide +kernel
theorem pdq3_0 : parseMethodDescriptor "()[Lcom/example/disposition/disposition/store/JobQueue;" = some ⟨[], some (.array (.object "com/example/disposition/disposition/store/JobQueue"))⟩ := by decide +kernel
theorem pdq3_1 : parseMethodDescriptor "()B" = some ⟨[], some .byte⟩ := by decide +kernel
theorem efq3 (m : MethodId) (x0 : Addr) : entryFrame m #[(.ref x0)] 5 = mkF m 0 #[.val (.ref x0), .unset, .unset, .unset, .unset] [] := by first | (simp [entryFrame, mkF, argsToLocals, Value.category]; done) | rfl
def Qq3 (Z : State) (x0 : Addr) (a_V : Addr) (kk : ClassId) (a_IN_PLACE : Addr) (a_STAYING : Addr) (a_RETAINED : Addr) (a_HELD : Addr) (y0 : Int32) (h0 : Heap) (n0 : Nat) (v : Option Value) (h : Heap) (L : List Loc) : Prop := v = some (.ref a_HELD) ∧ Fr n0 L ∧ Keep h0 h []
set_option maxRecDepth 65536 in
set_option maxHeartbeats 40000000 in
theorem rmq3 (l : Launch) (Z : State) (a0 : Array Value) (hw : ∀ d ∈ tables_1, d.before a0 Z = true) (ws : List Jvm.Cond) (x0 : Addr) (a_V : Addr) (kk : ClassId) (a_IN_PLACE : Addr) (a_STAYING : Addr) (a_RETAINED : Addr) (a_HELD : Addr) (y0 : Int32) (h0 : Heap) (n0 : Nat) (Z0 : n0 ≤ h0.size) (O0 : Old Z n0 h0) (S_V : Sta Z Z.heap "com/example/disposition/disposition/store/JobQueue" "$VALUES" "[Lcom/example/disposition/disposition/store/JobQueue;" (.ref a_V)) (V_V : Arv Z Z.heap a_V kk (.object "com/example/disposition/disposition/store/JobQueue") (4 : Int32) [(.ref a_IN_PLACE), (.ref a_STAYING), (.ref a_RETAINED), (.ref a_HELD)] .null) (E_V : Exa Z Z.heap a_V "[Lcom/example/disposition/disposition/store/JobQueue;") (E_IN_PLACE : Exa Z Z.heap a_IN_PLACE "com/example/disposition/disposition/store/JobQueue") (E_STAYING : Exa Z Z.heap a_STAYING "com/example/disposition/disposition/store/JobQueue") (E_RETAINED : Exa Z Z.heap a_RETAINED "com/example/disposition/disposition/store/JobQueue") (E_HELD : Exa Z Z.heap a_HELD "com/example/disposition/disposition/store/JobQueue") (F_IN_PLACE : Fld Z Z.heap a_IN_PLACE "com/example/disposition/disposition/store/JobQueue" "kind" "B" (.int (73 : Int32))) (F_STAYING : Fld Z Z.heap a_STAYING "com/example/disposition/disposition/store/JobQueue" "kind" "B" (.int (89 : Int32))) (F_RETAINED : Fld Z Z.heap a_RETAINED "com/example/disposition/disposition/store/JobQueue" "kind" "B" (.int (82 : Int32))) (F_HELD : Fld Z Z.heap a_HELD "com/example/disposition/disposition/store/JobQueue" "kind" "B" (.int (87 : Int32))) (B0 : own_B0 Z h0 x0 y0) (hy : y0 = (87 : Int32)) :
    MetFree l (⟨"com/example/disposition/disposition/store/Keys", "parseQueue", "([B)Lcom/example/disposition/disposition/store/JobQueue;"⟩ : MethodName) (head1 (Jvm.Cond.code (⟨"com/example/disposition/disposition/store/Keys", "parseQueue", "([B)Lcom/example/disposition/disposition/store/JobQueue;"⟩ : MethodName) prog_24_method_30_code 5 (some (.object "com/example/disposition/disposition/store/JobQueue")) :: ws) ({ frames := 2, cells := 1, slots := 4, locals := 25 } : Room)) (fun a U => a = #[(.ref x0)] ∧ Z.Warmed39 U.vm ∧ U.heap = h0) (fun _ _ _ _ _ => True) (fun _ U o U' => ∃ v L, o = .returned v ∧ Qq3 Z x0 a_V kk a_IN_PLACE a_STAYING a_RETAINED a_HELD y0 h0 n0 v U'.heap L ∧ FrameEnd U o U' L ({ frames := 2, cells := 1, slots := 4, locals := 25 } : Room).cells ({ frames := 2, cells := 1, slots := 4, locals := 25 } : Room).slots) := by
  refine MetFree.of_bodySF (plainFor_of_name pnq3) hisR ?_
  intro p e s m args below meth c s₁ Bd hml0 hP hK
  obtain ⟨rfl, hZ, hh⟩ := hP
  have hx := Bd.exec
  have hby := Bd.bytes
  have hml : c.maxLocals = 5 := hml0
  have hown : s.vm.findClass "com/example/disposition/disposition/store/Keys" = some m.cls := findClass_of_methodNamed Bd.named
  have hnm := (name_of_methodNamed Bd.named Bd.method).1
  have X0 : Stand p l e ({ frames := 2, cells := 1, slots := 4, locals := 25 } : Room) s m #[(.ref x0)] below meth c s₁ [] 0 0 := Stand.of_body Bd
  have e0 : s₁.heap = h0 := by rw [← hh, Bd.state]; rfl
  have N0 := Fr.nil n0
  have pre0 : ∀ t, Steps p.tables e below (s₁.setTop (mkF m 0 #[.val (.ref x0), .unset, .unset, .unset, .unset] [])) t → Steps p.tables e below (s₁.setTop (entryFrame m #[(.ref x0)] 5)) t := fun t k => castTop (efq3 m x0) k
  have K0 := Keep.refl h0 []
  have S_Vh := S_V.ext O0.2
  have V_Vh := V_V.ext O0.2
  have E_Vh := E_V.ext O0.2
  have E_IN_PLACEh := E_IN_PLACE.ext O0.2
  have F_IN_PLACEh := F_IN_PLACE.ext O0.2
  have E_STAYINGh := E_STAYING.ext O0.2
  have F_STAYINGh := F_STAYING.ext O0.2
  have E_RETAINEDh := E_RETAINED.ext O0.2
  have F_RETAINEDh := F_RETAINED.ext O0.2
  have E_HELDh := E_HELD.ext O0.2
  have F_HELDh := F_HELD.ext O0.2
  obtain ⟨_, _, ⟨T1, L1, k1, n1⟩, -, X1, ⟨Lc1, hQ1, l1, y1, z1⟩, st1⟩ := Jvm.LawKit.callS X0 hx (y := (⟨"com/example/disposition/disposition/store/JobQueue", "values", "()[Lcom/example/disposition/disposition/store/JobQueue;"⟩ : MethodName)) hown (mvT hZ (hw _ (List.mem_of_getElem? (i := 8) rfl))) (mvT hZ (hw _ (List.mem_of_getElem? (i := 9) rfl))) (mvT hZ (hw _ (List.mem_of_getElem? (i := 1) rfl))) (mvT hZ (hw _ (List.mem_of_getElem? (i := 10) rfl))) (by decide) (backOf (W := 0) (rmV l Z a0 hw []  a_V kk a_IN_PLACE a_STAYING a_RETAINED a_HELD h0 n0 Z0 S_Vh V_Vh E_Vh) hZ (hw _ (List.mem_of_getElem? (i := 10) rfl)) (hw _ (List.mem_of_getElem? (i := 1) rfl)) (by decide) (by decide)) (g := (mkF m 0 #[.val (.ref x0), .unset, .unset, .unset, .unset] [])) rfl (by rw [hml]; rfl) (argsL := []) (rest := []) (lenOf pdq3_0 rfl) rfl (by show 2 * 0 + _ ≤ _; exact Nat.le_of_eq rfl) (hb hby dq3_0) (fun _ _ => ⟨rfl, e0, (by decide : 0 + 1 ≤ _), (by decide : 0 + 4 ≤ _)⟩)
  dsimp only [Pt.U, Pt.locs, Pt.cells, Pt.slots] at X1 l1 y1 z1 st1 hQ1
  subst l1 y1 z1
  obtain ⟨r1, rfl, Nq1, K1, gr1, VR1⟩ := hQ1
  have N1 := Fr.app N0 Nq1
  have f2 := E_IN_PLACEh.keep K1
  have f3 := F_IN_PLACEh.keep K1 nin0
  have f4 := E_STAYINGh.keep K1
  have f5 := F_STAYINGh.keep K1 nin0
  have f6 := E_RETAINEDh.keep K1
  have f7 := F_RETAINEDh.keep K1 nin0
  have f8 := E_HELDh.keep K1
  have f9 := F_HELDh.keep K1 nin0
  have f10 := B0.keep K1 nin0
  have Z1 := Nat.le_trans Z0 K1.1
  have KK1 := K0.trans K1 (all0)
  have p11 : ∀ t, Steps p.tables e below (T1.setTop (mkF m 3 #[.val (.ref x0), .unset, .unset, .unset, .unset] [(.ref r1)])) t → Steps p.tables e below (s₁.setTop (entryFrame m #[(.ref x0)] 5)) t := fun t k => pre0 t (st1 _ k)
  have p12 : ∀ t, Steps p.tables e below (T1.setTop (mkF m 5 #[.val (.ref x0), .val (.ref r1), .unset, .unset, .unset] [(.ref r1)])) t → Steps p.tables e below (s₁.setTop (entryFrame m #[(.ref x0)] 5)) t := fun t k => p11 t (by
    show Steps p.tables e below (T1.setTop (mkF m 3 #[.val (.ref x0), .unset, .unset, .unset, .unset] [(.ref r1)])) _
    refine XS.astoreN X1.here hx rfl (hb hby dq3_3) rfl rfl (l' := #[.val (.ref x0), .val (.ref r1), .unset, .unset, .unset]) rfl ?_
    show Steps p.tables e below (T1.setTop (mkF m 4 #[.val (.ref x0), .val (.ref r1), .unset, .unset, .unset] [])) _
    refine XS.aloadN X1.here hx rfl (hb hby dq3_4) rfl rfl ?_
    exact k)
  obtain ⟨cl13, Ar13, -, Sz13, Ng13, -, -⟩ := id VR1
  have p14 : ∀ t, Steps p.tables e below (T1.setTop (mkF m 16 #[.val (.ref x0), .val (.ref r1), .val (.int (4 : Int32)), .val (.int (0 : Int32)), .unset] [(.int (0 : Int32)), (.ref r1)])) t → Steps p.tables e below (s₁.setTop (entryFrame m #[(.ref x0)] 5)) t := fun t k => p12 t (by
    show Steps p.tables e below (T1.setTop (mkF m 5 #[.val (.ref x0), .val (.ref r1), .unset, .unset, .unset] [(.ref r1)])) _
    refine X1.arraylength hx Ar13.1 (State.isArrayOf_alike hZ.alike Ar13.2.1) (g := (mkF m 5 #[.val (.ref x0), .val (.ref r1), .unset, .unset, .unset] [(.ref r1)])) rfl rfl (hb hby dq3_5) _ ?_
    rw [len_of Sz13 Ng13]
    show Steps p.tables e below (T1.setTop (mkF m 6 #[.val (.ref x0), .val (.ref r1), .unset, .unset, .unset] [(.int (4 : Int32))])) _
    refine XS.istoreN X1.here hx rfl (hb hby dq3_6) rfl (l' := #[.val (.ref x0), .val (.ref r1), .val (.int (4 : Int32)), .unset, .unset]) rfl ?_
    show Steps p.tables e below (T1.setTop (mkF m 7 #[.val (.ref x0), .val (.ref r1), .val (.int (4 : Int32)), .unset, .unset] [])) _
    refine XS.iconst X1.here hx rfl (hb hby dq3_7) ?_
    show Steps p.tables e below (T1.setTop (mkF m 8 #[.val (.ref x0), .val (.ref r1), .val (.int (4 : Int32)), .unset, .unset] [(.int (0 : Int32))])) _
    refine XS.istoreN X1.here hx rfl (hb hby dq3_8) rfl (l' := #[.val (.ref x0), .val (.ref r1), .val (.int (4 : Int32)), .val (.int (0 : Int32)), .unset]) rfl ?_
    show Steps p.tables e below (T1.setTop (mkF m 9 #[.val (.ref x0), .val (.ref r1), .val (.int (4 : Int32)), .val (.int (0 : Int32)), .unset] [])) _
    refine XS.iloadN X1.here hx rfl (hb hby dq3_9) rfl ?_
    show Steps p.tables e below (T1.setTop (mkF m 10 #[.val (.ref x0), .val (.ref r1), .val (.int (4 : Int32)), .val (.int (0 : Int32)), .unset] [(.int (0 : Int32))])) _
    refine XS.iloadN X1.here hx rfl (hb hby dq3_10) rfl ?_
    show Steps p.tables e below (T1.setTop (mkF m 11 #[.val (.ref x0), .val (.ref r1), .val (.int (4 : Int32)), .val (.int (0 : Int32)), .unset] [(.int (4 : Int32)), (.int (0 : Int32))])) _
    refine XS.icmpNo X1.here hx rfl (hb hby dq3_11) rfl ((tlt (by decide)).2.1) ?_
    show Steps p.tables e below (T1.setTop (mkF m 14 #[.val (.ref x0), .val (.ref r1), .val (.int (4 : Int32)), .val (.int (0 : Int32)), .unset] [])) _
    refine XS.aloadN X1.here hx rfl (hb hby dq3_14) rfl rfl ?_
    show Steps p.tables e below (T1.setTop (mkF m 15 #[.val (.ref x0), .val (.ref r1), .val (.int (4 : Int32)), .val (.int (0 : Int32)), .unset] [(.ref r1)])) _
    refine XS.iloadN X1.here hx rfl (hb hby dq3_15) rfl ?_
    exact k)
  obtain ⟨cl15, Ar15, q15, Sz15, Ng15, Hs15, G15⟩ := id VR1
  have hin15 : ¬ ((0 : Int32) < 0 ∨ cl15.slots.size ≤ ((0 : Int32)).toNatClampNeg) := inb_of Sz15 ⟨by decide, by decide⟩
  have hat15 : cl15.slots[((0 : Int32)).toNatClampNeg]? = some (.ref a_IN_PLACE) := Hs15.at hin15 (rfl)
  have p16 : ∀ t, Steps p.tables e below (T1.setTop (mkF m 21 #[.val (.ref x0), .val (.ref r1), .val (.int (4 : Int32)), .val (.int (0 : Int32)), .val (.ref a_IN_PLACE)] [(.ref a_IN_PLACE)])) t → Steps p.tables e below (s₁.setTop (entryFrame m #[(.ref x0)] 5)) t := fun t k => p14 t (by
    show Steps p.tables e below (T1.setTop (mkF m 16 #[.val (.ref x0), .val (.ref r1), .val (.int (4 : Int32)), .val (.int (0 : Int32)), .unset] [(.int (0 : Int32)), (.ref r1)])) _
    refine X1.aaload hx (j := (0 : Int32)) (v := (.ref a_IN_PLACE)) Ar15.1 (State.isArrayOf_alike hZ.alike Ar15.2.1) rfl Ar15.2.2 hin15 hat15 (g := (mkF m 16 #[.val (.ref x0), .val (.ref r1), .val (.int (4 : Int32)), .val (.int (0 : Int32)), .unset] [(.int (0 : Int32)), (.ref r1)])) rfl rfl (hb hby dq3_16) _ ?_
    show Steps p.tables e below (T1.setTop (mkF m 17 #[.val (.ref x0), .val (.ref r1), .val (.int (4 : Int32)), .val (.int (0 : Int32)), .unset] [(.ref a_IN_PLACE)])) _
    refine XS.astore X1.here hx rfl (hb hby dq3_17) rfl rfl (l' := #[.val (.ref x0), .val (.ref r1), .val (.int (4 : Int32)), .val (.int (0 : Int32)), .val (.ref a_IN_PLACE)]) rfl ?_
    show Steps p.tables e below (T1.setTop (mkF m 19 #[.val (.ref x0), .val (.ref r1), .val (.int (4 : Int32)), .val (.int (0 : Int32)), .val (.ref a_IN_PLACE)] [])) _
    refine XS.aload X1.here hx rfl (hb hby dq3_19) rfl rfl ?_
    exact k)
  obtain ⟨cq17, kq17, qa17, qb17, qc17⟩ := isOf hZ rfl f2
  obtain ⟨_, _, ⟨T17, L17, k17, n17⟩, -, X17, ⟨Lc17, hQ17, l17, y17, z17⟩, st17⟩ := X1.virtualBack hx (y := (⟨"com/example/disposition/disposition/store/JobQueue", "kind", "()B"⟩ : MethodName)) (z := (⟨"com/example/disposition/disposition/store/JobQueue", "kind", "()B"⟩ : MethodName)) hown (mvT hZ (hw _ (List.mem_of_getElem? (i := 26) rfl))) (mvT hZ (hw _ (List.mem_of_getElem? (i := 27) rfl))) (notFace_of_selects (args := #[]) (mvT hZ (hw _ (List.mem_of_getElem? (i := 29) rfl)))) (mvT hZ (hw _ (List.mem_of_getElem? (i := 29) rfl))) (mvT hZ (hw _ (List.mem_of_getElem? (i := 28) rfl))) (by decide) (backOf (W := 0) (rmk0 l Z a0 hw [] a_IN_PLACE  T1.heap n0 Z1 f3) hZ (hw _ (List.mem_of_getElem? (i := 30) rfl)) (hw _ (List.mem_of_getElem? (i := 1) rfl)) (by decide) (by decide)) qa17 qc17 (g := (mkF m 21 #[.val (.ref x0), .val (.ref r1), .val (.int (4 : Int32)), .val (.int (0 : Int32)), .val (.ref a_IN_PLACE)] [(.ref a_IN_PLACE)])) rfl (by rw [hml]; rfl) (Steps.refl _) (argsL := []) (rest := []) (lenOf pdq3_1 rfl) rfl (by show 2 * 0 + _ ≤ _; exact Nat.le_of_eq rfl) (hb hby dq3_21) (fun _ _ => ⟨rfl, rfl, (by decide : 1 + 0 ≤ _), (by decide : 4 + 0 ≤ _)⟩)
  dsimp only [Pt.U, Pt.locs, Pt.cells, Pt.slots] at X17 l17 y17 z17 st17 hQ17
  subst l17 y17 z17
  obtain ⟨rfl, Nq17, e17⟩ := hQ17
  have N17 := Fr.app N1 Nq17
  have p18 : ∀ t, Steps p.tables e below (T17.setTop (mkF m 24 #[.val (.ref x0), .val (.ref r1), .val (.int (4 : Int32)), .val (.int (0 : Int32)), .val (.ref a_IN_PLACE)] [(.int (73 : Int32))])) t → Steps p.tables e below (s₁.setTop (entryFrame m #[(.ref x0)] 5)) t := fun t k => p16 t (st17.trans k)
  have p19 : ∀ t, Steps p.tables e below (T17.setTop (mkF m 26 #[.val (.ref x0), .val (.ref r1), .val (.int (4 : Int32)), .val (.int (0 : Int32)), .val (.ref a_IN_PLACE)] [(.int (0 : Int32)), (.ref x0), (.int (73 : Int32))])) t → Steps p.tables e below (s₁.setTop (entryFrame m #[(.ref x0)] 5)) t := fun t k => p18 t (by
    show Steps p.tables e below (T17.setTop (mkF m 24 #[.val (.ref x0), .val (.ref r1), .val (.int (4 : Int32)), .val (.int (0 : Int32)), .val (.ref a_IN_PLACE)] [(.int (73 : Int32))])) _
    refine XS.aloadN X17.here hx rfl (hb hby dq3_24) rfl rfl ?_
    show Steps p.tables e below (T17.setTop (mkF m 25 #[.val (.ref x0), .val (.ref r1), .val (.int (4 : Int32)), .val (.int (0 : Int32)), .val (.ref a_IN_PLACE)] [(.ref x0), (.int (73 : Int32))])) _
    refine XS.iconst X17.here hx rfl (hb hby dq3_25) ?_
    exact k)
  obtain ⟨cb20, Ab20, sb20, hb20⟩ := id f10
  have hib20 : ¬ ((0 : Int32) < 0 ∨ cb20.slots.size ≤ ((0 : Int32)).toNatClampNeg) := fun q => q.elim (by decide) (fun q => Nat.not_lt.mpr q sb20)
  have p21 : ∀ t, Steps p.tables e below (T17.setTop (mkF m 16 #[.val (.ref x0), .val (.ref r1), .val (.int (4 : Int32)), .val (.int ((0 : Int32) + (1 : Int32))), .val (.ref a_IN_PLACE)] [(.int ((0 : Int32) + (1 : Int32))), (.ref r1)])) t → Steps p.tables e below (s₁.setTop (entryFrame m #[(.ref x0)] 5)) t := fun t k => p19 t (by
    show Steps p.tables e below (T17.setTop (mkF m 26 #[.val (.ref x0), .val (.ref r1), .val (.int (4 : Int32)), .val (.int (0 : Int32)), .val (.ref a_IN_PLACE)] [(.int (0 : Int32)), (.ref x0), (.int (73 : Int32))])) _
    refine X17.baloadBytes hx (j := (0 : Int32)) (v := (.int y0)) (by rw [e17]; exact Ab20.1) (State.isArrayOf_alike hZ.alike Ab20.2.1) Ab20.2.2 hib20 hb20 (g := (mkF m 26 #[.val (.ref x0), .val (.ref r1), .val (.int (4 : Int32)), .val (.int (0 : Int32)), .val (.ref a_IN_PLACE)] [(.int (0 : Int32)), (.ref x0), (.int (73 : Int32))])) rfl rfl (hb hby dq3_26) _ ?_
    show Steps p.tables e below (T17.setTop (mkF m 27 #[.val (.ref x0), .val (.ref r1), .val (.int (4 : Int32)), .val (.int (0 : Int32)), .val (.ref a_IN_PLACE)] [(.int y0), (.int (73 : Int32))])) _
    refine XS.icmpYes X17.here hx rfl (pc0 := 27) (pc' := 33) rfl (hb hby dq3_27) rfl ((feq (by rw [hy]; decide)).2) (by decide) (by decide) ?_
    show Steps p.tables e below (T17.setTop (mkF m 33 #[.val (.ref x0), .val (.ref r1), .val (.int (4 : Int32)), .val (.int (0 : Int32)), .val (.ref a_IN_PLACE)] [])) _
    refine XS.iinc X17.here hx rfl (hb hby dq3_33) rfl (l' := #[.val (.ref x0), .val (.ref r1), .val (.int (4 : Int32)), .val (.int ((0 : Int32) + (1 : Int32))), .val (.ref a_IN_PLACE)]) rfl ?_
    show Steps p.tables e below (T17.setTop (mkF m 36 #[.val (.ref x0), .val (.ref r1), .val (.int (4 : Int32)), .val (.int ((0 : Int32) + (1 : Int32))), .val (.ref a_IN_PLACE)] [])) _
    refine XS.goto X17.here hx rfl (pc0 := 36) (pc' := 9) rfl (hb hby dq3_36) (by decide) (by decide) ?_
    show Steps p.tables e below (T17.setTop (mkF m 9 #[.val (.ref x0), .val (.ref r1), .val (.int (4 : Int32)), .val (.int ((0 : Int32) + (1 : Int32))), .val (.ref a_IN_PLACE)] [])) _
    refine XS.iloadN X17.here hx rfl (hb hby dq3_9) rfl ?_
    show Steps p.tables e below (T17.setTop (mkF m 10 #[.val (.ref x0), .val (.ref r1), .val (.int (4 : Int32)), .val (.int ((0 : Int32) + (1 : Int32))), .val (.ref a_IN_PLACE)] [(.int ((0 : Int32) + (1 : Int32)))])) _
    refine XS.iloadN X17.here hx rfl (hb hby dq3_10) rfl ?_
    show Steps p.tables e below (T17.setTop (mkF m 11 #[.val (.ref x0), .val (.ref r1), .val (.int (4 : Int32)), .val (.int ((0 : Int32) + (1 : Int32))), .val (.ref a_IN_PLACE)] [(.int (4 : Int32)), (.int ((0 : Int32) + (1 : Int32)))])) _
    refine XS.icmpNo X17.here hx rfl (hb hby dq3_11) rfl ((tlt (by decide)).2.1) ?_
    show Steps p.tables e below (T17.setTop (mkF m 14 #[.val (.ref x0), .val (.ref r1), .val (.int (4 : Int32)), .val (.int ((0 : Int32) + (1 : Int32))), .val (.ref a_IN_PLACE)] [])) _
    refine XS.aloadN X17.here hx rfl (hb hby dq3_14) rfl rfl ?_
    show Steps p.tables e below (T17.setTop (mkF m 15 #[.val (.ref x0), .val (.ref r1), .val (.int (4 : Int32)), .val (.int ((0 : Int32) + (1 : Int32))), .val (.ref a_IN_PLACE)] [(.ref r1)])) _
    refine XS.iloadN X17.here hx rfl (hb hby dq3_15) rfl ?_
    exact k)
  obtain ⟨cl22, Ar22, q22, Sz22, Ng22, Hs22, G22⟩ := id VR1
  have hin22 : ¬ (((0 : Int32) + (1 : Int32)) < 0 ∨ cl22.slots.size ≤ (((0 : Int32) + (1 : Int32))).toNatClampNeg) := inb_of Sz22 ⟨by decide, by decide⟩
  have hat22 : cl22.slots[(((0 : Int32) + (1 : Int32))).toNatClampNeg]? = some (.ref a_STAYING) := Hs22.at hin22 (rfl)
  have p23 : ∀ t, Steps p.tables e below (T17.setTop (mkF m 21 #[.val (.ref x0), .val (.ref r1), .val (.int (4 : Int32)), .val (.int ((0 : Int32) + (1 : Int32))), .val (.ref a_STAYING)] [(.ref a_STAYING)])) t → Steps p.tables e below (s₁.setTop (entryFrame m #[(.ref x0)] 5)) t := fun t k => p21 t (by
    show Steps p.tables e below (T17.setTop (mkF m 16 #[.val (.ref x0), .val (.ref r1), .val (.int (4 : Int32)), .val (.int ((0 : Int32) + (1 : Int32))), .val (.ref a_IN_PLACE)] [(.int ((0 : Int32) + (1 : Int32))), (.ref r1)])) _
    refine X17.aaload hx (j := ((0 : Int32) + (1 : Int32))) (v := (.ref a_STAYING)) (by rw [e17]; exact Ar22.1) (State.isArrayOf_alike hZ.alike Ar22.2.1) rfl Ar22.2.2 hin22 hat22 (g := (mkF m 16 #[.val (.ref x0), .val (.ref r1), .val (.int (4 : Int32)), .val (.int ((0 : Int32) + (1 : Int32))), .val (.ref a_IN_PLACE)] [(.int ((0 : Int32) + (1 : Int32))), (.ref r1)])) rfl rfl (hb hby dq3_16) _ ?_
    show Steps p.tables e below (T17.setTop (mkF m 17 #[.val (.ref x0), .val (.ref r1), .val (.int (4 : Int32)), .val (.int ((0 : Int32) + (1 : Int32))), .val (.ref a_IN_PLACE)] [(.ref a_STAYING)])) _
    refine XS.astore X17.here hx rfl (hb hby dq3_17) rfl rfl (l' := #[.val (.ref x0), .val (.ref r1), .val (.int (4 : Int32)), .val (.int ((0 : Int32) + (1 : Int32))), .val (.ref a_STAYING)]) rfl ?_
    show Steps p.tables e below (T17.setTop (mkF m 19 #[.val (.ref x0), .val (.ref r1), .val (.int (4 : Int32)), .val (.int ((0 : Int32) + (1 : Int32))), .val (.ref a_STAYING)] [])) _
    refine XS.aload X17.here hx rfl (hb hby dq3_19) rfl rfl ?_
    exact k)
  obtain ⟨cq24, kq24, qa24, qb24, qc24⟩ := isOf hZ e17 f4
  obtain ⟨_, _, ⟨T24, L24, k24, n24⟩, -, X24, ⟨Lc24, hQ24, l24, y24, z24⟩, st24⟩ := X17.virtualBack hx (y := (⟨"com/example/disposition/disposition/store/JobQueue", "kind", "()B"⟩ : MethodName)) (z := (⟨"com/example/disposition/disposition/store/JobQueue", "kind", "()B"⟩ : MethodName)) hown (mvT hZ (hw _ (List.mem_of_getElem? (i := 26) rfl))) (mvT hZ (hw _ (List.mem_of_getElem? (i := 27) rfl))) (notFace_of_selects (args := #[]) (mvT hZ (hw _ (List.mem_of_getElem? (i := 29) rfl)))) (mvT hZ (hw _ (List.mem_of_getElem? (i := 29) rfl))) (mvT hZ (hw _ (List.mem_of_getElem? (i := 28) rfl))) (by decide) (backOf (W := 0) (rmk1 l Z a0 hw [] a_STAYING  T1.heap n0 Z1 f5) hZ (hw _ (List.mem_of_getElem? (i := 30) rfl)) (hw _ (List.mem_of_getElem? (i := 1) rfl)) (by decide) (by decide)) qa24 qc24 (g := (mkF m 21 #[.val (.ref x0), .val (.ref r1), .val (.int (4 : Int32)), .val (.int ((0 : Int32) + (1 : Int32))), .val (.ref a_STAYING)] [(.ref a_STAYING)])) rfl (by rw [hml]; rfl) (Steps.refl _) (argsL := []) (rest := []) (lenOf pdq3_1 rfl) rfl (by show 2 * 0 + _ ≤ _; exact Nat.le_of_eq rfl) (hb hby dq3_21) (fun _ _ => ⟨rfl, e17, (by decide : 1 + 0 ≤ _), (by decide : 4 + 0 ≤ _)⟩)
  dsimp only [Pt.U, Pt.locs, Pt.cells, Pt.slots] at X24 l24 y24 z24 st24 hQ24
  subst l24 y24 z24
  obtain ⟨rfl, Nq24, e24⟩ := hQ24
  have N24 := Fr.app N17 Nq24
  have p25 : ∀ t, Steps p.tables e below (T24.setTop (mkF m 24 #[.val (.ref x0), .val (.ref r1), .val (.int (4 : Int32)), .val (.int ((0 : Int32) + (1 : Int32))), .val (.ref a_STAYING)] [(.int (89 : Int32))])) t → Steps p.tables e below (s₁.setTop (entryFrame m #[(.ref x0)] 5)) t := fun t k => p23 t (st24.trans k)
  have p26 : ∀ t, Steps p.tables e below (T24.setTop (mkF m 26 #[.val (.ref x0), .val (.ref r1), .val (.int (4 : Int32)), .val (.int ((0 : Int32) + (1 : Int32))), .val (.ref a_STAYING)] [(.int (0 : Int32)), (.ref x0), (.int (89 : Int32))])) t → Steps p.tables e below (s₁.setTop (entryFrame m #[(.ref x0)] 5)) t := fun t k => p25 t (by
    show Steps p.tables e below (T24.setTop (mkF m 24 #[.val (.ref x0), .val (.ref r1), .val (.int (4 : Int32)), .val (.int ((0 : Int32) + (1 : Int32))), .val (.ref a_STAYING)] [(.int (89 : Int32))])) _
    refine XS.aloadN X24.here hx rfl (hb hby dq3_24) rfl rfl ?_
    show Steps p.tables e below (T24.setTop (mkF m 25 #[.val (.ref x0), .val (.ref r1), .val (.int (4 : Int32)), .val (.int ((0 : Int32) + (1 : Int32))), .val (.ref a_STAYING)] [(.ref x0), (.int (89 : Int32))])) _
    refine XS.iconst X24.here hx rfl (hb hby dq3_25) ?_
    exact k)
  obtain ⟨cb27, Ab27, sb27, hb27⟩ := id f10
  have hib27 : ¬ ((0 : Int32) < 0 ∨ cb27.slots.size ≤ ((0 : Int32)).toNatClampNeg) := fun q => q.elim (by decide) (fun q => Nat.not_lt.mpr q sb27)
  have p28 : ∀ t, Steps p.tables e below (T24.setTop (mkF m 16 #[.val (.ref x0), .val (.ref r1), .val (.int (4 : Int32)), .val (.int (((0 : Int32) + (1 : Int32)) + (1 : Int32))), .val (.ref a_STAYING)] [(.int (((0 : Int32) + (1 : Int32)) + (1 : Int32))), (.ref r1)])) t → Steps p.tables e below (s₁.setTop (entryFrame m #[(.ref x0)] 5)) t := fun t k => p26 t (by
    show Steps p.tables e below (T24.setTop (mkF m 26 #[.val (.ref x0), .val (.ref r1), .val (.int (4 : Int32)), .val (.int ((0 : Int32) + (1 : Int32))), .val (.ref a_STAYING)] [(.int (0 : Int32)), (.ref x0), (.int (89 : Int32))])) _
    refine X24.baloadBytes hx (j := (0 : Int32)) (v := (.int y0)) (by rw [e24]; exact Ab27.1) (State.isArrayOf_alike hZ.alike Ab27.2.1) Ab27.2.2 hib27 hb27 (g := (mkF m 26 #[.val (.ref x0), .val (.ref r1), .val (.int (4 : Int32)), .val (.int ((0 : Int32) + (1 : Int32))), .val (.ref a_STAYING)] [(.int (0 : Int32)), (.ref x0), (.int (89 : Int32))])) rfl rfl (hb hby dq3_26) _ ?_
    show Steps p.tables e below (T24.setTop (mkF m 27 #[.val (.ref x0), .val (.ref r1), .val (.int (4 : Int32)), .val (.int ((0 : Int32) + (1 : Int32))), .val (.ref a_STAYING)] [(.int y0), (.int (89 : Int32))])) _
    refine XS.icmpYes X24.here hx rfl (pc0 := 27) (pc' := 33) rfl (hb hby dq3_27) rfl ((feq (by rw [hy]; decide)).2) (by decide) (by decide) ?_
    show Steps p.tables e below (T24.setTop (mkF m 33 #[.val (.ref x0), .val (.ref r1), .val (.int (4 : Int32)), .val (.int ((0 : Int32) + (1 : Int32))), .val (.ref a_STAYING)] [])) _
    refine XS.iinc X24.here hx rfl (hb hby dq3_33) rfl (l' := #[.val (.ref x0), .val (.ref r1), .val (.int (4 : Int32)), .val (.int (((0 : Int32) + (1 : Int32)) + (1 : Int32))), .val (.ref a_STAYING)]) rfl ?_
    show Steps p.tables e below (T24.setTop (mkF m 36 #[.val (.ref x0), .val (.ref r1), .val (.int (4 : Int32)), .val (.int (((0 : Int32) + (1 : Int32)) + (1 : Int32))), .val (.ref a_STAYING)] [])) _
    refine XS.goto X24.here hx rfl (pc0 := 36) (pc' := 9) rfl (hb hby dq3_36) (by decide) (by decide) ?_
    show Steps p.tables e below (T24.setTop (mkF m 9 #[.val (.ref x0), .val (.ref r1), .val (.int (4 : Int32)), .val (.int (((0 : Int32) + (1 : Int32)) + (1 : Int32))), .val (.ref a_STAYING)] [])) _
    refine XS.iloadN X24.here hx rfl (hb hby dq3_9) rfl ?_
    show Steps p.tables e below (T24.setTop (mkF m 10 #[.val (.ref x0), .val (.ref r1), .val (.int (4 : Int32)), .val (.int (((0 : Int32) + (1 : Int32)) + (1 : Int32))), .val (.ref a_STAYING)] [(.int (((0 : Int32) + (1 : Int32)) + (1 : Int32)))])) _
    refine XS.iloadN X24.here hx rfl (hb hby dq3_10) rfl ?_
    show Steps p.tables e below (T24.setTop (mkF m 11 #[.val (.ref x0), .val (.ref r1), .val (.int (4 : Int32)), .val (.int (((0 : Int32) + (1 : Int32)) + (1 : Int32))), .val (.ref a_STAYING)] [(.int (4 : Int32)), (.int (((0 : Int32) + (1 : Int32)) + (1 : Int32)))])) _
    refine XS.icmpNo X24.here hx rfl (hb hby dq3_11) rfl ((tlt (by decide)).2.1) ?_
    show Steps p.tables e below (T24.setTop (mkF m 14 #[.val (.ref x0), .val (.ref r1), .val (.int (4 : Int32)), .val (.int (((0 : Int32) + (1 : Int32)) + (1 : Int32))), .val (.ref a_STAYING)] [])) _
    refine XS.aloadN X24.here hx rfl (hb hby dq3_14) rfl rfl ?_
    show Steps p.tables e below (T24.setTop (mkF m 15 #[.val (.ref x0), .val (.ref r1), .val (.int (4 : Int32)), .val (.int (((0 : Int32) + (1 : Int32)) + (1 : Int32))), .val (.ref a_STAYING)] [(.ref r1)])) _
    refine XS.iloadN X24.here hx rfl (hb hby dq3_15) rfl ?_
    exact k)
  obtain ⟨cl29, Ar29, q29, Sz29, Ng29, Hs29, G29⟩ := id VR1
  have hin29 : ¬ ((((0 : Int32) + (1 : Int32)) + (1 : Int32)) < 0 ∨ cl29.slots.size ≤ ((((0 : Int32) + (1 : Int32)) + (1 : Int32))).toNatClampNeg) := inb_of Sz29 ⟨by decide, by decide⟩
  have hat29 : cl29.slots[((((0 : Int32) + (1 : Int32)) + (1 : Int32))).toNatClampNeg]? = some (.ref a_RETAINED) := Hs29.at hin29 (rfl)
  have p30 : ∀ t, Steps p.tables e below (T24.setTop (mkF m 21 #[.val (.ref x0), .val (.ref r1), .val (.int (4 : Int32)), .val (.int (((0 : Int32) + (1 : Int32)) + (1 : Int32))), .val (.ref a_RETAINED)] [(.ref a_RETAINED)])) t → Steps p.tables e below (s₁.setTop (entryFrame m #[(.ref x0)] 5)) t := fun t k => p28 t (by
    show Steps p.tables e below (T24.setTop (mkF m 16 #[.val (.ref x0), .val (.ref r1), .val (.int (4 : Int32)), .val (.int (((0 : Int32) + (1 : Int32)) + (1 : Int32))), .val (.ref a_STAYING)] [(.int (((0 : Int32) + (1 : Int32)) + (1 : Int32))), (.ref r1)])) _
    refine X24.aaload hx (j := (((0 : Int32) + (1 : Int32)) + (1 : Int32))) (v := (.ref a_RETAINED)) (by rw [e24]; exact Ar29.1) (State.isArrayOf_alike hZ.alike Ar29.2.1) rfl Ar29.2.2 hin29 hat29 (g := (mkF m 16 #[.val (.ref x0), .val (.ref r1), .val (.int (4 : Int32)), .val (.int (((0 : Int32) + (1 : Int32)) + (1 : Int32))), .val (.ref a_STAYING)] [(.int (((0 : Int32) + (1 : Int32)) + (1 : Int32))), (.ref r1)])) rfl rfl (hb hby dq3_16) _ ?_
    show Steps p.tables e below (T24.setTop (mkF m 17 #[.val (.ref x0), .val (.ref r1), .val (.int (4 : Int32)), .val (.int (((0 : Int32) + (1 : Int32)) + (1 : Int32))), .val (.ref a_STAYING)] [(.ref a_RETAINED)])) _
    refine XS.astore X24.here hx rfl (hb hby dq3_17) rfl rfl (l' := #[.val (.ref x0), .val (.ref r1), .val (.int (4 : Int32)), .val (.int (((0 : Int32) + (1 : Int32)) + (1 : Int32))), .val (.ref a_RETAINED)]) rfl ?_
    show Steps p.tables e below (T24.setTop (mkF m 19 #[.val (.ref x0), .val (.ref r1), .val (.int (4 : Int32)), .val (.int (((0 : Int32) + (1 : Int32)) + (1 : Int32))), .val (.ref a_RETAINED)] [])) _
    refine XS.aload X24.here hx rfl (hb hby dq3_19) rfl rfl ?_
    exact k)
  obtain ⟨cq31, kq31, qa31, qb31, qc31⟩ := isOf hZ e24 f6
  obtain ⟨_, _, ⟨T31, L31, k31, n31⟩, -, X31, ⟨Lc31, hQ31, l31, y31, z31⟩, st31⟩ := X24.virtualBack hx (y := (⟨"com/example/disposition/disposition/store/JobQueue", "kind", "()B"⟩ : MethodName)) (z := (⟨"com/example/disposition/disposition/store/JobQueue", "kind", "()B"⟩ : MethodName)) hown (mvT hZ (hw _ (List.mem_of_getElem? (i := 26) rfl))) (mvT hZ (hw _ (List.mem_of_getElem? (i := 27) rfl))) (notFace_of_selects (args := #[]) (mvT hZ (hw _ (List.mem_of_getElem? (i := 29) rfl)))) (mvT hZ (hw _ (List.mem_of_getElem? (i := 29) rfl))) (mvT hZ (hw _ (List.mem_of_getElem? (i := 28) rfl))) (by decide) (backOf (W := 0) (rmk2 l Z a0 hw [] a_RETAINED  T1.heap n0 Z1 f7) hZ (hw _ (List.mem_of_getElem? (i := 30) rfl)) (hw _ (List.mem_of_getElem? (i := 1) rfl)) (by decide) (by decide)) qa31 qc31 (g := (mkF m 21 #[.val (.ref x0), .val (.ref r1), .val (.int (4 : Int32)), .val (.int (((0 : Int32) + (1 : Int32)) + (1 : Int32))), .val (.ref a_RETAINED)] [(.ref a_RETAINED)])) rfl (by rw [hml]; rfl) (Steps.refl _) (argsL := []) (rest := []) (lenOf pdq3_1 rfl) rfl (by show 2 * 0 + _ ≤ _; exact Nat.le_of_eq rfl) (hb hby dq3_21) (fun _ _ => ⟨rfl, e24, (by decide : 1 + 0 ≤ _), (by decide : 4 + 0 ≤ _)⟩)
  dsimp only [Pt.U, Pt.locs, Pt.cells, Pt.slots] at X31 l31 y31 z31 st31 hQ31
  subst l31 y31 z31
  obtain ⟨rfl, Nq31, e31⟩ := hQ31
  have N31 := Fr.app N24 Nq31
  have p32 : ∀ t, Steps p.tables e below (T31.setTop (mkF m 24 #[.val (.ref x0), .val (.ref r1), .val (.int (4 : Int32)), .val (.int (((0 : Int32) + (1 : Int32)) + (1 : Int32))), .val (.ref a_RETAINED)] [(.int (82 : Int32))])) t → Steps p.tables e below (s₁.setTop (entryFrame m #[(.ref x0)] 5)) t := fun t k => p30 t (st31.trans k)
  have p33 : ∀ t, Steps p.tables e below (T31.setTop (mkF m 26 #[.val (.ref x0), .val (.ref r1), .val (.int (4 : Int32)), .val (.int (((0 : Int32) + (1 : Int32)) + (1 : Int32))), .val (.ref a_RETAINED)] [(.int (0 : Int32)), (.ref x0), (.int (82 : Int32))])) t → Steps p.tables e below (s₁.setTop (entryFrame m #[(.ref x0)] 5)) t := fun t k => p32 t (by
    show Steps p.tables e below (T31.setTop (mkF m 24 #[.val (.ref x0), .val (.ref r1), .val (.int (4 : Int32)), .val (.int (((0 : Int32) + (1 : Int32)) + (1 : Int32))), .val (.ref a_RETAINED)] [(.int (82 : Int32))])) _
    refine XS.aloadN X31.here hx rfl (hb hby dq3_24) rfl rfl ?_
    show Steps p.tables e below (T31.setTop (mkF m 25 #[.val (.ref x0), .val (.ref r1), .val (.int (4 : Int32)), .val (.int (((0 : Int32) + (1 : Int32)) + (1 : Int32))), .val (.ref a_RETAINED)] [(.ref x0), (.int (82 : Int32))])) _
    refine XS.iconst X31.here hx rfl (hb hby dq3_25) ?_
    exact k)
  obtain ⟨cb34, Ab34, sb34, hb34⟩ := id f10
  have hib34 : ¬ ((0 : Int32) < 0 ∨ cb34.slots.size ≤ ((0 : Int32)).toNatClampNeg) := fun q => q.elim (by decide) (fun q => Nat.not_lt.mpr q sb34)
  have p35 : ∀ t, Steps p.tables e below (T31.setTop (mkF m 16 #[.val (.ref x0), .val (.ref r1), .val (.int (4 : Int32)), .val (.int ((((0 : Int32) + (1 : Int32)) + (1 : Int32)) + (1 : Int32))), .val (.ref a_RETAINED)] [(.int ((((0 : Int32) + (1 : Int32)) + (1 : Int32)) + (1 : Int32))), (.ref r1)])) t → Steps p.tables e below (s₁.setTop (entryFrame m #[(.ref x0)] 5)) t := fun t k => p33 t (by
    show Steps p.tables e below (T31.setTop (mkF m 26 #[.val (.ref x0), .val (.ref r1), .val (.int (4 : Int32)), .val (.int (((0 : Int32) + (1 : Int32)) + (1 : Int32))), .val (.ref a_RETAINED)] [(.int (0 : Int32)), (.ref x0), (.int (82 : Int32))])) _
    refine X31.baloadBytes hx (j := (0 : Int32)) (v := (.int y0)) (by rw [e31]; exact Ab34.1) (State.isArrayOf_alike hZ.alike Ab34.2.1) Ab34.2.2 hib34 hb34 (g := (mkF m 26 #[.val (.ref x0), .val (.ref r1), .val (.int (4 : Int32)), .val (.int (((0 : Int32) + (1 : Int32)) + (1 : Int32))), .val (.ref a_RETAINED)] [(.int (0 : Int32)), (.ref x0), (.int (82 : Int32))])) rfl rfl (hb hby dq3_26) _ ?_
    show Steps p.tables e below (T31.setTop (mkF m 27 #[.val (.ref x0), .val (.ref r1), .val (.int (4 : Int32)), .val (.int (((0 : Int32) + (1 : Int32)) + (1 : Int32))), .val (.ref a_RETAINED)] [(.int y0), (.int (82 : Int32))])) _
    refine XS.icmpYes X31.here hx rfl (pc0 := 27) (pc' := 33) rfl (hb hby dq3_27) rfl ((feq (by rw [hy]; decide)).2) (by decide) (by decide) ?_
    show Steps p.tables e below (T31.setTop (mkF m 33 #[.val (.ref x0), .val (.ref r1), .val (.int (4 : Int32)), .val (.int (((0 : Int32) + (1 : Int32)) + (1 : Int32))), .val (.ref a_RETAINED)] [])) _
    refine XS.iinc X31.here hx rfl (hb hby dq3_33) rfl (l' := #[.val (.ref x0), .val (.ref r1), .val (.int (4 : Int32)), .val (.int ((((0 : Int32) + (1 : Int32)) + (1 : Int32)) + (1 : Int32))), .val (.ref a_RETAINED)]) rfl ?_
    show Steps p.tables e below (T31.setTop (mkF m 36 #[.val (.ref x0), .val (.ref r1), .val (.int (4 : Int32)), .val (.int ((((0 : Int32) + (1 : Int32)) + (1 : Int32)) + (1 : Int32))), .val (.ref a_RETAINED)] [])) _
    refine XS.goto X31.here hx rfl (pc0 := 36) (pc' := 9) rfl (hb hby dq3_36) (by decide) (by decide) ?_
    show Steps p.tables e below (T31.setTop (mkF m 9 #[.val (.ref x0), .val (.ref r1), .val (.int (4 : Int32)), .val (.int ((((0 : Int32) + (1 : Int32)) + (1 : Int32)) + (1 : Int32))), .val (.ref a_RETAINED)] [])) _
    refine XS.iloadN X31.here hx rfl (hb hby dq3_9) rfl ?_
    show Steps p.tables e below (T31.setTop (mkF m 10 #[.val (.ref x0), .val (.ref r1), .val (.int (4 : Int32)), .val (.int ((((0 : Int32) + (1 : Int32)) + (1 : Int32)) + (1 : Int32))), .val (.ref a_RETAINED)] [(.int ((((0 : Int32) + (1 : Int32)) + (1 : Int32)) + (1 : Int32)))])) _
    refine XS.iloadN X31.here hx rfl (hb hby dq3_10) rfl ?_
    show Steps p.tables e below (T31.setTop (mkF m 11 #[.val (.ref x0), .val (.ref r1), .val (.int (4 : Int32)), .val (.int ((((0 : Int32) + (1 : Int32)) + (1 : Int32)) + (1 : Int32))), .val (.ref a_RETAINED)] [(.int (4 : Int32)), (.int ((((0 : Int32) + (1 : Int32)) + (1 : Int32)) + (1 : Int32)))])) _
    refine XS.icmpNo X31.here hx rfl (hb hby dq3_11) rfl ((tlt (by decide)).2.1) ?_
    show Steps p.tables e below (T31.setTop (mkF m 14 #[.val (.ref x0), .val (.ref r1), .val (.int (4 : Int32)), .val (.int ((((0 : Int32) + (1 : Int32)) + (1 : Int32)) + (1 : Int32))), .val (.ref a_RETAINED)] [])) _
    refine XS.aloadN X31.here hx rfl (hb hby dq3_14) rfl rfl ?_
    show Steps p.tables e below (T31.setTop (mkF m 15 #[.val (.ref x0), .val (.ref r1), .val (.int (4 : Int32)), .val (.int ((((0 : Int32) + (1 : Int32)) + (1 : Int32)) + (1 : Int32))), .val (.ref a_RETAINED)] [(.ref r1)])) _
    refine XS.iloadN X31.here hx rfl (hb hby dq3_15) rfl ?_
    exact k)
  obtain ⟨cl36, Ar36, q36, Sz36, Ng36, Hs36, G36⟩ := id VR1
  have hin36 : ¬ (((((0 : Int32) + (1 : Int32)) + (1 : Int32)) + (1 : Int32)) < 0 ∨ cl36.slots.size ≤ (((((0 : Int32) + (1 : Int32)) + (1 : Int32)) + (1 : Int32))).toNatClampNeg) := inb_of Sz36 ⟨by decide, by decide⟩
  have hat36 : cl36.slots[(((((0 : Int32) + (1 : Int32)) + (1 : Int32)) + (1 : Int32))).toNatClampNeg]? = some (.ref a_HELD) := Hs36.at hin36 (rfl)
  have p37 : ∀ t, Steps p.tables e below (T31.setTop (mkF m 21 #[.val (.ref x0), .val (.ref r1), .val (.int (4 : Int32)), .val (.int ((((0 : Int32) + (1 : Int32)) + (1 : Int32)) + (1 : Int32))), .val (.ref a_HELD)] [(.ref a_HELD)])) t → Steps p.tables e below (s₁.setTop (entryFrame m #[(.ref x0)] 5)) t := fun t k => p35 t (by
    show Steps p.tables e below (T31.setTop (mkF m 16 #[.val (.ref x0), .val (.ref r1), .val (.int (4 : Int32)), .val (.int ((((0 : Int32) + (1 : Int32)) + (1 : Int32)) + (1 : Int32))), .val (.ref a_RETAINED)] [(.int ((((0 : Int32) + (1 : Int32)) + (1 : Int32)) + (1 : Int32))), (.ref r1)])) _
    refine X31.aaload hx (j := ((((0 : Int32) + (1 : Int32)) + (1 : Int32)) + (1 : Int32))) (v := (.ref a_HELD)) (by rw [e31]; exact Ar36.1) (State.isArrayOf_alike hZ.alike Ar36.2.1) rfl Ar36.2.2 hin36 hat36 (g := (mkF m 16 #[.val (.ref x0), .val (.ref r1), .val (.int (4 : Int32)), .val (.int ((((0 : Int32) + (1 : Int32)) + (1 : Int32)) + (1 : Int32))), .val (.ref a_RETAINED)] [(.int ((((0 : Int32) + (1 : Int32)) + (1 : Int32)) + (1 : Int32))), (.ref r1)])) rfl rfl (hb hby dq3_16) _ ?_
    show Steps p.tables e below (T31.setTop (mkF m 17 #[.val (.ref x0), .val (.ref r1), .val (.int (4 : Int32)), .val (.int ((((0 : Int32) + (1 : Int32)) + (1 : Int32)) + (1 : Int32))), .val (.ref a_RETAINED)] [(.ref a_HELD)])) _
    refine XS.astore X31.here hx rfl (hb hby dq3_17) rfl rfl (l' := #[.val (.ref x0), .val (.ref r1), .val (.int (4 : Int32)), .val (.int ((((0 : Int32) + (1 : Int32)) + (1 : Int32)) + (1 : Int32))), .val (.ref a_HELD)]) rfl ?_
    show Steps p.tables e below (T31.setTop (mkF m 19 #[.val (.ref x0), .val (.ref r1), .val (.int (4 : Int32)), .val (.int ((((0 : Int32) + (1 : Int32)) + (1 : Int32)) + (1 : Int32))), .val (.ref a_HELD)] [])) _
    refine XS.aload X31.here hx rfl (hb hby dq3_19) rfl rfl ?_
    exact k)
  obtain ⟨cq38, kq38, qa38, qb38, qc38⟩ := isOf hZ e31 f8
  obtain ⟨_, _, ⟨T38, L38, k38, n38⟩, -, X38, ⟨Lc38, hQ38, l38, y38, z38⟩, st38⟩ := X31.virtualBack hx (y := (⟨"com/example/disposition/disposition/store/JobQueue", "kind", "()B"⟩ : MethodName)) (z := (⟨"com/example/disposition/disposition/store/JobQueue", "kind", "()B"⟩ : MethodName)) hown (mvT hZ (hw _ (List.mem_of_getElem? (i := 26) rfl))) (mvT hZ (hw _ (List.mem_of_getElem? (i := 27) rfl))) (notFace_of_selects (args := #[]) (mvT hZ (hw _ (List.mem_of_getElem? (i := 29) rfl)))) (mvT hZ (hw _ (List.mem_of_getElem? (i := 29) rfl))) (mvT hZ (hw _ (List.mem_of_getElem? (i := 28) rfl))) (by decide) (backOf (W := 0) (rmk3 l Z a0 hw [] a_HELD  T1.heap n0 Z1 f9) hZ (hw _ (List.mem_of_getElem? (i := 30) rfl)) (hw _ (List.mem_of_getElem? (i := 1) rfl)) (by decide) (by decide)) qa38 qc38 (g := (mkF m 21 #[.val (.ref x0), .val (.ref r1), .val (.int (4 : Int32)), .val (.int ((((0 : Int32) + (1 : Int32)) + (1 : Int32)) + (1 : Int32))), .val (.ref a_HELD)] [(.ref a_HELD)])) rfl (by rw [hml]; rfl) (Steps.refl _) (argsL := []) (rest := []) (lenOf pdq3_1 rfl) rfl (by show 2 * 0 + _ ≤ _; exact Nat.le_of_eq rfl) (hb hby dq3_21) (fun _ _ => ⟨rfl, e31, (by decide : 1 + 0 ≤ _), (by decide : 4 + 0 ≤ _)⟩)
  dsimp only [Pt.U, Pt.locs, Pt.cells, Pt.slots] at X38 l38 y38 z38 st38 hQ38
  subst l38 y38 z38
  obtain ⟨rfl, Nq38, e38⟩ := hQ38
  have N38 := Fr.app N31 Nq38
  have p39 : ∀ t, Steps p.tables e below (T38.setTop (mkF m 24 #[.val (.ref x0), .val (.ref r1), .val (.int (4 : Int32)), .val (.int ((((0 : Int32) + (1 : Int32)) + (1 : Int32)) + (1 : Int32))), .val (.ref a_HELD)] [(.int (87 : Int32))])) t → Steps p.tables e below (s₁.setTop (entryFrame m #[(.ref x0)] 5)) t := fun t k => p37 t (st38.trans k)
  have p40 : ∀ t, Steps p.tables e below (T38.setTop (mkF m 26 #[.val (.ref x0), .val (.ref r1), .val (.int (4 : Int32)), .val (.int ((((0 : Int32) + (1 : Int32)) + (1 : Int32)) + (1 : Int32))), .val (.ref a_HELD)] [(.int (0 : Int32)), (.ref x0), (.int (87 : Int32))])) t → Steps p.tables e below (s₁.setTop (entryFrame m #[(.ref x0)] 5)) t := fun t k => p39 t (by
    show Steps p.tables e below (T38.setTop (mkF m 24 #[.val (.ref x0), .val (.ref r1), .val (.int (4 : Int32)), .val (.int ((((0 : Int32) + (1 : Int32)) + (1 : Int32)) + (1 : Int32))), .val (.ref a_HELD)] [(.int (87 : Int32))])) _
    refine XS.aloadN X38.here hx rfl (hb hby dq3_24) rfl rfl ?_
    show Steps p.tables e below (T38.setTop (mkF m 25 #[.val (.ref x0), .val (.ref r1), .val (.int (4 : Int32)), .val (.int ((((0 : Int32) + (1 : Int32)) + (1 : Int32)) + (1 : Int32))), .val (.ref a_HELD)] [(.ref x0), (.int (87 : Int32))])) _
    refine XS.iconst X38.here hx rfl (hb hby dq3_25) ?_
    exact k)
  obtain ⟨cb41, Ab41, sb41, hb41⟩ := id f10
  have hib41 : ¬ ((0 : Int32) < 0 ∨ cb41.slots.size ≤ ((0 : Int32)).toNatClampNeg) := fun q => q.elim (by decide) (fun q => Nat.not_lt.mpr q sb41)
  have p42 : ∀ t, Steps p.tables e below (T38.setTop (mkF m 32 #[.val (.ref x0), .val (.ref r1), .val (.int (4 : Int32)), .val (.int ((((0 : Int32) + (1 : Int32)) + (1 : Int32)) + (1 : Int32))), .val (.ref a_HELD)] [(.ref a_HELD)])) t → Steps p.tables e below (s₁.setTop (entryFrame m #[(.ref x0)] 5)) t := fun t k => p40 t (by
    show Steps p.tables e below (T38.setTop (mkF m 26 #[.val (.ref x0), .val (.ref r1), .val (.int (4 : Int32)), .val (.int ((((0 : Int32) + (1 : Int32)) + (1 : Int32)) + (1 : Int32))), .val (.ref a_HELD)] [(.int (0 : Int32)), (.ref x0), (.int (87 : Int32))])) _
    refine X38.baloadBytes hx (j := (0 : Int32)) (v := (.int y0)) (by rw [e38]; exact Ab41.1) (State.isArrayOf_alike hZ.alike Ab41.2.1) Ab41.2.2 hib41 hb41 (g := (mkF m 26 #[.val (.ref x0), .val (.ref r1), .val (.int (4 : Int32)), .val (.int ((((0 : Int32) + (1 : Int32)) + (1 : Int32)) + (1 : Int32))), .val (.ref a_HELD)] [(.int (0 : Int32)), (.ref x0), (.int (87 : Int32))])) rfl rfl (hb hby dq3_26) _ ?_
    show Steps p.tables e below (T38.setTop (mkF m 27 #[.val (.ref x0), .val (.ref r1), .val (.int (4 : Int32)), .val (.int ((((0 : Int32) + (1 : Int32)) + (1 : Int32)) + (1 : Int32))), .val (.ref a_HELD)] [(.int y0), (.int (87 : Int32))])) _
    refine XS.icmpNo X38.here hx rfl (hb hby dq3_27) rfl ((teq (by rw [hy])).2) ?_
    show Steps p.tables e below (T38.setTop (mkF m 30 #[.val (.ref x0), .val (.ref r1), .val (.int (4 : Int32)), .val (.int ((((0 : Int32) + (1 : Int32)) + (1 : Int32)) + (1 : Int32))), .val (.ref a_HELD)] [])) _
    refine XS.aload X38.here hx rfl (hb hby dq3_30) rfl rfl ?_
    exact k)
  obtain ⟨fs, hr, hrun, hended, hW, hsame⟩ := X38.leave (v := some (.ref a_HELD)) (fun h => by rw [Bd.returns] at h; cases h)
  refine ⟨_, _, p42 _ ?_, hrun, hended, _, _, rfl, ?_, ⟨_, rfl⟩, hW, hsame.mono (by decide) (by decide)⟩
  · show Steps p.tables e below (T38.setTop (mkF m 32 #[.val (.ref x0), .val (.ref r1), .val (.int (4 : Int32)), .val (.int ((((0 : Int32) + (1 : Int32)) + (1 : Int32)) + (1 : Int32))), .val (.ref a_HELD)] [(.ref a_HELD)])) _
    exact retOut X38 hx Bd.returns rfl (Or.inr (Or.inr (Or.inr (Or.inr ⟨rfl, rfl, rfl⟩)))) (hb hby dq3_32) hr
  · show Qq3 Z x0 a_V kk a_IN_PLACE a_STAYING a_RETAINED a_HELD y0 h0 n0 _ T38.heap _
    rw [e38]
    exact ⟨rfl, N38, KK1⟩
theorem pn0 : plainName "com/example/disposition/disposition/store/KeysParseQueuePinLaw" = true := by first | (simp [plainName, overriddenIn]; done) | decide +kernel
theorem pd0_0 : parseMethodDescriptor "([B)Lcom/example/disposition/disposition/store/JobQueue;" = some ⟨[(.array .byte)], some (.object "com/example/disposition/disposition/store/JobQueue")⟩ := by decide +kernel
theorem ef0 (m : MethodId) (x0 : Int32) (x1 : Int32) (x2 : Int32) (x3 : Int32) : entryFrame m #[(.int x0), (.int x1), (.int x2), (.int x3)] maxLocals = mkF m 0 #[.val (.int x0), .val (.int x1), .val (.int x2), .val (.int x3), .unset, .unset, .unset, .unset, .unset] [] := by first | (simp [entryFrame, mkF, argsToLocals, Value.category, maxLocals]; done) | rfl
def Q0 (Z : State) (x0 : Int32) (x1 : Int32) (x2 : Int32) (x3 : Int32) (a_V : Addr) (kk : ClassId) (a_IN_PLACE : Addr) (a_STAYING : Addr) (a_RETAINED : Addr) (a_HELD : Addr) (h0 : Heap) (n0 : Nat) (v : Option Value) (h : Heap) (L : List Loc) : Prop := v = some (.int (1 : Int32)) ∧ Fr n0 L
set_option maxRecDepth 65536 in
set_option maxHeartbeats 40000000 in
theorem rm0 (l : Launch) (Z : State) (a0 : Array Value) (hw : ∀ d ∈ tables_1, d.before a0 Z = true) (ws : List Jvm.Cond) (x0 : Int32) (x1 : Int32) (x2 : Int32) (x3 : Int32) (a_V : Addr) (kk : ClassId) (a_IN_PLACE : Addr) (a_STAYING : Addr) (a_RETAINED : Addr) (a_HELD : Addr) (h0 : Heap) (n0 : Nat) (Z0 : n0 ≤ h0.size) (O0 : Old Z n0 h0) (S_V : Sta Z Z.heap "com/example/disposition/disposition/store/JobQueue" "$VALUES" "[Lcom/example/disposition/disposition/store/JobQueue;" (.ref a_V)) (V_V : Arv Z Z.heap a_V kk (.object "com/example/disposition/disposition/store/JobQueue") (4 : Int32) [(.ref a_IN_PLACE), (.ref a_STAYING), (.ref a_RETAINED), (.ref a_HELD)] .null) (E_V : Exa Z Z.heap a_V "[Lcom/example/disposition/disposition/store/JobQueue;") (E_IN_PLACE : Exa Z Z.heap a_IN_PLACE "com/example/disposition/disposition/store/JobQueue") (E_STAYING : Exa Z Z.heap a_STAYING "com/example/disposition/disposition/store/JobQueue") (E_RETAINED : Exa Z Z.heap a_RETAINED "com/example/disposition/disposition/store/JobQueue") (E_HELD : Exa Z Z.heap a_HELD "com/example/disposition/disposition/store/JobQueue") (F_IN_PLACE : Fld Z Z.heap a_IN_PLACE "com/example/disposition/disposition/store/JobQueue" "kind" "B" (.int (73 : Int32))) (F_STAYING : Fld Z Z.heap a_STAYING "com/example/disposition/disposition/store/JobQueue" "kind" "B" (.int (89 : Int32))) (F_RETAINED : Fld Z Z.heap a_RETAINED "com/example/disposition/disposition/store/JobQueue" "kind" "B" (.int (82 : Int32))) (F_HELD : Fld Z Z.heap a_HELD "com/example/disposition/disposition/store/JobQueue" "kind" "B" (.int (87 : Int32))) (S_IN_PLACE : Sta Z h0 "com/example/disposition/disposition/store/JobQueue" "IN_PLACE" "Lcom/example/disposition/disposition/store/JobQueue;" (.ref a_IN_PLACE)) (S_STAYING : Sta Z h0 "com/example/disposition/disposition/store/JobQueue" "STAYING" "Lcom/example/disposition/disposition/store/JobQueue;" (.ref a_STAYING)) (S_RETAINED : Sta Z h0 "com/example/disposition/disposition/store/JobQueue" "RETAINED" "Lcom/example/disposition/disposition/store/JobQueue;" (.ref a_RETAINED)) (S_HELD : Sta Z h0 "com/example/disposition/disposition/store/JobQueue" "HELD" "Lcom/example/disposition/disposition/store/JobQueue;" (.ref a_HELD)) :
    MetFree l x (head1 (Jvm.Cond.code x code maxLocals ret :: ws) room_1) (fun a U => a = #[(.int x0), (.int x1), (.int x2), (.int x3)] ∧ Z.Warmed39 U.vm ∧ U.heap = h0) (fun _ _ _ _ _ => True) (fun _ U o U' => ∃ v L, o = .returned v ∧ Q0 Z x0 x1 x2 x3 a_V kk a_IN_PLACE a_STAYING a_RETAINED a_HELD h0 n0 v U'.heap L ∧ FrameEnd U o U' L room_1.cells room_1.slots) := by
  refine MetFree.of_bodySF (plainFor_of_name pn0) hisR ?_
  intro p e s m args below meth c s₁ Bd hml0 hP hK
  obtain ⟨rfl, hZ, hh⟩ := hP
  have hx := Bd.exec
  have hby := Bd.bytes
  have hml : c.maxLocals = 9 := hml0
  have hown : s.vm.findClass "com/example/disposition/disposition/store/KeysParseQueuePinLaw" = some m.cls := findClass_of_methodNamed Bd.named
  have hnm := (name_of_methodNamed Bd.named Bd.method).1
  have X0 : Stand p l e room_1 s m #[(.int x0), (.int x1), (.int x2), (.int x3)] below meth c s₁ [] 0 0 := Stand.of_body Bd
  have e0 : s₁.heap = h0 := by rw [← hh, Bd.state]; rfl
  have N0 := Fr.nil n0
  have pre0 : ∀ t, Steps p.tables e below (s₁.setTop (mkF m 0 #[.val (.int x0), .val (.int x1), .val (.int x2), .val (.int x3), .unset, .unset, .unset, .unset, .unset] [])) t → Steps p.tables e below (s₁.setTop (entryFrame m #[(.int x0), (.int x1), (.int x2), (.int x3)] maxLocals)) t := fun t k => castTop (ef0 m x0 x1 x2 x3) k
  obtain ⟨vb, s5, hvb, p1⟩ : ∃ (vb : Int32) (s5 : Slot), (One s5) ∧ ∀ t, Steps p.tables e below (s₁.setTop (mkF m 60 #[.val (.int x0), .val (.int x1), .val (.int x2), .val (.int x3), .val (.int vb), s5, .unset, .unset, .unset] [])) t → Steps p.tables e below (s₁.setTop (entryFrame m #[(.int x0), (.int x1), (.int x2), (.int x3)] maxLocals)) t := by
    have p2 : ∀ t, Steps p.tables e below (s₁.setTop (mkF m 3 #[.val (.int x0), .val (.int x1), .val (.int x2), .val (.int x3), .unset, .unset, .unset, .unset, .unset] [(.int (x3 &&& (1 : Int32)))])) t → Steps p.tables e below (s₁.setTop (entryFrame m #[(.int x0), (.int x1), (.int x2), (.int x3)] maxLocals)) t := fun t k => pre0 t (by
      show Steps p.tables e below (s₁.setTop (mkF m 0 #[.val (.int x0), .val (.int x1), .val (.int x2), .val (.int x3), .unset, .unset, .unset, .unset, .unset] [])) _
      refine XS.iloadN X0.here hx rfl (hb hby at_0) rfl ?_
      show Steps p.tables e below (s₁.setTop (mkF m 1 #[.val (.int x0), .val (.int x1), .val (.int x2), .val (.int x3), .unset, .unset, .unset, .unset, .unset] [(.int x3)])) _
      refine XS.iconst X0.here hx rfl (hb hby at_1) ?_
      show Steps p.tables e below (s₁.setTop (mkF m 2 #[.val (.int x0), .val (.int x1), .val (.int x2), .val (.int x3), .unset, .unset, .unset, .unset, .unset] [(.int (1 : Int32)), (.int x3)])) _
      refine XS.iand X0.here hx rfl (hb hby at_2) rfl ?_
      exact k)
    by_cases hc3 : (x3 &&& (1 : Int32)) = (0 : Int32)
    · have p3 : ∀ t, Steps p.tables e below (s₁.setTop (mkF m 60 #[.val (.int x0), .val (.int x1), .val (.int x2), .val (.int x3), .val (.int (x0.toInt8.toInt32)), .unset, .unset, .unset, .unset] [])) t → Steps p.tables e below (s₁.setTop (entryFrame m #[(.int x0), (.int x1), (.int x2), (.int x3)] maxLocals)) t := fun t k => p2 t (by
        show Steps p.tables e below (s₁.setTop (mkF m 3 #[.val (.int x0), .val (.int x1), .val (.int x2), .val (.int x3), .unset, .unset, .unset, .unset, .unset] [(.int (x3 &&& (1 : Int32)))])) _
        refine XS.ifYes X0.here hx rfl (pc0 := 3) (pc' := 56) rfl (hb hby at_3) rfl ((if0 _ _).trans (teq (hc3)).1) (by decide) (by decide) ?_
        show Steps p.tables e below (s₁.setTop (mkF m 56 #[.val (.int x0), .val (.int x1), .val (.int x2), .val (.int x3), .unset, .unset, .unset, .unset, .unset] [])) _
        refine XS.iloadN X0.here hx rfl (hb hby at_56) rfl ?_
        show Steps p.tables e below (s₁.setTop (mkF m 57 #[.val (.int x0), .val (.int x1), .val (.int x2), .val (.int x3), .unset, .unset, .unset, .unset, .unset] [(.int x0)])) _
        refine XS.i2b X0.here hx rfl (hb hby at_57) rfl ?_
        show Steps p.tables e below (s₁.setTop (mkF m 58 #[.val (.int x0), .val (.int x1), .val (.int x2), .val (.int x3), .unset, .unset, .unset, .unset, .unset] [(.int (x0.toInt8.toInt32))])) _
        refine XS.istore X0.here hx rfl (hb hby at_58) rfl (l' := #[.val (.int x0), .val (.int x1), .val (.int x2), .val (.int x3), .val (.int (x0.toInt8.toInt32)), .unset, .unset, .unset, .unset]) rfl ?_
        exact k)
      exact ⟨(x0.toInt8.toInt32), .unset, One.u, p3⟩
    · have p4 : ∀ t, Steps p.tables e below (s₁.setTop (mkF m 13 #[.val (.int x0), .val (.int x1), .val (.int x2), .val (.int x3), .unset, .val (.int (x1 &&& (3 : Int32))), .unset, .unset, .unset] [(.int (x1 &&& (3 : Int32)))])) t → Steps p.tables e below (s₁.setTop (entryFrame m #[(.int x0), (.int x1), (.int x2), (.int x3)] maxLocals)) t := fun t k => p2 t (by
        show Steps p.tables e below (s₁.setTop (mkF m 3 #[.val (.int x0), .val (.int x1), .val (.int x2), .val (.int x3), .unset, .unset, .unset, .unset, .unset] [(.int (x3 &&& (1 : Int32)))])) _
        refine XS.ifNo X0.here hx rfl (hb hby at_3) rfl ((if0 _ _).trans (feq (hc3)).1) ?_
        show Steps p.tables e below (s₁.setTop (mkF m 6 #[.val (.int x0), .val (.int x1), .val (.int x2), .val (.int x3), .unset, .unset, .unset, .unset, .unset] [])) _
        refine XS.iloadN X0.here hx rfl (hb hby at_6) rfl ?_
        show Steps p.tables e below (s₁.setTop (mkF m 7 #[.val (.int x0), .val (.int x1), .val (.int x2), .val (.int x3), .unset, .unset, .unset, .unset, .unset] [(.int x1)])) _
        refine XS.iconst X0.here hx rfl (hb hby at_7) ?_
        show Steps p.tables e below (s₁.setTop (mkF m 8 #[.val (.int x0), .val (.int x1), .val (.int x2), .val (.int x3), .unset, .unset, .unset, .unset, .unset] [(.int (3 : Int32)), (.int x1)])) _
        refine XS.iand X0.here hx rfl (hb hby at_8) rfl ?_
        show Steps p.tables e below (s₁.setTop (mkF m 9 #[.val (.int x0), .val (.int x1), .val (.int x2), .val (.int x3), .unset, .unset, .unset, .unset, .unset] [(.int (x1 &&& (3 : Int32)))])) _
        refine XS.istore X0.here hx rfl (hb hby at_9) rfl (l' := #[.val (.int x0), .val (.int x1), .val (.int x2), .val (.int x3), .unset, .val (.int (x1 &&& (3 : Int32))), .unset, .unset, .unset]) rfl ?_
        show Steps p.tables e below (s₁.setTop (mkF m 11 #[.val (.int x0), .val (.int x1), .val (.int x2), .val (.int x3), .unset, .val (.int (x1 &&& (3 : Int32))), .unset, .unset, .unset] [])) _
        refine XS.iload X0.here hx rfl (hb hby at_11) rfl ?_
        exact k)
      by_cases hc13 : (x1 &&& (3 : Int32)) = (0 : Int32)
      · have p5 : ∀ t, Steps p.tables e below (s₁.setTop (mkF m 60 #[.val (.int x0), .val (.int x1), .val (.int x2), .val (.int x3), .val (.int (73 : Int32)), .val (.int (x1 &&& (3 : Int32))), .unset, .unset, .unset] [])) t → Steps p.tables e below (s₁.setTop (entryFrame m #[(.int x0), (.int x1), (.int x2), (.int x3)] maxLocals)) t := fun t k => p4 t (by
          show Steps p.tables e below (s₁.setTop (mkF m 13 #[.val (.int x0), .val (.int x1), .val (.int x2), .val (.int x3), .unset, .val (.int (x1 &&& (3 : Int32))), .unset, .unset, .unset] [(.int (x1 &&& (3 : Int32)))])) _
          refine XS.ifNo X0.here hx rfl (hb hby at_13) rfl ((if0 _ _).trans (teq (hc13)).2) ?_
          show Steps p.tables e below (s₁.setTop (mkF m 16 #[.val (.int x0), .val (.int x1), .val (.int x2), .val (.int x3), .unset, .val (.int (x1 &&& (3 : Int32))), .unset, .unset, .unset] [])) _
          refine XS.bipush X0.here hx rfl (hb hby at_16) ?_
          show Steps p.tables e below (s₁.setTop (mkF m 18 #[.val (.int x0), .val (.int x1), .val (.int x2), .val (.int x3), .unset, .val (.int (x1 &&& (3 : Int32))), .unset, .unset, .unset] [(.int (73 : Int32))])) _
          refine XS.istore X0.here hx rfl (hb hby at_18) rfl (l' := #[.val (.int x0), .val (.int x1), .val (.int x2), .val (.int x3), .val (.int (73 : Int32)), .val (.int (x1 &&& (3 : Int32))), .unset, .unset, .unset]) rfl ?_
          show Steps p.tables e below (s₁.setTop (mkF m 20 #[.val (.int x0), .val (.int x1), .val (.int x2), .val (.int x3), .val (.int (73 : Int32)), .val (.int (x1 &&& (3 : Int32))), .unset, .unset, .unset] [])) _
          refine XS.goto X0.here hx rfl (pc0 := 20) (pc' := 53) rfl (hb hby at_20) (by decide) (by decide) ?_
          show Steps p.tables e below (s₁.setTop (mkF m 53 #[.val (.int x0), .val (.int x1), .val (.int x2), .val (.int x3), .val (.int (73 : Int32)), .val (.int (x1 &&& (3 : Int32))), .unset, .unset, .unset] [])) _
          refine XS.goto X0.here hx rfl (pc0 := 53) (pc' := 60) rfl (hb hby at_53) (by decide) (by decide) ?_
          exact k)
        exact ⟨(73 : Int32), .val (.int (x1 &&& (3 : Int32))), One.val rfl, p5⟩
      · have p6 : ∀ t, Steps p.tables e below (s₁.setTop (mkF m 26 #[.val (.int x0), .val (.int x1), .val (.int x2), .val (.int x3), .unset, .val (.int (x1 &&& (3 : Int32))), .unset, .unset, .unset] [(.int (1 : Int32)), (.int (x1 &&& (3 : Int32)))])) t → Steps p.tables e below (s₁.setTop (entryFrame m #[(.int x0), (.int x1), (.int x2), (.int x3)] maxLocals)) t := fun t k => p4 t (by
          show Steps p.tables e below (s₁.setTop (mkF m 13 #[.val (.int x0), .val (.int x1), .val (.int x2), .val (.int x3), .unset, .val (.int (x1 &&& (3 : Int32))), .unset, .unset, .unset] [(.int (x1 &&& (3 : Int32)))])) _
          refine XS.ifYes X0.here hx rfl (pc0 := 13) (pc' := 23) rfl (hb hby at_13) rfl ((if0 _ _).trans (feq (hc13)).2) (by decide) (by decide) ?_
          show Steps p.tables e below (s₁.setTop (mkF m 23 #[.val (.int x0), .val (.int x1), .val (.int x2), .val (.int x3), .unset, .val (.int (x1 &&& (3 : Int32))), .unset, .unset, .unset] [])) _
          refine XS.iload X0.here hx rfl (hb hby at_23) rfl ?_
          show Steps p.tables e below (s₁.setTop (mkF m 25 #[.val (.int x0), .val (.int x1), .val (.int x2), .val (.int x3), .unset, .val (.int (x1 &&& (3 : Int32))), .unset, .unset, .unset] [(.int (x1 &&& (3 : Int32)))])) _
          refine XS.iconst X0.here hx rfl (hb hby at_25) ?_
          exact k)
        by_cases hc26 : (x1 &&& (3 : Int32)) = (1 : Int32)
        · have p7 : ∀ t, Steps p.tables e below (s₁.setTop (mkF m 60 #[.val (.int x0), .val (.int x1), .val (.int x2), .val (.int x3), .val (.int (89 : Int32)), .val (.int (x1 &&& (3 : Int32))), .unset, .unset, .unset] [])) t → Steps p.tables e below (s₁.setTop (entryFrame m #[(.int x0), (.int x1), (.int x2), (.int x3)] maxLocals)) t := fun t k => p6 t (by
            show Steps p.tables e below (s₁.setTop (mkF m 26 #[.val (.int x0), .val (.int x1), .val (.int x2), .val (.int x3), .unset, .val (.int (x1 &&& (3 : Int32))), .unset, .unset, .unset] [(.int (1 : Int32)), (.int (x1 &&& (3 : Int32)))])) _
            refine XS.icmpNo X0.here hx rfl (hb hby at_26) rfl ((teq (hc26)).2) ?_
            show Steps p.tables e below (s₁.setTop (mkF m 29 #[.val (.int x0), .val (.int x1), .val (.int x2), .val (.int x3), .unset, .val (.int (x1 &&& (3 : Int32))), .unset, .unset, .unset] [])) _
            refine XS.bipush X0.here hx rfl (hb hby at_29) ?_
            show Steps p.tables e below (s₁.setTop (mkF m 31 #[.val (.int x0), .val (.int x1), .val (.int x2), .val (.int x3), .unset, .val (.int (x1 &&& (3 : Int32))), .unset, .unset, .unset] [(.int (89 : Int32))])) _
            refine XS.istore X0.here hx rfl (hb hby at_31) rfl (l' := #[.val (.int x0), .val (.int x1), .val (.int x2), .val (.int x3), .val (.int (89 : Int32)), .val (.int (x1 &&& (3 : Int32))), .unset, .unset, .unset]) rfl ?_
            show Steps p.tables e below (s₁.setTop (mkF m 33 #[.val (.int x0), .val (.int x1), .val (.int x2), .val (.int x3), .val (.int (89 : Int32)), .val (.int (x1 &&& (3 : Int32))), .unset, .unset, .unset] [])) _
            refine XS.goto X0.here hx rfl (pc0 := 33) (pc' := 53) rfl (hb hby at_33) (by decide) (by decide) ?_
            show Steps p.tables e below (s₁.setTop (mkF m 53 #[.val (.int x0), .val (.int x1), .val (.int x2), .val (.int x3), .val (.int (89 : Int32)), .val (.int (x1 &&& (3 : Int32))), .unset, .unset, .unset] [])) _
            refine XS.goto X0.here hx rfl (pc0 := 53) (pc' := 60) rfl (hb hby at_53) (by decide) (by decide) ?_
            exact k)
          exact ⟨(89 : Int32), .val (.int (x1 &&& (3 : Int32))), One.val rfl, p7⟩
        · have p8 : ∀ t, Steps p.tables e below (s₁.setTop (mkF m 39 #[.val (.int x0), .val (.int x1), .val (.int x2), .val (.int x3), .unset, .val (.int (x1 &&& (3 : Int32))), .unset, .unset, .unset] [(.int (2 : Int32)), (.int (x1 &&& (3 : Int32)))])) t → Steps p.tables e below (s₁.setTop (entryFrame m #[(.int x0), (.int x1), (.int x2), (.int x3)] maxLocals)) t := fun t k => p6 t (by
            show Steps p.tables e below (s₁.setTop (mkF m 26 #[.val (.int x0), .val (.int x1), .val (.int x2), .val (.int x3), .unset, .val (.int (x1 &&& (3 : Int32))), .unset, .unset, .unset] [(.int (1 : Int32)), (.int (x1 &&& (3 : Int32)))])) _
            refine XS.icmpYes X0.here hx rfl (pc0 := 26) (pc' := 36) rfl (hb hby at_26) rfl ((feq (hc26)).2) (by decide) (by decide) ?_
            show Steps p.tables e below (s₁.setTop (mkF m 36 #[.val (.int x0), .val (.int x1), .val (.int x2), .val (.int x3), .unset, .val (.int (x1 &&& (3 : Int32))), .unset, .unset, .unset] [])) _
            refine XS.iload X0.here hx rfl (hb hby at_36) rfl ?_
            show Steps p.tables e below (s₁.setTop (mkF m 38 #[.val (.int x0), .val (.int x1), .val (.int x2), .val (.int x3), .unset, .val (.int (x1 &&& (3 : Int32))), .unset, .unset, .unset] [(.int (x1 &&& (3 : Int32)))])) _
            refine XS.iconst X0.here hx rfl (hb hby at_38) ?_
            exact k)
          by_cases hc39 : (x1 &&& (3 : Int32)) = (2 : Int32)
          · have p9 : ∀ t, Steps p.tables e below (s₁.setTop (mkF m 60 #[.val (.int x0), .val (.int x1), .val (.int x2), .val (.int x3), .val (.int (82 : Int32)), .val (.int (x1 &&& (3 : Int32))), .unset, .unset, .unset] [])) t → Steps p.tables e below (s₁.setTop (entryFrame m #[(.int x0), (.int x1), (.int x2), (.int x3)] maxLocals)) t := fun t k => p8 t (by
              show Steps p.tables e below (s₁.setTop (mkF m 39 #[.val (.int x0), .val (.int x1), .val (.int x2), .val (.int x3), .unset, .val (.int (x1 &&& (3 : Int32))), .unset, .unset, .unset] [(.int (2 : Int32)), (.int (x1 &&& (3 : Int32)))])) _
              refine XS.icmpNo X0.here hx rfl (hb hby at_39) rfl ((teq (hc39)).2) ?_
              show Steps p.tables e below (s₁.setTop (mkF m 42 #[.val (.int x0), .val (.int x1), .val (.int x2), .val (.int x3), .unset, .val (.int (x1 &&& (3 : Int32))), .unset, .unset, .unset] [])) _
              refine XS.bipush X0.here hx rfl (hb hby at_42) ?_
              show Steps p.tables e below (s₁.setTop (mkF m 44 #[.val (.int x0), .val (.int x1), .val (.int x2), .val (.int x3), .unset, .val (.int (x1 &&& (3 : Int32))), .unset, .unset, .unset] [(.int (82 : Int32))])) _
              refine XS.istore X0.here hx rfl (hb hby at_44) rfl (l' := #[.val (.int x0), .val (.int x1), .val (.int x2), .val (.int x3), .val (.int (82 : Int32)), .val (.int (x1 &&& (3 : Int32))), .unset, .unset, .unset]) rfl ?_
              show Steps p.tables e below (s₁.setTop (mkF m 46 #[.val (.int x0), .val (.int x1), .val (.int x2), .val (.int x3), .val (.int (82 : Int32)), .val (.int (x1 &&& (3 : Int32))), .unset, .unset, .unset] [])) _
              refine XS.goto X0.here hx rfl (pc0 := 46) (pc' := 53) rfl (hb hby at_46) (by decide) (by decide) ?_
              show Steps p.tables e below (s₁.setTop (mkF m 53 #[.val (.int x0), .val (.int x1), .val (.int x2), .val (.int x3), .val (.int (82 : Int32)), .val (.int (x1 &&& (3 : Int32))), .unset, .unset, .unset] [])) _
              refine XS.goto X0.here hx rfl (pc0 := 53) (pc' := 60) rfl (hb hby at_53) (by decide) (by decide) ?_
              exact k)
            exact ⟨(82 : Int32), .val (.int (x1 &&& (3 : Int32))), One.val rfl, p9⟩
          · have p10 : ∀ t, Steps p.tables e below (s₁.setTop (mkF m 60 #[.val (.int x0), .val (.int x1), .val (.int x2), .val (.int x3), .val (.int (87 : Int32)), .val (.int (x1 &&& (3 : Int32))), .unset, .unset, .unset] [])) t → Steps p.tables e below (s₁.setTop (entryFrame m #[(.int x0), (.int x1), (.int x2), (.int x3)] maxLocals)) t := fun t k => p8 t (by
              show Steps p.tables e below (s₁.setTop (mkF m 39 #[.val (.int x0), .val (.int x1), .val (.int x2), .val (.int x3), .unset, .val (.int (x1 &&& (3 : Int32))), .unset, .unset, .unset] [(.int (2 : Int32)), (.int (x1 &&& (3 : Int32)))])) _
              refine XS.icmpYes X0.here hx rfl (pc0 := 39) (pc' := 49) rfl (hb hby at_39) rfl ((feq (hc39)).2) (by decide) (by decide) ?_
              show Steps p.tables e below (s₁.setTop (mkF m 49 #[.val (.int x0), .val (.int x1), .val (.int x2), .val (.int x3), .unset, .val (.int (x1 &&& (3 : Int32))), .unset, .unset, .unset] [])) _
              refine XS.bipush X0.here hx rfl (hb hby at_49) ?_
              show Steps p.tables e below (s₁.setTop (mkF m 51 #[.val (.int x0), .val (.int x1), .val (.int x2), .val (.int x3), .unset, .val (.int (x1 &&& (3 : Int32))), .unset, .unset, .unset] [(.int (87 : Int32))])) _
              refine XS.istore X0.here hx rfl (hb hby at_51) rfl (l' := #[.val (.int x0), .val (.int x1), .val (.int x2), .val (.int x3), .val (.int (87 : Int32)), .val (.int (x1 &&& (3 : Int32))), .unset, .unset, .unset]) rfl ?_
              show Steps p.tables e below (s₁.setTop (mkF m 53 #[.val (.int x0), .val (.int x1), .val (.int x2), .val (.int x3), .val (.int (87 : Int32)), .val (.int (x1 &&& (3 : Int32))), .unset, .unset, .unset] [])) _
              refine XS.goto X0.here hx rfl (pc0 := 53) (pc' := 60) rfl (hb hby at_53) (by decide) (by decide) ?_
              exact k)
            exact ⟨(87 : Int32), .val (.int (x1 &&& (3 : Int32))), One.val rfl, p10⟩
  have p11 : ∀ t, Steps p.tables e below (s₁.setTop (mkF m 64 #[.val (.int x0), .val (.int x1), .val (.int x2), .val (.int x3), .val (.int vb), s5, .unset, .unset, .unset] [(.int (73 : Int32)), (.int vb)])) t → Steps p.tables e below (s₁.setTop (entryFrame m #[(.int x0), (.int x1), (.int x2), (.int x3)] maxLocals)) t := fun t k => p1 t (by
    show Steps p.tables e below (s₁.setTop (mkF m 60 #[.val (.int x0), .val (.int x1), .val (.int x2), .val (.int x3), .val (.int vb), s5, .unset, .unset, .unset] [])) _
    refine XS.iload X0.here hx rfl (hb hby at_60) rfl ?_
    show Steps p.tables e below (s₁.setTop (mkF m 62 #[.val (.int x0), .val (.int x1), .val (.int x2), .val (.int x3), .val (.int vb), s5, .unset, .unset, .unset] [(.int vb)])) _
    refine XS.bipush X0.here hx rfl (hb hby at_62) ?_
    exact k)
  by_cases hc64 : vb = (73 : Int32)
  · have p12 : ∀ t, Steps p.tables e below (s₁.setTop (mkF m 67 #[.val (.int x0), .val (.int x1), .val (.int x2), .val (.int x3), .val (.int vb), s5, .unset, .unset, .unset] [])) t → Steps p.tables e below (s₁.setTop (entryFrame m #[(.int x0), (.int x1), (.int x2), (.int x3)] maxLocals)) t := fun t k => p11 t (by
      show Steps p.tables e below (s₁.setTop (mkF m 64 #[.val (.int x0), .val (.int x1), .val (.int x2), .val (.int x3), .val (.int vb), s5, .unset, .unset, .unset] [(.int (73 : Int32)), (.int vb)])) _
      refine XS.icmpNo X0.here hx rfl (hb hby at_64) rfl ((teq (hc64)).2) ?_
      exact k)
    subst hc64
    obtain ⟨T13, X13, e13, st13⟩ := getS2 X0 hx hZ hown (host := "") (Or.inl (hw _ (List.mem_of_getElem? (i := 35) rfl))) Via.refl e0 S_IN_PLACE (g := (mkF m 67 #[.val (.int x0), .val (.int x1), .val (.int x2), .val (.int x3), .val (.int (73 : Int32)), s5, .unset, .unset, .unset] [])) rfl (hb hby at_67)
    have p14 : ∀ t, Steps p.tables e below (T13.setTop (mkF m 70 #[.val (.int x0), .val (.int x1), .val (.int x2), .val (.int x3), .val (.int (73 : Int32)), s5, .unset, .unset, .unset] [(.ref a_IN_PLACE)])) t → Steps p.tables e below (s₁.setTop (entryFrame m #[(.int x0), (.int x1), (.int x2), (.int x3)] maxLocals)) t := fun t k => p12 t (st13 t k)
    have p15 : ∀ t, Steps p.tables e below (T13.setTop (mkF m 123 #[.val (.int x0), .val (.int x1), .val (.int x2), .val (.int x3), .val (.int (73 : Int32)), .val (.ref a_IN_PLACE), .unset, .unset, .unset] [(.int (1 : Int32))])) t → Steps p.tables e below (s₁.setTop (entryFrame m #[(.int x0), (.int x1), (.int x2), (.int x3)] maxLocals)) t := fun t k => p14 t (by
      show Steps p.tables e below (T13.setTop (mkF m 70 #[.val (.int x0), .val (.int x1), .val (.int x2), .val (.int x3), .val (.int (73 : Int32)), s5, .unset, .unset, .unset] [(.ref a_IN_PLACE)])) _
      refine XS.astore X13.here hx rfl (hb hby at_70) rfl rfl (l' := #[.val (.int x0), .val (.int x1), .val (.int x2), .val (.int x3), .val (.int (73 : Int32)), .val (.ref a_IN_PLACE), .unset, .unset, .unset]) (XS.store1 rfl hvb rfl) ?_
      show Steps p.tables e below (T13.setTop (mkF m 72 #[.val (.int x0), .val (.int x1), .val (.int x2), .val (.int x3), .val (.int (73 : Int32)), .val (.ref a_IN_PLACE), .unset, .unset, .unset] [])) _
      refine XS.goto X13.here hx rfl (pc0 := 72) (pc' := 122) rfl (hb hby at_72) (by decide) (by decide) ?_
      show Steps p.tables e below (T13.setTop (mkF m 122 #[.val (.int x0), .val (.int x1), .val (.int x2), .val (.int x3), .val (.int (73 : Int32)), .val (.ref a_IN_PLACE), .unset, .unset, .unset] [])) _
      refine XS.iconst X13.here hx rfl (hb hby at_122) ?_
      exact k)
    obtain ⟨T16, h16, k16, X16, e16, E16, A16, st16⟩ := newP X13 hx hZ (hw _ (List.mem_of_getElem? (i := 3) rfl)) e13 (g := (mkF m 123 #[.val (.int x0), .val (.int x1), .val (.int x2), .val (.int x3), .val (.int (73 : Int32)), .val (.ref a_IN_PLACE), .unset, .unset, .unset] [(.int (1 : Int32))])) rfl (hb hby at_123) rfl (by decide) (cap := 1) (by decide) (by decide) (by decide) (by decide)
    obtain ⟨b16, g16⟩ : ∃ z, z = h0.size := ⟨_, rfl⟩
    rw [← g16] at A16 st16
    have gn_b16 : n0 ≤ b16 := Nat.le_trans Z0 (Nat.le_of_eq g16.symm)
    have f17 := O0.ext E16
    have f18 := S_IN_PLACE.ext E16
    have f19 := S_STAYING.ext E16
    have f20 := S_RETAINED.ext E16
    have f21 := S_HELD.ext E16
    have Z16 := Nat.le_trans Z0 E16.1
    have VV16 : Arv Z h16 b16 k16 .byte (1 : Int32) [(.int (0 : Int32))] (.int (0 : Int32)) := (Arv.new A16 (by decide)).pad (pad_rep [] (.int (0 : Int32)) 1)
    have p22 : ∀ t, Steps p.tables e below (T16.setTop (mkF m 125 #[.val (.int x0), .val (.int x1), .val (.int x2), .val (.int x3), .val (.int (73 : Int32)), .val (.ref a_IN_PLACE), .unset, .unset, .unset] [(.ref b16)])) t → Steps p.tables e below (s₁.setTop (entryFrame m #[(.int x0), (.int x1), (.int x2), (.int x3)] maxLocals)) t := fun t k => p15 t (st16 t k)
    have p23 : ∀ t, Steps p.tables e below (T16.setTop (mkF m 133 #[.val (.int x0), .val (.int x1), .val (.int x2), .val (.int x3), .val (.int (73 : Int32)), .val (.ref a_IN_PLACE), .val (.ref b16), .unset, .unset] [(.int ((73 : Int32).toInt8.toInt32)), (.int (0 : Int32)), (.ref b16)])) t → Steps p.tables e below (s₁.setTop (entryFrame m #[(.int x0), (.int x1), (.int x2), (.int x3)] maxLocals)) t := fun t k => p22 t (by
      show Steps p.tables e below (T16.setTop (mkF m 125 #[.val (.int x0), .val (.int x1), .val (.int x2), .val (.int x3), .val (.int (73 : Int32)), .val (.ref a_IN_PLACE), .unset, .unset, .unset] [(.ref b16)])) _
      refine XS.astore X16.here hx rfl (hb hby at_125) rfl rfl (l' := #[.val (.int x0), .val (.int x1), .val (.int x2), .val (.int x3), .val (.int (73 : Int32)), .val (.ref a_IN_PLACE), .val (.ref b16), .unset, .unset]) rfl ?_
      show Steps p.tables e below (T16.setTop (mkF m 127 #[.val (.int x0), .val (.int x1), .val (.int x2), .val (.int x3), .val (.int (73 : Int32)), .val (.ref a_IN_PLACE), .val (.ref b16), .unset, .unset] [])) _
      refine XS.aload X16.here hx rfl (hb hby at_127) rfl rfl ?_
      show Steps p.tables e below (T16.setTop (mkF m 129 #[.val (.int x0), .val (.int x1), .val (.int x2), .val (.int x3), .val (.int (73 : Int32)), .val (.ref a_IN_PLACE), .val (.ref b16), .unset, .unset] [(.ref b16)])) _
      refine XS.iconst X16.here hx rfl (hb hby at_129) ?_
      show Steps p.tables e below (T16.setTop (mkF m 130 #[.val (.int x0), .val (.int x1), .val (.int x2), .val (.int x3), .val (.int (73 : Int32)), .val (.ref a_IN_PLACE), .val (.ref b16), .unset, .unset] [(.int (0 : Int32)), (.ref b16)])) _
      refine XS.iload X16.here hx rfl (hb hby at_130) rfl ?_
      show Steps p.tables e below (T16.setTop (mkF m 132 #[.val (.int x0), .val (.int x1), .val (.int x2), .val (.int x3), .val (.int (73 : Int32)), .val (.ref a_IN_PLACE), .val (.ref b16), .unset, .unset] [(.int (73 : Int32)), (.int (0 : Int32)), (.ref b16)])) _
      refine XS.i2b X16.here hx rfl (hb hby at_132) rfl ?_
      exact k)
    obtain ⟨cl24, Ar24, q24, Sz24, Ng24, Hs24, G24⟩ := id VV16
    have hin24 : ¬ ((0 : Int32) < 0 ∨ cl24.slots.size ≤ ((0 : Int32)).toNatClampNeg) := inb_of Sz24 (⟨by decide, by decide⟩)
    obtain ⟨T24, h24, X24, e24, W24, st24⟩ := stB X16 hx hZ e16 Ar24 (j := (0 : Int32)) hin24 (g := (mkF m 133 #[.val (.int x0), .val (.int x1), .val (.int x2), .val (.int x3), .val (.int (73 : Int32)), .val (.ref a_IN_PLACE), .val (.ref b16), .unset, .unset] [(.int ((73 : Int32).toInt8.toInt32)), (.int (0 : Int32)), (.ref b16)])) rfl rfl (hb hby at_133)
    have VV24 : Arv Z h24 b16 k16 .byte (1 : Int32) [(.int (((73 : Int32).toInt8.toInt32).toInt8.toInt32))] (.int (0 : Int32)) := Arv.set Ar24 q24 Sz24 Ng24 Hs24 G24 (fits_nar_byte _) W24 0 (by decide) (Nat.le_of_ble_eq_true rfl)
    have f25 := f17.wr W24 gn_b16
    have f26 := f18.wr W24
    have f27 := f19.wr W24
    have f28 := f20.wr W24
    have f29 := f21.wr W24
    have Z24 := Nat.le_trans Z16 (Keep.of_wr W24).1
    have N24 := Fr.snoc X24 N0 gn_b16
    have p30 : ∀ t, Steps p.tables e below (T24.setTop (mkF m 134 #[.val (.int x0), .val (.int x1), .val (.int x2), .val (.int x3), .val (.int (73 : Int32)), .val (.ref a_IN_PLACE), .val (.ref b16), .unset, .unset] [])) t → Steps p.tables e below (s₁.setTop (entryFrame m #[(.int x0), (.int x1), (.int x2), (.int x3)] maxLocals)) t := fun t k => p23 t (st24 t k)
    have p31 : ∀ t, Steps p.tables e below (T24.setTop (mkF m 135 #[.val (.int x0), .val (.int x1), .val (.int x2), .val (.int x3), .val (.int (73 : Int32)), .val (.ref a_IN_PLACE), .val (.ref b16), .unset, .unset] [(.int (4 : Int32))])) t → Steps p.tables e below (s₁.setTop (entryFrame m #[(.int x0), (.int x1), (.int x2), (.int x3)] maxLocals)) t := fun t k => p30 t (by
      show Steps p.tables e below (T24.setTop (mkF m 134 #[.val (.int x0), .val (.int x1), .val (.int x2), .val (.int x3), .val (.int (73 : Int32)), .val (.ref a_IN_PLACE), .val (.ref b16), .unset, .unset] [])) _
      refine XS.iconst X24.here hx rfl (hb hby at_134) ?_
      exact k)
    obtain ⟨T32, h32, k32, X32, e32, E32, A32, st32⟩ := newP X24 hx hZ (hw _ (List.mem_of_getElem? (i := 3) rfl)) e24 (g := (mkF m 135 #[.val (.int x0), .val (.int x1), .val (.int x2), .val (.int x3), .val (.int (73 : Int32)), .val (.ref a_IN_PLACE), .val (.ref b16), .unset, .unset] [(.int (4 : Int32))])) rfl (hb hby at_135) rfl (by decide) (cap := 4) (by decide) (by decide) (by decide) (by decide)
    obtain ⟨b32, g32⟩ : ∃ z, z = h24.size := ⟨_, rfl⟩
    rw [← g32] at A32 st32
    have gn_b32 : n0 ≤ b32 := Nat.le_trans Z24 (Nat.le_of_eq g32.symm)
    have ne33 : b16 ≠ b32 := Nat.ne_of_lt (Nat.lt_of_lt_of_le VV24.lt (Nat.le_of_eq g32.symm))
    have f34 := f25.ext E32
    have f35 := f26.ext E32
    have f36 := f27.ext E32
    have f37 := f28.ext E32
    have f38 := f29.ext E32
    have f39 := VV24.ext E32
    have Z32 := Nat.le_trans Z24 E32.1
    have VV32 : Arv Z h32 b32 k32 .byte (4 : Int32) [(.int (0 : Int32)), (.int (0 : Int32)), (.int (0 : Int32)), (.int (0 : Int32))] (.int (0 : Int32)) := (Arv.new A32 (by decide)).pad (pad_rep [] (.int (0 : Int32)) 4)
    have p40 : ∀ t, Steps p.tables e below (T32.setTop (mkF m 137 #[.val (.int x0), .val (.int x1), .val (.int x2), .val (.int x3), .val (.int (73 : Int32)), .val (.ref a_IN_PLACE), .val (.ref b16), .unset, .unset] [(.ref b32)])) t → Steps p.tables e below (s₁.setTop (entryFrame m #[(.int x0), (.int x1), (.int x2), (.int x3)] maxLocals)) t := fun t k => p31 t (st32 t k)
    have p41 : ∀ t, Steps p.tables e below (T32.setTop (mkF m 145 #[.val (.int x0), .val (.int x1), .val (.int x2), .val (.int x3), .val (.int (73 : Int32)), .val (.ref a_IN_PLACE), .val (.ref b16), .val (.ref b32), .unset] [(.int ((73 : Int32).toInt8.toInt32)), (.int (0 : Int32)), (.ref b32)])) t → Steps p.tables e below (s₁.setTop (entryFrame m #[(.int x0), (.int x1), (.int x2), (.int x3)] maxLocals)) t := fun t k => p40 t (by
      show Steps p.tables e below (T32.setTop (mkF m 137 #[.val (.int x0), .val (.int x1), .val (.int x2), .val (.int x3), .val (.int (73 : Int32)), .val (.ref a_IN_PLACE), .val (.ref b16), .unset, .unset] [(.ref b32)])) _
      refine XS.astore X32.here hx rfl (hb hby at_137) rfl rfl (l' := #[.val (.int x0), .val (.int x1), .val (.int x2), .val (.int x3), .val (.int (73 : Int32)), .val (.ref a_IN_PLACE), .val (.ref b16), .val (.ref b32), .unset]) rfl ?_
      show Steps p.tables e below (T32.setTop (mkF m 139 #[.val (.int x0), .val (.int x1), .val (.int x2), .val (.int x3), .val (.int (73 : Int32)), .val (.ref a_IN_PLACE), .val (.ref b16), .val (.ref b32), .unset] [])) _
      refine XS.aload X32.here hx rfl (hb hby at_139) rfl rfl ?_
      show Steps p.tables e below (T32.setTop (mkF m 141 #[.val (.int x0), .val (.int x1), .val (.int x2), .val (.int x3), .val (.int (73 : Int32)), .val (.ref a_IN_PLACE), .val (.ref b16), .val (.ref b32), .unset] [(.ref b32)])) _
      refine XS.iconst X32.here hx rfl (hb hby at_141) ?_
      show Steps p.tables e below (T32.setTop (mkF m 142 #[.val (.int x0), .val (.int x1), .val (.int x2), .val (.int x3), .val (.int (73 : Int32)), .val (.ref a_IN_PLACE), .val (.ref b16), .val (.ref b32), .unset] [(.int (0 : Int32)), (.ref b32)])) _
      refine XS.iload X32.here hx rfl (hb hby at_142) rfl ?_
      show Steps p.tables e below (T32.setTop (mkF m 144 #[.val (.int x0), .val (.int x1), .val (.int x2), .val (.int x3), .val (.int (73 : Int32)), .val (.ref a_IN_PLACE), .val (.ref b16), .val (.ref b32), .unset] [(.int (73 : Int32)), (.int (0 : Int32)), (.ref b32)])) _
      refine XS.i2b X32.here hx rfl (hb hby at_144) rfl ?_
      exact k)
    obtain ⟨cl42, Ar42, q42, Sz42, Ng42, Hs42, G42⟩ := id VV32
    have hin42 : ¬ ((0 : Int32) < 0 ∨ cl42.slots.size ≤ ((0 : Int32)).toNatClampNeg) := inb_of Sz42 (⟨by decide, by decide⟩)
    obtain ⟨T42, h42, X42, e42, W42, st42⟩ := stB X32 hx hZ e32 Ar42 (j := (0 : Int32)) hin42 (g := (mkF m 145 #[.val (.int x0), .val (.int x1), .val (.int x2), .val (.int x3), .val (.int (73 : Int32)), .val (.ref a_IN_PLACE), .val (.ref b16), .val (.ref b32), .unset] [(.int ((73 : Int32).toInt8.toInt32)), (.int (0 : Int32)), (.ref b32)])) rfl rfl (hb hby at_145)
    have VV42 : Arv Z h42 b32 k32 .byte (4 : Int32) [(.int (((73 : Int32).toInt8.toInt32).toInt8.toInt32)), (.int (0 : Int32)), (.int (0 : Int32)), (.int (0 : Int32))] (.int (0 : Int32)) := Arv.set Ar42 q42 Sz42 Ng42 Hs42 G42 (fits_nar_byte _) W42 0 (by decide) (Nat.le_of_ble_eq_true rfl)
    have f43 := f34.wr W42 gn_b32
    have f44 := f35.wr W42
    have f45 := f36.wr W42
    have f46 := f37.wr W42
    have f47 := f38.wr W42
    have f48 := f39.other W42 ne33
    have Z42 := Nat.le_trans Z32 (Keep.of_wr W42).1
    have N42 := Fr.snoc X42 N24 gn_b32
    have p49 : ∀ t, Steps p.tables e below (T42.setTop (mkF m 146 #[.val (.int x0), .val (.int x1), .val (.int x2), .val (.int x3), .val (.int (73 : Int32)), .val (.ref a_IN_PLACE), .val (.ref b16), .val (.ref b32), .unset] [])) t → Steps p.tables e below (s₁.setTop (entryFrame m #[(.int x0), (.int x1), (.int x2), (.int x3)] maxLocals)) t := fun t k => p41 t (st42 t k)
    have p50 : ∀ t, Steps p.tables e below (T42.setTop (mkF m 151 #[.val (.int x0), .val (.int x1), .val (.int x2), .val (.int x3), .val (.int (73 : Int32)), .val (.ref a_IN_PLACE), .val (.ref b16), .val (.ref b32), .unset] [(.int (x2.toInt8.toInt32)), (.int (1 : Int32)), (.ref b32)])) t → Steps p.tables e below (s₁.setTop (entryFrame m #[(.int x0), (.int x1), (.int x2), (.int x3)] maxLocals)) t := fun t k => p49 t (by
      show Steps p.tables e below (T42.setTop (mkF m 146 #[.val (.int x0), .val (.int x1), .val (.int x2), .val (.int x3), .val (.int (73 : Int32)), .val (.ref a_IN_PLACE), .val (.ref b16), .val (.ref b32), .unset] [])) _
      refine XS.aload X42.here hx rfl (hb hby at_146) rfl rfl ?_
      show Steps p.tables e below (T42.setTop (mkF m 148 #[.val (.int x0), .val (.int x1), .val (.int x2), .val (.int x3), .val (.int (73 : Int32)), .val (.ref a_IN_PLACE), .val (.ref b16), .val (.ref b32), .unset] [(.ref b32)])) _
      refine XS.iconst X42.here hx rfl (hb hby at_148) ?_
      show Steps p.tables e below (T42.setTop (mkF m 149 #[.val (.int x0), .val (.int x1), .val (.int x2), .val (.int x3), .val (.int (73 : Int32)), .val (.ref a_IN_PLACE), .val (.ref b16), .val (.ref b32), .unset] [(.int (1 : Int32)), (.ref b32)])) _
      refine XS.iloadN X42.here hx rfl (hb hby at_149) rfl ?_
      show Steps p.tables e below (T42.setTop (mkF m 150 #[.val (.int x0), .val (.int x1), .val (.int x2), .val (.int x3), .val (.int (73 : Int32)), .val (.ref a_IN_PLACE), .val (.ref b16), .val (.ref b32), .unset] [(.int x2), (.int (1 : Int32)), (.ref b32)])) _
      refine XS.i2b X42.here hx rfl (hb hby at_150) rfl ?_
      exact k)
    obtain ⟨cl51, Ar51, q51, Sz51, Ng51, Hs51, G51⟩ := id VV42
    have hin51 : ¬ ((1 : Int32) < 0 ∨ cl51.slots.size ≤ ((1 : Int32)).toNatClampNeg) := inb_of Sz51 (⟨by decide, by decide⟩)
    obtain ⟨T51, h51, X51, e51, W51, st51⟩ := stB X42 hx hZ e42 Ar51 (j := (1 : Int32)) hin51 (g := (mkF m 151 #[.val (.int x0), .val (.int x1), .val (.int x2), .val (.int x3), .val (.int (73 : Int32)), .val (.ref a_IN_PLACE), .val (.ref b16), .val (.ref b32), .unset] [(.int (x2.toInt8.toInt32)), (.int (1 : Int32)), (.ref b32)])) rfl rfl (hb hby at_151)
    have VV51 : Arv Z h51 b32 k32 .byte (4 : Int32) [(.int (((73 : Int32).toInt8.toInt32).toInt8.toInt32)), (.int ((x2.toInt8.toInt32).toInt8.toInt32)), (.int (0 : Int32)), (.int (0 : Int32))] (.int (0 : Int32)) := Arv.set Ar51 q51 Sz51 Ng51 Hs51 G51 (fits_nar_byte _) W51 1 (by decide) (Nat.le_of_ble_eq_true rfl)
    have f52 := f43.wr W51 gn_b32
    have f53 := f44.wr W51
    have f54 := f45.wr W51
    have f55 := f46.wr W51
    have f56 := f47.wr W51
    have f57 := f48.other W51 ne33
    have Z51 := Nat.le_trans Z42 (Keep.of_wr W51).1
    have N51 := Fr.snoc X51 N42 gn_b32
    have p58 : ∀ t, Steps p.tables e below (T51.setTop (mkF m 152 #[.val (.int x0), .val (.int x1), .val (.int x2), .val (.int x3), .val (.int (73 : Int32)), .val (.ref a_IN_PLACE), .val (.ref b16), .val (.ref b32), .unset] [])) t → Steps p.tables e below (s₁.setTop (entryFrame m #[(.int x0), (.int x1), (.int x2), (.int x3)] maxLocals)) t := fun t k => p50 t (st51 t k)
    have p59 : ∀ t, Steps p.tables e below (T51.setTop (mkF m 160 #[.val (.int x0), .val (.int x1), .val (.int x2), .val (.int x3), .val (.int (73 : Int32)), .val (.ref a_IN_PLACE), .val (.ref b16), .val (.ref b32), .unset] [(.int ((x2 >>> ((8 : Int32) &&& 31)).toInt8.toInt32)), (.int (2 : Int32)), (.ref b32)])) t → Steps p.tables e below (s₁.setTop (entryFrame m #[(.int x0), (.int x1), (.int x2), (.int x3)] maxLocals)) t := fun t k => p58 t (by
      show Steps p.tables e below (T51.setTop (mkF m 152 #[.val (.int x0), .val (.int x1), .val (.int x2), .val (.int x3), .val (.int (73 : Int32)), .val (.ref a_IN_PLACE), .val (.ref b16), .val (.ref b32), .unset] [])) _
      refine XS.aload X51.here hx rfl (hb hby at_152) rfl rfl ?_
      show Steps p.tables e below (T51.setTop (mkF m 154 #[.val (.int x0), .val (.int x1), .val (.int x2), .val (.int x3), .val (.int (73 : Int32)), .val (.ref a_IN_PLACE), .val (.ref b16), .val (.ref b32), .unset] [(.ref b32)])) _
      refine XS.iconst X51.here hx rfl (hb hby at_154) ?_
      show Steps p.tables e below (T51.setTop (mkF m 155 #[.val (.int x0), .val (.int x1), .val (.int x2), .val (.int x3), .val (.int (73 : Int32)), .val (.ref a_IN_PLACE), .val (.ref b16), .val (.ref b32), .unset] [(.int (2 : Int32)), (.ref b32)])) _
      refine XS.iloadN X51.here hx rfl (hb hby at_155) rfl ?_
      show Steps p.tables e below (T51.setTop (mkF m 156 #[.val (.int x0), .val (.int x1), .val (.int x2), .val (.int x3), .val (.int (73 : Int32)), .val (.ref a_IN_PLACE), .val (.ref b16), .val (.ref b32), .unset] [(.int x2), (.int (2 : Int32)), (.ref b32)])) _
      refine XS.bipush X51.here hx rfl (hb hby at_156) ?_
      show Steps p.tables e below (T51.setTop (mkF m 158 #[.val (.int x0), .val (.int x1), .val (.int x2), .val (.int x3), .val (.int (73 : Int32)), .val (.ref a_IN_PLACE), .val (.ref b16), .val (.ref b32), .unset] [(.int (8 : Int32)), (.int x2), (.int (2 : Int32)), (.ref b32)])) _
      refine XS.ishr X51.here hx rfl (hb hby at_158) rfl ?_
      show Steps p.tables e below (T51.setTop (mkF m 159 #[.val (.int x0), .val (.int x1), .val (.int x2), .val (.int x3), .val (.int (73 : Int32)), .val (.ref a_IN_PLACE), .val (.ref b16), .val (.ref b32), .unset] [(.int (x2 >>> ((8 : Int32) &&& 31))), (.int (2 : Int32)), (.ref b32)])) _
      refine XS.i2b X51.here hx rfl (hb hby at_159) rfl ?_
      exact k)
    obtain ⟨cl60, Ar60, q60, Sz60, Ng60, Hs60, G60⟩ := id VV51
    have hin60 : ¬ ((2 : Int32) < 0 ∨ cl60.slots.size ≤ ((2 : Int32)).toNatClampNeg) := inb_of Sz60 (⟨by decide, by decide⟩)
    obtain ⟨T60, h60, X60, e60, W60, st60⟩ := stB X51 hx hZ e51 Ar60 (j := (2 : Int32)) hin60 (g := (mkF m 160 #[.val (.int x0), .val (.int x1), .val (.int x2), .val (.int x3), .val (.int (73 : Int32)), .val (.ref a_IN_PLACE), .val (.ref b16), .val (.ref b32), .unset] [(.int ((x2 >>> ((8 : Int32) &&& 31)).toInt8.toInt32)), (.int (2 : Int32)), (.ref b32)])) rfl rfl (hb hby at_160)
    have VV60 : Arv Z h60 b32 k32 .byte (4 : Int32) [(.int (((73 : Int32).toInt8.toInt32).toInt8.toInt32)), (.int ((x2.toInt8.toInt32).toInt8.toInt32)), (.int (((x2 >>> ((8 : Int32) &&& 31)).toInt8.toInt32).toInt8.toInt32)), (.int (0 : Int32))] (.int (0 : Int32)) := Arv.set Ar60 q60 Sz60 Ng60 Hs60 G60 (fits_nar_byte _) W60 2 (by decide) (Nat.le_of_ble_eq_true rfl)
    have f61 := f52.wr W60 gn_b32
    have f62 := f53.wr W60
    have f63 := f54.wr W60
    have f64 := f55.wr W60
    have f65 := f56.wr W60
    have f66 := f57.other W60 ne33
    have Z60 := Nat.le_trans Z51 (Keep.of_wr W60).1
    have N60 := Fr.snoc X60 N51 gn_b32
    have p67 : ∀ t, Steps p.tables e below (T60.setTop (mkF m 161 #[.val (.int x0), .val (.int x1), .val (.int x2), .val (.int x3), .val (.int (73 : Int32)), .val (.ref a_IN_PLACE), .val (.ref b16), .val (.ref b32), .unset] [])) t → Steps p.tables e below (s₁.setTop (entryFrame m #[(.int x0), (.int x1), (.int x2), (.int x3)] maxLocals)) t := fun t k => p59 t (st60 t k)
    have p68 : ∀ t, Steps p.tables e below (T60.setTop (mkF m 169 #[.val (.int x0), .val (.int x1), .val (.int x2), .val (.int x3), .val (.int (73 : Int32)), .val (.ref a_IN_PLACE), .val (.ref b16), .val (.ref b32), .unset] [(.int ((x2 >>> ((16 : Int32) &&& 31)).toInt8.toInt32)), (.int (3 : Int32)), (.ref b32)])) t → Steps p.tables e below (s₁.setTop (entryFrame m #[(.int x0), (.int x1), (.int x2), (.int x3)] maxLocals)) t := fun t k => p67 t (by
      show Steps p.tables e below (T60.setTop (mkF m 161 #[.val (.int x0), .val (.int x1), .val (.int x2), .val (.int x3), .val (.int (73 : Int32)), .val (.ref a_IN_PLACE), .val (.ref b16), .val (.ref b32), .unset] [])) _
      refine XS.aload X60.here hx rfl (hb hby at_161) rfl rfl ?_
      show Steps p.tables e below (T60.setTop (mkF m 163 #[.val (.int x0), .val (.int x1), .val (.int x2), .val (.int x3), .val (.int (73 : Int32)), .val (.ref a_IN_PLACE), .val (.ref b16), .val (.ref b32), .unset] [(.ref b32)])) _
      refine XS.iconst X60.here hx rfl (hb hby at_163) ?_
      show Steps p.tables e below (T60.setTop (mkF m 164 #[.val (.int x0), .val (.int x1), .val (.int x2), .val (.int x3), .val (.int (73 : Int32)), .val (.ref a_IN_PLACE), .val (.ref b16), .val (.ref b32), .unset] [(.int (3 : Int32)), (.ref b32)])) _
      refine XS.iloadN X60.here hx rfl (hb hby at_164) rfl ?_
      show Steps p.tables e below (T60.setTop (mkF m 165 #[.val (.int x0), .val (.int x1), .val (.int x2), .val (.int x3), .val (.int (73 : Int32)), .val (.ref a_IN_PLACE), .val (.ref b16), .val (.ref b32), .unset] [(.int x2), (.int (3 : Int32)), (.ref b32)])) _
      refine XS.bipush X60.here hx rfl (hb hby at_165) ?_
      show Steps p.tables e below (T60.setTop (mkF m 167 #[.val (.int x0), .val (.int x1), .val (.int x2), .val (.int x3), .val (.int (73 : Int32)), .val (.ref a_IN_PLACE), .val (.ref b16), .val (.ref b32), .unset] [(.int (16 : Int32)), (.int x2), (.int (3 : Int32)), (.ref b32)])) _
      refine XS.ishr X60.here hx rfl (hb hby at_167) rfl ?_
      show Steps p.tables e below (T60.setTop (mkF m 168 #[.val (.int x0), .val (.int x1), .val (.int x2), .val (.int x3), .val (.int (73 : Int32)), .val (.ref a_IN_PLACE), .val (.ref b16), .val (.ref b32), .unset] [(.int (x2 >>> ((16 : Int32) &&& 31))), (.int (3 : Int32)), (.ref b32)])) _
      refine XS.i2b X60.here hx rfl (hb hby at_168) rfl ?_
      exact k)
    obtain ⟨cl69, Ar69, q69, Sz69, Ng69, Hs69, G69⟩ := id VV60
    have hin69 : ¬ ((3 : Int32) < 0 ∨ cl69.slots.size ≤ ((3 : Int32)).toNatClampNeg) := inb_of Sz69 (⟨by decide, by decide⟩)
    obtain ⟨T69, h69, X69, e69, W69, st69⟩ := stB X60 hx hZ e60 Ar69 (j := (3 : Int32)) hin69 (g := (mkF m 169 #[.val (.int x0), .val (.int x1), .val (.int x2), .val (.int x3), .val (.int (73 : Int32)), .val (.ref a_IN_PLACE), .val (.ref b16), .val (.ref b32), .unset] [(.int ((x2 >>> ((16 : Int32) &&& 31)).toInt8.toInt32)), (.int (3 : Int32)), (.ref b32)])) rfl rfl (hb hby at_169)
    have VV69 : Arv Z h69 b32 k32 .byte (4 : Int32) [(.int (((73 : Int32).toInt8.toInt32).toInt8.toInt32)), (.int ((x2.toInt8.toInt32).toInt8.toInt32)), (.int (((x2 >>> ((8 : Int32) &&& 31)).toInt8.toInt32).toInt8.toInt32)), (.int (((x2 >>> ((16 : Int32) &&& 31)).toInt8.toInt32).toInt8.toInt32))] (.int (0 : Int32)) := Arv.set Ar69 q69 Sz69 Ng69 Hs69 G69 (fits_nar_byte _) W69 3 (by decide) (Nat.le_of_ble_eq_true rfl)
    have f70 := f61.wr W69 gn_b32
    have f71 := f62.wr W69
    have f72 := f63.wr W69
    have f73 := f64.wr W69
    have f74 := f65.wr W69
    have f75 := f66.other W69 ne33
    have Z69 := Nat.le_trans Z60 (Keep.of_wr W69).1
    have N69 := Fr.snoc X69 N60 gn_b32
    have p76 : ∀ t, Steps p.tables e below (T69.setTop (mkF m 170 #[.val (.int x0), .val (.int x1), .val (.int x2), .val (.int x3), .val (.int (73 : Int32)), .val (.ref a_IN_PLACE), .val (.ref b16), .val (.ref b32), .unset] [])) t → Steps p.tables e below (s₁.setTop (entryFrame m #[(.int x0), (.int x1), (.int x2), (.int x3)] maxLocals)) t := fun t k => p68 t (st69 t k)
    have p77 : ∀ t, Steps p.tables e below (T69.setTop (mkF m 173 #[.val (.int x0), .val (.int x1), .val (.int x2), .val (.int x3), .val (.int (73 : Int32)), .val (.ref a_IN_PLACE), .val (.ref b16), .val (.ref b32), .unset] [(.int (x3 &&& (2 : Int32)))])) t → Steps p.tables e below (s₁.setTop (entryFrame m #[(.int x0), (.int x1), (.int x2), (.int x3)] maxLocals)) t := fun t k => p76 t (by
      show Steps p.tables e below (T69.setTop (mkF m 170 #[.val (.int x0), .val (.int x1), .val (.int x2), .val (.int x3), .val (.int (73 : Int32)), .val (.ref a_IN_PLACE), .val (.ref b16), .val (.ref b32), .unset] [])) _
      refine XS.iloadN X69.here hx rfl (hb hby at_170) rfl ?_
      show Steps p.tables e below (T69.setTop (mkF m 171 #[.val (.int x0), .val (.int x1), .val (.int x2), .val (.int x3), .val (.int (73 : Int32)), .val (.ref a_IN_PLACE), .val (.ref b16), .val (.ref b32), .unset] [(.int x3)])) _
      refine XS.iconst X69.here hx rfl (hb hby at_171) ?_
      show Steps p.tables e below (T69.setTop (mkF m 172 #[.val (.int x0), .val (.int x1), .val (.int x2), .val (.int x3), .val (.int (73 : Int32)), .val (.ref a_IN_PLACE), .val (.ref b16), .val (.ref b32), .unset] [(.int (2 : Int32)), (.int x3)])) _
      refine XS.iand X69.here hx rfl (hb hby at_172) rfl ?_
      exact k)
    by_cases hc173 : (x3 &&& (2 : Int32)) = (0 : Int32)
    · have p78 : ∀ t, Steps p.tables e below (T69.setTop (mkF m 187 #[.val (.int x0), .val (.int x1), .val (.int x2), .val (.int x3), .val (.int (73 : Int32)), .val (.ref a_IN_PLACE), .val (.ref b16), .val (.ref b32), .val (.ref b16)] [(.ref b16)])) t → Steps p.tables e below (s₁.setTop (entryFrame m #[(.int x0), (.int x1), (.int x2), (.int x3)] maxLocals)) t := fun t k => p77 t (by
        show Steps p.tables e below (T69.setTop (mkF m 173 #[.val (.int x0), .val (.int x1), .val (.int x2), .val (.int x3), .val (.int (73 : Int32)), .val (.ref a_IN_PLACE), .val (.ref b16), .val (.ref b32), .unset] [(.int (x3 &&& (2 : Int32)))])) _
        refine XS.ifYes X69.here hx rfl (pc0 := 173) (pc' := 181) rfl (hb hby at_173) rfl ((if0 _ _).trans (teq (hc173)).1) (by decide) (by decide) ?_
        show Steps p.tables e below (T69.setTop (mkF m 181 #[.val (.int x0), .val (.int x1), .val (.int x2), .val (.int x3), .val (.int (73 : Int32)), .val (.ref a_IN_PLACE), .val (.ref b16), .val (.ref b32), .unset] [])) _
        refine XS.aload X69.here hx rfl (hb hby at_181) rfl rfl ?_
        show Steps p.tables e below (T69.setTop (mkF m 183 #[.val (.int x0), .val (.int x1), .val (.int x2), .val (.int x3), .val (.int (73 : Int32)), .val (.ref a_IN_PLACE), .val (.ref b16), .val (.ref b32), .unset] [(.ref b16)])) _
        refine XS.astore X69.here hx rfl (hb hby at_183) rfl rfl (l' := #[.val (.int x0), .val (.int x1), .val (.int x2), .val (.int x3), .val (.int (73 : Int32)), .val (.ref a_IN_PLACE), .val (.ref b16), .val (.ref b32), .val (.ref b16)]) rfl ?_
        show Steps p.tables e below (T69.setTop (mkF m 185 #[.val (.int x0), .val (.int x1), .val (.int x2), .val (.int x3), .val (.int (73 : Int32)), .val (.ref a_IN_PLACE), .val (.ref b16), .val (.ref b32), .val (.ref b16)] [])) _
        refine XS.aload X69.here hx rfl (hb hby at_185) rfl rfl ?_
        exact k)
      obtain ⟨_, _, ⟨T79, L79, k79, n79⟩, -, X79, ⟨Lc79, hQ79, l79, y79, z79⟩, st79⟩ := Jvm.LawKit.callS X69 hx (y := (⟨"com/example/disposition/disposition/store/Keys", "parseQueue", "([B)Lcom/example/disposition/disposition/store/JobQueue;"⟩ : MethodName)) hown (mvT hZ (hw _ (List.mem_of_getElem? (i := 4) rfl))) (mvT hZ (hw _ (List.mem_of_getElem? (i := 5) rfl))) (mvT hZ (hw _ (List.mem_of_getElem? (i := 6) rfl))) (mvT hZ (hw _ (List.mem_of_getElem? (i := 7) rfl))) (by decide) (backOf (W := 0) (rmq0 l Z a0 hw [] b16 a_V kk a_IN_PLACE a_STAYING a_RETAINED a_HELD (((73 : Int32).toInt8.toInt32).toInt8.toInt32) h69 n0 Z69 f70 S_V V_V E_V E_IN_PLACE E_STAYING E_RETAINED E_HELD F_IN_PLACE F_STAYING F_RETAINED F_HELD (own_B0.of f75 (by decide) rfl) (by decide)) hZ (hw _ (List.mem_of_getElem? (i := 7) rfl)) (hw _ (List.mem_of_getElem? (i := 6) rfl)) (by decide) (by decide)) (g := (mkF m 187 #[.val (.int x0), .val (.int x1), .val (.int x2), .val (.int x3), .val (.int (73 : Int32)), .val (.ref a_IN_PLACE), .val (.ref b16), .val (.ref b32), .val (.ref b16)] [(.ref b16)])) rfl (by rw [hml]; rfl) (argsL := [(.ref b16)]) (rest := []) (lenOf pd0_0 rfl) rfl (by show 2 * 0 + _ ≤ _; exact Nat.le_of_eq rfl) (hb hby at_187) (fun _ _ => ⟨rfl, e69, (by decide : 2 + 1 ≤ _), (by decide : 5 + 4 ≤ _)⟩)
      dsimp only [Pt.U, Pt.locs, Pt.cells, Pt.slots] at X79 l79 y79 z79 st79 hQ79
      subst l79 y79 z79
      obtain ⟨rfl, Nq79, K79⟩ := hQ79
      have N79 := Fr.app N69 Nq79
      have f80 := f70.keep K79 (all0)
      have Z79 := Nat.le_trans Z69 K79.1
      have p81 : ∀ t, Steps p.tables e below (T79.setTop (mkF m 190 #[.val (.int x0), .val (.int x1), .val (.int x2), .val (.int x3), .val (.int (73 : Int32)), .val (.ref a_IN_PLACE), .val (.ref b16), .val (.ref b32), .val (.ref b16)] [(.ref a_IN_PLACE)])) t → Steps p.tables e below (s₁.setTop (entryFrame m #[(.int x0), (.int x1), (.int x2), (.int x3)] maxLocals)) t := fun t k => p78 t (st79 _ k)
      have p82 : ∀ t, Steps p.tables e below (T79.setTop (mkF m 200 #[.val (.int x0), .val (.int x1), .val (.int x2), .val (.int x3), .val (.int (73 : Int32)), .val (.ref a_IN_PLACE), .val (.ref b16), .val (.ref b32), .val (.ref b16)] [(.int (1 : Int32))])) t → Steps p.tables e below (s₁.setTop (entryFrame m #[(.int x0), (.int x1), (.int x2), (.int x3)] maxLocals)) t := fun t k => p81 t (by
        show Steps p.tables e below (T79.setTop (mkF m 190 #[.val (.int x0), .val (.int x1), .val (.int x2), .val (.int x3), .val (.int (73 : Int32)), .val (.ref a_IN_PLACE), .val (.ref b16), .val (.ref b32), .val (.ref b16)] [(.ref a_IN_PLACE)])) _
        refine XS.aload X79.here hx rfl (hb hby at_190) rfl rfl ?_
        show Steps p.tables e below (T79.setTop (mkF m 192 #[.val (.int x0), .val (.int x1), .val (.int x2), .val (.int x3), .val (.int (73 : Int32)), .val (.ref a_IN_PLACE), .val (.ref b16), .val (.ref b32), .val (.ref b16)] [(.ref a_IN_PLACE), (.ref a_IN_PLACE)])) _
        refine Jvm.RoadKit.acmp (g := (mkF m 192 #[.val (.int x0), .val (.int x1), .val (.int x2), .val (.int x3), .val (.int (73 : Int32)), .val (.ref a_IN_PLACE), .val (.ref b16), .val (.ref b32), .val (.ref b16)] [(.ref a_IN_PLACE), (.ref a_IN_PLACE)])) X79 hx rfl rfl rfl (pc0 := 192) (pc' := 195) (same := true) rfl (hb hby at_192) rfl (decide_eq_true rfl) (by decide) (by decide) ?_
        show Steps p.tables e below (T79.setTop (mkF m 195 #[.val (.int x0), .val (.int x1), .val (.int x2), .val (.int x3), .val (.int (73 : Int32)), .val (.ref a_IN_PLACE), .val (.ref b16), .val (.ref b32), .val (.ref b16)] [])) _
        refine XS.iconst X79.here hx rfl (hb hby at_195) ?_
        show Steps p.tables e below (T79.setTop (mkF m 196 #[.val (.int x0), .val (.int x1), .val (.int x2), .val (.int x3), .val (.int (73 : Int32)), .val (.ref a_IN_PLACE), .val (.ref b16), .val (.ref b32), .val (.ref b16)] [(.int (1 : Int32))])) _
        refine XS.goto X79.here hx rfl (pc0 := 196) (pc' := 200) rfl (hb hby at_196) (by decide) (by decide) ?_
        exact k)
      obtain ⟨fs, hr, hrun, hended, hW, hsame⟩ := X79.leave (v := some (.int (1 : Int32))) (fun h => by rw [Bd.returns] at h; cases h)
      refine ⟨_, _, p82 _ ?_, hrun, hended, _, _, rfl, ?_, ⟨_, rfl⟩, hW, hsame.mono (by decide) (by decide)⟩
      · show Steps p.tables e below (T79.setTop (mkF m 200 #[.val (.int x0), .val (.int x1), .val (.int x2), .val (.int x3), .val (.int (73 : Int32)), .val (.ref a_IN_PLACE), .val (.ref b16), .val (.ref b32), .val (.ref b16)] [(.int (1 : Int32))])) _
        exact retN X79 hx (t := .boolean) Bd.returns (by simp) (hb hby at_200) hr
      · show Q0 Z x0 x1 x2 x3 a_V kk a_IN_PLACE a_STAYING a_RETAINED a_HELD h0 n0 _ T79.heap _
        skip
        exact ⟨rfl, N79⟩
    · have p83 : ∀ t, Steps p.tables e below (T69.setTop (mkF m 187 #[.val (.int x0), .val (.int x1), .val (.int x2), .val (.int x3), .val (.int (73 : Int32)), .val (.ref a_IN_PLACE), .val (.ref b16), .val (.ref b32), .val (.ref b32)] [(.ref b32)])) t → Steps p.tables e below (s₁.setTop (entryFrame m #[(.int x0), (.int x1), (.int x2), (.int x3)] maxLocals)) t := fun t k => p77 t (by
        show Steps p.tables e below (T69.setTop (mkF m 173 #[.val (.int x0), .val (.int x1), .val (.int x2), .val (.int x3), .val (.int (73 : Int32)), .val (.ref a_IN_PLACE), .val (.ref b16), .val (.ref b32), .unset] [(.int (x3 &&& (2 : Int32)))])) _
        refine XS.ifNo X69.here hx rfl (hb hby at_173) rfl ((if0 _ _).trans (feq (hc173)).1) ?_
        show Steps p.tables e below (T69.setTop (mkF m 176 #[.val (.int x0), .val (.int x1), .val (.int x2), .val (.int x3), .val (.int (73 : Int32)), .val (.ref a_IN_PLACE), .val (.ref b16), .val (.ref b32), .unset] [])) _
        refine XS.aload X69.here hx rfl (hb hby at_176) rfl rfl ?_
        show Steps p.tables e below (T69.setTop (mkF m 178 #[.val (.int x0), .val (.int x1), .val (.int x2), .val (.int x3), .val (.int (73 : Int32)), .val (.ref a_IN_PLACE), .val (.ref b16), .val (.ref b32), .unset] [(.ref b32)])) _
        refine XS.goto X69.here hx rfl (pc0 := 178) (pc' := 183) rfl (hb hby at_178) (by decide) (by decide) ?_
        show Steps p.tables e below (T69.setTop (mkF m 183 #[.val (.int x0), .val (.int x1), .val (.int x2), .val (.int x3), .val (.int (73 : Int32)), .val (.ref a_IN_PLACE), .val (.ref b16), .val (.ref b32), .unset] [(.ref b32)])) _
        refine XS.astore X69.here hx rfl (hb hby at_183) rfl rfl (l' := #[.val (.int x0), .val (.int x1), .val (.int x2), .val (.int x3), .val (.int (73 : Int32)), .val (.ref a_IN_PLACE), .val (.ref b16), .val (.ref b32), .val (.ref b32)]) rfl ?_
        show Steps p.tables e below (T69.setTop (mkF m 185 #[.val (.int x0), .val (.int x1), .val (.int x2), .val (.int x3), .val (.int (73 : Int32)), .val (.ref a_IN_PLACE), .val (.ref b16), .val (.ref b32), .val (.ref b32)] [])) _
        refine XS.aload X69.here hx rfl (hb hby at_185) rfl rfl ?_
        exact k)
      obtain ⟨_, _, ⟨T84, L84, k84, n84⟩, -, X84, ⟨Lc84, hQ84, l84, y84, z84⟩, st84⟩ := Jvm.LawKit.callS X69 hx (y := (⟨"com/example/disposition/disposition/store/Keys", "parseQueue", "([B)Lcom/example/disposition/disposition/store/JobQueue;"⟩ : MethodName)) hown (mvT hZ (hw _ (List.mem_of_getElem? (i := 4) rfl))) (mvT hZ (hw _ (List.mem_of_getElem? (i := 5) rfl))) (mvT hZ (hw _ (List.mem_of_getElem? (i := 6) rfl))) (mvT hZ (hw _ (List.mem_of_getElem? (i := 7) rfl))) (by decide) (backOf (W := 0) (rmq0 l Z a0 hw [] b32 a_V kk a_IN_PLACE a_STAYING a_RETAINED a_HELD (((73 : Int32).toInt8.toInt32).toInt8.toInt32) h69 n0 Z69 f70 S_V V_V E_V E_IN_PLACE E_STAYING E_RETAINED E_HELD F_IN_PLACE F_STAYING F_RETAINED F_HELD (own_B0.of VV69 (by decide) rfl) (by decide)) hZ (hw _ (List.mem_of_getElem? (i := 7) rfl)) (hw _ (List.mem_of_getElem? (i := 6) rfl)) (by decide) (by decide)) (g := (mkF m 187 #[.val (.int x0), .val (.int x1), .val (.int x2), .val (.int x3), .val (.int (73 : Int32)), .val (.ref a_IN_PLACE), .val (.ref b16), .val (.ref b32), .val (.ref b32)] [(.ref b32)])) rfl (by rw [hml]; rfl) (argsL := [(.ref b32)]) (rest := []) (lenOf pd0_0 rfl) rfl (by show 2 * 0 + _ ≤ _; exact Nat.le_of_eq rfl) (hb hby at_187) (fun _ _ => ⟨rfl, e69, (by decide : 2 + 1 ≤ _), (by decide : 5 + 4 ≤ _)⟩)
      dsimp only [Pt.U, Pt.locs, Pt.cells, Pt.slots] at X84 l84 y84 z84 st84 hQ84
      subst l84 y84 z84
      obtain ⟨rfl, Nq84, K84⟩ := hQ84
      have N84 := Fr.app N69 Nq84
      have f85 := f70.keep K84 (all0)
      have Z84 := Nat.le_trans Z69 K84.1
      have p86 : ∀ t, Steps p.tables e below (T84.setTop (mkF m 190 #[.val (.int x0), .val (.int x1), .val (.int x2), .val (.int x3), .val (.int (73 : Int32)), .val (.ref a_IN_PLACE), .val (.ref b16), .val (.ref b32), .val (.ref b32)] [(.ref a_IN_PLACE)])) t → Steps p.tables e below (s₁.setTop (entryFrame m #[(.int x0), (.int x1), (.int x2), (.int x3)] maxLocals)) t := fun t k => p83 t (st84 _ k)
      have p87 : ∀ t, Steps p.tables e below (T84.setTop (mkF m 200 #[.val (.int x0), .val (.int x1), .val (.int x2), .val (.int x3), .val (.int (73 : Int32)), .val (.ref a_IN_PLACE), .val (.ref b16), .val (.ref b32), .val (.ref b32)] [(.int (1 : Int32))])) t → Steps p.tables e below (s₁.setTop (entryFrame m #[(.int x0), (.int x1), (.int x2), (.int x3)] maxLocals)) t := fun t k => p86 t (by
        show Steps p.tables e below (T84.setTop (mkF m 190 #[.val (.int x0), .val (.int x1), .val (.int x2), .val (.int x3), .val (.int (73 : Int32)), .val (.ref a_IN_PLACE), .val (.ref b16), .val (.ref b32), .val (.ref b32)] [(.ref a_IN_PLACE)])) _
        refine XS.aload X84.here hx rfl (hb hby at_190) rfl rfl ?_
        show Steps p.tables e below (T84.setTop (mkF m 192 #[.val (.int x0), .val (.int x1), .val (.int x2), .val (.int x3), .val (.int (73 : Int32)), .val (.ref a_IN_PLACE), .val (.ref b16), .val (.ref b32), .val (.ref b32)] [(.ref a_IN_PLACE), (.ref a_IN_PLACE)])) _
        refine Jvm.RoadKit.acmp (g := (mkF m 192 #[.val (.int x0), .val (.int x1), .val (.int x2), .val (.int x3), .val (.int (73 : Int32)), .val (.ref a_IN_PLACE), .val (.ref b16), .val (.ref b32), .val (.ref b32)] [(.ref a_IN_PLACE), (.ref a_IN_PLACE)])) X84 hx rfl rfl rfl (pc0 := 192) (pc' := 195) (same := true) rfl (hb hby at_192) rfl (decide_eq_true rfl) (by decide) (by decide) ?_
        show Steps p.tables e below (T84.setTop (mkF m 195 #[.val (.int x0), .val (.int x1), .val (.int x2), .val (.int x3), .val (.int (73 : Int32)), .val (.ref a_IN_PLACE), .val (.ref b16), .val (.ref b32), .val (.ref b32)] [])) _
        refine XS.iconst X84.here hx rfl (hb hby at_195) ?_
        show Steps p.tables e below (T84.setTop (mkF m 196 #[.val (.int x0), .val (.int x1), .val (.int x2), .val (.int x3), .val (.int (73 : Int32)), .val (.ref a_IN_PLACE), .val (.ref b16), .val (.ref b32), .val (.ref b32)] [(.int (1 : Int32))])) _
        refine XS.goto X84.here hx rfl (pc0 := 196) (pc' := 200) rfl (hb hby at_196) (by decide) (by decide) ?_
        exact k)
      obtain ⟨fs, hr, hrun, hended, hW, hsame⟩ := X84.leave (v := some (.int (1 : Int32))) (fun h => by rw [Bd.returns] at h; cases h)
      refine ⟨_, _, p87 _ ?_, hrun, hended, _, _, rfl, ?_, ⟨_, rfl⟩, hW, hsame.mono (by decide) (by decide)⟩
      · show Steps p.tables e below (T84.setTop (mkF m 200 #[.val (.int x0), .val (.int x1), .val (.int x2), .val (.int x3), .val (.int (73 : Int32)), .val (.ref a_IN_PLACE), .val (.ref b16), .val (.ref b32), .val (.ref b32)] [(.int (1 : Int32))])) _
        exact retN X84 hx (t := .boolean) Bd.returns (by simp) (hb hby at_200) hr
      · show Q0 Z x0 x1 x2 x3 a_V kk a_IN_PLACE a_STAYING a_RETAINED a_HELD h0 n0 _ T84.heap _
        skip
        exact ⟨rfl, N84⟩
  · have p88 : ∀ t, Steps p.tables e below (s₁.setTop (mkF m 79 #[.val (.int x0), .val (.int x1), .val (.int x2), .val (.int x3), .val (.int vb), s5, .unset, .unset, .unset] [(.int (89 : Int32)), (.int vb)])) t → Steps p.tables e below (s₁.setTop (entryFrame m #[(.int x0), (.int x1), (.int x2), (.int x3)] maxLocals)) t := fun t k => p11 t (by
      show Steps p.tables e below (s₁.setTop (mkF m 64 #[.val (.int x0), .val (.int x1), .val (.int x2), .val (.int x3), .val (.int vb), s5, .unset, .unset, .unset] [(.int (73 : Int32)), (.int vb)])) _
      refine XS.icmpYes X0.here hx rfl (pc0 := 64) (pc' := 75) rfl (hb hby at_64) rfl ((feq (hc64)).2) (by decide) (by decide) ?_
      show Steps p.tables e below (s₁.setTop (mkF m 75 #[.val (.int x0), .val (.int x1), .val (.int x2), .val (.int x3), .val (.int vb), s5, .unset, .unset, .unset] [])) _
      refine XS.iload X0.here hx rfl (hb hby at_75) rfl ?_
      show Steps p.tables e below (s₁.setTop (mkF m 77 #[.val (.int x0), .val (.int x1), .val (.int x2), .val (.int x3), .val (.int vb), s5, .unset, .unset, .unset] [(.int vb)])) _
      refine XS.bipush X0.here hx rfl (hb hby at_77) ?_
      exact k)
    by_cases hc79 : vb = (89 : Int32)
    · have p89 : ∀ t, Steps p.tables e below (s₁.setTop (mkF m 82 #[.val (.int x0), .val (.int x1), .val (.int x2), .val (.int x3), .val (.int vb), s5, .unset, .unset, .unset] [])) t → Steps p.tables e below (s₁.setTop (entryFrame m #[(.int x0), (.int x1), (.int x2), (.int x3)] maxLocals)) t := fun t k => p88 t (by
        show Steps p.tables e below (s₁.setTop (mkF m 79 #[.val (.int x0), .val (.int x1), .val (.int x2), .val (.int x3), .val (.int vb), s5, .unset, .unset, .unset] [(.int (89 : Int32)), (.int vb)])) _
        refine XS.icmpNo X0.here hx rfl (hb hby at_79) rfl ((teq (hc79)).2) ?_
        exact k)
      subst hc79
      obtain ⟨T90, X90, e90, st90⟩ := getS2 X0 hx hZ hown (host := "") (Or.inl (hw _ (List.mem_of_getElem? (i := 33) rfl))) Via.refl e0 S_STAYING (g := (mkF m 82 #[.val (.int x0), .val (.int x1), .val (.int x2), .val (.int x3), .val (.int (89 : Int32)), s5, .unset, .unset, .unset] [])) rfl (hb hby at_82)
      have p91 : ∀ t, Steps p.tables e below (T90.setTop (mkF m 85 #[.val (.int x0), .val (.int x1), .val (.int x2), .val (.int x3), .val (.int (89 : Int32)), s5, .unset, .unset, .unset] [(.ref a_STAYING)])) t → Steps p.tables e below (s₁.setTop (entryFrame m #[(.int x0), (.int x1), (.int x2), (.int x3)] maxLocals)) t := fun t k => p89 t (st90 t k)
      have p92 : ∀ t, Steps p.tables e below (T90.setTop (mkF m 123 #[.val (.int x0), .val (.int x1), .val (.int x2), .val (.int x3), .val (.int (89 : Int32)), .val (.ref a_STAYING), .unset, .unset, .unset] [(.int (1 : Int32))])) t → Steps p.tables e below (s₁.setTop (entryFrame m #[(.int x0), (.int x1), (.int x2), (.int x3)] maxLocals)) t := fun t k => p91 t (by
        show Steps p.tables e below (T90.setTop (mkF m 85 #[.val (.int x0), .val (.int x1), .val (.int x2), .val (.int x3), .val (.int (89 : Int32)), s5, .unset, .unset, .unset] [(.ref a_STAYING)])) _
        refine XS.astore X90.here hx rfl (hb hby at_85) rfl rfl (l' := #[.val (.int x0), .val (.int x1), .val (.int x2), .val (.int x3), .val (.int (89 : Int32)), .val (.ref a_STAYING), .unset, .unset, .unset]) (XS.store1 rfl hvb rfl) ?_
        show Steps p.tables e below (T90.setTop (mkF m 87 #[.val (.int x0), .val (.int x1), .val (.int x2), .val (.int x3), .val (.int (89 : Int32)), .val (.ref a_STAYING), .unset, .unset, .unset] [])) _
        refine XS.goto X90.here hx rfl (pc0 := 87) (pc' := 122) rfl (hb hby at_87) (by decide) (by decide) ?_
        show Steps p.tables e below (T90.setTop (mkF m 122 #[.val (.int x0), .val (.int x1), .val (.int x2), .val (.int x3), .val (.int (89 : Int32)), .val (.ref a_STAYING), .unset, .unset, .unset] [])) _
        refine XS.iconst X90.here hx rfl (hb hby at_122) ?_
        exact k)
      obtain ⟨T93, h93, k93, X93, e93, E93, A93, st93⟩ := newP X90 hx hZ (hw _ (List.mem_of_getElem? (i := 3) rfl)) e90 (g := (mkF m 123 #[.val (.int x0), .val (.int x1), .val (.int x2), .val (.int x3), .val (.int (89 : Int32)), .val (.ref a_STAYING), .unset, .unset, .unset] [(.int (1 : Int32))])) rfl (hb hby at_123) rfl (by decide) (cap := 1) (by decide) (by decide) (by decide) (by decide)
      obtain ⟨b93, g93⟩ : ∃ z, z = h0.size := ⟨_, rfl⟩
      rw [← g93] at A93 st93
      have gn_b93 : n0 ≤ b93 := Nat.le_trans Z0 (Nat.le_of_eq g93.symm)
      have f94 := O0.ext E93
      have f95 := S_IN_PLACE.ext E93
      have f96 := S_STAYING.ext E93
      have f97 := S_RETAINED.ext E93
      have f98 := S_HELD.ext E93
      have Z93 := Nat.le_trans Z0 E93.1
      have VV93 : Arv Z h93 b93 k93 .byte (1 : Int32) [(.int (0 : Int32))] (.int (0 : Int32)) := (Arv.new A93 (by decide)).pad (pad_rep [] (.int (0 : Int32)) 1)
      have p99 : ∀ t, Steps p.tables e below (T93.setTop (mkF m 125 #[.val (.int x0), .val (.int x1), .val (.int x2), .val (.int x3), .val (.int (89 : Int32)), .val (.ref a_STAYING), .unset, .unset, .unset] [(.ref b93)])) t → Steps p.tables e below (s₁.setTop (entryFrame m #[(.int x0), (.int x1), (.int x2), (.int x3)] maxLocals)) t := fun t k => p92 t (st93 t k)
      have p100 : ∀ t, Steps p.tables e below (T93.setTop (mkF m 133 #[.val (.int x0), .val (.int x1), .val (.int x2), .val (.int x3), .val (.int (89 : Int32)), .val (.ref a_STAYING), .val (.ref b93), .unset, .unset] [(.int ((89 : Int32).toInt8.toInt32)), (.int (0 : Int32)), (.ref b93)])) t → Steps p.tables e below (s₁.setTop (entryFrame m #[(.int x0), (.int x1), (.int x2), (.int x3)] maxLocals)) t := fun t k => p99 t (by
        show Steps p.tables e below (T93.setTop (mkF m 125 #[.val (.int x0), .val (.int x1), .val (.int x2), .val (.int x3), .val (.int (89 : Int32)), .val (.ref a_STAYING), .unset, .unset, .unset] [(.ref b93)])) _
        refine XS.astore X93.here hx rfl (hb hby at_125) rfl rfl (l' := #[.val (.int x0), .val (.int x1), .val (.int x2), .val (.int x3), .val (.int (89 : Int32)), .val (.ref a_STAYING), .val (.ref b93), .unset, .unset]) rfl ?_
        show Steps p.tables e below (T93.setTop (mkF m 127 #[.val (.int x0), .val (.int x1), .val (.int x2), .val (.int x3), .val (.int (89 : Int32)), .val (.ref a_STAYING), .val (.ref b93), .unset, .unset] [])) _
        refine XS.aload X93.here hx rfl (hb hby at_127) rfl rfl ?_
        show Steps p.tables e below (T93.setTop (mkF m 129 #[.val (.int x0), .val (.int x1), .val (.int x2), .val (.int x3), .val (.int (89 : Int32)), .val (.ref a_STAYING), .val (.ref b93), .unset, .unset] [(.ref b93)])) _
        refine XS.iconst X93.here hx rfl (hb hby at_129) ?_
        show Steps p.tables e below (T93.setTop (mkF m 130 #[.val (.int x0), .val (.int x1), .val (.int x2), .val (.int x3), .val (.int (89 : Int32)), .val (.ref a_STAYING), .val (.ref b93), .unset, .unset] [(.int (0 : Int32)), (.ref b93)])) _
        refine XS.iload X93.here hx rfl (hb hby at_130) rfl ?_
        show Steps p.tables e below (T93.setTop (mkF m 132 #[.val (.int x0), .val (.int x1), .val (.int x2), .val (.int x3), .val (.int (89 : Int32)), .val (.ref a_STAYING), .val (.ref b93), .unset, .unset] [(.int (89 : Int32)), (.int (0 : Int32)), (.ref b93)])) _
        refine XS.i2b X93.here hx rfl (hb hby at_132) rfl ?_
        exact k)
      obtain ⟨cl101, Ar101, q101, Sz101, Ng101, Hs101, G101⟩ := id VV93
      have hin101 : ¬ ((0 : Int32) < 0 ∨ cl101.slots.size ≤ ((0 : Int32)).toNatClampNeg) := inb_of Sz101 (⟨by decide, by decide⟩)
      obtain ⟨T101, h101, X101, e101, W101, st101⟩ := stB X93 hx hZ e93 Ar101 (j := (0 : Int32)) hin101 (g := (mkF m 133 #[.val (.int x0), .val (.int x1), .val (.int x2), .val (.int x3), .val (.int (89 : Int32)), .val (.ref a_STAYING), .val (.ref b93), .unset, .unset] [(.int ((89 : Int32).toInt8.toInt32)), (.int (0 : Int32)), (.ref b93)])) rfl rfl (hb hby at_133)
      have VV101 : Arv Z h101 b93 k93 .byte (1 : Int32) [(.int (((89 : Int32).toInt8.toInt32).toInt8.toInt32))] (.int (0 : Int32)) := Arv.set Ar101 q101 Sz101 Ng101 Hs101 G101 (fits_nar_byte _) W101 0 (by decide) (Nat.le_of_ble_eq_true rfl)
      have f102 := f94.wr W101 gn_b93
      have f103 := f95.wr W101
      have f104 := f96.wr W101
      have f105 := f97.wr W101
      have f106 := f98.wr W101
      have Z101 := Nat.le_trans Z93 (Keep.of_wr W101).1
      have N101 := Fr.snoc X101 N0 gn_b93
      have p107 : ∀ t, Steps p.tables e below (T101.setTop (mkF m 134 #[.val (.int x0), .val (.int x1), .val (.int x2), .val (.int x3), .val (.int (89 : Int32)), .val (.ref a_STAYING), .val (.ref b93), .unset, .unset] [])) t → Steps p.tables e below (s₁.setTop (entryFrame m #[(.int x0), (.int x1), (.int x2), (.int x3)] maxLocals)) t := fun t k => p100 t (st101 t k)
      have p108 : ∀ t, Steps p.tables e below (T101.setTop (mkF m 135 #[.val (.int x0), .val (.int x1), .val (.int x2), .val (.int x3), .val (.int (89 : Int32)), .val (.ref a_STAYING), .val (.ref b93), .unset, .unset] [(.int (4 : Int32))])) t → Steps p.tables e below (s₁.setTop (entryFrame m #[(.int x0), (.int x1), (.int x2), (.int x3)] maxLocals)) t := fun t k => p107 t (by
        show Steps p.tables e below (T101.setTop (mkF m 134 #[.val (.int x0), .val (.int x1), .val (.int x2), .val (.int x3), .val (.int (89 : Int32)), .val (.ref a_STAYING), .val (.ref b93), .unset, .unset] [])) _
        refine XS.iconst X101.here hx rfl (hb hby at_134) ?_
        exact k)
      obtain ⟨T109, h109, k109, X109, e109, E109, A109, st109⟩ := newP X101 hx hZ (hw _ (List.mem_of_getElem? (i := 3) rfl)) e101 (g := (mkF m 135 #[.val (.int x0), .val (.int x1), .val (.int x2), .val (.int x3), .val (.int (89 : Int32)), .val (.ref a_STAYING), .val (.ref b93), .unset, .unset] [(.int (4 : Int32))])) rfl (hb hby at_135) rfl (by decide) (cap := 4) (by decide) (by decide) (by decide) (by decide)
      obtain ⟨b109, g109⟩ : ∃ z, z = h101.size := ⟨_, rfl⟩
      rw [← g109] at A109 st109
      have gn_b109 : n0 ≤ b109 := Nat.le_trans Z101 (Nat.le_of_eq g109.symm)
      have ne110 : b93 ≠ b109 := Nat.ne_of_lt (Nat.lt_of_lt_of_le VV101.lt (Nat.le_of_eq g109.symm))
      have f111 := f102.ext E109
      have f112 := f103.ext E109
      have f113 := f104.ext E109
      have f114 := f105.ext E109
      have f115 := f106.ext E109
      have f116 := VV101.ext E109
      have Z109 := Nat.le_trans Z101 E109.1
      have VV109 : Arv Z h109 b109 k109 .byte (4 : Int32) [(.int (0 : Int32)), (.int (0 : Int32)), (.int (0 : Int32)), (.int (0 : Int32))] (.int (0 : Int32)) := (Arv.new A109 (by decide)).pad (pad_rep [] (.int (0 : Int32)) 4)
      have p117 : ∀ t, Steps p.tables e below (T109.setTop (mkF m 137 #[.val (.int x0), .val (.int x1), .val (.int x2), .val (.int x3), .val (.int (89 : Int32)), .val (.ref a_STAYING), .val (.ref b93), .unset, .unset] [(.ref b109)])) t → Steps p.tables e below (s₁.setTop (entryFrame m #[(.int x0), (.int x1), (.int x2), (.int x3)] maxLocals)) t := fun t k => p108 t (st109 t k)
      have p118 : ∀ t, Steps p.tables e below (T109.setTop (mkF m 145 #[.val (.int x0), .val (.int x1), .val (.int x2), .val (.int x3), .val (.int (89 : Int32)), .val (.ref a_STAYING), .val (.ref b93), .val (.ref b109), .unset] [(.int ((89 : Int32).toInt8.toInt32)), (.int (0 : Int32)), (.ref b109)])) t → Steps p.tables e below (s₁.setTop (entryFrame m #[(.int x0), (.int x1), (.int x2), (.int x3)] maxLocals)) t := fun t k => p117 t (by
        show Steps p.tables e below (T109.setTop (mkF m 137 #[.val (.int x0), .val (.int x1), .val (.int x2), .val (.int x3), .val (.int (89 : Int32)), .val (.ref a_STAYING), .val (.ref b93), .unset, .unset] [(.ref b109)])) _
        refine XS.astore X109.here hx rfl (hb hby at_137) rfl rfl (l' := #[.val (.int x0), .val (.int x1), .val (.int x2), .val (.int x3), .val (.int (89 : Int32)), .val (.ref a_STAYING), .val (.ref b93), .val (.ref b109), .unset]) rfl ?_
        show Steps p.tables e below (T109.setTop (mkF m 139 #[.val (.int x0), .val (.int x1), .val (.int x2), .val (.int x3), .val (.int (89 : Int32)), .val (.ref a_STAYING), .val (.ref b93), .val (.ref b109), .unset] [])) _
        refine XS.aload X109.here hx rfl (hb hby at_139) rfl rfl ?_
        show Steps p.tables e below (T109.setTop (mkF m 141 #[.val (.int x0), .val (.int x1), .val (.int x2), .val (.int x3), .val (.int (89 : Int32)), .val (.ref a_STAYING), .val (.ref b93), .val (.ref b109), .unset] [(.ref b109)])) _
        refine XS.iconst X109.here hx rfl (hb hby at_141) ?_
        show Steps p.tables e below (T109.setTop (mkF m 142 #[.val (.int x0), .val (.int x1), .val (.int x2), .val (.int x3), .val (.int (89 : Int32)), .val (.ref a_STAYING), .val (.ref b93), .val (.ref b109), .unset] [(.int (0 : Int32)), (.ref b109)])) _
        refine XS.iload X109.here hx rfl (hb hby at_142) rfl ?_
        show Steps p.tables e below (T109.setTop (mkF m 144 #[.val (.int x0), .val (.int x1), .val (.int x2), .val (.int x3), .val (.int (89 : Int32)), .val (.ref a_STAYING), .val (.ref b93), .val (.ref b109), .unset] [(.int (89 : Int32)), (.int (0 : Int32)), (.ref b109)])) _
        refine XS.i2b X109.here hx rfl (hb hby at_144) rfl ?_
        exact k)
      obtain ⟨cl119, Ar119, q119, Sz119, Ng119, Hs119, G119⟩ := id VV109
      have hin119 : ¬ ((0 : Int32) < 0 ∨ cl119.slots.size ≤ ((0 : Int32)).toNatClampNeg) := inb_of Sz119 (⟨by decide, by decide⟩)
      obtain ⟨T119, h119, X119, e119, W119, st119⟩ := stB X109 hx hZ e109 Ar119 (j := (0 : Int32)) hin119 (g := (mkF m 145 #[.val (.int x0), .val (.int x1), .val (.int x2), .val (.int x3), .val (.int (89 : Int32)), .val (.ref a_STAYING), .val (.ref b93), .val (.ref b109), .unset] [(.int ((89 : Int32).toInt8.toInt32)), (.int (0 : Int32)), (.ref b109)])) rfl rfl (hb hby at_145)
      have VV119 : Arv Z h119 b109 k109 .byte (4 : Int32) [(.int (((89 : Int32).toInt8.toInt32).toInt8.toInt32)), (.int (0 : Int32)), (.int (0 : Int32)), (.int (0 : Int32))] (.int (0 : Int32)) := Arv.set Ar119 q119 Sz119 Ng119 Hs119 G119 (fits_nar_byte _) W119 0 (by decide) (Nat.le_of_ble_eq_true rfl)
      have f120 := f111.wr W119 gn_b109
      have f121 := f112.wr W119
      have f122 := f113.wr W119
      have f123 := f114.wr W119
      have f124 := f115.wr W119
      have f125 := f116.other W119 ne110
      have Z119 := Nat.le_trans Z109 (Keep.of_wr W119).1
      have N119 := Fr.snoc X119 N101 gn_b109
      have p126 : ∀ t, Steps p.tables e below (T119.setTop (mkF m 146 #[.val (.int x0), .val (.int x1), .val (.int x2), .val (.int x3), .val (.int (89 : Int32)), .val (.ref a_STAYING), .val (.ref b93), .val (.ref b109), .unset] [])) t → Steps p.tables e below (s₁.setTop (entryFrame m #[(.int x0), (.int x1), (.int x2), (.int x3)] maxLocals)) t := fun t k => p118 t (st119 t k)
      have p127 : ∀ t, Steps p.tables e below (T119.setTop (mkF m 151 #[.val (.int x0), .val (.int x1), .val (.int x2), .val (.int x3), .val (.int (89 : Int32)), .val (.ref a_STAYING), .val (.ref b93), .val (.ref b109), .unset] [(.int (x2.toInt8.toInt32)), (.int (1 : Int32)), (.ref b109)])) t → Steps p.tables e below (s₁.setTop (entryFrame m #[(.int x0), (.int x1), (.int x2), (.int x3)] maxLocals)) t := fun t k => p126 t (by
        show Steps p.tables e below (T119.setTop (mkF m 146 #[.val (.int x0), .val (.int x1), .val (.int x2), .val (.int x3), .val (.int (89 : Int32)), .val (.ref a_STAYING), .val (.ref b93), .val (.ref b109), .unset] [])) _
        refine XS.aload X119.here hx rfl (hb hby at_146) rfl rfl ?_
        show Steps p.tables e below (T119.setTop (mkF m 148 #[.val (.int x0), .val (.int x1), .val (.int x2), .val (.int x3), .val (.int (89 : Int32)), .val (.ref a_STAYING), .val (.ref b93), .val (.ref b109), .unset] [(.ref b109)])) _
        refine XS.iconst X119.here hx rfl (hb hby at_148) ?_
        show Steps p.tables e below (T119.setTop (mkF m 149 #[.val (.int x0), .val (.int x1), .val (.int x2), .val (.int x3), .val (.int (89 : Int32)), .val (.ref a_STAYING), .val (.ref b93), .val (.ref b109), .unset] [(.int (1 : Int32)), (.ref b109)])) _
        refine XS.iloadN X119.here hx rfl (hb hby at_149) rfl ?_
        show Steps p.tables e below (T119.setTop (mkF m 150 #[.val (.int x0), .val (.int x1), .val (.int x2), .val (.int x3), .val (.int (89 : Int32)), .val (.ref a_STAYING), .val (.ref b93), .val (.ref b109), .unset] [(.int x2), (.int (1 : Int32)), (.ref b109)])) _
        refine XS.i2b X119.here hx rfl (hb hby at_150) rfl ?_
        exact k)
      obtain ⟨cl128, Ar128, q128, Sz128, Ng128, Hs128, G128⟩ := id VV119
      have hin128 : ¬ ((1 : Int32) < 0 ∨ cl128.slots.size ≤ ((1 : Int32)).toNatClampNeg) := inb_of Sz128 (⟨by decide, by decide⟩)
      obtain ⟨T128, h128, X128, e128, W128, st128⟩ := stB X119 hx hZ e119 Ar128 (j := (1 : Int32)) hin128 (g := (mkF m 151 #[.val (.int x0), .val (.int x1), .val (.int x2), .val (.int x3), .val (.int (89 : Int32)), .val (.ref a_STAYING), .val (.ref b93), .val (.ref b109), .unset] [(.int (x2.toInt8.toInt32)), (.int (1 : Int32)), (.ref b109)])) rfl rfl (hb hby at_151)
      have VV128 : Arv Z h128 b109 k109 .byte (4 : Int32) [(.int (((89 : Int32).toInt8.toInt32).toInt8.toInt32)), (.int ((x2.toInt8.toInt32).toInt8.toInt32)), (.int (0 : Int32)), (.int (0 : Int32))] (.int (0 : Int32)) := Arv.set Ar128 q128 Sz128 Ng128 Hs128 G128 (fits_nar_byte _) W128 1 (by decide) (Nat.le_of_ble_eq_true rfl)
      have f129 := f120.wr W128 gn_b109
      have f130 := f121.wr W128
      have f131 := f122.wr W128
      have f132 := f123.wr W128
      have f133 := f124.wr W128
      have f134 := f125.other W128 ne110
      have Z128 := Nat.le_trans Z119 (Keep.of_wr W128).1
      have N128 := Fr.snoc X128 N119 gn_b109
      have p135 : ∀ t, Steps p.tables e below (T128.setTop (mkF m 152 #[.val (.int x0), .val (.int x1), .val (.int x2), .val (.int x3), .val (.int (89 : Int32)), .val (.ref a_STAYING), .val (.ref b93), .val (.ref b109), .unset] [])) t → Steps p.tables e below (s₁.setTop (entryFrame m #[(.int x0), (.int x1), (.int x2), (.int x3)] maxLocals)) t := fun t k => p127 t (st128 t k)
      have p136 : ∀ t, Steps p.tables e below (T128.setTop (mkF m 160 #[.val (.int x0), .val (.int x1), .val (.int x2), .val (.int x3), .val (.int (89 : Int32)), .val (.ref a_STAYING), .val (.ref b93), .val (.ref b109), .unset] [(.int ((x2 >>> ((8 : Int32) &&& 31)).toInt8.toInt32)), (.int (2 : Int32)), (.ref b109)])) t → Steps p.tables e below (s₁.setTop (entryFrame m #[(.int x0), (.int x1), (.int x2), (.int x3)] maxLocals)) t := fun t k => p135 t (by
        show Steps p.tables e below (T128.setTop (mkF m 152 #[.val (.int x0), .val (.int x1), .val (.int x2), .val (.int x3), .val (.int (89 : Int32)), .val (.ref a_STAYING), .val (.ref b93), .val (.ref b109), .unset] [])) _
        refine XS.aload X128.here hx rfl (hb hby at_152) rfl rfl ?_
        show Steps p.tables e below (T128.setTop (mkF m 154 #[.val (.int x0), .val (.int x1), .val (.int x2), .val (.int x3), .val (.int (89 : Int32)), .val (.ref a_STAYING), .val (.ref b93), .val (.ref b109), .unset] [(.ref b109)])) _
        refine XS.iconst X128.here hx rfl (hb hby at_154) ?_
        show Steps p.tables e below (T128.setTop (mkF m 155 #[.val (.int x0), .val (.int x1), .val (.int x2), .val (.int x3), .val (.int (89 : Int32)), .val (.ref a_STAYING), .val (.ref b93), .val (.ref b109), .unset] [(.int (2 : Int32)), (.ref b109)])) _
        refine XS.iloadN X128.here hx rfl (hb hby at_155) rfl ?_
        show Steps p.tables e below (T128.setTop (mkF m 156 #[.val (.int x0), .val (.int x1), .val (.int x2), .val (.int x3), .val (.int (89 : Int32)), .val (.ref a_STAYING), .val (.ref b93), .val (.ref b109), .unset] [(.int x2), (.int (2 : Int32)), (.ref b109)])) _
        refine XS.bipush X128.here hx rfl (hb hby at_156) ?_
        show Steps p.tables e below (T128.setTop (mkF m 158 #[.val (.int x0), .val (.int x1), .val (.int x2), .val (.int x3), .val (.int (89 : Int32)), .val (.ref a_STAYING), .val (.ref b93), .val (.ref b109), .unset] [(.int (8 : Int32)), (.int x2), (.int (2 : Int32)), (.ref b109)])) _
        refine XS.ishr X128.here hx rfl (hb hby at_158) rfl ?_
        show Steps p.tables e below (T128.setTop (mkF m 159 #[.val (.int x0), .val (.int x1), .val (.int x2), .val (.int x3), .val (.int (89 : Int32)), .val (.ref a_STAYING), .val (.ref b93), .val (.ref b109), .unset] [(.int (x2 >>> ((8 : Int32) &&& 31))), (.int (2 : Int32)), (.ref b109)])) _
        refine XS.i2b X128.here hx rfl (hb hby at_159) rfl ?_
        exact k)
      obtain ⟨cl137, Ar137, q137, Sz137, Ng137, Hs137, G137⟩ := id VV128
      have hin137 : ¬ ((2 : Int32) < 0 ∨ cl137.slots.size ≤ ((2 : Int32)).toNatClampNeg) := inb_of Sz137 (⟨by decide, by decide⟩)
      obtain ⟨T137, h137, X137, e137, W137, st137⟩ := stB X128 hx hZ e128 Ar137 (j := (2 : Int32)) hin137 (g := (mkF m 160 #[.val (.int x0), .val (.int x1), .val (.int x2), .val (.int x3), .val (.int (89 : Int32)), .val (.ref a_STAYING), .val (.ref b93), .val (.ref b109), .unset] [(.int ((x2 >>> ((8 : Int32) &&& 31)).toInt8.toInt32)), (.int (2 : Int32)), (.ref b109)])) rfl rfl (hb hby at_160)
      have VV137 : Arv Z h137 b109 k109 .byte (4 : Int32) [(.int (((89 : Int32).toInt8.toInt32).toInt8.toInt32)), (.int ((x2.toInt8.toInt32).toInt8.toInt32)), (.int (((x2 >>> ((8 : Int32) &&& 31)).toInt8.toInt32).toInt8.toInt32)), (.int (0 : Int32))] (.int (0 : Int32)) := Arv.set Ar137 q137 Sz137 Ng137 Hs137 G137 (fits_nar_byte _) W137 2 (by decide) (Nat.le_of_ble_eq_true rfl)
      have f138 := f129.wr W137 gn_b109
      have f139 := f130.wr W137
      have f140 := f131.wr W137
      have f141 := f132.wr W137
      have f142 := f133.wr W137
      have f143 := f134.other W137 ne110
      have Z137 := Nat.le_trans Z128 (Keep.of_wr W137).1
      have N137 := Fr.snoc X137 N128 gn_b109
      have p144 : ∀ t, Steps p.tables e below (T137.setTop (mkF m 161 #[.val (.int x0), .val (.int x1), .val (.int x2), .val (.int x3), .val (.int (89 : Int32)), .val (.ref a_STAYING), .val (.ref b93), .val (.ref b109), .unset] [])) t → Steps p.tables e below (s₁.setTop (entryFrame m #[(.int x0), (.int x1), (.int x2), (.int x3)] maxLocals)) t := fun t k => p136 t (st137 t k)
      have p145 : ∀ t, Steps p.tables e below (T137.setTop (mkF m 169 #[.val (.int x0), .val (.int x1), .val (.int x2), .val (.int x3), .val (.int (89 : Int32)), .val (.ref a_STAYING), .val (.ref b93), .val (.ref b109), .unset] [(.int ((x2 >>> ((16 : Int32) &&& 31)).toInt8.toInt32)), (.int (3 : Int32)), (.ref b109)])) t → Steps p.tables e below (s₁.setTop (entryFrame m #[(.int x0), (.int x1), (.int x2), (.int x3)] maxLocals)) t := fun t k => p144 t (by
        show Steps p.tables e below (T137.setTop (mkF m 161 #[.val (.int x0), .val (.int x1), .val (.int x2), .val (.int x3), .val (.int (89 : Int32)), .val (.ref a_STAYING), .val (.ref b93), .val (.ref b109), .unset] [])) _
        refine XS.aload X137.here hx rfl (hb hby at_161) rfl rfl ?_
        show Steps p.tables e below (T137.setTop (mkF m 163 #[.val (.int x0), .val (.int x1), .val (.int x2), .val (.int x3), .val (.int (89 : Int32)), .val (.ref a_STAYING), .val (.ref b93), .val (.ref b109), .unset] [(.ref b109)])) _
        refine XS.iconst X137.here hx rfl (hb hby at_163) ?_
        show Steps p.tables e below (T137.setTop (mkF m 164 #[.val (.int x0), .val (.int x1), .val (.int x2), .val (.int x3), .val (.int (89 : Int32)), .val (.ref a_STAYING), .val (.ref b93), .val (.ref b109), .unset] [(.int (3 : Int32)), (.ref b109)])) _
        refine XS.iloadN X137.here hx rfl (hb hby at_164) rfl ?_
        show Steps p.tables e below (T137.setTop (mkF m 165 #[.val (.int x0), .val (.int x1), .val (.int x2), .val (.int x3), .val (.int (89 : Int32)), .val (.ref a_STAYING), .val (.ref b93), .val (.ref b109), .unset] [(.int x2), (.int (3 : Int32)), (.ref b109)])) _
        refine XS.bipush X137.here hx rfl (hb hby at_165) ?_
        show Steps p.tables e below (T137.setTop (mkF m 167 #[.val (.int x0), .val (.int x1), .val (.int x2), .val (.int x3), .val (.int (89 : Int32)), .val (.ref a_STAYING), .val (.ref b93), .val (.ref b109), .unset] [(.int (16 : Int32)), (.int x2), (.int (3 : Int32)), (.ref b109)])) _
        refine XS.ishr X137.here hx rfl (hb hby at_167) rfl ?_
        show Steps p.tables e below (T137.setTop (mkF m 168 #[.val (.int x0), .val (.int x1), .val (.int x2), .val (.int x3), .val (.int (89 : Int32)), .val (.ref a_STAYING), .val (.ref b93), .val (.ref b109), .unset] [(.int (x2 >>> ((16 : Int32) &&& 31))), (.int (3 : Int32)), (.ref b109)])) _
        refine XS.i2b X137.here hx rfl (hb hby at_168) rfl ?_
        exact k)
      obtain ⟨cl146, Ar146, q146, Sz146, Ng146, Hs146, G146⟩ := id VV137
      have hin146 : ¬ ((3 : Int32) < 0 ∨ cl146.slots.size ≤ ((3 : Int32)).toNatClampNeg) := inb_of Sz146 (⟨by decide, by decide⟩)
      obtain ⟨T146, h146, X146, e146, W146, st146⟩ := stB X137 hx hZ e137 Ar146 (j := (3 : Int32)) hin146 (g := (mkF m 169 #[.val (.int x0), .val (.int x1), .val (.int x2), .val (.int x3), .val (.int (89 : Int32)), .val (.ref a_STAYING), .val (.ref b93), .val (.ref b109), .unset] [(.int ((x2 >>> ((16 : Int32) &&& 31)).toInt8.toInt32)), (.int (3 : Int32)), (.ref b109)])) rfl rfl (hb hby at_169)
      have VV146 : Arv Z h146 b109 k109 .byte (4 : Int32) [(.int (((89 : Int32).toInt8.toInt32).toInt8.toInt32)), (.int ((x2.toInt8.toInt32).toInt8.toInt32)), (.int (((x2 >>> ((8 : Int32) &&& 31)).toInt8.toInt32).toInt8.toInt32)), (.int (((x2 >>> ((16 : Int32) &&& 31)).toInt8.toInt32).toInt8.toInt32))] (.int (0 : Int32)) := Arv.set Ar146 q146 Sz146 Ng146 Hs146 G146 (fits_nar_byte _) W146 3 (by decide) (Nat.le_of_ble_eq_true rfl)
      have f147 := f138.wr W146 gn_b109
      have f148 := f139.wr W146
      have f149 := f140.wr W146
      have f150 := f141.wr W146
      have f151 := f142.wr W146
      have f152 := f143.other W146 ne110
      have Z146 := Nat.le_trans Z137 (Keep.of_wr W146).1
      have N146 := Fr.snoc X146 N137 gn_b109
      have p153 : ∀ t, Steps p.tables e below (T146.setTop (mkF m 170 #[.val (.int x0), .val (.int x1), .val (.int x2), .val (.int x3), .val (.int (89 : Int32)), .val (.ref a_STAYING), .val (.ref b93), .val (.ref b109), .unset] [])) t → Steps p.tables e below (s₁.setTop (entryFrame m #[(.int x0), (.int x1), (.int x2), (.int x3)] maxLocals)) t := fun t k => p145 t (st146 t k)
      have p154 : ∀ t, Steps p.tables e below (T146.setTop (mkF m 173 #[.val (.int x0), .val (.int x1), .val (.int x2), .val (.int x3), .val (.int (89 : Int32)), .val (.ref a_STAYING), .val (.ref b93), .val (.ref b109), .unset] [(.int (x3 &&& (2 : Int32)))])) t → Steps p.tables e below (s₁.setTop (entryFrame m #[(.int x0), (.int x1), (.int x2), (.int x3)] maxLocals)) t := fun t k => p153 t (by
        show Steps p.tables e below (T146.setTop (mkF m 170 #[.val (.int x0), .val (.int x1), .val (.int x2), .val (.int x3), .val (.int (89 : Int32)), .val (.ref a_STAYING), .val (.ref b93), .val (.ref b109), .unset] [])) _
        refine XS.iloadN X146.here hx rfl (hb hby at_170) rfl ?_
        show Steps p.tables e below (T146.setTop (mkF m 171 #[.val (.int x0), .val (.int x1), .val (.int x2), .val (.int x3), .val (.int (89 : Int32)), .val (.ref a_STAYING), .val (.ref b93), .val (.ref b109), .unset] [(.int x3)])) _
        refine XS.iconst X146.here hx rfl (hb hby at_171) ?_
        show Steps p.tables e below (T146.setTop (mkF m 172 #[.val (.int x0), .val (.int x1), .val (.int x2), .val (.int x3), .val (.int (89 : Int32)), .val (.ref a_STAYING), .val (.ref b93), .val (.ref b109), .unset] [(.int (2 : Int32)), (.int x3)])) _
        refine XS.iand X146.here hx rfl (hb hby at_172) rfl ?_
        exact k)
      by_cases hc173 : (x3 &&& (2 : Int32)) = (0 : Int32)
      · have p155 : ∀ t, Steps p.tables e below (T146.setTop (mkF m 187 #[.val (.int x0), .val (.int x1), .val (.int x2), .val (.int x3), .val (.int (89 : Int32)), .val (.ref a_STAYING), .val (.ref b93), .val (.ref b109), .val (.ref b93)] [(.ref b93)])) t → Steps p.tables e below (s₁.setTop (entryFrame m #[(.int x0), (.int x1), (.int x2), (.int x3)] maxLocals)) t := fun t k => p154 t (by
          show Steps p.tables e below (T146.setTop (mkF m 173 #[.val (.int x0), .val (.int x1), .val (.int x2), .val (.int x3), .val (.int (89 : Int32)), .val (.ref a_STAYING), .val (.ref b93), .val (.ref b109), .unset] [(.int (x3 &&& (2 : Int32)))])) _
          refine XS.ifYes X146.here hx rfl (pc0 := 173) (pc' := 181) rfl (hb hby at_173) rfl ((if0 _ _).trans (teq (hc173)).1) (by decide) (by decide) ?_
          show Steps p.tables e below (T146.setTop (mkF m 181 #[.val (.int x0), .val (.int x1), .val (.int x2), .val (.int x3), .val (.int (89 : Int32)), .val (.ref a_STAYING), .val (.ref b93), .val (.ref b109), .unset] [])) _
          refine XS.aload X146.here hx rfl (hb hby at_181) rfl rfl ?_
          show Steps p.tables e below (T146.setTop (mkF m 183 #[.val (.int x0), .val (.int x1), .val (.int x2), .val (.int x3), .val (.int (89 : Int32)), .val (.ref a_STAYING), .val (.ref b93), .val (.ref b109), .unset] [(.ref b93)])) _
          refine XS.astore X146.here hx rfl (hb hby at_183) rfl rfl (l' := #[.val (.int x0), .val (.int x1), .val (.int x2), .val (.int x3), .val (.int (89 : Int32)), .val (.ref a_STAYING), .val (.ref b93), .val (.ref b109), .val (.ref b93)]) rfl ?_
          show Steps p.tables e below (T146.setTop (mkF m 185 #[.val (.int x0), .val (.int x1), .val (.int x2), .val (.int x3), .val (.int (89 : Int32)), .val (.ref a_STAYING), .val (.ref b93), .val (.ref b109), .val (.ref b93)] [])) _
          refine XS.aload X146.here hx rfl (hb hby at_185) rfl rfl ?_
          exact k)
        obtain ⟨_, _, ⟨T156, L156, k156, n156⟩, -, X156, ⟨Lc156, hQ156, l156, y156, z156⟩, st156⟩ := Jvm.LawKit.callS X146 hx (y := (⟨"com/example/disposition/disposition/store/Keys", "parseQueue", "([B)Lcom/example/disposition/disposition/store/JobQueue;"⟩ : MethodName)) hown (mvT hZ (hw _ (List.mem_of_getElem? (i := 4) rfl))) (mvT hZ (hw _ (List.mem_of_getElem? (i := 5) rfl))) (mvT hZ (hw _ (List.mem_of_getElem? (i := 6) rfl))) (mvT hZ (hw _ (List.mem_of_getElem? (i := 7) rfl))) (by decide) (backOf (W := 0) (rmq1 l Z a0 hw [] b93 a_V kk a_IN_PLACE a_STAYING a_RETAINED a_HELD (((89 : Int32).toInt8.toInt32).toInt8.toInt32) h146 n0 Z146 f147 S_V V_V E_V E_IN_PLACE E_STAYING E_RETAINED E_HELD F_IN_PLACE F_STAYING F_RETAINED F_HELD (own_B0.of f152 (by decide) rfl) (by decide)) hZ (hw _ (List.mem_of_getElem? (i := 7) rfl)) (hw _ (List.mem_of_getElem? (i := 6) rfl)) (by decide) (by decide)) (g := (mkF m 187 #[.val (.int x0), .val (.int x1), .val (.int x2), .val (.int x3), .val (.int (89 : Int32)), .val (.ref a_STAYING), .val (.ref b93), .val (.ref b109), .val (.ref b93)] [(.ref b93)])) rfl (by rw [hml]; rfl) (argsL := [(.ref b93)]) (rest := []) (lenOf pd0_0 rfl) rfl (by show 2 * 0 + _ ≤ _; exact Nat.le_of_eq rfl) (hb hby at_187) (fun _ _ => ⟨rfl, e146, (by decide : 2 + 1 ≤ _), (by decide : 5 + 4 ≤ _)⟩)
        dsimp only [Pt.U, Pt.locs, Pt.cells, Pt.slots] at X156 l156 y156 z156 st156 hQ156
        subst l156 y156 z156
        obtain ⟨rfl, Nq156, K156⟩ := hQ156
        have N156 := Fr.app N146 Nq156
        have f157 := f147.keep K156 (all0)
        have Z156 := Nat.le_trans Z146 K156.1
        have p158 : ∀ t, Steps p.tables e below (T156.setTop (mkF m 190 #[.val (.int x0), .val (.int x1), .val (.int x2), .val (.int x3), .val (.int (89 : Int32)), .val (.ref a_STAYING), .val (.ref b93), .val (.ref b109), .val (.ref b93)] [(.ref a_STAYING)])) t → Steps p.tables e below (s₁.setTop (entryFrame m #[(.int x0), (.int x1), (.int x2), (.int x3)] maxLocals)) t := fun t k => p155 t (st156 _ k)
        have p159 : ∀ t, Steps p.tables e below (T156.setTop (mkF m 200 #[.val (.int x0), .val (.int x1), .val (.int x2), .val (.int x3), .val (.int (89 : Int32)), .val (.ref a_STAYING), .val (.ref b93), .val (.ref b109), .val (.ref b93)] [(.int (1 : Int32))])) t → Steps p.tables e below (s₁.setTop (entryFrame m #[(.int x0), (.int x1), (.int x2), (.int x3)] maxLocals)) t := fun t k => p158 t (by
          show Steps p.tables e below (T156.setTop (mkF m 190 #[.val (.int x0), .val (.int x1), .val (.int x2), .val (.int x3), .val (.int (89 : Int32)), .val (.ref a_STAYING), .val (.ref b93), .val (.ref b109), .val (.ref b93)] [(.ref a_STAYING)])) _
          refine XS.aload X156.here hx rfl (hb hby at_190) rfl rfl ?_
          show Steps p.tables e below (T156.setTop (mkF m 192 #[.val (.int x0), .val (.int x1), .val (.int x2), .val (.int x3), .val (.int (89 : Int32)), .val (.ref a_STAYING), .val (.ref b93), .val (.ref b109), .val (.ref b93)] [(.ref a_STAYING), (.ref a_STAYING)])) _
          refine Jvm.RoadKit.acmp (g := (mkF m 192 #[.val (.int x0), .val (.int x1), .val (.int x2), .val (.int x3), .val (.int (89 : Int32)), .val (.ref a_STAYING), .val (.ref b93), .val (.ref b109), .val (.ref b93)] [(.ref a_STAYING), (.ref a_STAYING)])) X156 hx rfl rfl rfl (pc0 := 192) (pc' := 195) (same := true) rfl (hb hby at_192) rfl (decide_eq_true rfl) (by decide) (by decide) ?_
          show Steps p.tables e below (T156.setTop (mkF m 195 #[.val (.int x0), .val (.int x1), .val (.int x2), .val (.int x3), .val (.int (89 : Int32)), .val (.ref a_STAYING), .val (.ref b93), .val (.ref b109), .val (.ref b93)] [])) _
          refine XS.iconst X156.here hx rfl (hb hby at_195) ?_
          show Steps p.tables e below (T156.setTop (mkF m 196 #[.val (.int x0), .val (.int x1), .val (.int x2), .val (.int x3), .val (.int (89 : Int32)), .val (.ref a_STAYING), .val (.ref b93), .val (.ref b109), .val (.ref b93)] [(.int (1 : Int32))])) _
          refine XS.goto X156.here hx rfl (pc0 := 196) (pc' := 200) rfl (hb hby at_196) (by decide) (by decide) ?_
          exact k)
        obtain ⟨fs, hr, hrun, hended, hW, hsame⟩ := X156.leave (v := some (.int (1 : Int32))) (fun h => by rw [Bd.returns] at h; cases h)
        refine ⟨_, _, p159 _ ?_, hrun, hended, _, _, rfl, ?_, ⟨_, rfl⟩, hW, hsame.mono (by decide) (by decide)⟩
        · show Steps p.tables e below (T156.setTop (mkF m 200 #[.val (.int x0), .val (.int x1), .val (.int x2), .val (.int x3), .val (.int (89 : Int32)), .val (.ref a_STAYING), .val (.ref b93), .val (.ref b109), .val (.ref b93)] [(.int (1 : Int32))])) _
          exact retN X156 hx (t := .boolean) Bd.returns (by simp) (hb hby at_200) hr
        · show Q0 Z x0 x1 x2 x3 a_V kk a_IN_PLACE a_STAYING a_RETAINED a_HELD h0 n0 _ T156.heap _
          skip
          exact ⟨rfl, N156⟩
      · have p160 : ∀ t, Steps p.tables e below (T146.setTop (mkF m 187 #[.val (.int x0), .val (.int x1), .val (.int x2), .val (.int x3), .val (.int (89 : Int32)), .val (.ref a_STAYING), .val (.ref b93), .val (.ref b109), .val (.ref b109)] [(.ref b109)])) t → Steps p.tables e below (s₁.setTop (entryFrame m #[(.int x0), (.int x1), (.int x2), (.int x3)] maxLocals)) t := fun t k => p154 t (by
          show Steps p.tables e below (T146.setTop (mkF m 173 #[.val (.int x0), .val (.int x1), .val (.int x2), .val (.int x3), .val (.int (89 : Int32)), .val (.ref a_STAYING), .val (.ref b93), .val (.ref b109), .unset] [(.int (x3 &&& (2 : Int32)))])) _
          refine XS.ifNo X146.here hx rfl (hb hby at_173) rfl ((if0 _ _).trans (feq (hc173)).1) ?_
          show Steps p.tables e below (T146.setTop (mkF m 176 #[.val (.int x0), .val (.int x1), .val (.int x2), .val (.int x3), .val (.int (89 : Int32)), .val (.ref a_STAYING), .val (.ref b93), .val (.ref b109), .unset] [])) _
          refine XS.aload X146.here hx rfl (hb hby at_176) rfl rfl ?_
          show Steps p.tables e below (T146.setTop (mkF m 178 #[.val (.int x0), .val (.int x1), .val (.int x2), .val (.int x3), .val (.int (89 : Int32)), .val (.ref a_STAYING), .val (.ref b93), .val (.ref b109), .unset] [(.ref b109)])) _
          refine XS.goto X146.here hx rfl (pc0 := 178) (pc' := 183) rfl (hb hby at_178) (by decide) (by decide) ?_
          show Steps p.tables e below (T146.setTop (mkF m 183 #[.val (.int x0), .val (.int x1), .val (.int x2), .val (.int x3), .val (.int (89 : Int32)), .val (.ref a_STAYING), .val (.ref b93), .val (.ref b109), .unset] [(.ref b109)])) _
          refine XS.astore X146.here hx rfl (hb hby at_183) rfl rfl (l' := #[.val (.int x0), .val (.int x1), .val (.int x2), .val (.int x3), .val (.int (89 : Int32)), .val (.ref a_STAYING), .val (.ref b93), .val (.ref b109), .val (.ref b109)]) rfl ?_
          show Steps p.tables e below (T146.setTop (mkF m 185 #[.val (.int x0), .val (.int x1), .val (.int x2), .val (.int x3), .val (.int (89 : Int32)), .val (.ref a_STAYING), .val (.ref b93), .val (.ref b109), .val (.ref b109)] [])) _
          refine XS.aload X146.here hx rfl (hb hby at_185) rfl rfl ?_
          exact k)
        obtain ⟨_, _, ⟨T161, L161, k161, n161⟩, -, X161, ⟨Lc161, hQ161, l161, y161, z161⟩, st161⟩ := Jvm.LawKit.callS X146 hx (y := (⟨"com/example/disposition/disposition/store/Keys", "parseQueue", "([B)Lcom/example/disposition/disposition/store/JobQueue;"⟩ : MethodName)) hown (mvT hZ (hw _ (List.mem_of_getElem? (i := 4) rfl))) (mvT hZ (hw _ (List.mem_of_getElem? (i := 5) rfl))) (mvT hZ (hw _ (List.mem_of_getElem? (i := 6) rfl))) (mvT hZ (hw _ (List.mem_of_getElem? (i := 7) rfl))) (by decide) (backOf (W := 0) (rmq1 l Z a0 hw [] b109 a_V kk a_IN_PLACE a_STAYING a_RETAINED a_HELD (((89 : Int32).toInt8.toInt32).toInt8.toInt32) h146 n0 Z146 f147 S_V V_V E_V E_IN_PLACE E_STAYING E_RETAINED E_HELD F_IN_PLACE F_STAYING F_RETAINED F_HELD (own_B0.of VV146 (by decide) rfl) (by decide)) hZ (hw _ (List.mem_of_getElem? (i := 7) rfl)) (hw _ (List.mem_of_getElem? (i := 6) rfl)) (by decide) (by decide)) (g := (mkF m 187 #[.val (.int x0), .val (.int x1), .val (.int x2), .val (.int x3), .val (.int (89 : Int32)), .val (.ref a_STAYING), .val (.ref b93), .val (.ref b109), .val (.ref b109)] [(.ref b109)])) rfl (by rw [hml]; rfl) (argsL := [(.ref b109)]) (rest := []) (lenOf pd0_0 rfl) rfl (by show 2 * 0 + _ ≤ _; exact Nat.le_of_eq rfl) (hb hby at_187) (fun _ _ => ⟨rfl, e146, (by decide : 2 + 1 ≤ _), (by decide : 5 + 4 ≤ _)⟩)
        dsimp only [Pt.U, Pt.locs, Pt.cells, Pt.slots] at X161 l161 y161 z161 st161 hQ161
        subst l161 y161 z161
        obtain ⟨rfl, Nq161, K161⟩ := hQ161
        have N161 := Fr.app N146 Nq161
        have f162 := f147.keep K161 (all0)
        have Z161 := Nat.le_trans Z146 K161.1
        have p163 : ∀ t, Steps p.tables e below (T161.setTop (mkF m 190 #[.val (.int x0), .val (.int x1), .val (.int x2), .val (.int x3), .val (.int (89 : Int32)), .val (.ref a_STAYING), .val (.ref b93), .val (.ref b109), .val (.ref b109)] [(.ref a_STAYING)])) t → Steps p.tables e below (s₁.setTop (entryFrame m #[(.int x0), (.int x1), (.int x2), (.int x3)] maxLocals)) t := fun t k => p160 t (st161 _ k)
        have p164 : ∀ t, Steps p.tables e below (T161.setTop (mkF m 200 #[.val (.int x0), .val (.int x1), .val (.int x2), .val (.int x3), .val (.int (89 : Int32)), .val (.ref a_STAYING), .val (.ref b93), .val (.ref b109), .val (.ref b109)] [(.int (1 : Int32))])) t → Steps p.tables e below (s₁.setTop (entryFrame m #[(.int x0), (.int x1), (.int x2), (.int x3)] maxLocals)) t := fun t k => p163 t (by
          show Steps p.tables e below (T161.setTop (mkF m 190 #[.val (.int x0), .val (.int x1), .val (.int x2), .val (.int x3), .val (.int (89 : Int32)), .val (.ref a_STAYING), .val (.ref b93), .val (.ref b109), .val (.ref b109)] [(.ref a_STAYING)])) _
          refine XS.aload X161.here hx rfl (hb hby at_190) rfl rfl ?_
          show Steps p.tables e below (T161.setTop (mkF m 192 #[.val (.int x0), .val (.int x1), .val (.int x2), .val (.int x3), .val (.int (89 : Int32)), .val (.ref a_STAYING), .val (.ref b93), .val (.ref b109), .val (.ref b109)] [(.ref a_STAYING), (.ref a_STAYING)])) _
          refine Jvm.RoadKit.acmp (g := (mkF m 192 #[.val (.int x0), .val (.int x1), .val (.int x2), .val (.int x3), .val (.int (89 : Int32)), .val (.ref a_STAYING), .val (.ref b93), .val (.ref b109), .val (.ref b109)] [(.ref a_STAYING), (.ref a_STAYING)])) X161 hx rfl rfl rfl (pc0 := 192) (pc' := 195) (same := true) rfl (hb hby at_192) rfl (decide_eq_true rfl) (by decide) (by decide) ?_
          show Steps p.tables e below (T161.setTop (mkF m 195 #[.val (.int x0), .val (.int x1), .val (.int x2), .val (.int x3), .val (.int (89 : Int32)), .val (.ref a_STAYING), .val (.ref b93), .val (.ref b109), .val (.ref b109)] [])) _
          refine XS.iconst X161.here hx rfl (hb hby at_195) ?_
          show Steps p.tables e below (T161.setTop (mkF m 196 #[.val (.int x0), .val (.int x1), .val (.int x2), .val (.int x3), .val (.int (89 : Int32)), .val (.ref a_STAYING), .val (.ref b93), .val (.ref b109), .val (.ref b109)] [(.int (1 : Int32))])) _
          refine XS.goto X161.here hx rfl (pc0 := 196) (pc' := 200) rfl (hb hby at_196) (by decide) (by decide) ?_
          exact k)
        obtain ⟨fs, hr, hrun, hended, hW, hsame⟩ := X161.leave (v := some (.int (1 : Int32))) (fun h => by rw [Bd.returns] at h; cases h)
        refine ⟨_, _, p164 _ ?_, hrun, hended, _, _, rfl, ?_, ⟨_, rfl⟩, hW, hsame.mono (by decide) (by decide)⟩
        · show Steps p.tables e below (T161.setTop (mkF m 200 #[.val (.int x0), .val (.int x1), .val (.int x2), .val (.int x3), .val (.int (89 : Int32)), .val (.ref a_STAYING), .val (.ref b93), .val (.ref b109), .val (.ref b109)] [(.int (1 : Int32))])) _
          exact retN X161 hx (t := .boolean) Bd.returns (by simp) (hb hby at_200) hr
        · show Q0 Z x0 x1 x2 x3 a_V kk a_IN_PLACE a_STAYING a_RETAINED a_HELD h0 n0 _ T161.heap _
          skip
          exact ⟨rfl, N161⟩
    · have p165 : ∀ t, Steps p.tables e below (s₁.setTop (mkF m 94 #[.val (.int x0), .val (.int x1), .val (.int x2), .val (.int x3), .val (.int vb), s5, .unset, .unset, .unset] [(.int (82 : Int32)), (.int vb)])) t → Steps p.tables e below (s₁.setTop (entryFrame m #[(.int x0), (.int x1), (.int x2), (.int x3)] maxLocals)) t := fun t k => p88 t (by
        show Steps p.tables e below (s₁.setTop (mkF m 79 #[.val (.int x0), .val (.int x1), .val (.int x2), .val (.int x3), .val (.int vb), s5, .unset, .unset, .unset] [(.int (89 : Int32)), (.int vb)])) _
        refine XS.icmpYes X0.here hx rfl (pc0 := 79) (pc' := 90) rfl (hb hby at_79) rfl ((feq (hc79)).2) (by decide) (by decide) ?_
        show Steps p.tables e below (s₁.setTop (mkF m 90 #[.val (.int x0), .val (.int x1), .val (.int x2), .val (.int x3), .val (.int vb), s5, .unset, .unset, .unset] [])) _
        refine XS.iload X0.here hx rfl (hb hby at_90) rfl ?_
        show Steps p.tables e below (s₁.setTop (mkF m 92 #[.val (.int x0), .val (.int x1), .val (.int x2), .val (.int x3), .val (.int vb), s5, .unset, .unset, .unset] [(.int vb)])) _
        refine XS.bipush X0.here hx rfl (hb hby at_92) ?_
        exact k)
      by_cases hc94 : vb = (82 : Int32)
      · have p166 : ∀ t, Steps p.tables e below (s₁.setTop (mkF m 97 #[.val (.int x0), .val (.int x1), .val (.int x2), .val (.int x3), .val (.int vb), s5, .unset, .unset, .unset] [])) t → Steps p.tables e below (s₁.setTop (entryFrame m #[(.int x0), (.int x1), (.int x2), (.int x3)] maxLocals)) t := fun t k => p165 t (by
          show Steps p.tables e below (s₁.setTop (mkF m 94 #[.val (.int x0), .val (.int x1), .val (.int x2), .val (.int x3), .val (.int vb), s5, .unset, .unset, .unset] [(.int (82 : Int32)), (.int vb)])) _
          refine XS.icmpNo X0.here hx rfl (hb hby at_94) rfl ((teq (hc94)).2) ?_
          exact k)
        subst hc94
        obtain ⟨T167, X167, e167, st167⟩ := getS2 X0 hx hZ hown (host := "") (Or.inl (hw _ (List.mem_of_getElem? (i := 34) rfl))) Via.refl e0 S_RETAINED (g := (mkF m 97 #[.val (.int x0), .val (.int x1), .val (.int x2), .val (.int x3), .val (.int (82 : Int32)), s5, .unset, .unset, .unset] [])) rfl (hb hby at_97)
        have p168 : ∀ t, Steps p.tables e below (T167.setTop (mkF m 100 #[.val (.int x0), .val (.int x1), .val (.int x2), .val (.int x3), .val (.int (82 : Int32)), s5, .unset, .unset, .unset] [(.ref a_RETAINED)])) t → Steps p.tables e below (s₁.setTop (entryFrame m #[(.int x0), (.int x1), (.int x2), (.int x3)] maxLocals)) t := fun t k => p166 t (st167 t k)
        have p169 : ∀ t, Steps p.tables e below (T167.setTop (mkF m 123 #[.val (.int x0), .val (.int x1), .val (.int x2), .val (.int x3), .val (.int (82 : Int32)), .val (.ref a_RETAINED), .unset, .unset, .unset] [(.int (1 : Int32))])) t → Steps p.tables e below (s₁.setTop (entryFrame m #[(.int x0), (.int x1), (.int x2), (.int x3)] maxLocals)) t := fun t k => p168 t (by
          show Steps p.tables e below (T167.setTop (mkF m 100 #[.val (.int x0), .val (.int x1), .val (.int x2), .val (.int x3), .val (.int (82 : Int32)), s5, .unset, .unset, .unset] [(.ref a_RETAINED)])) _
          refine XS.astore X167.here hx rfl (hb hby at_100) rfl rfl (l' := #[.val (.int x0), .val (.int x1), .val (.int x2), .val (.int x3), .val (.int (82 : Int32)), .val (.ref a_RETAINED), .unset, .unset, .unset]) (XS.store1 rfl hvb rfl) ?_
          show Steps p.tables e below (T167.setTop (mkF m 102 #[.val (.int x0), .val (.int x1), .val (.int x2), .val (.int x3), .val (.int (82 : Int32)), .val (.ref a_RETAINED), .unset, .unset, .unset] [])) _
          refine XS.goto X167.here hx rfl (pc0 := 102) (pc' := 122) rfl (hb hby at_102) (by decide) (by decide) ?_
          show Steps p.tables e below (T167.setTop (mkF m 122 #[.val (.int x0), .val (.int x1), .val (.int x2), .val (.int x3), .val (.int (82 : Int32)), .val (.ref a_RETAINED), .unset, .unset, .unset] [])) _
          refine XS.iconst X167.here hx rfl (hb hby at_122) ?_
          exact k)
        obtain ⟨T170, h170, k170, X170, e170, E170, A170, st170⟩ := newP X167 hx hZ (hw _ (List.mem_of_getElem? (i := 3) rfl)) e167 (g := (mkF m 123 #[.val (.int x0), .val (.int x1), .val (.int x2), .val (.int x3), .val (.int (82 : Int32)), .val (.ref a_RETAINED), .unset, .unset, .unset] [(.int (1 : Int32))])) rfl (hb hby at_123) rfl (by decide) (cap := 1) (by decide) (by decide) (by decide) (by decide)
        obtain ⟨b170, g170⟩ : ∃ z, z = h0.size := ⟨_, rfl⟩
        rw [← g170] at A170 st170
        have gn_b170 : n0 ≤ b170 := Nat.le_trans Z0 (Nat.le_of_eq g170.symm)
        have f171 := O0.ext E170
        have f172 := S_IN_PLACE.ext E170
        have f173 := S_STAYING.ext E170
        have f174 := S_RETAINED.ext E170
        have f175 := S_HELD.ext E170
        have Z170 := Nat.le_trans Z0 E170.1
        have VV170 : Arv Z h170 b170 k170 .byte (1 : Int32) [(.int (0 : Int32))] (.int (0 : Int32)) := (Arv.new A170 (by decide)).pad (pad_rep [] (.int (0 : Int32)) 1)
        have p176 : ∀ t, Steps p.tables e below (T170.setTop (mkF m 125 #[.val (.int x0), .val (.int x1), .val (.int x2), .val (.int x3), .val (.int (82 : Int32)), .val (.ref a_RETAINED), .unset, .unset, .unset] [(.ref b170)])) t → Steps p.tables e below (s₁.setTop (entryFrame m #[(.int x0), (.int x1), (.int x2), (.int x3)] maxLocals)) t := fun t k => p169 t (st170 t k)
        have p177 : ∀ t, Steps p.tables e below (T170.setTop (mkF m 133 #[.val (.int x0), .val (.int x1), .val (.int x2), .val (.int x3), .val (.int (82 : Int32)), .val (.ref a_RETAINED), .val (.ref b170), .unset, .unset] [(.int ((82 : Int32).toInt8.toInt32)), (.int (0 : Int32)), (.ref b170)])) t → Steps p.tables e below (s₁.setTop (entryFrame m #[(.int x0), (.int x1), (.int x2), (.int x3)] maxLocals)) t := fun t k => p176 t (by
          show Steps p.tables e below (T170.setTop (mkF m 125 #[.val (.int x0), .val (.int x1), .val (.int x2), .val (.int x3), .val (.int (82 : Int32)), .val (.ref a_RETAINED), .unset, .unset, .unset] [(.ref b170)])) _
          refine XS.astore X170.here hx rfl (hb hby at_125) rfl rfl (l' := #[.val (.int x0), .val (.int x1), .val (.int x2), .val (.int x3), .val (.int (82 : Int32)), .val (.ref a_RETAINED), .val (.ref b170), .unset, .unset]) rfl ?_
          show Steps p.tables e below (T170.setTop (mkF m 127 #[.val (.int x0), .val (.int x1), .val (.int x2), .val (.int x3), .val (.int (82 : Int32)), .val (.ref a_RETAINED), .val (.ref b170), .unset, .unset] [])) _
          refine XS.aload X170.here hx rfl (hb hby at_127) rfl rfl ?_
          show Steps p.tables e below (T170.setTop (mkF m 129 #[.val (.int x0), .val (.int x1), .val (.int x2), .val (.int x3), .val (.int (82 : Int32)), .val (.ref a_RETAINED), .val (.ref b170), .unset, .unset] [(.ref b170)])) _
          refine XS.iconst X170.here hx rfl (hb hby at_129) ?_
          show Steps p.tables e below (T170.setTop (mkF m 130 #[.val (.int x0), .val (.int x1), .val (.int x2), .val (.int x3), .val (.int (82 : Int32)), .val (.ref a_RETAINED), .val (.ref b170), .unset, .unset] [(.int (0 : Int32)), (.ref b170)])) _
          refine XS.iload X170.here hx rfl (hb hby at_130) rfl ?_
          show Steps p.tables e below (T170.setTop (mkF m 132 #[.val (.int x0), .val (.int x1), .val (.int x2), .val (.int x3), .val (.int (82 : Int32)), .val (.ref a_RETAINED), .val (.ref b170), .unset, .unset] [(.int (82 : Int32)), (.int (0 : Int32)), (.ref b170)])) _
          refine XS.i2b X170.here hx rfl (hb hby at_132) rfl ?_
          exact k)
        obtain ⟨cl178, Ar178, q178, Sz178, Ng178, Hs178, G178⟩ := id VV170
        have hin178 : ¬ ((0 : Int32) < 0 ∨ cl178.slots.size ≤ ((0 : Int32)).toNatClampNeg) := inb_of Sz178 (⟨by decide, by decide⟩)
        obtain ⟨T178, h178, X178, e178, W178, st178⟩ := stB X170 hx hZ e170 Ar178 (j := (0 : Int32)) hin178 (g := (mkF m 133 #[.val (.int x0), .val (.int x1), .val (.int x2), .val (.int x3), .val (.int (82 : Int32)), .val (.ref a_RETAINED), .val (.ref b170), .unset, .unset] [(.int ((82 : Int32).toInt8.toInt32)), (.int (0 : Int32)), (.ref b170)])) rfl rfl (hb hby at_133)
        have VV178 : Arv Z h178 b170 k170 .byte (1 : Int32) [(.int (((82 : Int32).toInt8.toInt32).toInt8.toInt32))] (.int (0 : Int32)) := Arv.set Ar178 q178 Sz178 Ng178 Hs178 G178 (fits_nar_byte _) W178 0 (by decide) (Nat.le_of_ble_eq_true rfl)
        have f179 := f171.wr W178 gn_b170
        have f180 := f172.wr W178
        have f181 := f173.wr W178
        have f182 := f174.wr W178
        have f183 := f175.wr W178
        have Z178 := Nat.le_trans Z170 (Keep.of_wr W178).1
        have N178 := Fr.snoc X178 N0 gn_b170
        have p184 : ∀ t, Steps p.tables e below (T178.setTop (mkF m 134 #[.val (.int x0), .val (.int x1), .val (.int x2), .val (.int x3), .val (.int (82 : Int32)), .val (.ref a_RETAINED), .val (.ref b170), .unset, .unset] [])) t → Steps p.tables e below (s₁.setTop (entryFrame m #[(.int x0), (.int x1), (.int x2), (.int x3)] maxLocals)) t := fun t k => p177 t (st178 t k)
        have p185 : ∀ t, Steps p.tables e below (T178.setTop (mkF m 135 #[.val (.int x0), .val (.int x1), .val (.int x2), .val (.int x3), .val (.int (82 : Int32)), .val (.ref a_RETAINED), .val (.ref b170), .unset, .unset] [(.int (4 : Int32))])) t → Steps p.tables e below (s₁.setTop (entryFrame m #[(.int x0), (.int x1), (.int x2), (.int x3)] maxLocals)) t := fun t k => p184 t (by
          show Steps p.tables e below (T178.setTop (mkF m 134 #[.val (.int x0), .val (.int x1), .val (.int x2), .val (.int x3), .val (.int (82 : Int32)), .val (.ref a_RETAINED), .val (.ref b170), .unset, .unset] [])) _
          refine XS.iconst X178.here hx rfl (hb hby at_134) ?_
          exact k)
        obtain ⟨T186, h186, k186, X186, e186, E186, A186, st186⟩ := newP X178 hx hZ (hw _ (List.mem_of_getElem? (i := 3) rfl)) e178 (g := (mkF m 135 #[.val (.int x0), .val (.int x1), .val (.int x2), .val (.int x3), .val (.int (82 : Int32)), .val (.ref a_RETAINED), .val (.ref b170), .unset, .unset] [(.int (4 : Int32))])) rfl (hb hby at_135) rfl (by decide) (cap := 4) (by decide) (by decide) (by decide) (by decide)
        obtain ⟨b186, g186⟩ : ∃ z, z = h178.size := ⟨_, rfl⟩
        rw [← g186] at A186 st186
        have gn_b186 : n0 ≤ b186 := Nat.le_trans Z178 (Nat.le_of_eq g186.symm)
        have ne187 : b170 ≠ b186 := Nat.ne_of_lt (Nat.lt_of_lt_of_le VV178.lt (Nat.le_of_eq g186.symm))
        have f188 := f179.ext E186
        have f189 := f180.ext E186
        have f190 := f181.ext E186
        have f191 := f182.ext E186
        have f192 := f183.ext E186
        have f193 := VV178.ext E186
        have Z186 := Nat.le_trans Z178 E186.1
        have VV186 : Arv Z h186 b186 k186 .byte (4 : Int32) [(.int (0 : Int32)), (.int (0 : Int32)), (.int (0 : Int32)), (.int (0 : Int32))] (.int (0 : Int32)) := (Arv.new A186 (by decide)).pad (pad_rep [] (.int (0 : Int32)) 4)
        have p194 : ∀ t, Steps p.tables e below (T186.setTop (mkF m 137 #[.val (.int x0), .val (.int x1), .val (.int x2), .val (.int x3), .val (.int (82 : Int32)), .val (.ref a_RETAINED), .val (.ref b170), .unset, .unset] [(.ref b186)])) t → Steps p.tables e below (s₁.setTop (entryFrame m #[(.int x0), (.int x1), (.int x2), (.int x3)] maxLocals)) t := fun t k => p185 t (st186 t k)
        have p195 : ∀ t, Steps p.tables e below (T186.setTop (mkF m 145 #[.val (.int x0), .val (.int x1), .val (.int x2), .val (.int x3), .val (.int (82 : Int32)), .val (.ref a_RETAINED), .val (.ref b170), .val (.ref b186), .unset] [(.int ((82 : Int32).toInt8.toInt32)), (.int (0 : Int32)), (.ref b186)])) t → Steps p.tables e below (s₁.setTop (entryFrame m #[(.int x0), (.int x1), (.int x2), (.int x3)] maxLocals)) t := fun t k => p194 t (by
          show Steps p.tables e below (T186.setTop (mkF m 137 #[.val (.int x0), .val (.int x1), .val (.int x2), .val (.int x3), .val (.int (82 : Int32)), .val (.ref a_RETAINED), .val (.ref b170), .unset, .unset] [(.ref b186)])) _
          refine XS.astore X186.here hx rfl (hb hby at_137) rfl rfl (l' := #[.val (.int x0), .val (.int x1), .val (.int x2), .val (.int x3), .val (.int (82 : Int32)), .val (.ref a_RETAINED), .val (.ref b170), .val (.ref b186), .unset]) rfl ?_
          show Steps p.tables e below (T186.setTop (mkF m 139 #[.val (.int x0), .val (.int x1), .val (.int x2), .val (.int x3), .val (.int (82 : Int32)), .val (.ref a_RETAINED), .val (.ref b170), .val (.ref b186), .unset] [])) _
          refine XS.aload X186.here hx rfl (hb hby at_139) rfl rfl ?_
          show Steps p.tables e below (T186.setTop (mkF m 141 #[.val (.int x0), .val (.int x1), .val (.int x2), .val (.int x3), .val (.int (82 : Int32)), .val (.ref a_RETAINED), .val (.ref b170), .val (.ref b186), .unset] [(.ref b186)])) _
          refine XS.iconst X186.here hx rfl (hb hby at_141) ?_
          show Steps p.tables e below (T186.setTop (mkF m 142 #[.val (.int x0), .val (.int x1), .val (.int x2), .val (.int x3), .val (.int (82 : Int32)), .val (.ref a_RETAINED), .val (.ref b170), .val (.ref b186), .unset] [(.int (0 : Int32)), (.ref b186)])) _
          refine XS.iload X186.here hx rfl (hb hby at_142) rfl ?_
          show Steps p.tables e below (T186.setTop (mkF m 144 #[.val (.int x0), .val (.int x1), .val (.int x2), .val (.int x3), .val (.int (82 : Int32)), .val (.ref a_RETAINED), .val (.ref b170), .val (.ref b186), .unset] [(.int (82 : Int32)), (.int (0 : Int32)), (.ref b186)])) _
          refine XS.i2b X186.here hx rfl (hb hby at_144) rfl ?_
          exact k)
        obtain ⟨cl196, Ar196, q196, Sz196, Ng196, Hs196, G196⟩ := id VV186
        have hin196 : ¬ ((0 : Int32) < 0 ∨ cl196.slots.size ≤ ((0 : Int32)).toNatClampNeg) := inb_of Sz196 (⟨by decide, by decide⟩)
        obtain ⟨T196, h196, X196, e196, W196, st196⟩ := stB X186 hx hZ e186 Ar196 (j := (0 : Int32)) hin196 (g := (mkF m 145 #[.val (.int x0), .val (.int x1), .val (.int x2), .val (.int x3), .val (.int (82 : Int32)), .val (.ref a_RETAINED), .val (.ref b170), .val (.ref b186), .unset] [(.int ((82 : Int32).toInt8.toInt32)), (.int (0 : Int32)), (.ref b186)])) rfl rfl (hb hby at_145)
        have VV196 : Arv Z h196 b186 k186 .byte (4 : Int32) [(.int (((82 : Int32).toInt8.toInt32).toInt8.toInt32)), (.int (0 : Int32)), (.int (0 : Int32)), (.int (0 : Int32))] (.int (0 : Int32)) := Arv.set Ar196 q196 Sz196 Ng196 Hs196 G196 (fits_nar_byte _) W196 0 (by decide) (Nat.le_of_ble_eq_true rfl)
        have f197 := f188.wr W196 gn_b186
        have f198 := f189.wr W196
        have f199 := f190.wr W196
        have f200 := f191.wr W196
        have f201 := f192.wr W196
        have f202 := f193.other W196 ne187
        have Z196 := Nat.le_trans Z186 (Keep.of_wr W196).1
        have N196 := Fr.snoc X196 N178 gn_b186
        have p203 : ∀ t, Steps p.tables e below (T196.setTop (mkF m 146 #[.val (.int x0), .val (.int x1), .val (.int x2), .val (.int x3), .val (.int (82 : Int32)), .val (.ref a_RETAINED), .val (.ref b170), .val (.ref b186), .unset] [])) t → Steps p.tables e below (s₁.setTop (entryFrame m #[(.int x0), (.int x1), (.int x2), (.int x3)] maxLocals)) t := fun t k => p195 t (st196 t k)
        have p204 : ∀ t, Steps p.tables e below (T196.setTop (mkF m 151 #[.val (.int x0), .val (.int x1), .val (.int x2), .val (.int x3), .val (.int (82 : Int32)), .val (.ref a_RETAINED), .val (.ref b170), .val (.ref b186), .unset] [(.int (x2.toInt8.toInt32)), (.int (1 : Int32)), (.ref b186)])) t → Steps p.tables e below (s₁.setTop (entryFrame m #[(.int x0), (.int x1), (.int x2), (.int x3)] maxLocals)) t := fun t k => p203 t (by
          show Steps p.tables e below (T196.setTop (mkF m 146 #[.val (.int x0), .val (.int x1), .val (.int x2), .val (.int x3), .val (.int (82 : Int32)), .val (.ref a_RETAINED), .val (.ref b170), .val (.ref b186), .unset] [])) _
          refine XS.aload X196.here hx rfl (hb hby at_146) rfl rfl ?_
          show Steps p.tables e below (T196.setTop (mkF m 148 #[.val (.int x0), .val (.int x1), .val (.int x2), .val (.int x3), .val (.int (82 : Int32)), .val (.ref a_RETAINED), .val (.ref b170), .val (.ref b186), .unset] [(.ref b186)])) _
          refine XS.iconst X196.here hx rfl (hb hby at_148) ?_
          show Steps p.tables e below (T196.setTop (mkF m 149 #[.val (.int x0), .val (.int x1), .val (.int x2), .val (.int x3), .val (.int (82 : Int32)), .val (.ref a_RETAINED), .val (.ref b170), .val (.ref b186), .unset] [(.int (1 : Int32)), (.ref b186)])) _
          refine XS.iloadN X196.here hx rfl (hb hby at_149) rfl ?_
          show Steps p.tables e below (T196.setTop (mkF m 150 #[.val (.int x0), .val (.int x1), .val (.int x2), .val (.int x3), .val (.int (82 : Int32)), .val (.ref a_RETAINED), .val (.ref b170), .val (.ref b186), .unset] [(.int x2), (.int (1 : Int32)), (.ref b186)])) _
          refine XS.i2b X196.here hx rfl (hb hby at_150) rfl ?_
          exact k)
        obtain ⟨cl205, Ar205, q205, Sz205, Ng205, Hs205, G205⟩ := id VV196
        have hin205 : ¬ ((1 : Int32) < 0 ∨ cl205.slots.size ≤ ((1 : Int32)).toNatClampNeg) := inb_of Sz205 (⟨by decide, by decide⟩)
        obtain ⟨T205, h205, X205, e205, W205, st205⟩ := stB X196 hx hZ e196 Ar205 (j := (1 : Int32)) hin205 (g := (mkF m 151 #[.val (.int x0), .val (.int x1), .val (.int x2), .val (.int x3), .val (.int (82 : Int32)), .val (.ref a_RETAINED), .val (.ref b170), .val (.ref b186), .unset] [(.int (x2.toInt8.toInt32)), (.int (1 : Int32)), (.ref b186)])) rfl rfl (hb hby at_151)
        have VV205 : Arv Z h205 b186 k186 .byte (4 : Int32) [(.int (((82 : Int32).toInt8.toInt32).toInt8.toInt32)), (.int ((x2.toInt8.toInt32).toInt8.toInt32)), (.int (0 : Int32)), (.int (0 : Int32))] (.int (0 : Int32)) := Arv.set Ar205 q205 Sz205 Ng205 Hs205 G205 (fits_nar_byte _) W205 1 (by decide) (Nat.le_of_ble_eq_true rfl)
        have f206 := f197.wr W205 gn_b186
        have f207 := f198.wr W205
        have f208 := f199.wr W205
        have f209 := f200.wr W205
        have f210 := f201.wr W205
        have f211 := f202.other W205 ne187
        have Z205 := Nat.le_trans Z196 (Keep.of_wr W205).1
        have N205 := Fr.snoc X205 N196 gn_b186
        have p212 : ∀ t, Steps p.tables e below (T205.setTop (mkF m 152 #[.val (.int x0), .val (.int x1), .val (.int x2), .val (.int x3), .val (.int (82 : Int32)), .val (.ref a_RETAINED), .val (.ref b170), .val (.ref b186), .unset] [])) t → Steps p.tables e below (s₁.setTop (entryFrame m #[(.int x0), (.int x1), (.int x2), (.int x3)] maxLocals)) t := fun t k => p204 t (st205 t k)
        have p213 : ∀ t, Steps p.tables e below (T205.setTop (mkF m 160 #[.val (.int x0), .val (.int x1), .val (.int x2), .val (.int x3), .val (.int (82 : Int32)), .val (.ref a_RETAINED), .val (.ref b170), .val (.ref b186), .unset] [(.int ((x2 >>> ((8 : Int32) &&& 31)).toInt8.toInt32)), (.int (2 : Int32)), (.ref b186)])) t → Steps p.tables e below (s₁.setTop (entryFrame m #[(.int x0), (.int x1), (.int x2), (.int x3)] maxLocals)) t := fun t k => p212 t (by
          show Steps p.tables e below (T205.setTop (mkF m 152 #[.val (.int x0), .val (.int x1), .val (.int x2), .val (.int x3), .val (.int (82 : Int32)), .val (.ref a_RETAINED), .val (.ref b170), .val (.ref b186), .unset] [])) _
          refine XS.aload X205.here hx rfl (hb hby at_152) rfl rfl ?_
          show Steps p.tables e below (T205.setTop (mkF m 154 #[.val (.int x0), .val (.int x1), .val (.int x2), .val (.int x3), .val (.int (82 : Int32)), .val (.ref a_RETAINED), .val (.ref b170), .val (.ref b186), .unset] [(.ref b186)])) _
          refine XS.iconst X205.here hx rfl (hb hby at_154) ?_
          show Steps p.tables e below (T205.setTop (mkF m 155 #[.val (.int x0), .val (.int x1), .val (.int x2), .val (.int x3), .val (.int (82 : Int32)), .val (.ref a_RETAINED), .val (.ref b170), .val (.ref b186), .unset] [(.int (2 : Int32)), (.ref b186)])) _
          refine XS.iloadN X205.here hx rfl (hb hby at_155) rfl ?_
          show Steps p.tables e below (T205.setTop (mkF m 156 #[.val (.int x0), .val (.int x1), .val (.int x2), .val (.int x3), .val (.int (82 : Int32)), .val (.ref a_RETAINED), .val (.ref b170), .val (.ref b186), .unset] [(.int x2), (.int (2 : Int32)), (.ref b186)])) _
          refine XS.bipush X205.here hx rfl (hb hby at_156) ?_
          show Steps p.tables e below (T205.setTop (mkF m 158 #[.val (.int x0), .val (.int x1), .val (.int x2), .val (.int x3), .val (.int (82 : Int32)), .val (.ref a_RETAINED), .val (.ref b170), .val (.ref b186), .unset] [(.int (8 : Int32)), (.int x2), (.int (2 : Int32)), (.ref b186)])) _
          refine XS.ishr X205.here hx rfl (hb hby at_158) rfl ?_
          show Steps p.tables e below (T205.setTop (mkF m 159 #[.val (.int x0), .val (.int x1), .val (.int x2), .val (.int x3), .val (.int (82 : Int32)), .val (.ref a_RETAINED), .val (.ref b170), .val (.ref b186), .unset] [(.int (x2 >>> ((8 : Int32) &&& 31))), (.int (2 : Int32)), (.ref b186)])) _
          refine XS.i2b X205.here hx rfl (hb hby at_159) rfl ?_
          exact k)
        obtain ⟨cl214, Ar214, q214, Sz214, Ng214, Hs214, G214⟩ := id VV205
        have hin214 : ¬ ((2 : Int32) < 0 ∨ cl214.slots.size ≤ ((2 : Int32)).toNatClampNeg) := inb_of Sz214 (⟨by decide, by decide⟩)
        obtain ⟨T214, h214, X214, e214, W214, st214⟩ := stB X205 hx hZ e205 Ar214 (j := (2 : Int32)) hin214 (g := (mkF m 160 #[.val (.int x0), .val (.int x1), .val (.int x2), .val (.int x3), .val (.int (82 : Int32)), .val (.ref a_RETAINED), .val (.ref b170), .val (.ref b186), .unset] [(.int ((x2 >>> ((8 : Int32) &&& 31)).toInt8.toInt32)), (.int (2 : Int32)), (.ref b186)])) rfl rfl (hb hby at_160)
        have VV214 : Arv Z h214 b186 k186 .byte (4 : Int32) [(.int (((82 : Int32).toInt8.toInt32).toInt8.toInt32)), (.int ((x2.toInt8.toInt32).toInt8.toInt32)), (.int (((x2 >>> ((8 : Int32) &&& 31)).toInt8.toInt32).toInt8.toInt32)), (.int (0 : Int32))] (.int (0 : Int32)) := Arv.set Ar214 q214 Sz214 Ng214 Hs214 G214 (fits_nar_byte _) W214 2 (by decide) (Nat.le_of_ble_eq_true rfl)
        have f215 := f206.wr W214 gn_b186
        have f216 := f207.wr W214
        have f217 := f208.wr W214
        have f218 := f209.wr W214
        have f219 := f210.wr W214
        have f220 := f211.other W214 ne187
        have Z214 := Nat.le_trans Z205 (Keep.of_wr W214).1
        have N214 := Fr.snoc X214 N205 gn_b186
        have p221 : ∀ t, Steps p.tables e below (T214.setTop (mkF m 161 #[.val (.int x0), .val (.int x1), .val (.int x2), .val (.int x3), .val (.int (82 : Int32)), .val (.ref a_RETAINED), .val (.ref b170), .val (.ref b186), .unset] [])) t → Steps p.tables e below (s₁.setTop (entryFrame m #[(.int x0), (.int x1), (.int x2), (.int x3)] maxLocals)) t := fun t k => p213 t (st214 t k)
        have p222 : ∀ t, Steps p.tables e below (T214.setTop (mkF m 169 #[.val (.int x0), .val (.int x1), .val (.int x2), .val (.int x3), .val (.int (82 : Int32)), .val (.ref a_RETAINED), .val (.ref b170), .val (.ref b186), .unset] [(.int ((x2 >>> ((16 : Int32) &&& 31)).toInt8.toInt32)), (.int (3 : Int32)), (.ref b186)])) t → Steps p.tables e below (s₁.setTop (entryFrame m #[(.int x0), (.int x1), (.int x2), (.int x3)] maxLocals)) t := fun t k => p221 t (by
          show Steps p.tables e below (T214.setTop (mkF m 161 #[.val (.int x0), .val (.int x1), .val (.int x2), .val (.int x3), .val (.int (82 : Int32)), .val (.ref a_RETAINED), .val (.ref b170), .val (.ref b186), .unset] [])) _
          refine XS.aload X214.here hx rfl (hb hby at_161) rfl rfl ?_
          show Steps p.tables e below (T214.setTop (mkF m 163 #[.val (.int x0), .val (.int x1), .val (.int x2), .val (.int x3), .val (.int (82 : Int32)), .val (.ref a_RETAINED), .val (.ref b170), .val (.ref b186), .unset] [(.ref b186)])) _
          refine XS.iconst X214.here hx rfl (hb hby at_163) ?_
          show Steps p.tables e below (T214.setTop (mkF m 164 #[.val (.int x0), .val (.int x1), .val (.int x2), .val (.int x3), .val (.int (82 : Int32)), .val (.ref a_RETAINED), .val (.ref b170), .val (.ref b186), .unset] [(.int (3 : Int32)), (.ref b186)])) _
          refine XS.iloadN X214.here hx rfl (hb hby at_164) rfl ?_
          show Steps p.tables e below (T214.setTop (mkF m 165 #[.val (.int x0), .val (.int x1), .val (.int x2), .val (.int x3), .val (.int (82 : Int32)), .val (.ref a_RETAINED), .val (.ref b170), .val (.ref b186), .unset] [(.int x2), (.int (3 : Int32)), (.ref b186)])) _
          refine XS.bipush X214.here hx rfl (hb hby at_165) ?_
          show Steps p.tables e below (T214.setTop (mkF m 167 #[.val (.int x0), .val (.int x1), .val (.int x2), .val (.int x3), .val (.int (82 : Int32)), .val (.ref a_RETAINED), .val (.ref b170), .val (.ref b186), .unset] [(.int (16 : Int32)), (.int x2), (.int (3 : Int32)), (.ref b186)])) _
          refine XS.ishr X214.here hx rfl (hb hby at_167) rfl ?_
          show Steps p.tables e below (T214.setTop (mkF m 168 #[.val (.int x0), .val (.int x1), .val (.int x2), .val (.int x3), .val (.int (82 : Int32)), .val (.ref a_RETAINED), .val (.ref b170), .val (.ref b186), .unset] [(.int (x2 >>> ((16 : Int32) &&& 31))), (.int (3 : Int32)), (.ref b186)])) _
          refine XS.i2b X214.here hx rfl (hb hby at_168) rfl ?_
          exact k)
        obtain ⟨cl223, Ar223, q223, Sz223, Ng223, Hs223, G223⟩ := id VV214
        have hin223 : ¬ ((3 : Int32) < 0 ∨ cl223.slots.size ≤ ((3 : Int32)).toNatClampNeg) := inb_of Sz223 (⟨by decide, by decide⟩)
        obtain ⟨T223, h223, X223, e223, W223, st223⟩ := stB X214 hx hZ e214 Ar223 (j := (3 : Int32)) hin223 (g := (mkF m 169 #[.val (.int x0), .val (.int x1), .val (.int x2), .val (.int x3), .val (.int (82 : Int32)), .val (.ref a_RETAINED), .val (.ref b170), .val (.ref b186), .unset] [(.int ((x2 >>> ((16 : Int32) &&& 31)).toInt8.toInt32)), (.int (3 : Int32)), (.ref b186)])) rfl rfl (hb hby at_169)
        have VV223 : Arv Z h223 b186 k186 .byte (4 : Int32) [(.int (((82 : Int32).toInt8.toInt32).toInt8.toInt32)), (.int ((x2.toInt8.toInt32).toInt8.toInt32)), (.int (((x2 >>> ((8 : Int32) &&& 31)).toInt8.toInt32).toInt8.toInt32)), (.int (((x2 >>> ((16 : Int32) &&& 31)).toInt8.toInt32).toInt8.toInt32))] (.int (0 : Int32)) := Arv.set Ar223 q223 Sz223 Ng223 Hs223 G223 (fits_nar_byte _) W223 3 (by decide) (Nat.le_of_ble_eq_true rfl)
        have f224 := f215.wr W223 gn_b186
        have f225 := f216.wr W223
        have f226 := f217.wr W223
        have f227 := f218.wr W223
        have f228 := f219.wr W223
        have f229 := f220.other W223 ne187
        have Z223 := Nat.le_trans Z214 (Keep.of_wr W223).1
        have N223 := Fr.snoc X223 N214 gn_b186
        have p230 : ∀ t, Steps p.tables e below (T223.setTop (mkF m 170 #[.val (.int x0), .val (.int x1), .val (.int x2), .val (.int x3), .val (.int (82 : Int32)), .val (.ref a_RETAINED), .val (.ref b170), .val (.ref b186), .unset] [])) t → Steps p.tables e below (s₁.setTop (entryFrame m #[(.int x0), (.int x1), (.int x2), (.int x3)] maxLocals)) t := fun t k => p222 t (st223 t k)
        have p231 : ∀ t, Steps p.tables e below (T223.setTop (mkF m 173 #[.val (.int x0), .val (.int x1), .val (.int x2), .val (.int x3), .val (.int (82 : Int32)), .val (.ref a_RETAINED), .val (.ref b170), .val (.ref b186), .unset] [(.int (x3 &&& (2 : Int32)))])) t → Steps p.tables e below (s₁.setTop (entryFrame m #[(.int x0), (.int x1), (.int x2), (.int x3)] maxLocals)) t := fun t k => p230 t (by
          show Steps p.tables e below (T223.setTop (mkF m 170 #[.val (.int x0), .val (.int x1), .val (.int x2), .val (.int x3), .val (.int (82 : Int32)), .val (.ref a_RETAINED), .val (.ref b170), .val (.ref b186), .unset] [])) _
          refine XS.iloadN X223.here hx rfl (hb hby at_170) rfl ?_
          show Steps p.tables e below (T223.setTop (mkF m 171 #[.val (.int x0), .val (.int x1), .val (.int x2), .val (.int x3), .val (.int (82 : Int32)), .val (.ref a_RETAINED), .val (.ref b170), .val (.ref b186), .unset] [(.int x3)])) _
          refine XS.iconst X223.here hx rfl (hb hby at_171) ?_
          show Steps p.tables e below (T223.setTop (mkF m 172 #[.val (.int x0), .val (.int x1), .val (.int x2), .val (.int x3), .val (.int (82 : Int32)), .val (.ref a_RETAINED), .val (.ref b170), .val (.ref b186), .unset] [(.int (2 : Int32)), (.int x3)])) _
          refine XS.iand X223.here hx rfl (hb hby at_172) rfl ?_
          exact k)
        by_cases hc173 : (x3 &&& (2 : Int32)) = (0 : Int32)
        · have p232 : ∀ t, Steps p.tables e below (T223.setTop (mkF m 187 #[.val (.int x0), .val (.int x1), .val (.int x2), .val (.int x3), .val (.int (82 : Int32)), .val (.ref a_RETAINED), .val (.ref b170), .val (.ref b186), .val (.ref b170)] [(.ref b170)])) t → Steps p.tables e below (s₁.setTop (entryFrame m #[(.int x0), (.int x1), (.int x2), (.int x3)] maxLocals)) t := fun t k => p231 t (by
            show Steps p.tables e below (T223.setTop (mkF m 173 #[.val (.int x0), .val (.int x1), .val (.int x2), .val (.int x3), .val (.int (82 : Int32)), .val (.ref a_RETAINED), .val (.ref b170), .val (.ref b186), .unset] [(.int (x3 &&& (2 : Int32)))])) _
            refine XS.ifYes X223.here hx rfl (pc0 := 173) (pc' := 181) rfl (hb hby at_173) rfl ((if0 _ _).trans (teq (hc173)).1) (by decide) (by decide) ?_
            show Steps p.tables e below (T223.setTop (mkF m 181 #[.val (.int x0), .val (.int x1), .val (.int x2), .val (.int x3), .val (.int (82 : Int32)), .val (.ref a_RETAINED), .val (.ref b170), .val (.ref b186), .unset] [])) _
            refine XS.aload X223.here hx rfl (hb hby at_181) rfl rfl ?_
            show Steps p.tables e below (T223.setTop (mkF m 183 #[.val (.int x0), .val (.int x1), .val (.int x2), .val (.int x3), .val (.int (82 : Int32)), .val (.ref a_RETAINED), .val (.ref b170), .val (.ref b186), .unset] [(.ref b170)])) _
            refine XS.astore X223.here hx rfl (hb hby at_183) rfl rfl (l' := #[.val (.int x0), .val (.int x1), .val (.int x2), .val (.int x3), .val (.int (82 : Int32)), .val (.ref a_RETAINED), .val (.ref b170), .val (.ref b186), .val (.ref b170)]) rfl ?_
            show Steps p.tables e below (T223.setTop (mkF m 185 #[.val (.int x0), .val (.int x1), .val (.int x2), .val (.int x3), .val (.int (82 : Int32)), .val (.ref a_RETAINED), .val (.ref b170), .val (.ref b186), .val (.ref b170)] [])) _
            refine XS.aload X223.here hx rfl (hb hby at_185) rfl rfl ?_
            exact k)
          obtain ⟨_, _, ⟨T233, L233, k233, n233⟩, -, X233, ⟨Lc233, hQ233, l233, y233, z233⟩, st233⟩ := Jvm.LawKit.callS X223 hx (y := (⟨"com/example/disposition/disposition/store/Keys", "parseQueue", "([B)Lcom/example/disposition/disposition/store/JobQueue;"⟩ : MethodName)) hown (mvT hZ (hw _ (List.mem_of_getElem? (i := 4) rfl))) (mvT hZ (hw _ (List.mem_of_getElem? (i := 5) rfl))) (mvT hZ (hw _ (List.mem_of_getElem? (i := 6) rfl))) (mvT hZ (hw _ (List.mem_of_getElem? (i := 7) rfl))) (by decide) (backOf (W := 0) (rmq2 l Z a0 hw [] b170 a_V kk a_IN_PLACE a_STAYING a_RETAINED a_HELD (((82 : Int32).toInt8.toInt32).toInt8.toInt32) h223 n0 Z223 f224 S_V V_V E_V E_IN_PLACE E_STAYING E_RETAINED E_HELD F_IN_PLACE F_STAYING F_RETAINED F_HELD (own_B0.of f229 (by decide) rfl) (by decide)) hZ (hw _ (List.mem_of_getElem? (i := 7) rfl)) (hw _ (List.mem_of_getElem? (i := 6) rfl)) (by decide) (by decide)) (g := (mkF m 187 #[.val (.int x0), .val (.int x1), .val (.int x2), .val (.int x3), .val (.int (82 : Int32)), .val (.ref a_RETAINED), .val (.ref b170), .val (.ref b186), .val (.ref b170)] [(.ref b170)])) rfl (by rw [hml]; rfl) (argsL := [(.ref b170)]) (rest := []) (lenOf pd0_0 rfl) rfl (by show 2 * 0 + _ ≤ _; exact Nat.le_of_eq rfl) (hb hby at_187) (fun _ _ => ⟨rfl, e223, (by decide : 2 + 1 ≤ _), (by decide : 5 + 4 ≤ _)⟩)
          dsimp only [Pt.U, Pt.locs, Pt.cells, Pt.slots] at X233 l233 y233 z233 st233 hQ233
          subst l233 y233 z233
          obtain ⟨rfl, Nq233, K233⟩ := hQ233
          have N233 := Fr.app N223 Nq233
          have f234 := f224.keep K233 (all0)
          have Z233 := Nat.le_trans Z223 K233.1
          have p235 : ∀ t, Steps p.tables e below (T233.setTop (mkF m 190 #[.val (.int x0), .val (.int x1), .val (.int x2), .val (.int x3), .val (.int (82 : Int32)), .val (.ref a_RETAINED), .val (.ref b170), .val (.ref b186), .val (.ref b170)] [(.ref a_RETAINED)])) t → Steps p.tables e below (s₁.setTop (entryFrame m #[(.int x0), (.int x1), (.int x2), (.int x3)] maxLocals)) t := fun t k => p232 t (st233 _ k)
          have p236 : ∀ t, Steps p.tables e below (T233.setTop (mkF m 200 #[.val (.int x0), .val (.int x1), .val (.int x2), .val (.int x3), .val (.int (82 : Int32)), .val (.ref a_RETAINED), .val (.ref b170), .val (.ref b186), .val (.ref b170)] [(.int (1 : Int32))])) t → Steps p.tables e below (s₁.setTop (entryFrame m #[(.int x0), (.int x1), (.int x2), (.int x3)] maxLocals)) t := fun t k => p235 t (by
            show Steps p.tables e below (T233.setTop (mkF m 190 #[.val (.int x0), .val (.int x1), .val (.int x2), .val (.int x3), .val (.int (82 : Int32)), .val (.ref a_RETAINED), .val (.ref b170), .val (.ref b186), .val (.ref b170)] [(.ref a_RETAINED)])) _
            refine XS.aload X233.here hx rfl (hb hby at_190) rfl rfl ?_
            show Steps p.tables e below (T233.setTop (mkF m 192 #[.val (.int x0), .val (.int x1), .val (.int x2), .val (.int x3), .val (.int (82 : Int32)), .val (.ref a_RETAINED), .val (.ref b170), .val (.ref b186), .val (.ref b170)] [(.ref a_RETAINED), (.ref a_RETAINED)])) _
            refine Jvm.RoadKit.acmp (g := (mkF m 192 #[.val (.int x0), .val (.int x1), .val (.int x2), .val (.int x3), .val (.int (82 : Int32)), .val (.ref a_RETAINED), .val (.ref b170), .val (.ref b186), .val (.ref b170)] [(.ref a_RETAINED), (.ref a_RETAINED)])) X233 hx rfl rfl rfl (pc0 := 192) (pc' := 195) (same := true) rfl (hb hby at_192) rfl (decide_eq_true rfl) (by decide) (by decide) ?_
            show Steps p.tables e below (T233.setTop (mkF m 195 #[.val (.int x0), .val (.int x1), .val (.int x2), .val (.int x3), .val (.int (82 : Int32)), .val (.ref a_RETAINED), .val (.ref b170), .val (.ref b186), .val (.ref b170)] [])) _
            refine XS.iconst X233.here hx rfl (hb hby at_195) ?_
            show Steps p.tables e below (T233.setTop (mkF m 196 #[.val (.int x0), .val (.int x1), .val (.int x2), .val (.int x3), .val (.int (82 : Int32)), .val (.ref a_RETAINED), .val (.ref b170), .val (.ref b186), .val (.ref b170)] [(.int (1 : Int32))])) _
            refine XS.goto X233.here hx rfl (pc0 := 196) (pc' := 200) rfl (hb hby at_196) (by decide) (by decide) ?_
            exact k)
          obtain ⟨fs, hr, hrun, hended, hW, hsame⟩ := X233.leave (v := some (.int (1 : Int32))) (fun h => by rw [Bd.returns] at h; cases h)
          refine ⟨_, _, p236 _ ?_, hrun, hended, _, _, rfl, ?_, ⟨_, rfl⟩, hW, hsame.mono (by decide) (by decide)⟩
          · show Steps p.tables e below (T233.setTop (mkF m 200 #[.val (.int x0), .val (.int x1), .val (.int x2), .val (.int x3), .val (.int (82 : Int32)), .val (.ref a_RETAINED), .val (.ref b170), .val (.ref b186), .val (.ref b170)] [(.int (1 : Int32))])) _
            exact retN X233 hx (t := .boolean) Bd.returns (by simp) (hb hby at_200) hr
          · show Q0 Z x0 x1 x2 x3 a_V kk a_IN_PLACE a_STAYING a_RETAINED a_HELD h0 n0 _ T233.heap _
            skip
            exact ⟨rfl, N233⟩
        · have p237 : ∀ t, Steps p.tables e below (T223.setTop (mkF m 187 #[.val (.int x0), .val (.int x1), .val (.int x2), .val (.int x3), .val (.int (82 : Int32)), .val (.ref a_RETAINED), .val (.ref b170), .val (.ref b186), .val (.ref b186)] [(.ref b186)])) t → Steps p.tables e below (s₁.setTop (entryFrame m #[(.int x0), (.int x1), (.int x2), (.int x3)] maxLocals)) t := fun t k => p231 t (by
            show Steps p.tables e below (T223.setTop (mkF m 173 #[.val (.int x0), .val (.int x1), .val (.int x2), .val (.int x3), .val (.int (82 : Int32)), .val (.ref a_RETAINED), .val (.ref b170), .val (.ref b186), .unset] [(.int (x3 &&& (2 : Int32)))])) _
            refine XS.ifNo X223.here hx rfl (hb hby at_173) rfl ((if0 _ _).trans (feq (hc173)).1) ?_
            show Steps p.tables e below (T223.setTop (mkF m 176 #[.val (.int x0), .val (.int x1), .val (.int x2), .val (.int x3), .val (.int (82 : Int32)), .val (.ref a_RETAINED), .val (.ref b170), .val (.ref b186), .unset] [])) _
            refine XS.aload X223.here hx rfl (hb hby at_176) rfl rfl ?_
            show Steps p.tables e below (T223.setTop (mkF m 178 #[.val (.int x0), .val (.int x1), .val (.int x2), .val (.int x3), .val (.int (82 : Int32)), .val (.ref a_RETAINED), .val (.ref b170), .val (.ref b186), .unset] [(.ref b186)])) _
            refine XS.goto X223.here hx rfl (pc0 := 178) (pc' := 183) rfl (hb hby at_178) (by decide) (by decide) ?_
            show Steps p.tables e below (T223.setTop (mkF m 183 #[.val (.int x0), .val (.int x1), .val (.int x2), .val (.int x3), .val (.int (82 : Int32)), .val (.ref a_RETAINED), .val (.ref b170), .val (.ref b186), .unset] [(.ref b186)])) _
            refine XS.astore X223.here hx rfl (hb hby at_183) rfl rfl (l' := #[.val (.int x0), .val (.int x1), .val (.int x2), .val (.int x3), .val (.int (82 : Int32)), .val (.ref a_RETAINED), .val (.ref b170), .val (.ref b186), .val (.ref b186)]) rfl ?_
            show Steps p.tables e below (T223.setTop (mkF m 185 #[.val (.int x0), .val (.int x1), .val (.int x2), .val (.int x3), .val (.int (82 : Int32)), .val (.ref a_RETAINED), .val (.ref b170), .val (.ref b186), .val (.ref b186)] [])) _
            refine XS.aload X223.here hx rfl (hb hby at_185) rfl rfl ?_
            exact k)
          obtain ⟨_, _, ⟨T238, L238, k238, n238⟩, -, X238, ⟨Lc238, hQ238, l238, y238, z238⟩, st238⟩ := Jvm.LawKit.callS X223 hx (y := (⟨"com/example/disposition/disposition/store/Keys", "parseQueue", "([B)Lcom/example/disposition/disposition/store/JobQueue;"⟩ : MethodName)) hown (mvT hZ (hw _ (List.mem_of_getElem? (i := 4) rfl))) (mvT hZ (hw _ (List.mem_of_getElem? (i := 5) rfl))) (mvT hZ (hw _ (List.mem_of_getElem? (i := 6) rfl))) (mvT hZ (hw _ (List.mem_of_getElem? (i := 7) rfl))) (by decide) (backOf (W := 0) (rmq2 l Z a0 hw [] b186 a_V kk a_IN_PLACE a_STAYING a_RETAINED a_HELD (((82 : Int32).toInt8.toInt32).toInt8.toInt32) h223 n0 Z223 f224 S_V V_V E_V E_IN_PLACE E_STAYING E_RETAINED E_HELD F_IN_PLACE F_STAYING F_RETAINED F_HELD (own_B0.of VV223 (by decide) rfl) (by decide)) hZ (hw _ (List.mem_of_getElem? (i := 7) rfl)) (hw _ (List.mem_of_getElem? (i := 6) rfl)) (by decide) (by decide)) (g := (mkF m 187 #[.val (.int x0), .val (.int x1), .val (.int x2), .val (.int x3), .val (.int (82 : Int32)), .val (.ref a_RETAINED), .val (.ref b170), .val (.ref b186), .val (.ref b186)] [(.ref b186)])) rfl (by rw [hml]; rfl) (argsL := [(.ref b186)]) (rest := []) (lenOf pd0_0 rfl) rfl (by show 2 * 0 + _ ≤ _; exact Nat.le_of_eq rfl) (hb hby at_187) (fun _ _ => ⟨rfl, e223, (by decide : 2 + 1 ≤ _), (by decide : 5 + 4 ≤ _)⟩)
          dsimp only [Pt.U, Pt.locs, Pt.cells, Pt.slots] at X238 l238 y238 z238 st238 hQ238
          subst l238 y238 z238
          obtain ⟨rfl, Nq238, K238⟩ := hQ238
          have N238 := Fr.app N223 Nq238
          have f239 := f224.keep K238 (all0)
          have Z238 := Nat.le_trans Z223 K238.1
          have p240 : ∀ t, Steps p.tables e below (T238.setTop (mkF m 190 #[.val (.int x0), .val (.int x1), .val (.int x2), .val (.int x3), .val (.int (82 : Int32)), .val (.ref a_RETAINED), .val (.ref b170), .val (.ref b186), .val (.ref b186)] [(.ref a_RETAINED)])) t → Steps p.tables e below (s₁.setTop (entryFrame m #[(.int x0), (.int x1), (.int x2), (.int x3)] maxLocals)) t := fun t k => p237 t (st238 _ k)
          have p241 : ∀ t, Steps p.tables e below (T238.setTop (mkF m 200 #[.val (.int x0), .val (.int x1), .val (.int x2), .val (.int x3), .val (.int (82 : Int32)), .val (.ref a_RETAINED), .val (.ref b170), .val (.ref b186), .val (.ref b186)] [(.int (1 : Int32))])) t → Steps p.tables e below (s₁.setTop (entryFrame m #[(.int x0), (.int x1), (.int x2), (.int x3)] maxLocals)) t := fun t k => p240 t (by
            show Steps p.tables e below (T238.setTop (mkF m 190 #[.val (.int x0), .val (.int x1), .val (.int x2), .val (.int x3), .val (.int (82 : Int32)), .val (.ref a_RETAINED), .val (.ref b170), .val (.ref b186), .val (.ref b186)] [(.ref a_RETAINED)])) _
            refine XS.aload X238.here hx rfl (hb hby at_190) rfl rfl ?_
            show Steps p.tables e below (T238.setTop (mkF m 192 #[.val (.int x0), .val (.int x1), .val (.int x2), .val (.int x3), .val (.int (82 : Int32)), .val (.ref a_RETAINED), .val (.ref b170), .val (.ref b186), .val (.ref b186)] [(.ref a_RETAINED), (.ref a_RETAINED)])) _
            refine Jvm.RoadKit.acmp (g := (mkF m 192 #[.val (.int x0), .val (.int x1), .val (.int x2), .val (.int x3), .val (.int (82 : Int32)), .val (.ref a_RETAINED), .val (.ref b170), .val (.ref b186), .val (.ref b186)] [(.ref a_RETAINED), (.ref a_RETAINED)])) X238 hx rfl rfl rfl (pc0 := 192) (pc' := 195) (same := true) rfl (hb hby at_192) rfl (decide_eq_true rfl) (by decide) (by decide) ?_
            show Steps p.tables e below (T238.setTop (mkF m 195 #[.val (.int x0), .val (.int x1), .val (.int x2), .val (.int x3), .val (.int (82 : Int32)), .val (.ref a_RETAINED), .val (.ref b170), .val (.ref b186), .val (.ref b186)] [])) _
            refine XS.iconst X238.here hx rfl (hb hby at_195) ?_
            show Steps p.tables e below (T238.setTop (mkF m 196 #[.val (.int x0), .val (.int x1), .val (.int x2), .val (.int x3), .val (.int (82 : Int32)), .val (.ref a_RETAINED), .val (.ref b170), .val (.ref b186), .val (.ref b186)] [(.int (1 : Int32))])) _
            refine XS.goto X238.here hx rfl (pc0 := 196) (pc' := 200) rfl (hb hby at_196) (by decide) (by decide) ?_
            exact k)
          obtain ⟨fs, hr, hrun, hended, hW, hsame⟩ := X238.leave (v := some (.int (1 : Int32))) (fun h => by rw [Bd.returns] at h; cases h)
          refine ⟨_, _, p241 _ ?_, hrun, hended, _, _, rfl, ?_, ⟨_, rfl⟩, hW, hsame.mono (by decide) (by decide)⟩
          · show Steps p.tables e below (T238.setTop (mkF m 200 #[.val (.int x0), .val (.int x1), .val (.int x2), .val (.int x3), .val (.int (82 : Int32)), .val (.ref a_RETAINED), .val (.ref b170), .val (.ref b186), .val (.ref b186)] [(.int (1 : Int32))])) _
            exact retN X238 hx (t := .boolean) Bd.returns (by simp) (hb hby at_200) hr
          · show Q0 Z x0 x1 x2 x3 a_V kk a_IN_PLACE a_STAYING a_RETAINED a_HELD h0 n0 _ T238.heap _
            skip
            exact ⟨rfl, N238⟩
      · have p242 : ∀ t, Steps p.tables e below (s₁.setTop (mkF m 109 #[.val (.int x0), .val (.int x1), .val (.int x2), .val (.int x3), .val (.int vb), s5, .unset, .unset, .unset] [(.int (87 : Int32)), (.int vb)])) t → Steps p.tables e below (s₁.setTop (entryFrame m #[(.int x0), (.int x1), (.int x2), (.int x3)] maxLocals)) t := fun t k => p165 t (by
          show Steps p.tables e below (s₁.setTop (mkF m 94 #[.val (.int x0), .val (.int x1), .val (.int x2), .val (.int x3), .val (.int vb), s5, .unset, .unset, .unset] [(.int (82 : Int32)), (.int vb)])) _
          refine XS.icmpYes X0.here hx rfl (pc0 := 94) (pc' := 105) rfl (hb hby at_94) rfl ((feq (hc94)).2) (by decide) (by decide) ?_
          show Steps p.tables e below (s₁.setTop (mkF m 105 #[.val (.int x0), .val (.int x1), .val (.int x2), .val (.int x3), .val (.int vb), s5, .unset, .unset, .unset] [])) _
          refine XS.iload X0.here hx rfl (hb hby at_105) rfl ?_
          show Steps p.tables e below (s₁.setTop (mkF m 107 #[.val (.int x0), .val (.int x1), .val (.int x2), .val (.int x3), .val (.int vb), s5, .unset, .unset, .unset] [(.int vb)])) _
          refine XS.bipush X0.here hx rfl (hb hby at_107) ?_
          exact k)
        by_cases hc109 : vb = (87 : Int32)
        · have p243 : ∀ t, Steps p.tables e below (s₁.setTop (mkF m 112 #[.val (.int x0), .val (.int x1), .val (.int x2), .val (.int x3), .val (.int vb), s5, .unset, .unset, .unset] [])) t → Steps p.tables e below (s₁.setTop (entryFrame m #[(.int x0), (.int x1), (.int x2), (.int x3)] maxLocals)) t := fun t k => p242 t (by
            show Steps p.tables e below (s₁.setTop (mkF m 109 #[.val (.int x0), .val (.int x1), .val (.int x2), .val (.int x3), .val (.int vb), s5, .unset, .unset, .unset] [(.int (87 : Int32)), (.int vb)])) _
            refine XS.icmpNo X0.here hx rfl (hb hby at_109) rfl ((teq (hc109)).2) ?_
            exact k)
          subst hc109
          obtain ⟨T244, X244, e244, st244⟩ := getS2 X0 hx hZ hown (host := "") (Or.inl (hw _ (List.mem_of_getElem? (i := 0) rfl))) Via.refl e0 S_HELD (g := (mkF m 112 #[.val (.int x0), .val (.int x1), .val (.int x2), .val (.int x3), .val (.int (87 : Int32)), s5, .unset, .unset, .unset] [])) rfl (hb hby at_112)
          have p245 : ∀ t, Steps p.tables e below (T244.setTop (mkF m 115 #[.val (.int x0), .val (.int x1), .val (.int x2), .val (.int x3), .val (.int (87 : Int32)), s5, .unset, .unset, .unset] [(.ref a_HELD)])) t → Steps p.tables e below (s₁.setTop (entryFrame m #[(.int x0), (.int x1), (.int x2), (.int x3)] maxLocals)) t := fun t k => p243 t (st244 t k)
          have p246 : ∀ t, Steps p.tables e below (T244.setTop (mkF m 123 #[.val (.int x0), .val (.int x1), .val (.int x2), .val (.int x3), .val (.int (87 : Int32)), .val (.ref a_HELD), .unset, .unset, .unset] [(.int (1 : Int32))])) t → Steps p.tables e below (s₁.setTop (entryFrame m #[(.int x0), (.int x1), (.int x2), (.int x3)] maxLocals)) t := fun t k => p245 t (by
            show Steps p.tables e below (T244.setTop (mkF m 115 #[.val (.int x0), .val (.int x1), .val (.int x2), .val (.int x3), .val (.int (87 : Int32)), s5, .unset, .unset, .unset] [(.ref a_HELD)])) _
            refine XS.astore X244.here hx rfl (hb hby at_115) rfl rfl (l' := #[.val (.int x0), .val (.int x1), .val (.int x2), .val (.int x3), .val (.int (87 : Int32)), .val (.ref a_HELD), .unset, .unset, .unset]) (XS.store1 rfl hvb rfl) ?_
            show Steps p.tables e below (T244.setTop (mkF m 117 #[.val (.int x0), .val (.int x1), .val (.int x2), .val (.int x3), .val (.int (87 : Int32)), .val (.ref a_HELD), .unset, .unset, .unset] [])) _
            refine XS.goto X244.here hx rfl (pc0 := 117) (pc' := 122) rfl (hb hby at_117) (by decide) (by decide) ?_
            show Steps p.tables e below (T244.setTop (mkF m 122 #[.val (.int x0), .val (.int x1), .val (.int x2), .val (.int x3), .val (.int (87 : Int32)), .val (.ref a_HELD), .unset, .unset, .unset] [])) _
            refine XS.iconst X244.here hx rfl (hb hby at_122) ?_
            exact k)
          obtain ⟨T247, h247, k247, X247, e247, E247, A247, st247⟩ := newP X244 hx hZ (hw _ (List.mem_of_getElem? (i := 3) rfl)) e244 (g := (mkF m 123 #[.val (.int x0), .val (.int x1), .val (.int x2), .val (.int x3), .val (.int (87 : Int32)), .val (.ref a_HELD), .unset, .unset, .unset] [(.int (1 : Int32))])) rfl (hb hby at_123) rfl (by decide) (cap := 1) (by decide) (by decide) (by decide) (by decide)
          obtain ⟨b247, g247⟩ : ∃ z, z = h0.size := ⟨_, rfl⟩
          rw [← g247] at A247 st247
          have gn_b247 : n0 ≤ b247 := Nat.le_trans Z0 (Nat.le_of_eq g247.symm)
          have f248 := O0.ext E247
          have f249 := S_IN_PLACE.ext E247
          have f250 := S_STAYING.ext E247
          have f251 := S_RETAINED.ext E247
          have f252 := S_HELD.ext E247
          have Z247 := Nat.le_trans Z0 E247.1
          have VV247 : Arv Z h247 b247 k247 .byte (1 : Int32) [(.int (0 : Int32))] (.int (0 : Int32)) := (Arv.new A247 (by decide)).pad (pad_rep [] (.int (0 : Int32)) 1)
          have p253 : ∀ t, Steps p.tables e below (T247.setTop (mkF m 125 #[.val (.int x0), .val (.int x1), .val (.int x2), .val (.int x3), .val (.int (87 : Int32)), .val (.ref a_HELD), .unset, .unset, .unset] [(.ref b247)])) t → Steps p.tables e below (s₁.setTop (entryFrame m #[(.int x0), (.int x1), (.int x2), (.int x3)] maxLocals)) t := fun t k => p246 t (st247 t k)
          have p254 : ∀ t, Steps p.tables e below (T247.setTop (mkF m 133 #[.val (.int x0), .val (.int x1), .val (.int x2), .val (.int x3), .val (.int (87 : Int32)), .val (.ref a_HELD), .val (.ref b247), .unset, .unset] [(.int ((87 : Int32).toInt8.toInt32)), (.int (0 : Int32)), (.ref b247)])) t → Steps p.tables e below (s₁.setTop (entryFrame m #[(.int x0), (.int x1), (.int x2), (.int x3)] maxLocals)) t := fun t k => p253 t (by
            show Steps p.tables e below (T247.setTop (mkF m 125 #[.val (.int x0), .val (.int x1), .val (.int x2), .val (.int x3), .val (.int (87 : Int32)), .val (.ref a_HELD), .unset, .unset, .unset] [(.ref b247)])) _
            refine XS.astore X247.here hx rfl (hb hby at_125) rfl rfl (l' := #[.val (.int x0), .val (.int x1), .val (.int x2), .val (.int x3), .val (.int (87 : Int32)), .val (.ref a_HELD), .val (.ref b247), .unset, .unset]) rfl ?_
            show Steps p.tables e below (T247.setTop (mkF m 127 #[.val (.int x0), .val (.int x1), .val (.int x2), .val (.int x3), .val (.int (87 : Int32)), .val (.ref a_HELD), .val (.ref b247), .unset, .unset] [])) _
            refine XS.aload X247.here hx rfl (hb hby at_127) rfl rfl ?_
            show Steps p.tables e below (T247.setTop (mkF m 129 #[.val (.int x0), .val (.int x1), .val (.int x2), .val (.int x3), .val (.int (87 : Int32)), .val (.ref a_HELD), .val (.ref b247), .unset, .unset] [(.ref b247)])) _
            refine XS.iconst X247.here hx rfl (hb hby at_129) ?_
            show Steps p.tables e below (T247.setTop (mkF m 130 #[.val (.int x0), .val (.int x1), .val (.int x2), .val (.int x3), .val (.int (87 : Int32)), .val (.ref a_HELD), .val (.ref b247), .unset, .unset] [(.int (0 : Int32)), (.ref b247)])) _
            refine XS.iload X247.here hx rfl (hb hby at_130) rfl ?_
            show Steps p.tables e below (T247.setTop (mkF m 132 #[.val (.int x0), .val (.int x1), .val (.int x2), .val (.int x3), .val (.int (87 : Int32)), .val (.ref a_HELD), .val (.ref b247), .unset, .unset] [(.int (87 : Int32)), (.int (0 : Int32)), (.ref b247)])) _
            refine XS.i2b X247.here hx rfl (hb hby at_132) rfl ?_
            exact k)
          obtain ⟨cl255, Ar255, q255, Sz255, Ng255, Hs255, G255⟩ := id VV247
          have hin255 : ¬ ((0 : Int32) < 0 ∨ cl255.slots.size ≤ ((0 : Int32)).toNatClampNeg) := inb_of Sz255 (⟨by decide, by decide⟩)
          obtain ⟨T255, h255, X255, e255, W255, st255⟩ := stB X247 hx hZ e247 Ar255 (j := (0 : Int32)) hin255 (g := (mkF m 133 #[.val (.int x0), .val (.int x1), .val (.int x2), .val (.int x3), .val (.int (87 : Int32)), .val (.ref a_HELD), .val (.ref b247), .unset, .unset] [(.int ((87 : Int32).toInt8.toInt32)), (.int (0 : Int32)), (.ref b247)])) rfl rfl (hb hby at_133)
          have VV255 : Arv Z h255 b247 k247 .byte (1 : Int32) [(.int (((87 : Int32).toInt8.toInt32).toInt8.toInt32))] (.int (0 : Int32)) := Arv.set Ar255 q255 Sz255 Ng255 Hs255 G255 (fits_nar_byte _) W255 0 (by decide) (Nat.le_of_ble_eq_true rfl)
          have f256 := f248.wr W255 gn_b247
          have f257 := f249.wr W255
          have f258 := f250.wr W255
          have f259 := f251.wr W255
          have f260 := f252.wr W255
          have Z255 := Nat.le_trans Z247 (Keep.of_wr W255).1
          have N255 := Fr.snoc X255 N0 gn_b247
          have p261 : ∀ t, Steps p.tables e below (T255.setTop (mkF m 134 #[.val (.int x0), .val (.int x1), .val (.int x2), .val (.int x3), .val (.int (87 : Int32)), .val (.ref a_HELD), .val (.ref b247), .unset, .unset] [])) t → Steps p.tables e below (s₁.setTop (entryFrame m #[(.int x0), (.int x1), (.int x2), (.int x3)] maxLocals)) t := fun t k => p254 t (st255 t k)
          have p262 : ∀ t, Steps p.tables e below (T255.setTop (mkF m 135 #[.val (.int x0), .val (.int x1), .val (.int x2), .val (.int x3), .val (.int (87 : Int32)), .val (.ref a_HELD), .val (.ref b247), .unset, .unset] [(.int (4 : Int32))])) t → Steps p.tables e below (s₁.setTop (entryFrame m #[(.int x0), (.int x1), (.int x2), (.int x3)] maxLocals)) t := fun t k => p261 t (by
            show Steps p.tables e below (T255.setTop (mkF m 134 #[.val (.int x0), .val (.int x1), .val (.int x2), .val (.int x3), .val (.int (87 : Int32)), .val (.ref a_HELD), .val (.ref b247), .unset, .unset] [])) _
            refine XS.iconst X255.here hx rfl (hb hby at_134) ?_
            exact k)
          obtain ⟨T263, h263, k263, X263, e263, E263, A263, st263⟩ := newP X255 hx hZ (hw _ (List.mem_of_getElem? (i := 3) rfl)) e255 (g := (mkF m 135 #[.val (.int x0), .val (.int x1), .val (.int x2), .val (.int x3), .val (.int (87 : Int32)), .val (.ref a_HELD), .val (.ref b247), .unset, .unset] [(.int (4 : Int32))])) rfl (hb hby at_135) rfl (by decide) (cap := 4) (by decide) (by decide) (by decide) (by decide)
          obtain ⟨b263, g263⟩ : ∃ z, z = h255.size := ⟨_, rfl⟩
          rw [← g263] at A263 st263
          have gn_b263 : n0 ≤ b263 := Nat.le_trans Z255 (Nat.le_of_eq g263.symm)
          have ne264 : b247 ≠ b263 := Nat.ne_of_lt (Nat.lt_of_lt_of_le VV255.lt (Nat.le_of_eq g263.symm))
          have f265 := f256.ext E263
          have f266 := f257.ext E263
          have f267 := f258.ext E263
          have f268 := f259.ext E263
          have f269 := f260.ext E263
          have f270 := VV255.ext E263
          have Z263 := Nat.le_trans Z255 E263.1
          have VV263 : Arv Z h263 b263 k263 .byte (4 : Int32) [(.int (0 : Int32)), (.int (0 : Int32)), (.int (0 : Int32)), (.int (0 : Int32))] (.int (0 : Int32)) := (Arv.new A263 (by decide)).pad (pad_rep [] (.int (0 : Int32)) 4)
          have p271 : ∀ t, Steps p.tables e below (T263.setTop (mkF m 137 #[.val (.int x0), .val (.int x1), .val (.int x2), .val (.int x3), .val (.int (87 : Int32)), .val (.ref a_HELD), .val (.ref b247), .unset, .unset] [(.ref b263)])) t → Steps p.tables e below (s₁.setTop (entryFrame m #[(.int x0), (.int x1), (.int x2), (.int x3)] maxLocals)) t := fun t k => p262 t (st263 t k)
          have p272 : ∀ t, Steps p.tables e below (T263.setTop (mkF m 145 #[.val (.int x0), .val (.int x1), .val (.int x2), .val (.int x3), .val (.int (87 : Int32)), .val (.ref a_HELD), .val (.ref b247), .val (.ref b263), .unset] [(.int ((87 : Int32).toInt8.toInt32)), (.int (0 : Int32)), (.ref b263)])) t → Steps p.tables e below (s₁.setTop (entryFrame m #[(.int x0), (.int x1), (.int x2), (.int x3)] maxLocals)) t := fun t k => p271 t (by
            show Steps p.tables e below (T263.setTop (mkF m 137 #[.val (.int x0), .val (.int x1), .val (.int x2), .val (.int x3), .val (.int (87 : Int32)), .val (.ref a_HELD), .val (.ref b247), .unset, .unset] [(.ref b263)])) _
            refine XS.astore X263.here hx rfl (hb hby at_137) rfl rfl (l' := #[.val (.int x0), .val (.int x1), .val (.int x2), .val (.int x3), .val (.int (87 : Int32)), .val (.ref a_HELD), .val (.ref b247), .val (.ref b263), .unset]) rfl ?_
            show Steps p.tables e below (T263.setTop (mkF m 139 #[.val (.int x0), .val (.int x1), .val (.int x2), .val (.int x3), .val (.int (87 : Int32)), .val (.ref a_HELD), .val (.ref b247), .val (.ref b263), .unset] [])) _
            refine XS.aload X263.here hx rfl (hb hby at_139) rfl rfl ?_
            show Steps p.tables e below (T263.setTop (mkF m 141 #[.val (.int x0), .val (.int x1), .val (.int x2), .val (.int x3), .val (.int (87 : Int32)), .val (.ref a_HELD), .val (.ref b247), .val (.ref b263), .unset] [(.ref b263)])) _
            refine XS.iconst X263.here hx rfl (hb hby at_141) ?_
            show Steps p.tables e below (T263.setTop (mkF m 142 #[.val (.int x0), .val (.int x1), .val (.int x2), .val (.int x3), .val (.int (87 : Int32)), .val (.ref a_HELD), .val (.ref b247), .val (.ref b263), .unset] [(.int (0 : Int32)), (.ref b263)])) _
            refine XS.iload X263.here hx rfl (hb hby at_142) rfl ?_
            show Steps p.tables e below (T263.setTop (mkF m 144 #[.val (.int x0), .val (.int x1), .val (.int x2), .val (.int x3), .val (.int (87 : Int32)), .val (.ref a_HELD), .val (.ref b247), .val (.ref b263), .unset] [(.int (87 : Int32)), (.int (0 : Int32)), (.ref b263)])) _
            refine XS.i2b X263.here hx rfl (hb hby at_144) rfl ?_
            exact k)
          obtain ⟨cl273, Ar273, q273, Sz273, Ng273, Hs273, G273⟩ := id VV263
          have hin273 : ¬ ((0 : Int32) < 0 ∨ cl273.slots.size ≤ ((0 : Int32)).toNatClampNeg) := inb_of Sz273 (⟨by decide, by decide⟩)
          obtain ⟨T273, h273, X273, e273, W273, st273⟩ := stB X263 hx hZ e263 Ar273 (j := (0 : Int32)) hin273 (g := (mkF m 145 #[.val (.int x0), .val (.int x1), .val (.int x2), .val (.int x3), .val (.int (87 : Int32)), .val (.ref a_HELD), .val (.ref b247), .val (.ref b263), .unset] [(.int ((87 : Int32).toInt8.toInt32)), (.int (0 : Int32)), (.ref b263)])) rfl rfl (hb hby at_145)
          have VV273 : Arv Z h273 b263 k263 .byte (4 : Int32) [(.int (((87 : Int32).toInt8.toInt32).toInt8.toInt32)), (.int (0 : Int32)), (.int (0 : Int32)), (.int (0 : Int32))] (.int (0 : Int32)) := Arv.set Ar273 q273 Sz273 Ng273 Hs273 G273 (fits_nar_byte _) W273 0 (by decide) (Nat.le_of_ble_eq_true rfl)
          have f274 := f265.wr W273 gn_b263
          have f275 := f266.wr W273
          have f276 := f267.wr W273
          have f277 := f268.wr W273
          have f278 := f269.wr W273
          have f279 := f270.other W273 ne264
          have Z273 := Nat.le_trans Z263 (Keep.of_wr W273).1
          have N273 := Fr.snoc X273 N255 gn_b263
          have p280 : ∀ t, Steps p.tables e below (T273.setTop (mkF m 146 #[.val (.int x0), .val (.int x1), .val (.int x2), .val (.int x3), .val (.int (87 : Int32)), .val (.ref a_HELD), .val (.ref b247), .val (.ref b263), .unset] [])) t → Steps p.tables e below (s₁.setTop (entryFrame m #[(.int x0), (.int x1), (.int x2), (.int x3)] maxLocals)) t := fun t k => p272 t (st273 t k)
          have p281 : ∀ t, Steps p.tables e below (T273.setTop (mkF m 151 #[.val (.int x0), .val (.int x1), .val (.int x2), .val (.int x3), .val (.int (87 : Int32)), .val (.ref a_HELD), .val (.ref b247), .val (.ref b263), .unset] [(.int (x2.toInt8.toInt32)), (.int (1 : Int32)), (.ref b263)])) t → Steps p.tables e below (s₁.setTop (entryFrame m #[(.int x0), (.int x1), (.int x2), (.int x3)] maxLocals)) t := fun t k => p280 t (by
            show Steps p.tables e below (T273.setTop (mkF m 146 #[.val (.int x0), .val (.int x1), .val (.int x2), .val (.int x3), .val (.int (87 : Int32)), .val (.ref a_HELD), .val (.ref b247), .val (.ref b263), .unset] [])) _
            refine XS.aload X273.here hx rfl (hb hby at_146) rfl rfl ?_
            show Steps p.tables e below (T273.setTop (mkF m 148 #[.val (.int x0), .val (.int x1), .val (.int x2), .val (.int x3), .val (.int (87 : Int32)), .val (.ref a_HELD), .val (.ref b247), .val (.ref b263), .unset] [(.ref b263)])) _
            refine XS.iconst X273.here hx rfl (hb hby at_148) ?_
            show Steps p.tables e below (T273.setTop (mkF m 149 #[.val (.int x0), .val (.int x1), .val (.int x2), .val (.int x3), .val (.int (87 : Int32)), .val (.ref a_HELD), .val (.ref b247), .val (.ref b263), .unset] [(.int (1 : Int32)), (.ref b263)])) _
            refine XS.iloadN X273.here hx rfl (hb hby at_149) rfl ?_
            show Steps p.tables e below (T273.setTop (mkF m 150 #[.val (.int x0), .val (.int x1), .val (.int x2), .val (.int x3), .val (.int (87 : Int32)), .val (.ref a_HELD), .val (.ref b247), .val (.ref b263), .unset] [(.int x2), (.int (1 : Int32)), (.ref b263)])) _
            refine XS.i2b X273.here hx rfl (hb hby at_150) rfl ?_
            exact k)
          obtain ⟨cl282, Ar282, q282, Sz282, Ng282, Hs282, G282⟩ := id VV273
          have hin282 : ¬ ((1 : Int32) < 0 ∨ cl282.slots.size ≤ ((1 : Int32)).toNatClampNeg) := inb_of Sz282 (⟨by decide, by decide⟩)
          obtain ⟨T282, h282, X282, e282, W282, st282⟩ := stB X273 hx hZ e273 Ar282 (j := (1 : Int32)) hin282 (g := (mkF m 151 #[.val (.int x0), .val (.int x1), .val (.int x2), .val (.int x3), .val (.int (87 : Int32)), .val (.ref a_HELD), .val (.ref b247), .val (.ref b263), .unset] [(.int (x2.toInt8.toInt32)), (.int (1 : Int32)), (.ref b263)])) rfl rfl (hb hby at_151)
          have VV282 : Arv Z h282 b263 k263 .byte (4 : Int32) [(.int (((87 : Int32).toInt8.toInt32).toInt8.toInt32)), (.int ((x2.toInt8.toInt32).toInt8.toInt32)), (.int (0 : Int32)), (.int (0 : Int32))] (.int (0 : Int32)) := Arv.set Ar282 q282 Sz282 Ng282 Hs282 G282 (fits_nar_byte _) W282 1 (by decide) (Nat.le_of_ble_eq_true rfl)
          have f283 := f274.wr W282 gn_b263
          have f284 := f275.wr W282
          have f285 := f276.wr W282
          have f286 := f277.wr W282
          have f287 := f278.wr W282
          have f288 := f279.other W282 ne264
          have Z282 := Nat.le_trans Z273 (Keep.of_wr W282).1
          have N282 := Fr.snoc X282 N273 gn_b263
          have p289 : ∀ t, Steps p.tables e below (T282.setTop (mkF m 152 #[.val (.int x0), .val (.int x1), .val (.int x2), .val (.int x3), .val (.int (87 : Int32)), .val (.ref a_HELD), .val (.ref b247), .val (.ref b263), .unset] [])) t → Steps p.tables e below (s₁.setTop (entryFrame m #[(.int x0), (.int x1), (.int x2), (.int x3)] maxLocals)) t := fun t k => p281 t (st282 t k)
          have p290 : ∀ t, Steps p.tables e below (T282.setTop (mkF m 160 #[.val (.int x0), .val (.int x1), .val (.int x2), .val (.int x3), .val (.int (87 : Int32)), .val (.ref a_HELD), .val (.ref b247), .val (.ref b263), .unset] [(.int ((x2 >>> ((8 : Int32) &&& 31)).toInt8.toInt32)), (.int (2 : Int32)), (.ref b263)])) t → Steps p.tables e below (s₁.setTop (entryFrame m #[(.int x0), (.int x1), (.int x2), (.int x3)] maxLocals)) t := fun t k => p289 t (by
            show Steps p.tables e below (T282.setTop (mkF m 152 #[.val (.int x0), .val (.int x1), .val (.int x2), .val (.int x3), .val (.int (87 : Int32)), .val (.ref a_HELD), .val (.ref b247), .val (.ref b263), .unset] [])) _
            refine XS.aload X282.here hx rfl (hb hby at_152) rfl rfl ?_
            show Steps p.tables e below (T282.setTop (mkF m 154 #[.val (.int x0), .val (.int x1), .val (.int x2), .val (.int x3), .val (.int (87 : Int32)), .val (.ref a_HELD), .val (.ref b247), .val (.ref b263), .unset] [(.ref b263)])) _
            refine XS.iconst X282.here hx rfl (hb hby at_154) ?_
            show Steps p.tables e below (T282.setTop (mkF m 155 #[.val (.int x0), .val (.int x1), .val (.int x2), .val (.int x3), .val (.int (87 : Int32)), .val (.ref a_HELD), .val (.ref b247), .val (.ref b263), .unset] [(.int (2 : Int32)), (.ref b263)])) _
            refine XS.iloadN X282.here hx rfl (hb hby at_155) rfl ?_
            show Steps p.tables e below (T282.setTop (mkF m 156 #[.val (.int x0), .val (.int x1), .val (.int x2), .val (.int x3), .val (.int (87 : Int32)), .val (.ref a_HELD), .val (.ref b247), .val (.ref b263), .unset] [(.int x2), (.int (2 : Int32)), (.ref b263)])) _
            refine XS.bipush X282.here hx rfl (hb hby at_156) ?_
            show Steps p.tables e below (T282.setTop (mkF m 158 #[.val (.int x0), .val (.int x1), .val (.int x2), .val (.int x3), .val (.int (87 : Int32)), .val (.ref a_HELD), .val (.ref b247), .val (.ref b263), .unset] [(.int (8 : Int32)), (.int x2), (.int (2 : Int32)), (.ref b263)])) _
            refine XS.ishr X282.here hx rfl (hb hby at_158) rfl ?_
            show Steps p.tables e below (T282.setTop (mkF m 159 #[.val (.int x0), .val (.int x1), .val (.int x2), .val (.int x3), .val (.int (87 : Int32)), .val (.ref a_HELD), .val (.ref b247), .val (.ref b263), .unset] [(.int (x2 >>> ((8 : Int32) &&& 31))), (.int (2 : Int32)), (.ref b263)])) _
            refine XS.i2b X282.here hx rfl (hb hby at_159) rfl ?_
            exact k)
          obtain ⟨cl291, Ar291, q291, Sz291, Ng291, Hs291, G291⟩ := id VV282
          have hin291 : ¬ ((2 : Int32) < 0 ∨ cl291.slots.size ≤ ((2 : Int32)).toNatClampNeg) := inb_of Sz291 (⟨by decide, by decide⟩)
          obtain ⟨T291, h291, X291, e291, W291, st291⟩ := stB X282 hx hZ e282 Ar291 (j := (2 : Int32)) hin291 (g := (mkF m 160 #[.val (.int x0), .val (.int x1), .val (.int x2), .val (.int x3), .val (.int (87 : Int32)), .val (.ref a_HELD), .val (.ref b247), .val (.ref b263), .unset] [(.int ((x2 >>> ((8 : Int32) &&& 31)).toInt8.toInt32)), (.int (2 : Int32)), (.ref b263)])) rfl rfl (hb hby at_160)
          have VV291 : Arv Z h291 b263 k263 .byte (4 : Int32) [(.int (((87 : Int32).toInt8.toInt32).toInt8.toInt32)), (.int ((x2.toInt8.toInt32).toInt8.toInt32)), (.int (((x2 >>> ((8 : Int32) &&& 31)).toInt8.toInt32).toInt8.toInt32)), (.int (0 : Int32))] (.int (0 : Int32)) := Arv.set Ar291 q291 Sz291 Ng291 Hs291 G291 (fits_nar_byte _) W291 2 (by decide) (Nat.le_of_ble_eq_true rfl)
          have f292 := f283.wr W291 gn_b263
          have f293 := f284.wr W291
          have f294 := f285.wr W291
          have f295 := f286.wr W291
          have f296 := f287.wr W291
          have f297 := f288.other W291 ne264
          have Z291 := Nat.le_trans Z282 (Keep.of_wr W291).1
          have N291 := Fr.snoc X291 N282 gn_b263
          have p298 : ∀ t, Steps p.tables e below (T291.setTop (mkF m 161 #[.val (.int x0), .val (.int x1), .val (.int x2), .val (.int x3), .val (.int (87 : Int32)), .val (.ref a_HELD), .val (.ref b247), .val (.ref b263), .unset] [])) t → Steps p.tables e below (s₁.setTop (entryFrame m #[(.int x0), (.int x1), (.int x2), (.int x3)] maxLocals)) t := fun t k => p290 t (st291 t k)
          have p299 : ∀ t, Steps p.tables e below (T291.setTop (mkF m 169 #[.val (.int x0), .val (.int x1), .val (.int x2), .val (.int x3), .val (.int (87 : Int32)), .val (.ref a_HELD), .val (.ref b247), .val (.ref b263), .unset] [(.int ((x2 >>> ((16 : Int32) &&& 31)).toInt8.toInt32)), (.int (3 : Int32)), (.ref b263)])) t → Steps p.tables e below (s₁.setTop (entryFrame m #[(.int x0), (.int x1), (.int x2), (.int x3)] maxLocals)) t := fun t k => p298 t (by
            show Steps p.tables e below (T291.setTop (mkF m 161 #[.val (.int x0), .val (.int x1), .val (.int x2), .val (.int x3), .val (.int (87 : Int32)), .val (.ref a_HELD), .val (.ref b247), .val (.ref b263), .unset] [])) _
            refine XS.aload X291.here hx rfl (hb hby at_161) rfl rfl ?_
            show Steps p.tables e below (T291.setTop (mkF m 163 #[.val (.int x0), .val (.int x1), .val (.int x2), .val (.int x3), .val (.int (87 : Int32)), .val (.ref a_HELD), .val (.ref b247), .val (.ref b263), .unset] [(.ref b263)])) _
            refine XS.iconst X291.here hx rfl (hb hby at_163) ?_
            show Steps p.tables e below (T291.setTop (mkF m 164 #[.val (.int x0), .val (.int x1), .val (.int x2), .val (.int x3), .val (.int (87 : Int32)), .val (.ref a_HELD), .val (.ref b247), .val (.ref b263), .unset] [(.int (3 : Int32)), (.ref b263)])) _
            refine XS.iloadN X291.here hx rfl (hb hby at_164) rfl ?_
            show Steps p.tables e below (T291.setTop (mkF m 165 #[.val (.int x0), .val (.int x1), .val (.int x2), .val (.int x3), .val (.int (87 : Int32)), .val (.ref a_HELD), .val (.ref b247), .val (.ref b263), .unset] [(.int x2), (.int (3 : Int32)), (.ref b263)])) _
            refine XS.bipush X291.here hx rfl (hb hby at_165) ?_
            show Steps p.tables e below (T291.setTop (mkF m 167 #[.val (.int x0), .val (.int x1), .val (.int x2), .val (.int x3), .val (.int (87 : Int32)), .val (.ref a_HELD), .val (.ref b247), .val (.ref b263), .unset] [(.int (16 : Int32)), (.int x2), (.int (3 : Int32)), (.ref b263)])) _
            refine XS.ishr X291.here hx rfl (hb hby at_167) rfl ?_
            show Steps p.tables e below (T291.setTop (mkF m 168 #[.val (.int x0), .val (.int x1), .val (.int x2), .val (.int x3), .val (.int (87 : Int32)), .val (.ref a_HELD), .val (.ref b247), .val (.ref b263), .unset] [(.int (x2 >>> ((16 : Int32) &&& 31))), (.int (3 : Int32)), (.ref b263)])) _
            refine XS.i2b X291.here hx rfl (hb hby at_168) rfl ?_
            exact k)
          obtain ⟨cl300, Ar300, q300, Sz300, Ng300, Hs300, G300⟩ := id VV291
          have hin300 : ¬ ((3 : Int32) < 0 ∨ cl300.slots.size ≤ ((3 : Int32)).toNatClampNeg) := inb_of Sz300 (⟨by decide, by decide⟩)
          obtain ⟨T300, h300, X300, e300, W300, st300⟩ := stB X291 hx hZ e291 Ar300 (j := (3 : Int32)) hin300 (g := (mkF m 169 #[.val (.int x0), .val (.int x1), .val (.int x2), .val (.int x3), .val (.int (87 : Int32)), .val (.ref a_HELD), .val (.ref b247), .val (.ref b263), .unset] [(.int ((x2 >>> ((16 : Int32) &&& 31)).toInt8.toInt32)), (.int (3 : Int32)), (.ref b263)])) rfl rfl (hb hby at_169)
          have VV300 : Arv Z h300 b263 k263 .byte (4 : Int32) [(.int (((87 : Int32).toInt8.toInt32).toInt8.toInt32)), (.int ((x2.toInt8.toInt32).toInt8.toInt32)), (.int (((x2 >>> ((8 : Int32) &&& 31)).toInt8.toInt32).toInt8.toInt32)), (.int (((x2 >>> ((16 : Int32) &&& 31)).toInt8.toInt32).toInt8.toInt32))] (.int (0 : Int32)) := Arv.set Ar300 q300 Sz300 Ng300 Hs300 G300 (fits_nar_byte _) W300 3 (by decide) (Nat.le_of_ble_eq_true rfl)
          have f301 := f292.wr W300 gn_b263
          have f302 := f293.wr W300
          have f303 := f294.wr W300
          have f304 := f295.wr W300
          have f305 := f296.wr W300
          have f306 := f297.other W300 ne264
          have Z300 := Nat.le_trans Z291 (Keep.of_wr W300).1
          have N300 := Fr.snoc X300 N291 gn_b263
          have p307 : ∀ t, Steps p.tables e below (T300.setTop (mkF m 170 #[.val (.int x0), .val (.int x1), .val (.int x2), .val (.int x3), .val (.int (87 : Int32)), .val (.ref a_HELD), .val (.ref b247), .val (.ref b263), .unset] [])) t → Steps p.tables e below (s₁.setTop (entryFrame m #[(.int x0), (.int x1), (.int x2), (.int x3)] maxLocals)) t := fun t k => p299 t (st300 t k)
          have p308 : ∀ t, Steps p.tables e below (T300.setTop (mkF m 173 #[.val (.int x0), .val (.int x1), .val (.int x2), .val (.int x3), .val (.int (87 : Int32)), .val (.ref a_HELD), .val (.ref b247), .val (.ref b263), .unset] [(.int (x3 &&& (2 : Int32)))])) t → Steps p.tables e below (s₁.setTop (entryFrame m #[(.int x0), (.int x1), (.int x2), (.int x3)] maxLocals)) t := fun t k => p307 t (by
            show Steps p.tables e below (T300.setTop (mkF m 170 #[.val (.int x0), .val (.int x1), .val (.int x2), .val (.int x3), .val (.int (87 : Int32)), .val (.ref a_HELD), .val (.ref b247), .val (.ref b263), .unset] [])) _
            refine XS.iloadN X300.here hx rfl (hb hby at_170) rfl ?_
            show Steps p.tables e below (T300.setTop (mkF m 171 #[.val (.int x0), .val (.int x1), .val (.int x2), .val (.int x3), .val (.int (87 : Int32)), .val (.ref a_HELD), .val (.ref b247), .val (.ref b263), .unset] [(.int x3)])) _
            refine XS.iconst X300.here hx rfl (hb hby at_171) ?_
            show Steps p.tables e below (T300.setTop (mkF m 172 #[.val (.int x0), .val (.int x1), .val (.int x2), .val (.int x3), .val (.int (87 : Int32)), .val (.ref a_HELD), .val (.ref b247), .val (.ref b263), .unset] [(.int (2 : Int32)), (.int x3)])) _
            refine XS.iand X300.here hx rfl (hb hby at_172) rfl ?_
            exact k)
          by_cases hc173 : (x3 &&& (2 : Int32)) = (0 : Int32)
          · have p309 : ∀ t, Steps p.tables e below (T300.setTop (mkF m 187 #[.val (.int x0), .val (.int x1), .val (.int x2), .val (.int x3), .val (.int (87 : Int32)), .val (.ref a_HELD), .val (.ref b247), .val (.ref b263), .val (.ref b247)] [(.ref b247)])) t → Steps p.tables e below (s₁.setTop (entryFrame m #[(.int x0), (.int x1), (.int x2), (.int x3)] maxLocals)) t := fun t k => p308 t (by
              show Steps p.tables e below (T300.setTop (mkF m 173 #[.val (.int x0), .val (.int x1), .val (.int x2), .val (.int x3), .val (.int (87 : Int32)), .val (.ref a_HELD), .val (.ref b247), .val (.ref b263), .unset] [(.int (x3 &&& (2 : Int32)))])) _
              refine XS.ifYes X300.here hx rfl (pc0 := 173) (pc' := 181) rfl (hb hby at_173) rfl ((if0 _ _).trans (teq (hc173)).1) (by decide) (by decide) ?_
              show Steps p.tables e below (T300.setTop (mkF m 181 #[.val (.int x0), .val (.int x1), .val (.int x2), .val (.int x3), .val (.int (87 : Int32)), .val (.ref a_HELD), .val (.ref b247), .val (.ref b263), .unset] [])) _
              refine XS.aload X300.here hx rfl (hb hby at_181) rfl rfl ?_
              show Steps p.tables e below (T300.setTop (mkF m 183 #[.val (.int x0), .val (.int x1), .val (.int x2), .val (.int x3), .val (.int (87 : Int32)), .val (.ref a_HELD), .val (.ref b247), .val (.ref b263), .unset] [(.ref b247)])) _
              refine XS.astore X300.here hx rfl (hb hby at_183) rfl rfl (l' := #[.val (.int x0), .val (.int x1), .val (.int x2), .val (.int x3), .val (.int (87 : Int32)), .val (.ref a_HELD), .val (.ref b247), .val (.ref b263), .val (.ref b247)]) rfl ?_
              show Steps p.tables e below (T300.setTop (mkF m 185 #[.val (.int x0), .val (.int x1), .val (.int x2), .val (.int x3), .val (.int (87 : Int32)), .val (.ref a_HELD), .val (.ref b247), .val (.ref b263), .val (.ref b247)] [])) _
              refine XS.aload X300.here hx rfl (hb hby at_185) rfl rfl ?_
              exact k)
            obtain ⟨_, _, ⟨T310, L310, k310, n310⟩, -, X310, ⟨Lc310, hQ310, l310, y310, z310⟩, st310⟩ := Jvm.LawKit.callS X300 hx (y := (⟨"com/example/disposition/disposition/store/Keys", "parseQueue", "([B)Lcom/example/disposition/disposition/store/JobQueue;"⟩ : MethodName)) hown (mvT hZ (hw _ (List.mem_of_getElem? (i := 4) rfl))) (mvT hZ (hw _ (List.mem_of_getElem? (i := 5) rfl))) (mvT hZ (hw _ (List.mem_of_getElem? (i := 6) rfl))) (mvT hZ (hw _ (List.mem_of_getElem? (i := 7) rfl))) (by decide) (backOf (W := 0) (rmq3 l Z a0 hw [] b247 a_V kk a_IN_PLACE a_STAYING a_RETAINED a_HELD (((87 : Int32).toInt8.toInt32).toInt8.toInt32) h300 n0 Z300 f301 S_V V_V E_V E_IN_PLACE E_STAYING E_RETAINED E_HELD F_IN_PLACE F_STAYING F_RETAINED F_HELD (own_B0.of f306 (by decide) rfl) (by decide)) hZ (hw _ (List.mem_of_getElem? (i := 7) rfl)) (hw _ (List.mem_of_getElem? (i := 6) rfl)) (by decide) (by decide)) (g := (mkF m 187 #[.val (.int x0), .val (.int x1), .val (.int x2), .val (.int x3), .val (.int (87 : Int32)), .val (.ref a_HELD), .val (.ref b247), .val (.ref b263), .val (.ref b247)] [(.ref b247)])) rfl (by rw [hml]; rfl) (argsL := [(.ref b247)]) (rest := []) (lenOf pd0_0 rfl) rfl (by show 2 * 0 + _ ≤ _; exact Nat.le_of_eq rfl) (hb hby at_187) (fun _ _ => ⟨rfl, e300, (by decide : 2 + 1 ≤ _), (by decide : 5 + 4 ≤ _)⟩)
            dsimp only [Pt.U, Pt.locs, Pt.cells, Pt.slots] at X310 l310 y310 z310 st310 hQ310
            subst l310 y310 z310
            obtain ⟨rfl, Nq310, K310⟩ := hQ310
            have N310 := Fr.app N300 Nq310
            have f311 := f301.keep K310 (all0)
            have Z310 := Nat.le_trans Z300 K310.1
            have p312 : ∀ t, Steps p.tables e below (T310.setTop (mkF m 190 #[.val (.int x0), .val (.int x1), .val (.int x2), .val (.int x3), .val (.int (87 : Int32)), .val (.ref a_HELD), .val (.ref b247), .val (.ref b263), .val (.ref b247)] [(.ref a_HELD)])) t → Steps p.tables e below (s₁.setTop (entryFrame m #[(.int x0), (.int x1), (.int x2), (.int x3)] maxLocals)) t := fun t k => p309 t (st310 _ k)
            have p313 : ∀ t, Steps p.tables e below (T310.setTop (mkF m 200 #[.val (.int x0), .val (.int x1), .val (.int x2), .val (.int x3), .val (.int (87 : Int32)), .val (.ref a_HELD), .val (.ref b247), .val (.ref b263), .val (.ref b247)] [(.int (1 : Int32))])) t → Steps p.tables e below (s₁.setTop (entryFrame m #[(.int x0), (.int x1), (.int x2), (.int x3)] maxLocals)) t := fun t k => p312 t (by
              show Steps p.tables e below (T310.setTop (mkF m 190 #[.val (.int x0), .val (.int x1), .val (.int x2), .val (.int x3), .val (.int (87 : Int32)), .val (.ref a_HELD), .val (.ref b247), .val (.ref b263), .val (.ref b247)] [(.ref a_HELD)])) _
              refine XS.aload X310.here hx rfl (hb hby at_190) rfl rfl ?_
              show Steps p.tables e below (T310.setTop (mkF m 192 #[.val (.int x0), .val (.int x1), .val (.int x2), .val (.int x3), .val (.int (87 : Int32)), .val (.ref a_HELD), .val (.ref b247), .val (.ref b263), .val (.ref b247)] [(.ref a_HELD), (.ref a_HELD)])) _
              refine Jvm.RoadKit.acmp (g := (mkF m 192 #[.val (.int x0), .val (.int x1), .val (.int x2), .val (.int x3), .val (.int (87 : Int32)), .val (.ref a_HELD), .val (.ref b247), .val (.ref b263), .val (.ref b247)] [(.ref a_HELD), (.ref a_HELD)])) X310 hx rfl rfl rfl (pc0 := 192) (pc' := 195) (same := true) rfl (hb hby at_192) rfl (decide_eq_true rfl) (by decide) (by decide) ?_
              show Steps p.tables e below (T310.setTop (mkF m 195 #[.val (.int x0), .val (.int x1), .val (.int x2), .val (.int x3), .val (.int (87 : Int32)), .val (.ref a_HELD), .val (.ref b247), .val (.ref b263), .val (.ref b247)] [])) _
              refine XS.iconst X310.here hx rfl (hb hby at_195) ?_
              show Steps p.tables e below (T310.setTop (mkF m 196 #[.val (.int x0), .val (.int x1), .val (.int x2), .val (.int x3), .val (.int (87 : Int32)), .val (.ref a_HELD), .val (.ref b247), .val (.ref b263), .val (.ref b247)] [(.int (1 : Int32))])) _
              refine XS.goto X310.here hx rfl (pc0 := 196) (pc' := 200) rfl (hb hby at_196) (by decide) (by decide) ?_
              exact k)
            obtain ⟨fs, hr, hrun, hended, hW, hsame⟩ := X310.leave (v := some (.int (1 : Int32))) (fun h => by rw [Bd.returns] at h; cases h)
            refine ⟨_, _, p313 _ ?_, hrun, hended, _, _, rfl, ?_, ⟨_, rfl⟩, hW, hsame.mono (by decide) (by decide)⟩
            · show Steps p.tables e below (T310.setTop (mkF m 200 #[.val (.int x0), .val (.int x1), .val (.int x2), .val (.int x3), .val (.int (87 : Int32)), .val (.ref a_HELD), .val (.ref b247), .val (.ref b263), .val (.ref b247)] [(.int (1 : Int32))])) _
              exact retN X310 hx (t := .boolean) Bd.returns (by simp) (hb hby at_200) hr
            · show Q0 Z x0 x1 x2 x3 a_V kk a_IN_PLACE a_STAYING a_RETAINED a_HELD h0 n0 _ T310.heap _
              skip
              exact ⟨rfl, N310⟩
          · have p314 : ∀ t, Steps p.tables e below (T300.setTop (mkF m 187 #[.val (.int x0), .val (.int x1), .val (.int x2), .val (.int x3), .val (.int (87 : Int32)), .val (.ref a_HELD), .val (.ref b247), .val (.ref b263), .val (.ref b263)] [(.ref b263)])) t → Steps p.tables e below (s₁.setTop (entryFrame m #[(.int x0), (.int x1), (.int x2), (.int x3)] maxLocals)) t := fun t k => p308 t (by
              show Steps p.tables e below (T300.setTop (mkF m 173 #[.val (.int x0), .val (.int x1), .val (.int x2), .val (.int x3), .val (.int (87 : Int32)), .val (.ref a_HELD), .val (.ref b247), .val (.ref b263), .unset] [(.int (x3 &&& (2 : Int32)))])) _
              refine XS.ifNo X300.here hx rfl (hb hby at_173) rfl ((if0 _ _).trans (feq (hc173)).1) ?_
              show Steps p.tables e below (T300.setTop (mkF m 176 #[.val (.int x0), .val (.int x1), .val (.int x2), .val (.int x3), .val (.int (87 : Int32)), .val (.ref a_HELD), .val (.ref b247), .val (.ref b263), .unset] [])) _
              refine XS.aload X300.here hx rfl (hb hby at_176) rfl rfl ?_
              show Steps p.tables e below (T300.setTop (mkF m 178 #[.val (.int x0), .val (.int x1), .val (.int x2), .val (.int x3), .val (.int (87 : Int32)), .val (.ref a_HELD), .val (.ref b247), .val (.ref b263), .unset] [(.ref b263)])) _
              refine XS.goto X300.here hx rfl (pc0 := 178) (pc' := 183) rfl (hb hby at_178) (by decide) (by decide) ?_
              show Steps p.tables e below (T300.setTop (mkF m 183 #[.val (.int x0), .val (.int x1), .val (.int x2), .val (.int x3), .val (.int (87 : Int32)), .val (.ref a_HELD), .val (.ref b247), .val (.ref b263), .unset] [(.ref b263)])) _
              refine XS.astore X300.here hx rfl (hb hby at_183) rfl rfl (l' := #[.val (.int x0), .val (.int x1), .val (.int x2), .val (.int x3), .val (.int (87 : Int32)), .val (.ref a_HELD), .val (.ref b247), .val (.ref b263), .val (.ref b263)]) rfl ?_
              show Steps p.tables e below (T300.setTop (mkF m 185 #[.val (.int x0), .val (.int x1), .val (.int x2), .val (.int x3), .val (.int (87 : Int32)), .val (.ref a_HELD), .val (.ref b247), .val (.ref b263), .val (.ref b263)] [])) _
              refine XS.aload X300.here hx rfl (hb hby at_185) rfl rfl ?_
              exact k)
            obtain ⟨_, _, ⟨T315, L315, k315, n315⟩, -, X315, ⟨Lc315, hQ315, l315, y315, z315⟩, st315⟩ := Jvm.LawKit.callS X300 hx (y := (⟨"com/example/disposition/disposition/store/Keys", "parseQueue", "([B)Lcom/example/disposition/disposition/store/JobQueue;"⟩ : MethodName)) hown (mvT hZ (hw _ (List.mem_of_getElem? (i := 4) rfl))) (mvT hZ (hw _ (List.mem_of_getElem? (i := 5) rfl))) (mvT hZ (hw _ (List.mem_of_getElem? (i := 6) rfl))) (mvT hZ (hw _ (List.mem_of_getElem? (i := 7) rfl))) (by decide) (backOf (W := 0) (rmq3 l Z a0 hw [] b263 a_V kk a_IN_PLACE a_STAYING a_RETAINED a_HELD (((87 : Int32).toInt8.toInt32).toInt8.toInt32) h300 n0 Z300 f301 S_V V_V E_V E_IN_PLACE E_STAYING E_RETAINED E_HELD F_IN_PLACE F_STAYING F_RETAINED F_HELD (own_B0.of VV300 (by decide) rfl) (by decide)) hZ (hw _ (List.mem_of_getElem? (i := 7) rfl)) (hw _ (List.mem_of_getElem? (i := 6) rfl)) (by decide) (by decide)) (g := (mkF m 187 #[.val (.int x0), .val (.int x1), .val (.int x2), .val (.int x3), .val (.int (87 : Int32)), .val (.ref a_HELD), .val (.ref b247), .val (.ref b263), .val (.ref b263)] [(.ref b263)])) rfl (by rw [hml]; rfl) (argsL := [(.ref b263)]) (rest := []) (lenOf pd0_0 rfl) rfl (by show 2 * 0 + _ ≤ _; exact Nat.le_of_eq rfl) (hb hby at_187) (fun _ _ => ⟨rfl, e300, (by decide : 2 + 1 ≤ _), (by decide : 5 + 4 ≤ _)⟩)
            dsimp only [Pt.U, Pt.locs, Pt.cells, Pt.slots] at X315 l315 y315 z315 st315 hQ315
            subst l315 y315 z315
            obtain ⟨rfl, Nq315, K315⟩ := hQ315
            have N315 := Fr.app N300 Nq315
            have f316 := f301.keep K315 (all0)
            have Z315 := Nat.le_trans Z300 K315.1
            have p317 : ∀ t, Steps p.tables e below (T315.setTop (mkF m 190 #[.val (.int x0), .val (.int x1), .val (.int x2), .val (.int x3), .val (.int (87 : Int32)), .val (.ref a_HELD), .val (.ref b247), .val (.ref b263), .val (.ref b263)] [(.ref a_HELD)])) t → Steps p.tables e below (s₁.setTop (entryFrame m #[(.int x0), (.int x1), (.int x2), (.int x3)] maxLocals)) t := fun t k => p314 t (st315 _ k)
            have p318 : ∀ t, Steps p.tables e below (T315.setTop (mkF m 200 #[.val (.int x0), .val (.int x1), .val (.int x2), .val (.int x3), .val (.int (87 : Int32)), .val (.ref a_HELD), .val (.ref b247), .val (.ref b263), .val (.ref b263)] [(.int (1 : Int32))])) t → Steps p.tables e below (s₁.setTop (entryFrame m #[(.int x0), (.int x1), (.int x2), (.int x3)] maxLocals)) t := fun t k => p317 t (by
              show Steps p.tables e below (T315.setTop (mkF m 190 #[.val (.int x0), .val (.int x1), .val (.int x2), .val (.int x3), .val (.int (87 : Int32)), .val (.ref a_HELD), .val (.ref b247), .val (.ref b263), .val (.ref b263)] [(.ref a_HELD)])) _
              refine XS.aload X315.here hx rfl (hb hby at_190) rfl rfl ?_
              show Steps p.tables e below (T315.setTop (mkF m 192 #[.val (.int x0), .val (.int x1), .val (.int x2), .val (.int x3), .val (.int (87 : Int32)), .val (.ref a_HELD), .val (.ref b247), .val (.ref b263), .val (.ref b263)] [(.ref a_HELD), (.ref a_HELD)])) _
              refine Jvm.RoadKit.acmp (g := (mkF m 192 #[.val (.int x0), .val (.int x1), .val (.int x2), .val (.int x3), .val (.int (87 : Int32)), .val (.ref a_HELD), .val (.ref b247), .val (.ref b263), .val (.ref b263)] [(.ref a_HELD), (.ref a_HELD)])) X315 hx rfl rfl rfl (pc0 := 192) (pc' := 195) (same := true) rfl (hb hby at_192) rfl (decide_eq_true rfl) (by decide) (by decide) ?_
              show Steps p.tables e below (T315.setTop (mkF m 195 #[.val (.int x0), .val (.int x1), .val (.int x2), .val (.int x3), .val (.int (87 : Int32)), .val (.ref a_HELD), .val (.ref b247), .val (.ref b263), .val (.ref b263)] [])) _
              refine XS.iconst X315.here hx rfl (hb hby at_195) ?_
              show Steps p.tables e below (T315.setTop (mkF m 196 #[.val (.int x0), .val (.int x1), .val (.int x2), .val (.int x3), .val (.int (87 : Int32)), .val (.ref a_HELD), .val (.ref b247), .val (.ref b263), .val (.ref b263)] [(.int (1 : Int32))])) _
              refine XS.goto X315.here hx rfl (pc0 := 196) (pc' := 200) rfl (hb hby at_196) (by decide) (by decide) ?_
              exact k)
            obtain ⟨fs, hr, hrun, hended, hW, hsame⟩ := X315.leave (v := some (.int (1 : Int32))) (fun h => by rw [Bd.returns] at h; cases h)
            refine ⟨_, _, p318 _ ?_, hrun, hended, _, _, rfl, ?_, ⟨_, rfl⟩, hW, hsame.mono (by decide) (by decide)⟩
            · show Steps p.tables e below (T315.setTop (mkF m 200 #[.val (.int x0), .val (.int x1), .val (.int x2), .val (.int x3), .val (.int (87 : Int32)), .val (.ref a_HELD), .val (.ref b247), .val (.ref b263), .val (.ref b263)] [(.int (1 : Int32))])) _
              exact retN X315 hx (t := .boolean) Bd.returns (by simp) (hb hby at_200) hr
            · show Q0 Z x0 x1 x2 x3 a_V kk a_IN_PLACE a_STAYING a_RETAINED a_HELD h0 n0 _ T315.heap _
              skip
              exact ⟨rfl, N315⟩
        · have p319 : ∀ t, Steps p.tables e below (s₁.setTop (mkF m 121 #[.val (.int x0), .val (.int x1), .val (.int x2), .val (.int x3), .val (.int vb), s5, .unset, .unset, .unset] [(.int (1 : Int32))])) t → Steps p.tables e below (s₁.setTop (entryFrame m #[(.int x0), (.int x1), (.int x2), (.int x3)] maxLocals)) t := fun t k => p242 t (by
            show Steps p.tables e below (s₁.setTop (mkF m 109 #[.val (.int x0), .val (.int x1), .val (.int x2), .val (.int x3), .val (.int vb), s5, .unset, .unset, .unset] [(.int (87 : Int32)), (.int vb)])) _
            refine XS.icmpYes X0.here hx rfl (pc0 := 109) (pc' := 120) rfl (hb hby at_109) rfl ((feq (hc109)).2) (by decide) (by decide) ?_
            show Steps p.tables e below (s₁.setTop (mkF m 120 #[.val (.int x0), .val (.int x1), .val (.int x2), .val (.int x3), .val (.int vb), s5, .unset, .unset, .unset] [])) _
            refine XS.iconst X0.here hx rfl (hb hby at_120) ?_
            exact k)
          obtain ⟨fs, hr, hrun, hended, hW, hsame⟩ := X0.leave (v := some (.int (1 : Int32))) (fun h => by rw [Bd.returns] at h; cases h)
          refine ⟨_, _, p319 _ ?_, hrun, hended, _, _, rfl, ?_, ⟨_, rfl⟩, hW, hsame.mono (by decide) (by decide)⟩
          · show Steps p.tables e below (s₁.setTop (mkF m 121 #[.val (.int x0), .val (.int x1), .val (.int x2), .val (.int x3), .val (.int vb), s5, .unset, .unset, .unset] [(.int (1 : Int32))])) _
            exact retN X0 hx (t := .boolean) Bd.returns (by simp) (hb hby at_121) hr
          · show Q0 Z x0 x1 x2 x3 a_V kk a_IN_PLACE a_STAYING a_RETAINED a_HELD h0 n0 _ s₁.heap _
            rw [e0]
            exact ⟨rfl, N0⟩
set_option maxRecDepth 65536 in
set_option maxHeartbeats 40000000 in
theorem comes_1 {Post : Tables → Env → Array Value → State → Outcome → State → Prop} (hpost : ∀ tb e args s v u, (limb_1_1.after args s (.returned v) u = true ∧ limb_1_2.after args s (.returned v) u = true ∧ True) → FrameEnd s (.returned v) u (Jvm.fieldLocs frame_1_writes args s ++ Jvm.arrayLocs frame_1_arrays args s ++ Jvm.staticLocs frame_1_statics s) 16 128 → Post tb e args s (.returned v) u) :
    ArmFor flags0 classFile x code maxLocals ret World_1 tables_1 room_1 Calls_1 rest_1 Pre_1 Post := by
  intro l hfl _ _ p e ha hc hk s m args below hf hA hF happ hP
  obtain ⟨hcalls, hrest, hpre⟩ := hP
  obtain ⟨-, -, -, hnamed, -, -, -, hat⟩ := (Spec.applies_iff hf).mp happ
  obtain ⟨hg, hn⟩ := and_e (Cond.before_iff.mp (show (Jvm.Cond.and given_1 narrow_1).before args s = true from hpre))
  obtain ⟨hcount, ga0⟩ := and_e hg
  obtain ⟨gb0, ga1⟩ := and_e ga0
  obtain ⟨gb1, ga2⟩ := and_e ga1
  obtain ⟨gb2, ga3⟩ := and_e ga2
  obtain ⟨w0, w1, w2, w3, rfl⟩ : ∃ w0 w1 w2 w3 : Value, args = #[w0, w1, w2, w3] := by
    have hs : args.size = 4 := by simpa [Cond.value, given_1] using hcount
    obtain ⟨L⟩ := args
    match L, hs with
    | [w0, w1, w2, w3], _ => exact ⟨w0, w1, w2, w3, rfl⟩
  have hw := fun d (hd : d ∈ tables_1) => atoms_spec (ws := Jvm.Cond.code x code maxLocals ret :: tables_1) hat d (List.mem_cons_of_mem _ hd)
  have hfit : Fit s := fun {y c} hc i hi => by
    obtain ⟨ha, rfl⟩ := Array.getElem?_eq_some_iff.mp hc
    have q := List.all_eq_true.mp ((Array.all_eq_true_iff_forall_mem.mp hF) _ (Array.getElem_mem ha)) i (List.mem_range.mpr hi)
    simpa [Array.getElem?_eq_getElem hi] using q
  obtain ⟨i0, ei0⟩ := is_v gb0
  obtain rfl : w0 = (.int i0) := Option.some.inj ei0
  obtain ⟨i1, ei1⟩ := is_v gb1
  obtain rfl : w1 = (.int i1) := Option.some.inj ei1
  obtain ⟨i2, ei2⟩ := is_v gb2
  obtain rfl : w2 = (.int i2) := Option.some.inj ei2
  obtain ⟨i3, ei3⟩ := is_v ga3
  obtain rfl : w3 = (.int i3) := Option.some.inj ei3
  obtain ⟨nn0, nr0⟩ := and_e hn
  obtain ⟨nn1, nr1⟩ := and_e nr0
  obtain ⟨nn2, nr2⟩ := and_e nr1
  obtain ⟨nn3, nr3⟩ := and_e nr2
  obtain ⟨nn4, nr4⟩ := and_e nr3
  obtain ⟨nn5, nr5⟩ := and_e nr4
  obtain ⟨nn6, nr6⟩ := and_e nr5
  obtain ⟨nn7, nr7⟩ := and_e nr6
  obtain ⟨nn8, nr8⟩ := and_e nr7
  obtain ⟨nn9, nr9⟩ := and_e nr8
  obtain ⟨nn10, nr10⟩ := and_e nr9
  obtain ⟨nn11, nr11⟩ := and_e nr10
  obtain ⟨nn12, nr12⟩ := and_e nr11
  obtain ⟨nn13, nr13⟩ := and_e nr12
  obtain ⟨a_HELD, ev_HELD⟩ := exa_v nn0
  have S_HELD : Sta s s.heap "com/example/disposition/disposition/store/JobQueue" "HELD" "Lcom/example/disposition/disposition/store/JobQueue;" (.ref a_HELD) := Sta.start ev_HELD (Or.inr ⟨(hw _ (List.mem_of_getElem? (i := 1) rfl)), (hw _ (List.mem_of_getElem? (i := 2) rfl))⟩)
  have E_HELD : Exa s s.heap a_HELD "com/example/disposition/disposition/store/JobQueue" := Exa.start ev_HELD nn0
  obtain ⟨a__VALUES, ev__VALUES⟩ := exa_v nn2
  have S__VALUES : Sta s s.heap "com/example/disposition/disposition/store/JobQueue" "$VALUES" "[Lcom/example/disposition/disposition/store/JobQueue;" (.ref a__VALUES) := Sta.start ev__VALUES (Or.inr ⟨(hw _ (List.mem_of_getElem? (i := 1) rfl)), (hw _ (List.mem_of_getElem? (i := 12) rfl))⟩)
  have E__VALUES : Exa s s.heap a__VALUES "[Lcom/example/disposition/disposition/store/JobQueue;" := Exa.start ev__VALUES nn2
  obtain ⟨a_IN_PLACE, ev_IN_PLACE⟩ := exa_v nn4
  have S_IN_PLACE : Sta s s.heap "com/example/disposition/disposition/store/JobQueue" "IN_PLACE" "Lcom/example/disposition/disposition/store/JobQueue;" (.ref a_IN_PLACE) := Sta.start ev_IN_PLACE (Or.inr ⟨(hw _ (List.mem_of_getElem? (i := 1) rfl)), (hw _ (List.mem_of_getElem? (i := 20) rfl))⟩)
  have E_IN_PLACE : Exa s s.heap a_IN_PLACE "com/example/disposition/disposition/store/JobQueue" := Exa.start ev_IN_PLACE nn4
  obtain ⟨a_STAYING, ev_STAYING⟩ := exa_v nn6
  have S_STAYING : Sta s s.heap "com/example/disposition/disposition/store/JobQueue" "STAYING" "Lcom/example/disposition/disposition/store/JobQueue;" (.ref a_STAYING) := Sta.start ev_STAYING (Or.inr ⟨(hw _ (List.mem_of_getElem? (i := 1) rfl)), (hw _ (List.mem_of_getElem? (i := 21) rfl))⟩)
  have E_STAYING : Exa s s.heap a_STAYING "com/example/disposition/disposition/store/JobQueue" := Exa.start ev_STAYING nn6
  obtain ⟨a_RETAINED, ev_RETAINED⟩ := exa_v nn8
  have S_RETAINED : Sta s s.heap "com/example/disposition/disposition/store/JobQueue" "RETAINED" "Lcom/example/disposition/disposition/store/JobQueue;" (.ref a_RETAINED) := Sta.start ev_RETAINED (Or.inr ⟨(hw _ (List.mem_of_getElem? (i := 1) rfl)), (hw _ (List.mem_of_getElem? (i := 22) rfl))⟩)
  have E_RETAINED : Exa s s.heap a_RETAINED "com/example/disposition/disposition/store/JobQueue" := Exa.start ev_RETAINED nn8
  have O_kind_IN_PLACE : Fld s s.heap a_IN_PLACE "com/example/disposition/disposition/store/JobQueue" "kind" "B" (.int (73 : Int32)) := Fld.start ((fld_at ev_IN_PLACE).symm.trans (eqv_i (Term.int_eval (73)) nn11))
  have O_kind_STAYING : Fld s s.heap a_STAYING "com/example/disposition/disposition/store/JobQueue" "kind" "B" (.int (89 : Int32)) := Fld.start ((fld_at ev_STAYING).symm.trans (eqv_i (Term.int_eval (89)) nn12))
  have O_kind_RETAINED : Fld s s.heap a_RETAINED "com/example/disposition/disposition/store/JobQueue" "kind" "B" (.int (82 : Int32)) := Fld.start ((fld_at ev_RETAINED).symm.trans (eqv_i (Term.int_eval (82)) nn13))
  have O_kind_HELD : Fld s s.heap a_HELD "com/example/disposition/disposition/store/JobQueue" "kind" "B" (.int (87 : Int32)) := Fld.start ((fld_at ev_HELD).symm.trans (eqv_i (Term.int_eval (87)) nr13))
  have O0 := Old.start s
  obtain ⟨cv, A_V⟩ := Arr.start ev__VALUES nn1
  obtain ⟨hsz, hlen⟩ := own_len ev__VALUES (A_V.fin (Vm.Alike.refl _)) (eqv_i (Term.int_eval (4)) nn3)
  have q0 : cv.slots[(0 : Nat)]? = some (.ref a_IN_PLACE) := (elem_in (own_eqv_r ev_IN_PLACE nn5) ev__VALUES (Term.int_eval (0)) A_V.1).2
  have q1 : cv.slots[(1 : Nat)]? = some (.ref a_STAYING) := (elem_in (own_eqv_r ev_STAYING nn7) ev__VALUES (Term.int_eval (1)) A_V.1).2
  have q2 : cv.slots[(2 : Nat)]? = some (.ref a_RETAINED) := (elem_in (own_eqv_r ev_RETAINED nn9) ev__VALUES (Term.int_eval (2)) A_V.1).2
  have q3 : cv.slots[(3 : Nat)]? = some (.ref a_HELD) := (elem_in (own_eqv_r ev_HELD nn10) ev__VALUES (Term.int_eval (3)) A_V.1).2
  have V_V : Arv s s.heap a__VALUES cv.cls (.object "com/example/disposition/disposition/store/JobQueue") (4 : Int32) [(.ref a_IN_PLACE), (.ref a_STAYING), (.ref a_RETAINED), (.ref a_HELD)] .null := Arv.start hfit A_V hsz hlen (by decide) rfl ⟨q0, q1, q2, q3, trivial⟩
  obtain ⟨n, o, h1, h2, h3, _, L, rfl, ⟨rfl, N⟩, hq⟩ := rm0 l s _ hw tables_1 i0 i1 i2 i3 a__VALUES cv.cls a_IN_PLACE a_STAYING a_RETAINED a_HELD s.heap s.heap.size (Nat.le_refl _) O0 S__VALUES V_V E__VALUES E_IN_PLACE E_STAYING E_RETAINED E_HELD O_kind_IN_PLACE O_kind_STAYING O_kind_RETAINED O_kind_HELD S_IN_PLACE S_STAYING S_RETAINED S_HELD p e ha hc hk s m _ below hf ((Spec.applies_iff_loose hf).mp happ).1 ⟨rfl, State.Warmed39.refl s, rfl⟩ trivial
  refine ⟨n, _, h1, h2, h3, hpost _ _ _ _ _ _ ⟨Cond.after_iff.mpr rfl, Cond.after_iff.mpr (eq_i res_at (Term.int_eval (1)) rfl), trivial⟩ ⟨hq.1, hq.2.1, (hq.2.2.sift fun y hy => Or.inr (N y hy)).mono (by decide) (by decide)⟩⟩
theorem main_1_1 : Claimed_1_1 := comes_1 fun _ _ _ _ _ _ h hF => ⟨h.1, hF⟩
theorem main_1_2 : Claimed_1_2 := comes_1 fun _ _ _ _ _ _ h hF => ⟨h.2.1, hF⟩
end Jvm.Pilot.@@N@@
namespace Jvm.Pilot.@@N@@
open Jvm Jvm.ClassFile Sem Op Lib Jvm.Free Jvm.Stand Jvm.Pilot.@@N@@.Jvm.D
/-! MADE BY PROGRAM (witnessworld.py) out of the Statement's table words and the real class files: 12 classes; the members and pool entries that the words name. The judged class is class 1, her method 1. -/
namespace start1
open Jvm.ClassFile
def u (s : String) : CpInfo := .utf8 (stringToUtf16 s)
/-- a pool by its gaps: so many unusable entries, then the entry; so many at the end -/
def gap : Nat → List CpInfo → List CpInfo
  | 0, r => r
  | n + 1, r => .unusable :: gap n r
def poolList (es : List (Nat × CpInfo)) (last : Nat) : List CpInfo := es.foldr (fun e r => gap e.1 (e.2 :: r)) (gap last [])
def pool (es : List (Nat × CpInfo)) (last : Nat) : Array CpInfo := ⟨poolList es last⟩
def fileOf (pool : Array CpInfo) (this : Nat) (attrs : Array Attribute := #[]) (ms : Array MethodInfo := #[]) (fl : Nat := 33) (sup : Nat := 0) (ifs : Array Nat := #[]) (fds : Array FieldInfo := #[]) : ClassFile where
  minorVersion := 0
  majorVersion := 65
  constantPool := pool
  accessFlags := fl
  thisClass := this
  superClass := sup
  interfaces := ifs
  fields := fds
  methods := ms
  attributes := attrs
def plain (name : String) (sup : Option ClassId) : Class where
  name := name
  kind := .ordinary
  loader := none
  accessFlags := 33
  super := sup
  interfaces := #[]
  cf := none
  fields := #[]
  methods := #[]
  instanceTypes := #[]
  staticTypes := #[]
  resolved := #[]
  callSites := []
  init := .initialized
  statics := none
  mirror := none

def pool0 : Array CpInfo := pool [(5, u "<init>"), (0, u "()V"), (1, .class_ 10), (1, u "java/lang/Object"), (85, u "clone"), (0, u "()Ljava/lang/Object;")] 26

def k0m0 : Method := { name := "<init>", desc := "()V", sig := { parameters := [], returnType := none }, accessFlags := 1, code := none }
def k0m1 : Method := { name := "clone", desc := "()Ljava/lang/Object;", sig := { parameters := [], returnType := some (.object "java/lang/Object") }, accessFlags := 260, code := none }
/-- java/lang/Object -/
def k0 : Class := { plain "java/lang/Object" none with
  accessFlags := 33
  interfaces := #[]
  cf := some (fileOf pool0 8 #[] #[{ accessFlags := 1, nameIndex := 5, descriptorIndex := 6, attributes := #[] }, { accessFlags := 260, nameIndex := 96, descriptorIndex := 97, attributes := #[] }] 33 0 #[] #[])
  fields := #[]
  methods := #[k0m0, k0m1]
  instanceTypes := #[]
  staticTypes := #[]
  resolved := Array.replicate 124 none
  statics := none }

def pool1 : Array CpInfo := pool [(2, .class_ 4), (1, u "java/lang/Object"), (0, u "<init>"), (0, u "()V"), (0, .fieldref 8 9), (0, .class_ 10), (0, .nameAndType 11 12), (0, u "com/example/disposition/disposition/store/JobQueue"), (0, u "IN_PLACE"), (0, u "Lcom/example/disposition/disposition/store/JobQueue;"), (0, .fieldref 8 14), (0, .nameAndType 15 12), (0, u "STAYING"), (0, .fieldref 8 17), (0, .nameAndType 18 12), (0, u "RETAINED"), (0, .fieldref 8 20), (0, .nameAndType 21 12), (0, u "HELD"), (0, .methodref 23 24), (0, .class_ 25), (0, .nameAndType 26 27), (0, u "com/example/disposition/disposition/store/Keys"), (0, u "parseQueue"), (0, u "([B)Lcom/example/disposition/disposition/store/JobQueue;"), (0, .class_ 29), (0, u "com/example/disposition/disposition/store/KeysParseQueuePinLaw"), (2, u "law"), (0, u "(IIII)Z")] 5

def k1m0 : Method := { name := "<init>", desc := "()V", sig := { parameters := [], returnType := none }, accessFlags := 1, code := none }
def k1c1 : Code := { maxStack := 4, maxLocals := 9, code := code, exceptionTable := #[], attributes := #[] }
def k1m1 : Method := { name := "law", desc := "(IIII)Z", sig := { parameters := [.int, .int, .int, .int], returnType := some .boolean }, accessFlags := 9, code := some k1c1 }
/-- com/example/disposition/disposition/store/KeysParseQueuePinLaw -/
def k1 : Class := { plain "com/example/disposition/disposition/store/KeysParseQueuePinLaw" (some 0) with
  accessFlags := 49
  interfaces := #[]
  cf := some (fileOf pool1 28 #[] #[{ accessFlags := 1, nameIndex := 5, descriptorIndex := 6, attributes := #[] }, { accessFlags := 9, nameIndex := 32, descriptorIndex := 33, attributes := #[] }] 49 2 #[] #[])
  fields := #[]
  methods := #[k1m0, k1m1]
  instanceTypes := #[]
  staticTypes := #[]
  resolved := Array.replicate 39 none
  statics := none }

def pool2 : Array CpInfo := pool [(1, .class_ 2), (0, u "java/lang/constant/Constable"), (0, .class_ 4), (0, u "java/lang/Object")] 6

/-- java/lang/constant/Constable -/
def k2 : Class := { plain "java/lang/constant/Constable" (some 0) with
  accessFlags := 1537
  interfaces := #[]
  cf := some (fileOf pool2 1 #[] #[] 1537 3 #[] #[])
  fields := #[]
  methods := #[]
  instanceTypes := #[]
  staticTypes := #[]
  resolved := Array.replicate 11 none
  statics := none }

def pool3 : Array CpInfo := pool [(1, .class_ 2), (0, u "java/lang/Comparable"), (0, .class_ 4), (0, u "java/lang/Object")] 7

/-- java/lang/Comparable -/
def k3 : Class := { plain "java/lang/Comparable" (some 0) with
  accessFlags := 1537
  interfaces := #[]
  cf := some (fileOf pool3 1 #[] #[] 1537 3 #[] #[])
  fields := #[]
  methods := #[]
  instanceTypes := #[]
  staticTypes := #[]
  resolved := Array.replicate 12 none
  statics := none }

def pool4 : Array CpInfo := pool [(1, .class_ 2), (0, u "java/io/Serializable"), (0, .class_ 4), (0, u "java/lang/Object")] 2

/-- java/io/Serializable -/
def k4 : Class := { plain "java/io/Serializable" (some 0) with
  accessFlags := 1537
  interfaces := #[]
  cf := some (fileOf pool4 1 #[] #[] 1537 3 #[] #[])
  fields := #[]
  methods := #[]
  instanceTypes := #[]
  staticTypes := #[]
  resolved := Array.replicate 7 none
  statics := none }

def pool5 : Array CpInfo := pool [(2, .class_ 4), (1, u "java/lang/Enum"), (0, u "name"), (0, u "Ljava/lang/String;"), (2, u "ordinal"), (0, u "I"), (1, .class_ 14), (1, u "java/lang/Object"), (4, u "hash"), (86, .class_ 108), (1, u "java/lang/Enum$EnumDesc"), (2, .class_ 112), (0, u "java/lang/constant/Constable"), (0, .class_ 114), (0, u "java/lang/Comparable"), (0, .class_ 116), (0, u "java/io/Serializable")] 87

/-- java/lang/Enum -/
def k5 : Class := { plain "java/lang/Enum" (some 0) with
  accessFlags := 1057
  interfaces := #[2, 3, 4]
  cf := some (fileOf pool5 2 #[.nestMembers #[106]] #[] 1057 12 #[111, 113, 115] #[{ accessFlags := 18, nameIndex := 5, descriptorIndex := 6, attributes := #[] }, { accessFlags := 18, nameIndex := 9, descriptorIndex := 10, attributes := #[] }, { accessFlags := 2, nameIndex := 19, descriptorIndex := 10, attributes := #[] }])
  fields := #[{ name := "name", type := (.object "java/lang/String"), accessFlags := 18, slot := 0, constantValue := 0 }, { name := "ordinal", type := .int, accessFlags := 18, slot := 1, constantValue := 0 }, { name := "hash", type := .int, accessFlags := 2, slot := 2, constantValue := 0 }]
  methods := #[]
  instanceTypes := #[(.object "java/lang/String"), .int, .int]
  staticTypes := #[]
  resolved := Array.replicate 204 none
  statics := none }

def pool6 : Array CpInfo := pool [(1, .class_ 2), (0, u "com/example/disposition/disposition/store/JobQueue"), (2, u "IN_PLACE"), (0, u "Lcom/example/disposition/disposition/store/JobQueue;"), (2, u "STAYING"), (2, u "RETAINED"), (2, u "HELD"), (0, .fieldref 1 17), (0, .nameAndType 18 19), (0, u "$VALUES"), (0, u "[Lcom/example/disposition/disposition/store/JobQueue;"), (0, .methodref 21 22), (0, .class_ 19), (0, .nameAndType 23 24), (0, u "clone"), (0, u "()Ljava/lang/Object;"), (1, .class_ 28), (1, u "java/lang/Enum"), (6, .fieldref 1 36), (0, .nameAndType 37 38), (0, u "kind"), (0, u "B"), (12, u "()[Lcom/example/disposition/disposition/store/JobQueue;"), (0, u "values"), (6, u "()B")] 5

def k6c0 : Code := { maxStack := 1, maxLocals := 0, code := prog_23_method_1_code, exceptionTable := #[], attributes := #[] }
def k6m0 : Method := { name := "values", desc := "()[Lcom/example/disposition/disposition/store/JobQueue;", sig := { parameters := [], returnType := some (.array (.object "com/example/disposition/disposition/store/JobQueue")) }, accessFlags := 9, code := some k6c0 }
def k6c1 : Code := { maxStack := 1, maxLocals := 1, code := prog_23_method_4_code, exceptionTable := #[], attributes := #[] }
def k6m1 : Method := { name := "kind", desc := "()B", sig := { parameters := [], returnType := some .byte }, accessFlags := 0, code := some k6c1 }
/-- com/example/disposition/disposition/store/JobQueue -/
def k6 : Class := { plain "com/example/disposition/disposition/store/JobQueue" (some 5) with
  accessFlags := 16433
  interfaces := #[]
  cf := some (fileOf pool6 1 #[] #[{ accessFlags := 9, nameIndex := 52, descriptorIndex := 51, attributes := #[] }, { accessFlags := 0, nameIndex := 37, descriptorIndex := 59, attributes := #[] }] 16433 26 #[] #[{ accessFlags := 16409, nameIndex := 5, descriptorIndex := 6, attributes := #[] }, { accessFlags := 16409, nameIndex := 9, descriptorIndex := 6, attributes := #[] }, { accessFlags := 16409, nameIndex := 12, descriptorIndex := 6, attributes := #[] }, { accessFlags := 16409, nameIndex := 15, descriptorIndex := 6, attributes := #[] }, { accessFlags := 18, nameIndex := 37, descriptorIndex := 38, attributes := #[] }, { accessFlags := 4122, nameIndex := 18, descriptorIndex := 19, attributes := #[] }])
  fields := #[{ name := "IN_PLACE", type := (.object "com/example/disposition/disposition/store/JobQueue"), accessFlags := 16409, slot := 0, constantValue := 0 }, { name := "STAYING", type := (.object "com/example/disposition/disposition/store/JobQueue"), accessFlags := 16409, slot := 1, constantValue := 0 }, { name := "RETAINED", type := (.object "com/example/disposition/disposition/store/JobQueue"), accessFlags := 16409, slot := 2, constantValue := 0 }, { name := "HELD", type := (.object "com/example/disposition/disposition/store/JobQueue"), accessFlags := 16409, slot := 3, constantValue := 0 }, { name := "kind", type := .byte, accessFlags := 18, slot := 3, constantValue := 0 }, { name := "$VALUES", type := (.array (.object "com/example/disposition/disposition/store/JobQueue")), accessFlags := 4122, slot := 4, constantValue := 0 }]
  methods := #[k6m0, k6m1]
  instanceTypes := #[(.object "java/lang/String"), .int, .int, .byte]
  staticTypes := #[(.object "com/example/disposition/disposition/store/JobQueue"), (.object "com/example/disposition/disposition/store/JobQueue"), (.object "com/example/disposition/disposition/store/JobQueue"), (.object "com/example/disposition/disposition/store/JobQueue"), (.array (.object "com/example/disposition/disposition/store/JobQueue"))]
  resolved := Array.replicate 65 none
  statics := some 0 }

def pool7 : Array CpInfo := pool [(6, .class_ 8), (1, u "java/lang/Object"), (0, u "<init>"), (0, u "()V"), (0, .class_ 12), (0, u "com/example/disposition/disposition/store/Keys"), (81, .class_ 95), (0, u "com/example/disposition/disposition/store/Keys$VersionKey"), (48, .methodref 145 146), (0, .class_ 147), (0, .nameAndType 148 149), (0, u "com/example/disposition/disposition/store/JobQueue"), (0, u "kind"), (0, u "()B"), (3, u "[B"), (2, .methodref 145 157), (0, .nameAndType 158 159), (0, u "values"), (0, u "()[Lcom/example/disposition/disposition/store/JobQueue;"), (9, u "parseQueue"), (0, u "([B)Lcom/example/disposition/disposition/store/JobQueue;"), (56, u "TEXT_KINDS"), (0, u "SETTINGS"), (0, u "B"), (2, u "POLICY"), (1, u "HOLD"), (1, u "MESSAGE"), (1, u "EVENT"), (1, u "VERSION"), (1, u "LEAVING"), (1, u "TIMELINE"), (1, u "IN_PLACE_QUEUE"), (1, u "STAYING_QUEUE"), (1, u "RETAINED_QUEUE"), (1, u "HELD_QUEUE"), (1, u "STAGED"), (1, u "SET_ASIDE"), (1, u "COMMITTED_UNIT"), (1, u "SCRATCH"), (1, u "DELETION"), (1, u "DELETED"), (1, u "TIME_BYTES"), (0, u "I")] 57

def k7m0 : Method := { name := "<init>", desc := "()V", sig := { parameters := [], returnType := none }, accessFlags := 2, code := none }
def k7c1 : Code := { maxStack := 3, maxLocals := 5, code := prog_24_method_30_code, exceptionTable := #[], attributes := #[] }
def k7m1 : Method := { name := "parseQueue", desc := "([B)Lcom/example/disposition/disposition/store/JobQueue;", sig := { parameters := [(.array .byte)], returnType := some (.object "com/example/disposition/disposition/store/JobQueue") }, accessFlags := 8, code := some k7c1 }
/-- com/example/disposition/disposition/store/Keys -/
def k7 : Class := { plain "com/example/disposition/disposition/store/Keys" (some 0) with
  accessFlags := 32
  interfaces := #[]
  cf := some (fileOf pool7 11 #[.nestMembers #[94]] #[{ accessFlags := 2, nameIndex := 9, descriptorIndex := 10, attributes := #[] }, { accessFlags := 8, nameIndex := 169, descriptorIndex := 170, attributes := #[] }] 32 6 #[] #[{ accessFlags := 24, nameIndex := 228, descriptorIndex := 229, attributes := #[] }, { accessFlags := 24, nameIndex := 232, descriptorIndex := 229, attributes := #[] }, { accessFlags := 24, nameIndex := 234, descriptorIndex := 229, attributes := #[] }, { accessFlags := 24, nameIndex := 236, descriptorIndex := 229, attributes := #[] }, { accessFlags := 24, nameIndex := 238, descriptorIndex := 229, attributes := #[] }, { accessFlags := 24, nameIndex := 240, descriptorIndex := 229, attributes := #[] }, { accessFlags := 24, nameIndex := 242, descriptorIndex := 229, attributes := #[] }, { accessFlags := 24, nameIndex := 244, descriptorIndex := 229, attributes := #[] }, { accessFlags := 24, nameIndex := 246, descriptorIndex := 229, attributes := #[] }, { accessFlags := 24, nameIndex := 248, descriptorIndex := 229, attributes := #[] }, { accessFlags := 24, nameIndex := 250, descriptorIndex := 229, attributes := #[] }, { accessFlags := 24, nameIndex := 252, descriptorIndex := 229, attributes := #[] }, { accessFlags := 24, nameIndex := 254, descriptorIndex := 229, attributes := #[] }, { accessFlags := 24, nameIndex := 256, descriptorIndex := 229, attributes := #[] }, { accessFlags := 24, nameIndex := 258, descriptorIndex := 229, attributes := #[] }, { accessFlags := 24, nameIndex := 260, descriptorIndex := 229, attributes := #[] }, { accessFlags := 24, nameIndex := 262, descriptorIndex := 229, attributes := #[] }, { accessFlags := 24, nameIndex := 264, descriptorIndex := 229, attributes := #[] }, { accessFlags := 24, nameIndex := 227, descriptorIndex := 153, attributes := #[] }, { accessFlags := 24, nameIndex := 266, descriptorIndex := 267, attributes := #[] }])
  fields := #[{ name := "SETTINGS", type := .byte, accessFlags := 24, slot := 0, constantValue := 0 }, { name := "POLICY", type := .byte, accessFlags := 24, slot := 1, constantValue := 0 }, { name := "HOLD", type := .byte, accessFlags := 24, slot := 2, constantValue := 0 }, { name := "MESSAGE", type := .byte, accessFlags := 24, slot := 3, constantValue := 0 }, { name := "EVENT", type := .byte, accessFlags := 24, slot := 4, constantValue := 0 }, { name := "VERSION", type := .byte, accessFlags := 24, slot := 5, constantValue := 0 }, { name := "LEAVING", type := .byte, accessFlags := 24, slot := 6, constantValue := 0 }, { name := "TIMELINE", type := .byte, accessFlags := 24, slot := 7, constantValue := 0 }, { name := "IN_PLACE_QUEUE", type := .byte, accessFlags := 24, slot := 8, constantValue := 0 }, { name := "STAYING_QUEUE", type := .byte, accessFlags := 24, slot := 9, constantValue := 0 }, { name := "RETAINED_QUEUE", type := .byte, accessFlags := 24, slot := 10, constantValue := 0 }, { name := "HELD_QUEUE", type := .byte, accessFlags := 24, slot := 11, constantValue := 0 }, { name := "STAGED", type := .byte, accessFlags := 24, slot := 12, constantValue := 0 }, { name := "SET_ASIDE", type := .byte, accessFlags := 24, slot := 13, constantValue := 0 }, { name := "COMMITTED_UNIT", type := .byte, accessFlags := 24, slot := 14, constantValue := 0 }, { name := "SCRATCH", type := .byte, accessFlags := 24, slot := 15, constantValue := 0 }, { name := "DELETION", type := .byte, accessFlags := 24, slot := 16, constantValue := 0 }, { name := "DELETED", type := .byte, accessFlags := 24, slot := 17, constantValue := 0 }, { name := "TEXT_KINDS", type := (.array .byte), accessFlags := 24, slot := 18, constantValue := 0 }, { name := "TIME_BYTES", type := .int, accessFlags := 24, slot := 19, constantValue := 0 }]
  methods := #[k7m0, k7m1]
  instanceTypes := #[]
  staticTypes := #[.byte, .byte, .byte, .byte, .byte, .byte, .byte, .byte, .byte, .byte, .byte, .byte, .byte, .byte, .byte, .byte, .byte, .byte, (.array .byte), .int]
  resolved := Array.replicate 325 none
  statics := none }

def pool8 : Array CpInfo := pool [(1, .class_ 2), (0, u "java/lang/Cloneable"), (0, .class_ 4), (0, u "java/lang/Object")] 2

/-- java/lang/Cloneable -/
def k8 : Class := { plain "java/lang/Cloneable" (some 0) with
  accessFlags := 1537
  interfaces := #[]
  cf := some (fileOf pool8 1 #[] #[] 1537 3 #[] #[])
  fields := #[]
  methods := #[]
  instanceTypes := #[]
  staticTypes := #[]
  resolved := Array.replicate 7 none
  statics := none }

/-- the primitive byte -/
def k9 : Class := { plain "byte" none with kind := .primitive 'B', accessFlags := 0x411 }
/-- [B -/
def k10 : Class := { plain "[B" (some 0) with kind := .array 9 .byte, interfaces := #[8, 4], accessFlags := 1041 }

/-- [Lcom/example/disposition/disposition/store/JobQueue; -/
def k11 : Class := { plain "[Lcom/example/disposition/disposition/store/JobQueue;" (some 0) with kind := .array 6 (.object "com/example/disposition/disposition/store/JobQueue"), interfaces := #[8, 4], accessFlags := 1041 }

def heap : Heap := #[{ cls := 6, slots := #[.ref 2, .ref 3, .ref 4, .ref 5, .ref 1], vm := .statics 6 },
  { cls := 11, slots := #[.ref 2, .ref 3, .ref 4, .ref 5], vm := .none },
  { cls := 6, slots := #[.null, .int 0, .int 0, .int 73], vm := .none },
  { cls := 6, slots := #[.null, .int 1, .int 0, .int 89], vm := .none },
  { cls := 6, slots := #[.null, .int 2, .int 0, .int 82], vm := .none },
  { cls := 6, slots := #[.null, .int 3, .int 0, .int 87], vm := .none }]
def classes : Array Class := #[k0, k1, k2, k3, k4, k5, k6, k7, k8, k9, k10, k11]
def interned : List (Array UInt16 × Addr) := []
def slotsUsed : Nat := 25
def theMethod : MethodId := ⟨1, 1⟩
def args0 : Array Value := #[.int 73, .int 0, .int 5, .int 0]
def aboutOver (below : List Frame) : State where
  vm := { classes := classes, interned := interned.toArray }
  heap := heap
  slotsUsed := slotsUsed
  threads := #[{ frames := .invoking theMethod args0 :: below }]
def below0 : List Frame := [.native { method := ⟨0, 0⟩, args := #[] }]
def about1 : State := aboutOver below0
def p0 : Program := .bare "" "" ""
def e0 : Env := launch0.env 0 0 0
theorem w_frames : about1.frames = Frame.invoking theMethod args0 :: below0 := rfl
set_option maxRecDepth 65536 in
theorem w_args : argsFit about1.vm theMethod args0 = true := by decide +kernel
set_option maxRecDepth 65536 in
theorem w_heap : heapFits about1 = true := by decide +kernel
set_option maxRecDepth 65536 in
theorem w_runnable : about1.curStatus? = some .runnable := by decide +kernel
set_option maxRecDepth 65536 in
theorem w_alone : about1.alone = true := by decide +kernel
set_option maxRecDepth 65536 in
theorem w_named : about1.methodNamed? x = some theMethod := by decide +kernel
set_option maxRecDepth 65536 in
theorem w_hears : about1.hears theMethod below0 = true := by decide +kernel
set_option maxRecDepth 65536 in
theorem w_ripe : about1.ripe theMethod args0 below0 = true := by decide +kernel
theorem w_running : about1.status = .running := rfl
set_option maxRecDepth 65536 in
theorem w_room : about1.hasRoom e0.platform room_1 = true :=
  launch0.hasRoom_least _ room_1 (by decide +kernel) (by decide +kernel) (by decide +kernel) (by decide +kernel) (by decide +kernel) (by decide +kernel)
theorem allAtoms_all (ts : List Jvm.Cond) (a : Array Jvm.Value) (st : Jvm.State) : (allAtoms ts).before a st = ts.all (fun c => c.before a st) := by
  induction ts with
  | nil => rfl
  | cons c t ih =>
    show (Jvm.Cond.and c (allAtoms t)).before a st = _
    rw [Jvm.Cond.before_and, ih, List.all_cons]
def words1 : List Jvm.Cond := Jvm.Cond.code x code maxLocals ret :: tables_1
/-- a 'code' word, met by the world's own term for the bytes: nothing is compared byte by byte -/
theorem code_word {y : MethodName} {bytes : ByteArray} {mx : Nat} {rt : Option FieldType} {a : Array Value} {s : State} {m : MethodId} {meth : Method} {c : Code} (h1 : s.methodNamed? y = some m) (h2 : s.vm.method? m = some meth) (h3 : meth.code = some c) (h4 : c.code = bytes)
    (h5 : (c.maxLocals == mx && c.exceptionTable.isEmpty && decide (c.maxStack ≤ mostOperands) && decide (meth.sig.returnType = rt) && !meth.locks && decide (parseMethodDescriptor y.desc = some meth.sig)) = true) : (Jvm.Cond.code y bytes mx rt).before a s = true := by
  simp only [Bool.and_eq_true, beq_iff_eq, Bool.not_eq_true', decide_eq_true_eq] at h5
  obtain ⟨⟨⟨⟨⟨g1, g2⟩, g3⟩, g4⟩, g5⟩, g6⟩ := h5
  simp [Cond.before, Cond.holds, Cond.value, h1, h2, h3, h4, g1, g2, g3, g4, g5, g6]
def isCode : Jvm.Cond → Bool
  | .code _ _ _ _ => true
  | _ => false
theorem all_split {L : List Jvm.Cond} {P : Jvm.Cond → Bool} (h1 : L.all (fun c => isCode c || P c) = true) (h2 : ∀ c ∈ L.filter isCode, P c = true) : L.all P = true := by
  refine List.all_eq_true.mpr fun c hc => ?_
  have h := List.all_eq_true.mp h1 c hc
  rcases Bool.eq_false_or_eq_true (isCode c) with hi | hi
  · exact h2 c (List.mem_filter.mpr ⟨hc, hi⟩)
  · simpa [hi] using h
set_option maxRecDepth 65536 in
theorem w_c0 : (Jvm.Cond.code x code maxLocals ret).before args0 about1 = true := code_word (m := ⟨1, 1⟩) (meth := k1m1) (c := k1c1) (by decide +kernel) rfl rfl rfl (by decide +kernel)
set_option maxRecDepth 65536 in
theorem w_c1 : (Jvm.Cond.code ({ cls := "com/example/disposition/disposition/store/Keys", name := "parseQueue", desc := "([B)Lcom/example/disposition/disposition/store/JobQueue;" } : Jvm.MethodName) prog_24_method_30_code (5 : Nat) (Option.some (Jvm.ClassFile.FieldType.object "com/example/disposition/disposition/store/JobQueue"))).before args0 about1 = true := code_word (m := ⟨7, 1⟩) (meth := k7m1) (c := k7c1) (by decide +kernel) rfl rfl rfl (by decide +kernel)
set_option maxRecDepth 65536 in
theorem w_c2 : (Jvm.Cond.code ({ cls := "com/example/disposition/disposition/store/JobQueue", name := "values", desc := "()[Lcom/example/disposition/disposition/store/JobQueue;" } : Jvm.MethodName) prog_23_method_1_code (0 : Nat) (Option.some (Jvm.ClassFile.FieldType.array (Jvm.ClassFile.FieldType.object "com/example/disposition/disposition/store/JobQueue")))).before args0 about1 = true := code_word (m := ⟨6, 0⟩) (meth := k6m0) (c := k6c0) (by decide +kernel) rfl rfl rfl (by decide +kernel)
set_option maxRecDepth 65536 in
theorem w_c3 : (Jvm.Cond.code ({ cls := "com/example/disposition/disposition/store/JobQueue", name := "kind", desc := "()B" } : Jvm.MethodName) prog_23_method_4_code (1 : Nat) (Option.some Jvm.ClassFile.FieldType.byte)).before args0 about1 = true := code_word (m := ⟨6, 1⟩) (meth := k6m1) (c := k6c1) (by decide +kernel) rfl rfl rfl (by decide +kernel)
def codes1 : List Jvm.Cond := [Jvm.Cond.code x code maxLocals ret, Jvm.Cond.code ({ cls := "com/example/disposition/disposition/store/Keys", name := "parseQueue", desc := "([B)Lcom/example/disposition/disposition/store/JobQueue;" } : Jvm.MethodName) prog_24_method_30_code (5 : Nat) (Option.some (Jvm.ClassFile.FieldType.object "com/example/disposition/disposition/store/JobQueue")), Jvm.Cond.code ({ cls := "com/example/disposition/disposition/store/JobQueue", name := "values", desc := "()[Lcom/example/disposition/disposition/store/JobQueue;" } : Jvm.MethodName) prog_23_method_1_code (0 : Nat) (Option.some (Jvm.ClassFile.FieldType.array (Jvm.ClassFile.FieldType.object "com/example/disposition/disposition/store/JobQueue"))), Jvm.Cond.code ({ cls := "com/example/disposition/disposition/store/JobQueue", name := "kind", desc := "()B" } : Jvm.MethodName) prog_23_method_4_code (1 : Nat) (Option.some Jvm.ClassFile.FieldType.byte)]
set_option maxRecDepth 65536 in
theorem codes_eq : words1.filter isCode = codes1 := rfl
theorem w_codes : ∀ c ∈ words1.filter isCode, c.before args0 about1 = true := by
  rw [codes_eq]
  intro c hc
  simp only [codes1, List.mem_cons, List.not_mem_nil, or_false] at hc
  rcases hc with rfl | rfl | rfl | rfl
  · exact w_c0
  · exact w_c1
  · exact w_c2
  · exact w_c3
set_option maxRecDepth 65536 in
theorem w_t1 : (words1.take 24).all (fun c => isCode c || c.before args0 about1) = true := by decide +kernel
set_option maxRecDepth 65536 in
theorem w_t2 : (words1.drop 24).all (fun c => isCode c || c.before args0 about1) = true := by decide +kernel
theorem w_tables : (allAtoms (Jvm.Cond.code x code maxLocals ret :: tables_1)).before args0 about1 = true := by
  rw [allAtoms_all]
  show words1.all (fun c => c.before args0 about1) = true
  refine all_split ?_ w_codes
  rw [← List.take_append_drop 24 words1, List.all_append, w_t1, w_t2]
  rfl
set_option maxRecDepth 65536 in
theorem w_case : (Jvm.Cond.and given_1 narrow_1).before args0 about1 = true := by decide +kernel
theorem w_applies : (headSpec (Jvm.Cond.code x code maxLocals ret :: tables_1) room_1).applies x e0.platform about1 = true :=
  (Spec.applies_iff w_frames).mpr ⟨w_running, w_runnable, w_alone, w_named, w_hears, w_ripe, w_room, w_tables⟩
theorem atStart : AtStart classFile x code maxLocals ret World_1 tables_1 room_1 Calls_1 rest_1 Pre_1 launch0 p0 e0 about1 theMethod args0 below0 :=
  ⟨lists_1, trivial, launch0.admits_env _ _ _, launch0.least_env, fairChoices_fair.cas, fairChoices_fair.clock, w_frames, w_args, w_heap, w_applies, trivial, trivial, w_case⟩
end start1
theorem witness_1 : WitnessClaimed_1 := ⟨start1.p0, start1.e0, start1.about1, start1.theMethod, start1.args0, start1.below0, start1.atStart⟩
end Jvm.Pilot.@@N@@
