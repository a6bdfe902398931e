import JvmDerived
import JvmDerived.Pilot.@@N@@Statement
import JvmDerived.Pilot.@@N@@Code
set_option linter.unusedVariables false
set_option linter.unusedSimpArgs false
namespace Jvm.RoadKit
open Sem ClassFile Op Lib Jvm.Stand Jvm.Free Jvm.LawKit
section New
variable {p : Program} {l : Launch} {e : Env} {R : Room} {s : State} {m : MethodId} {args : Array Value} {below : List Frame} {meth : Method} {c : Code} {T : State} {locs : List Loc} {cells slots : Nat}
theorem retI (X : Stand p l e R s m args below meth c T locs cells slots) (hx : p.tables.exec = Jvm.exec) {pc : Nat} {Ls : Array Slot} {z : Int32} {rest : List Value} (hret : meth.sig.returnType = some .int) (hd : decode c.code pc = .ok (.ireturn, 1)) {fs : List Frame}
    (hl : ∀ (f : JFrame) (acts : List Action), f.method = m → f.locked = none → f.entered = [] → (doReturn e (T.setTop f) acts (some (.int z))).1 = T.setFrames fs) : Steps p.tables e below (T.setTop (mkF m pc Ls (.int z :: rest))) (T.setFrames fs) :=
  retOut X hx hret rfl (Or.inl ⟨rfl, Or.inl rfl, z, rfl⟩) hd hl
end New
end Jvm.RoadKit
namespace Jvm.Pilot.@@N@@
open Jvm Jvm.ClassFile Sem Op Lib Jvm.Free Jvm.Stand Jvm.LawKit Jvm.RoadKit Bundle Jvm.Pilot.@@N@@.Jvm.D
def own_is0 (t f : Int32) : Int32 := if (t - f) = (0 : Int32) then 1 else 0
def own_is1 (t f : Int32) (e0 y0 : Int32) : Int32 := if (t - f) = (1 : Int32) then (if e0 = y0 then 1 else 0) else 0
def own_is2 (t f : Int32) (e0 y0 : Int32) (e1 y1 : Int32) : Int32 := if (t - f) = (2 : Int32) then (if e0 = y0 then (if e1 = y1 then 1 else 0) else 0) else 0
def own_is3 (t f : Int32) (e0 y0 : Int32) (e1 y1 : Int32) (e2 y2 : Int32) : Int32 := if (t - f) = (3 : Int32) then (if e0 = y0 then (if e1 = y1 then (if e2 = y2 then 1 else 0) else 0) else 0) else 0
def own_el (us : List Int32) (j : Nat) : Int32 := us.getD j 0
theorem own_getD (us : List Int32) (j : Nat) : (us.map Value.int).getD j (.int (0 : Int32)) = .int (own_el us j) := by
  unfold own_el
  rw [List.getD_eq_getElem?_getD, List.getD_eq_getElem?_getD, List.getElem?_map]
  cases us[j]? <;> rfl
theorem own_b2 (x : Int32) : ((x.toInt8.toInt32).toInt8.toInt32) = (x.toInt8.toInt32) := by
  have e1 := c_i2b x; have e2 := c_i2b (x.toInt8.toInt32); rw [← Int32.toInt_inj]; omega
theorem own_elb (us : List Int32) (h : ∀ u ∈ us, (u.toInt8.toInt32) = u) (j : Nat) : ((own_el us j).toInt8.toInt32) = own_el us j := by
  unfold own_el; rw [List.getD_eq_getElem?_getD]
  cases q : us[j]? with
  | none => decide
  | some u => exact h u (List.mem_of_getElem? q)
def own_B (Z : State) (h : Heap) (a : Addr) (f e0 e1 e2 : Int32) : Prop := ∃ c : Cell, Arr Z h a c .byte ∧ (¬ (f < 0 ∨ c.slots.size ≤ f.toNatClampNeg) ∧ c.slots[f.toNatClampNeg]? = some (.int e0)) ∧ (¬ ((f + (1 : Int32)) < 0 ∨ c.slots.size ≤ (f + (1 : Int32)).toNatClampNeg) ∧ c.slots[(f + (1 : Int32)).toNatClampNeg]? = some (.int e1)) ∧ (¬ ((f + (2 : Int32)) < 0 ∨ c.slots.size ≤ (f + (2 : Int32)).toNatClampNeg) ∧ c.slots[(f + (2 : Int32)).toNatClampNeg]? = some (.int e2))
theorem own_B.ext {Z : State} {h h' : Heap} {a : Addr} {f e0 e1 e2 : Int32} (F : own_B Z h a f e0 e1 e2) (E : Ext h h') : own_B Z h' a f e0 e1 e2 := by obtain ⟨c, A, r⟩ := F; exact ⟨c, A.ext E, r⟩
theorem own_B.other {Z : State} {h h' : Heap} {a b : Addr} {sl : Nat} {v : Value} {f e0 e1 e2 : Int32} (F : own_B Z h a f e0 e1 e2) (W : Wr h h' b sl v) (q : a ≠ b) : own_B Z h' a f e0 e1 e2 := by obtain ⟨c, A, r⟩ := F; exact ⟨c, A.other W q, r⟩
theorem own_B.lt {Z : State} {h : Heap} {a : Addr} {f e0 e1 e2 : Int32} (F : own_B Z h a f e0 e1 e2) : a < h.size := by obtain ⟨c, A, r⟩ := F; exact A.lt
theorem own_B.keep {Z : State} {h h' : Heap} {a : Addr} {ws : List Addr} {f e0 e1 e2 : Int32} (F : own_B Z h a f e0 e1 e2) (K : Keep h h' ws) (q : a ∉ ws) : own_B Z h' a f e0 e1 e2 := by obtain ⟨c, A, r⟩ := F; exact ⟨c, ⟨K.2.1 a c A.1 q, A.2⟩, r⟩
theorem own_lits : (0 : Int32).toInt = 0 ∧ (1 : Int32).toInt = 1 ∧ (2 : Int32).toInt = 2 ∧ (3 : Int32).toInt = 3 ∧ (6 : Int32).toInt = 6 := by decide
theorem own_B.of {Z : State} {h : Heap} {a : Addr} {k : ClassId} {us : List Int32} {f e0 e1 e2 : Int32} (F : Arv Z h a k .byte (6 : Int32) (us.map Value.int) (.int (0 : Int32))) (h0 : 0 ≤ f.toInt) (h3 : f.toInt ≤ 3) (q0 : e0 = own_el us f.toNatClampNeg) (q1 : e1 = own_el us (f + (1 : Int32)).toNatClampNeg) (q2 : e2 = own_el us (f + (2 : Int32)).toNatClampNeg) : own_B Z h a f e0 e1 e2 := by
  obtain ⟨c, A, -, S, -, H, -⟩ := F
  obtain ⟨l0, l1, l2, l3, l6⟩ := own_lits
  have a1 := c_iadd f 1; have a2 := c_iadd f 2; have r1 := rng32 (f + 1); have r2 := rng32 (f + 2)
  have b0 : ¬ (f < 0 ∨ c.slots.size ≤ f.toNatClampNeg) := inb_of S (by simp only [Int32.lt_iff_toInt_lt]; omega)
  have b1 : ¬ ((f + (1 : Int32)) < 0 ∨ c.slots.size ≤ (f + (1 : Int32)).toNatClampNeg) := inb_of S (by simp only [Int32.lt_iff_toInt_lt]; omega)
  have b2 : ¬ ((f + (2 : Int32)) < 0 ∨ c.slots.size ≤ (f + (2 : Int32)).toNatClampNeg) := inb_of S (by simp only [Int32.lt_iff_toInt_lt]; omega)
  exact ⟨c, A, ⟨b0, H.at b0 (by rw [q0]; exact own_getD _ _)⟩, ⟨b1, H.at b1 (by rw [q1]; exact own_getD _ _)⟩, ⟨b2, H.at b2 (by rw [q2]; exact own_getD _ _)⟩⟩
theorem own_m3 (x : Int32) : 0 ≤ (x &&& (3 : Int32)).toInt ∧ (x &&& (3 : Int32)).toInt ≤ 3 := by
  have e := c_mask x 3 2 (by decide) (by decide); omega
theorem own_n3 {n x : Int32} (h : n = (x &&& (3 : Int32))) : n = (0 : Int32) ∨ n = (1 : Int32) ∨ n = (2 : Int32) ∨ n = (3 : Int32) := by
  have e := own_m3 x; rw [← h] at e
  obtain ⟨l0, l1, l2, l3, l6⟩ := own_lits
  simp only [← Int32.toInt_inj]; omega
theorem own_sub {f l t : Int32} (h : t = f + l) : t - f = l := by
  have a := c_iadd f l; rw [← h] at a; have b := c_isub t f; have := rng32 (t - f); have := rng32 l
  rw [← Int32.toInt_inj]; omega
theorem own_i0 (f : Int32) : f + (0 : Int32) = f := by
  have a := c_iadd f 0; have := own_lits.1; have := rng32 (f + 0); have := rng32 f; rw [← Int32.toInt_inj]; omega
theorem own_i1 (f : Int32) : f + ((0 : Int32) + (1 : Int32)) = f + (1 : Int32) := by rw [show ((0 : Int32) + (1 : Int32)) = (1 : Int32) from by decide]
theorem own_i2 (f : Int32) : f + (((0 : Int32) + (1 : Int32)) + (1 : Int32)) = f + (2 : Int32) := by rw [show (((0 : Int32) + (1 : Int32)) + (1 : Int32)) = (2 : Int32) from by decide]
theorem dm0_0 : decode method_2_code 0 = .ok (.iload_n 0, 1) := by decide +kernel
theorem dm0_1 : decode method_2_code 1 = .ok (.ifCond .ne 7, 3) := by decide +kernel
theorem dm0_4 : decode method_2_code 4 = .ok (.iconst 0, 1) := by decide +kernel
theorem dm0_5 : decode method_2_code 5 = .ok (.newarray .byte, 2) := by decide +kernel
theorem dm0_7 : decode method_2_code 7 = .ok (.areturn, 1) := by decide +kernel
theorem pnm0 : plainName "com/example/kinwarden/kinwarden/NameBytesIsPinLaw" = true := by first | (simp [plainName, overriddenIn]; done) | decide +kernel
theorem efm0 (m : MethodId) (x1 : Int32) (x2 : Int32) (x3 : Int32) : entryFrame m #[(.int (0 : Int32)), (.int x1), (.int x2), (.int x3)] 4 = mkF m 0 #[.val (.int (0 : Int32)), .val (.int x1), .val (.int x2), .val (.int x3)] [] := by first | (simp [entryFrame, mkF, argsToLocals, Value.category]; done) | rfl
def Qm0 (Z : State) (x1 : Int32) (x2 : Int32) (x3 : Int32) (h0 : Heap) (n0 : Nat) (v : Option Value) (h : Heap) (L : List Loc) : Prop := ∃ (r : Addr) (kk : ClassId), v = some (.ref r) ∧ Fr n0 L ∧ Keep h0 h [] ∧ h0.size ≤ r ∧ Arv Z h r kk .byte (0 : Int32) [] (.int (0 : Int32))
set_option maxRecDepth 65536 in
set_option maxHeartbeats 40000000 in
theorem rmm0 (l : Launch) (Z : State) (a0 : Array Value) (hw : ∀ d ∈ tables_1, d.before a0 Z = true) (ws : List Jvm.Cond) (x1 : Int32) (x2 : Int32) (x3 : Int32) (h0 : Heap) (n0 : Nat) (Z0 : n0 ≤ h0.size) :
    MetFree l (⟨"com/example/kinwarden/kinwarden/NameBytesIsPinLaw", "make", "(IBBB)[B"⟩ : MethodName) (head1 (Jvm.Cond.code (⟨"com/example/kinwarden/kinwarden/NameBytesIsPinLaw", "make", "(IBBB)[B"⟩ : MethodName) method_2_code 4 (some (.array .byte)) :: ws) ({ frames := 0, cells := 1, slots := 0, locals := 0 } : Room)) (fun a U => a = #[(.int (0 : Int32)), (.int x1), (.int x2), (.int x3)] ∧ Z.Warmed39 U.vm ∧ U.heap = h0) (fun _ _ _ _ _ => True) (fun _ U o U' => ∃ v L, o = .returned v ∧ Qm0 Z x1 x2 x3 h0 n0 v U'.heap L ∧ FrameEnd U o U' L ({ frames := 0, cells := 1, slots := 0, locals := 0 } : Room).cells ({ frames := 0, cells := 1, slots := 0, locals := 0 } : Room).slots) := by
  refine MetFree.of_bodySF (plainFor_of_name pnm0) hisR ?_
  intro p e s m args below meth c s₁ Bd hml0 hP hK
  obtain ⟨rfl, hZ, hh⟩ := hP
  have hx := Bd.exec
  have hby := Bd.bytes
  have hml : c.maxLocals = 4 := hml0
  have hown : s.vm.findClass "com/example/kinwarden/kinwarden/NameBytesIsPinLaw" = some m.cls := findClass_of_methodNamed Bd.named
  have hnm := (name_of_methodNamed Bd.named Bd.method).1
  have X0 : Stand p l e ({ frames := 0, cells := 1, slots := 0, locals := 0 } : Room) s m #[(.int (0 : Int32)), (.int x1), (.int x2), (.int x3)] below meth c s₁ [] 0 0 := Stand.of_body Bd
  have e0 : s₁.heap = h0 := by rw [← hh, Bd.state]; rfl
  have N0 := Fr.nil n0
  have pre0 : ∀ t, Steps p.tables e below (s₁.setTop (mkF m 0 #[.val (.int (0 : Int32)), .val (.int x1), .val (.int x2), .val (.int x3)] [])) t → Steps p.tables e below (s₁.setTop (entryFrame m #[(.int (0 : Int32)), (.int x1), (.int x2), (.int x3)] 4)) t := fun t k => castTop (efm0 m x1 x2 x3) k
  have K0 := Keep.refl h0 []
  have p1 : ∀ t, Steps p.tables e below (s₁.setTop (mkF m 5 #[.val (.int (0 : Int32)), .val (.int x1), .val (.int x2), .val (.int x3)] [(.int (0 : Int32))])) t → Steps p.tables e below (s₁.setTop (entryFrame m #[(.int (0 : Int32)), (.int x1), (.int x2), (.int x3)] 4)) t := fun t k => pre0 t (by
    show Steps p.tables e below (s₁.setTop (mkF m 0 #[.val (.int (0 : Int32)), .val (.int x1), .val (.int x2), .val (.int x3)] [])) _
    refine XS.iloadN X0.here hx rfl (hb hby dm0_0) rfl ?_
    show Steps p.tables e below (s₁.setTop (mkF m 1 #[.val (.int (0 : Int32)), .val (.int x1), .val (.int x2), .val (.int x3)] [(.int (0 : Int32))])) _
    refine XS.ifNo X0.here hx rfl (hb hby dm0_1) rfl ((if0 _ _).trans (teq (rfl)).2) ?_
    show Steps p.tables e below (s₁.setTop (mkF m 4 #[.val (.int (0 : Int32)), .val (.int x1), .val (.int x2), .val (.int x3)] [])) _
    refine XS.iconst X0.here hx rfl (hb hby dm0_4) ?_
    exact k)
  obtain ⟨T2, h2, k2, X2, e2, E2, A2, st2⟩ := newP X0 hx hZ (hw _ (List.mem_of_getElem? (i := 0) rfl)) e0 (g := (mkF m 5 #[.val (.int (0 : Int32)), .val (.int x1), .val (.int x2), .val (.int x3)] [(.int (0 : Int32))])) rfl (hb hby dm0_5) rfl (by decide) (cap := 0) (by decide) (by decide) (by decide) (by decide)
  obtain ⟨b2, g2⟩ : ∃ z, z = h0.size := ⟨_, rfl⟩
  rw [← g2] at A2 st2
  have gn_b2 : n0 ≤ b2 := Nat.le_trans Z0 (Nat.le_of_eq g2.symm)
  have gk_b2 : h0.size ≤ b2 := Nat.le_trans K0.1 (Nat.le_of_eq g2.symm)
  have Z2 := Nat.le_trans Z0 E2.1
  have KK2 := K0.ext E2
  have VV2 : Arv Z h2 b2 k2 .byte (0 : Int32) [] (.int (0 : Int32)) := (Arv.new A2 (by decide)).pad (pad_rep [] (.int (0 : Int32)) 0)
  have p3 : ∀ t, Steps p.tables e below (T2.setTop (mkF m 7 #[.val (.int (0 : Int32)), .val (.int x1), .val (.int x2), .val (.int x3)] [(.ref b2)])) t → Steps p.tables e below (s₁.setTop (entryFrame m #[(.int (0 : Int32)), (.int x1), (.int x2), (.int x3)] 4)) t := fun t k => p1 t (st2 t k)
  obtain ⟨fs, hr, hrun, hended, hW, hsame⟩ := X2.leave (v := some (.ref b2)) (fun h => by rw [Bd.returns] at h; cases h)
  refine ⟨_, _, p3 _ ?_, hrun, hended, _, _, rfl, ?_, ⟨_, rfl⟩, hW, hsame.mono (by decide) (by decide)⟩
  · show Steps p.tables e below (T2.setTop (mkF m 7 #[.val (.int (0 : Int32)), .val (.int x1), .val (.int x2), .val (.int x3)] [(.ref b2)])) _
    exact retOut X2 hx Bd.returns rfl (Or.inr (Or.inr (Or.inr (Or.inr ⟨rfl, rfl, rfl⟩)))) (hb hby dm0_7) hr
  · show Qm0 Z x1 x2 x3 h0 n0 _ T2.heap _
    rw [e2]
    exact ⟨_, _, rfl, N0, KK2, gk_b2, VV2⟩
theorem dm1_0 : decode method_2_code 0 = .ok (.iload_n 0, 1) := by decide +kernel
theorem dm1_1 : decode method_2_code 1 = .ok (.ifCond .ne 7, 3) := by decide +kernel
theorem dm1_8 : decode method_2_code 8 = .ok (.iload_n 0, 1) := by decide +kernel
theorem dm1_9 : decode method_2_code 9 = .ok (.iconst 1, 1) := by decide +kernel
theorem dm1_10 : decode method_2_code 10 = .ok (.if_icmp .ne 11, 3) := by decide +kernel
theorem dm1_13 : decode method_2_code 13 = .ok (.iconst 1, 1) := by decide +kernel
theorem dm1_14 : decode method_2_code 14 = .ok (.newarray .byte, 2) := by decide +kernel
theorem dm1_16 : decode method_2_code 16 = .ok (.dup, 1) := by decide +kernel
theorem dm1_17 : decode method_2_code 17 = .ok (.iconst 0, 1) := by decide +kernel
theorem dm1_18 : decode method_2_code 18 = .ok (.iload_n 1, 1) := by decide +kernel
theorem dm1_19 : decode method_2_code 19 = .ok (.bastore, 1) := by decide +kernel
theorem dm1_20 : decode method_2_code 20 = .ok (.areturn, 1) := by decide +kernel
theorem pnm1 : plainName "com/example/kinwarden/kinwarden/NameBytesIsPinLaw" = true := by first | (simp [plainName, overriddenIn]; done) | decide +kernel
theorem efm1 (m : MethodId) (x1 : Int32) (x2 : Int32) (x3 : Int32) : entryFrame m #[(.int (1 : Int32)), (.int x1), (.int x2), (.int x3)] 4 = mkF m 0 #[.val (.int (1 : Int32)), .val (.int x1), .val (.int x2), .val (.int x3)] [] := by first | (simp [entryFrame, mkF, argsToLocals, Value.category]; done) | rfl
def Qm1 (Z : State) (x1 : Int32) (x2 : Int32) (x3 : Int32) (h0 : Heap) (n0 : Nat) (v : Option Value) (h : Heap) (L : List Loc) : Prop := ∃ (r : Addr) (kk : ClassId), v = some (.ref r) ∧ Fr n0 L ∧ Keep h0 h [] ∧ h0.size ≤ r ∧ Arv Z h r kk .byte (1 : Int32) [(.int (x1.toInt8.toInt32))] (.int (0 : Int32))
set_option maxRecDepth 65536 in
set_option maxHeartbeats 40000000 in
theorem rmm1 (l : Launch) (Z : State) (a0 : Array Value) (hw : ∀ d ∈ tables_1, d.before a0 Z = true) (ws : List Jvm.Cond) (x1 : Int32) (x2 : Int32) (x3 : Int32) (h0 : Heap) (n0 : Nat) (Z0 : n0 ≤ h0.size) :
    MetFree l (⟨"com/example/kinwarden/kinwarden/NameBytesIsPinLaw", "make", "(IBBB)[B"⟩ : MethodName) (head1 (Jvm.Cond.code (⟨"com/example/kinwarden/kinwarden/NameBytesIsPinLaw", "make", "(IBBB)[B"⟩ : MethodName) method_2_code 4 (some (.array .byte)) :: ws) ({ frames := 0, cells := 1, slots := 1, locals := 0 } : Room)) (fun a U => a = #[(.int (1 : Int32)), (.int x1), (.int x2), (.int x3)] ∧ Z.Warmed39 U.vm ∧ U.heap = h0) (fun _ _ _ _ _ => True) (fun _ U o U' => ∃ v L, o = .returned v ∧ Qm1 Z x1 x2 x3 h0 n0 v U'.heap L ∧ FrameEnd U o U' L ({ frames := 0, cells := 1, slots := 1, locals := 0 } : Room).cells ({ frames := 0, cells := 1, slots := 1, locals := 0 } : Room).slots) := by
  refine MetFree.of_bodySF (plainFor_of_name pnm1) hisR ?_
  intro p e s m args below meth c s₁ Bd hml0 hP hK
  obtain ⟨rfl, hZ, hh⟩ := hP
  have hx := Bd.exec
  have hby := Bd.bytes
  have hml : c.maxLocals = 4 := hml0
  have hown : s.vm.findClass "com/example/kinwarden/kinwarden/NameBytesIsPinLaw" = some m.cls := findClass_of_methodNamed Bd.named
  have hnm := (name_of_methodNamed Bd.named Bd.method).1
  have X0 : Stand p l e ({ frames := 0, cells := 1, slots := 1, locals := 0 } : Room) s m #[(.int (1 : Int32)), (.int x1), (.int x2), (.int x3)] below meth c s₁ [] 0 0 := Stand.of_body Bd
  have e0 : s₁.heap = h0 := by rw [← hh, Bd.state]; rfl
  have N0 := Fr.nil n0
  have pre0 : ∀ t, Steps p.tables e below (s₁.setTop (mkF m 0 #[.val (.int (1 : Int32)), .val (.int x1), .val (.int x2), .val (.int x3)] [])) t → Steps p.tables e below (s₁.setTop (entryFrame m #[(.int (1 : Int32)), (.int x1), (.int x2), (.int x3)] 4)) t := fun t k => castTop (efm1 m x1 x2 x3) k
  have K0 := Keep.refl h0 []
  have p1 : ∀ t, Steps p.tables e below (s₁.setTop (mkF m 14 #[.val (.int (1 : Int32)), .val (.int x1), .val (.int x2), .val (.int x3)] [(.int (1 : Int32))])) t → Steps p.tables e below (s₁.setTop (entryFrame m #[(.int (1 : Int32)), (.int x1), (.int x2), (.int x3)] 4)) t := fun t k => pre0 t (by
    show Steps p.tables e below (s₁.setTop (mkF m 0 #[.val (.int (1 : Int32)), .val (.int x1), .val (.int x2), .val (.int x3)] [])) _
    refine XS.iloadN X0.here hx rfl (hb hby dm1_0) rfl ?_
    show Steps p.tables e below (s₁.setTop (mkF m 1 #[.val (.int (1 : Int32)), .val (.int x1), .val (.int x2), .val (.int x3)] [(.int (1 : Int32))])) _
    refine XS.ifYes X0.here hx rfl (pc0 := 1) (pc' := 8) rfl (hb hby dm1_1) rfl ((if0 _ _).trans (feq (by decide)).2) (by decide) (by decide) ?_
    show Steps p.tables e below (s₁.setTop (mkF m 8 #[.val (.int (1 : Int32)), .val (.int x1), .val (.int x2), .val (.int x3)] [])) _
    refine XS.iloadN X0.here hx rfl (hb hby dm1_8) rfl ?_
    show Steps p.tables e below (s₁.setTop (mkF m 9 #[.val (.int (1 : Int32)), .val (.int x1), .val (.int x2), .val (.int x3)] [(.int (1 : Int32))])) _
    refine XS.iconst X0.here hx rfl (hb hby dm1_9) ?_
    show Steps p.tables e below (s₁.setTop (mkF m 10 #[.val (.int (1 : Int32)), .val (.int x1), .val (.int x2), .val (.int x3)] [(.int (1 : Int32)), (.int (1 : Int32))])) _
    refine XS.icmpNo X0.here hx rfl (hb hby dm1_10) rfl ((teq (rfl)).2) ?_
    show Steps p.tables e below (s₁.setTop (mkF m 13 #[.val (.int (1 : Int32)), .val (.int x1), .val (.int x2), .val (.int x3)] [])) _
    refine XS.iconst X0.here hx rfl (hb hby dm1_13) ?_
    exact k)
  obtain ⟨T2, h2, k2, X2, e2, E2, A2, st2⟩ := newP X0 hx hZ (hw _ (List.mem_of_getElem? (i := 0) rfl)) e0 (g := (mkF m 14 #[.val (.int (1 : Int32)), .val (.int x1), .val (.int x2), .val (.int x3)] [(.int (1 : Int32))])) rfl (hb hby dm1_14) rfl (by decide) (cap := 1) (by decide) (by decide) (by decide) (by decide)
  obtain ⟨b2, g2⟩ : ∃ z, z = h0.size := ⟨_, rfl⟩
  rw [← g2] at A2 st2
  have gn_b2 : n0 ≤ b2 := Nat.le_trans Z0 (Nat.le_of_eq g2.symm)
  have gk_b2 : h0.size ≤ b2 := Nat.le_trans K0.1 (Nat.le_of_eq g2.symm)
  have Z2 := Nat.le_trans Z0 E2.1
  have KK2 := K0.ext E2
  have VV2 : Arv Z h2 b2 k2 .byte (1 : Int32) [(.int (0 : Int32))] (.int (0 : Int32)) := (Arv.new A2 (by decide)).pad (pad_rep [] (.int (0 : Int32)) 1)
  have p3 : ∀ t, Steps p.tables e below (T2.setTop (mkF m 16 #[.val (.int (1 : Int32)), .val (.int x1), .val (.int x2), .val (.int x3)] [(.ref b2)])) t → Steps p.tables e below (s₁.setTop (entryFrame m #[(.int (1 : Int32)), (.int x1), (.int x2), (.int x3)] 4)) t := fun t k => p1 t (st2 t k)
  have p4 : ∀ t, Steps p.tables e below (T2.setTop (mkF m 19 #[.val (.int (1 : Int32)), .val (.int x1), .val (.int x2), .val (.int x3)] [(.int x1), (.int (0 : Int32)), (.ref b2), (.ref b2)])) t → Steps p.tables e below (s₁.setTop (entryFrame m #[(.int (1 : Int32)), (.int x1), (.int x2), (.int x3)] 4)) t := fun t k => p3 t (by
    show Steps p.tables e below (T2.setTop (mkF m 16 #[.val (.int (1 : Int32)), .val (.int x1), .val (.int x2), .val (.int x3)] [(.ref b2)])) _
    refine XS.dup X2.here hx rfl (hb hby dm1_16) rfl rfl ?_
    show Steps p.tables e below (T2.setTop (mkF m 17 #[.val (.int (1 : Int32)), .val (.int x1), .val (.int x2), .val (.int x3)] [(.ref b2), (.ref b2)])) _
    refine XS.iconst X2.here hx rfl (hb hby dm1_17) ?_
    show Steps p.tables e below (T2.setTop (mkF m 18 #[.val (.int (1 : Int32)), .val (.int x1), .val (.int x2), .val (.int x3)] [(.int (0 : Int32)), (.ref b2), (.ref b2)])) _
    refine XS.iloadN X2.here hx rfl (hb hby dm1_18) rfl ?_
    exact k)
  obtain ⟨cl5, Ar5, q5, Sz5, Ng5, Hs5, G5⟩ := id VV2
  have hin5 : ¬ ((0 : Int32) < 0 ∨ cl5.slots.size ≤ ((0 : Int32)).toNatClampNeg) := inb_of Sz5 (⟨by decide, by decide⟩)
  obtain ⟨T5, h5, X5, e5, W5, st5⟩ := stB X2 hx hZ e2 Ar5 (j := (0 : Int32)) hin5 (g := (mkF m 19 #[.val (.int (1 : Int32)), .val (.int x1), .val (.int x2), .val (.int x3)] [(.int x1), (.int (0 : Int32)), (.ref b2), (.ref b2)])) rfl rfl (hb hby dm1_19)
  have VV5 : Arv Z h5 b2 k2 .byte (1 : Int32) [(.int (x1.toInt8.toInt32))] (.int (0 : Int32)) := Arv.set Ar5 q5 Sz5 Ng5 Hs5 G5 (fits_nar_byte _) W5 0 (by decide) (Nat.le_of_ble_eq_true rfl)
  have Z5 := Nat.le_trans Z2 (Keep.of_wr W5).1
  have N5 := Fr.snoc X5 N0 gn_b2
  have KK5 := KK2.wr W5 (Or.inr gk_b2)
  have p6 : ∀ t, Steps p.tables e below (T5.setTop (mkF m 20 #[.val (.int (1 : Int32)), .val (.int x1), .val (.int x2), .val (.int x3)] [(.ref b2)])) t → Steps p.tables e below (s₁.setTop (entryFrame m #[(.int (1 : Int32)), (.int x1), (.int x2), (.int x3)] 4)) t := fun t k => p4 t (st5 t k)
  obtain ⟨fs, hr, hrun, hended, hW, hsame⟩ := X5.leave (v := some (.ref b2)) (fun h => by rw [Bd.returns] at h; cases h)
  refine ⟨_, _, p6 _ ?_, hrun, hended, _, _, rfl, ?_, ⟨_, rfl⟩, hW, hsame.mono (by decide) (by decide)⟩
  · show Steps p.tables e below (T5.setTop (mkF m 20 #[.val (.int (1 : Int32)), .val (.int x1), .val (.int x2), .val (.int x3)] [(.ref b2)])) _
    exact retOut X5 hx Bd.returns rfl (Or.inr (Or.inr (Or.inr (Or.inr ⟨rfl, rfl, rfl⟩)))) (hb hby dm1_20) hr
  · show Qm1 Z x1 x2 x3 h0 n0 _ T5.heap _
    rw [e5]
    exact ⟨_, _, rfl, N5, KK5, gk_b2, VV5⟩
theorem dm2_0 : decode method_2_code 0 = .ok (.iload_n 0, 1) := by decide +kernel
theorem dm2_1 : decode method_2_code 1 = .ok (.ifCond .ne 7, 3) := by decide +kernel
theorem dm2_8 : decode method_2_code 8 = .ok (.iload_n 0, 1) := by decide +kernel
theorem dm2_9 : decode method_2_code 9 = .ok (.iconst 1, 1) := by decide +kernel
theorem dm2_10 : decode method_2_code 10 = .ok (.if_icmp .ne 11, 3) := by decide +kernel
theorem dm2_21 : decode method_2_code 21 = .ok (.iload_n 0, 1) := by decide +kernel
theorem dm2_22 : decode method_2_code 22 = .ok (.iconst 2, 1) := by decide +kernel
theorem dm2_23 : decode method_2_code 23 = .ok (.if_icmp .ne 15, 3) := by decide +kernel
theorem dm2_26 : decode method_2_code 26 = .ok (.iconst 2, 1) := by decide +kernel
theorem dm2_27 : decode method_2_code 27 = .ok (.newarray .byte, 2) := by decide +kernel
theorem dm2_29 : decode method_2_code 29 = .ok (.dup, 1) := by decide +kernel
theorem dm2_30 : decode method_2_code 30 = .ok (.iconst 0, 1) := by decide +kernel
theorem dm2_31 : decode method_2_code 31 = .ok (.iload_n 1, 1) := by decide +kernel
theorem dm2_32 : decode method_2_code 32 = .ok (.bastore, 1) := by decide +kernel
theorem dm2_33 : decode method_2_code 33 = .ok (.dup, 1) := by decide +kernel
theorem dm2_34 : decode method_2_code 34 = .ok (.iconst 1, 1) := by decide +kernel
theorem dm2_35 : decode method_2_code 35 = .ok (.iload_n 2, 1) := by decide +kernel
theorem dm2_36 : decode method_2_code 36 = .ok (.bastore, 1) := by decide +kernel
theorem dm2_37 : decode method_2_code 37 = .ok (.areturn, 1) := by decide +kernel
theorem pnm2 : plainName "com/example/kinwarden/kinwarden/NameBytesIsPinLaw" = true := by first | (simp [plainName, overriddenIn]; done) | decide +kernel
theorem efm2 (m : MethodId) (x1 : Int32) (x2 : Int32) (x3 : Int32) : entryFrame m #[(.int (2 : Int32)), (.int x1), (.int x2), (.int x3)] 4 = mkF m 0 #[.val (.int (2 : Int32)), .val (.int x1), .val (.int x2), .val (.int x3)] [] := by first | (simp [entryFrame, mkF, argsToLocals, Value.category]; done) | rfl
def Qm2 (Z : State) (x1 : Int32) (x2 : Int32) (x3 : Int32) (h0 : Heap) (n0 : Nat) (v : Option Value) (h : Heap) (L : List Loc) : Prop := ∃ (r : Addr) (kk : ClassId), v = some (.ref r) ∧ Fr n0 L ∧ Keep h0 h [] ∧ h0.size ≤ r ∧ Arv Z h r kk .byte (2 : Int32) [(.int (x1.toInt8.toInt32)), (.int (x2.toInt8.toInt32))] (.int (0 : Int32))
set_option maxRecDepth 65536 in
set_option maxHeartbeats 40000000 in
theorem rmm2 (l : Launch) (Z : State) (a0 : Array Value) (hw : ∀ d ∈ tables_1, d.before a0 Z = true) (ws : List Jvm.Cond) (x1 : Int32) (x2 : Int32) (x3 : Int32) (h0 : Heap) (n0 : Nat) (Z0 : n0 ≤ h0.size) :
    MetFree l (⟨"com/example/kinwarden/kinwarden/NameBytesIsPinLaw", "make", "(IBBB)[B"⟩ : MethodName) (head1 (Jvm.Cond.code (⟨"com/example/kinwarden/kinwarden/NameBytesIsPinLaw", "make", "(IBBB)[B"⟩ : MethodName) method_2_code 4 (some (.array .byte)) :: ws) ({ frames := 0, cells := 1, slots := 2, locals := 0 } : Room)) (fun a U => a = #[(.int (2 : Int32)), (.int x1), (.int x2), (.int x3)] ∧ Z.Warmed39 U.vm ∧ U.heap = h0) (fun _ _ _ _ _ => True) (fun _ U o U' => ∃ v L, o = .returned v ∧ Qm2 Z x1 x2 x3 h0 n0 v U'.heap L ∧ FrameEnd U o U' L ({ frames := 0, cells := 1, slots := 2, locals := 0 } : Room).cells ({ frames := 0, cells := 1, slots := 2, locals := 0 } : Room).slots) := by
  refine MetFree.of_bodySF (plainFor_of_name pnm2) hisR ?_
  intro p e s m args below meth c s₁ Bd hml0 hP hK
  obtain ⟨rfl, hZ, hh⟩ := hP
  have hx := Bd.exec
  have hby := Bd.bytes
  have hml : c.maxLocals = 4 := hml0
  have hown : s.vm.findClass "com/example/kinwarden/kinwarden/NameBytesIsPinLaw" = some m.cls := findClass_of_methodNamed Bd.named
  have hnm := (name_of_methodNamed Bd.named Bd.method).1
  have X0 : Stand p l e ({ frames := 0, cells := 1, slots := 2, locals := 0 } : Room) s m #[(.int (2 : Int32)), (.int x1), (.int x2), (.int x3)] below meth c s₁ [] 0 0 := Stand.of_body Bd
  have e0 : s₁.heap = h0 := by rw [← hh, Bd.state]; rfl
  have N0 := Fr.nil n0
  have pre0 : ∀ t, Steps p.tables e below (s₁.setTop (mkF m 0 #[.val (.int (2 : Int32)), .val (.int x1), .val (.int x2), .val (.int x3)] [])) t → Steps p.tables e below (s₁.setTop (entryFrame m #[(.int (2 : Int32)), (.int x1), (.int x2), (.int x3)] 4)) t := fun t k => castTop (efm2 m x1 x2 x3) k
  have K0 := Keep.refl h0 []
  have p1 : ∀ t, Steps p.tables e below (s₁.setTop (mkF m 27 #[.val (.int (2 : Int32)), .val (.int x1), .val (.int x2), .val (.int x3)] [(.int (2 : Int32))])) t → Steps p.tables e below (s₁.setTop (entryFrame m #[(.int (2 : Int32)), (.int x1), (.int x2), (.int x3)] 4)) t := fun t k => pre0 t (by
    show Steps p.tables e below (s₁.setTop (mkF m 0 #[.val (.int (2 : Int32)), .val (.int x1), .val (.int x2), .val (.int x3)] [])) _
    refine XS.iloadN X0.here hx rfl (hb hby dm2_0) rfl ?_
    show Steps p.tables e below (s₁.setTop (mkF m 1 #[.val (.int (2 : Int32)), .val (.int x1), .val (.int x2), .val (.int x3)] [(.int (2 : Int32))])) _
    refine XS.ifYes X0.here hx rfl (pc0 := 1) (pc' := 8) rfl (hb hby dm2_1) rfl ((if0 _ _).trans (feq (by decide)).2) (by decide) (by decide) ?_
    show Steps p.tables e below (s₁.setTop (mkF m 8 #[.val (.int (2 : Int32)), .val (.int x1), .val (.int x2), .val (.int x3)] [])) _
    refine XS.iloadN X0.here hx rfl (hb hby dm2_8) rfl ?_
    show Steps p.tables e below (s₁.setTop (mkF m 9 #[.val (.int (2 : Int32)), .val (.int x1), .val (.int x2), .val (.int x3)] [(.int (2 : Int32))])) _
    refine XS.iconst X0.here hx rfl (hb hby dm2_9) ?_
    show Steps p.tables e below (s₁.setTop (mkF m 10 #[.val (.int (2 : Int32)), .val (.int x1), .val (.int x2), .val (.int x3)] [(.int (1 : Int32)), (.int (2 : Int32))])) _
    refine XS.icmpYes X0.here hx rfl (pc0 := 10) (pc' := 21) rfl (hb hby dm2_10) rfl ((feq (by decide)).2) (by decide) (by decide) ?_
    show Steps p.tables e below (s₁.setTop (mkF m 21 #[.val (.int (2 : Int32)), .val (.int x1), .val (.int x2), .val (.int x3)] [])) _
    refine XS.iloadN X0.here hx rfl (hb hby dm2_21) rfl ?_
    show Steps p.tables e below (s₁.setTop (mkF m 22 #[.val (.int (2 : Int32)), .val (.int x1), .val (.int x2), .val (.int x3)] [(.int (2 : Int32))])) _
    refine XS.iconst X0.here hx rfl (hb hby dm2_22) ?_
    show Steps p.tables e below (s₁.setTop (mkF m 23 #[.val (.int (2 : Int32)), .val (.int x1), .val (.int x2), .val (.int x3)] [(.int (2 : Int32)), (.int (2 : Int32))])) _
    refine XS.icmpNo X0.here hx rfl (hb hby dm2_23) rfl ((teq (rfl)).2) ?_
    show Steps p.tables e below (s₁.setTop (mkF m 26 #[.val (.int (2 : Int32)), .val (.int x1), .val (.int x2), .val (.int x3)] [])) _
    refine XS.iconst X0.here hx rfl (hb hby dm2_26) ?_
    exact k)
  obtain ⟨T2, h2, k2, X2, e2, E2, A2, st2⟩ := newP X0 hx hZ (hw _ (List.mem_of_getElem? (i := 0) rfl)) e0 (g := (mkF m 27 #[.val (.int (2 : Int32)), .val (.int x1), .val (.int x2), .val (.int x3)] [(.int (2 : Int32))])) rfl (hb hby dm2_27) rfl (by decide) (cap := 2) (by decide) (by decide) (by decide) (by decide)
  obtain ⟨b2, g2⟩ : ∃ z, z = h0.size := ⟨_, rfl⟩
  rw [← g2] at A2 st2
  have gn_b2 : n0 ≤ b2 := Nat.le_trans Z0 (Nat.le_of_eq g2.symm)
  have gk_b2 : h0.size ≤ b2 := Nat.le_trans K0.1 (Nat.le_of_eq g2.symm)
  have Z2 := Nat.le_trans Z0 E2.1
  have KK2 := K0.ext E2
  have VV2 : Arv Z h2 b2 k2 .byte (2 : Int32) [(.int (0 : Int32)), (.int (0 : Int32))] (.int (0 : Int32)) := (Arv.new A2 (by decide)).pad (pad_rep [] (.int (0 : Int32)) 2)
  have p3 : ∀ t, Steps p.tables e below (T2.setTop (mkF m 29 #[.val (.int (2 : Int32)), .val (.int x1), .val (.int x2), .val (.int x3)] [(.ref b2)])) t → Steps p.tables e below (s₁.setTop (entryFrame m #[(.int (2 : Int32)), (.int x1), (.int x2), (.int x3)] 4)) t := fun t k => p1 t (st2 t k)
  have p4 : ∀ t, Steps p.tables e below (T2.setTop (mkF m 32 #[.val (.int (2 : Int32)), .val (.int x1), .val (.int x2), .val (.int x3)] [(.int x1), (.int (0 : Int32)), (.ref b2), (.ref b2)])) t → Steps p.tables e below (s₁.setTop (entryFrame m #[(.int (2 : Int32)), (.int x1), (.int x2), (.int x3)] 4)) t := fun t k => p3 t (by
    show Steps p.tables e below (T2.setTop (mkF m 29 #[.val (.int (2 : Int32)), .val (.int x1), .val (.int x2), .val (.int x3)] [(.ref b2)])) _
    refine XS.dup X2.here hx rfl (hb hby dm2_29) rfl rfl ?_
    show Steps p.tables e below (T2.setTop (mkF m 30 #[.val (.int (2 : Int32)), .val (.int x1), .val (.int x2), .val (.int x3)] [(.ref b2), (.ref b2)])) _
    refine XS.iconst X2.here hx rfl (hb hby dm2_30) ?_
    show Steps p.tables e below (T2.setTop (mkF m 31 #[.val (.int (2 : Int32)), .val (.int x1), .val (.int x2), .val (.int x3)] [(.int (0 : Int32)), (.ref b2), (.ref b2)])) _
    refine XS.iloadN X2.here hx rfl (hb hby dm2_31) rfl ?_
    exact k)
  obtain ⟨cl5, Ar5, q5, Sz5, Ng5, Hs5, G5⟩ := id VV2
  have hin5 : ¬ ((0 : Int32) < 0 ∨ cl5.slots.size ≤ ((0 : Int32)).toNatClampNeg) := inb_of Sz5 (⟨by decide, by decide⟩)
  obtain ⟨T5, h5, X5, e5, W5, st5⟩ := stB X2 hx hZ e2 Ar5 (j := (0 : Int32)) hin5 (g := (mkF m 32 #[.val (.int (2 : Int32)), .val (.int x1), .val (.int x2), .val (.int x3)] [(.int x1), (.int (0 : Int32)), (.ref b2), (.ref b2)])) rfl rfl (hb hby dm2_32)
  have VV5 : Arv Z h5 b2 k2 .byte (2 : Int32) [(.int (x1.toInt8.toInt32)), (.int (0 : Int32))] (.int (0 : Int32)) := Arv.set Ar5 q5 Sz5 Ng5 Hs5 G5 (fits_nar_byte _) W5 0 (by decide) (Nat.le_of_ble_eq_true rfl)
  have Z5 := Nat.le_trans Z2 (Keep.of_wr W5).1
  have N5 := Fr.snoc X5 N0 gn_b2
  have KK5 := KK2.wr W5 (Or.inr gk_b2)
  have p6 : ∀ t, Steps p.tables e below (T5.setTop (mkF m 33 #[.val (.int (2 : Int32)), .val (.int x1), .val (.int x2), .val (.int x3)] [(.ref b2)])) t → Steps p.tables e below (s₁.setTop (entryFrame m #[(.int (2 : Int32)), (.int x1), (.int x2), (.int x3)] 4)) t := fun t k => p4 t (st5 t k)
  have p7 : ∀ t, Steps p.tables e below (T5.setTop (mkF m 36 #[.val (.int (2 : Int32)), .val (.int x1), .val (.int x2), .val (.int x3)] [(.int x2), (.int (1 : Int32)), (.ref b2), (.ref b2)])) t → Steps p.tables e below (s₁.setTop (entryFrame m #[(.int (2 : Int32)), (.int x1), (.int x2), (.int x3)] 4)) t := fun t k => p6 t (by
    show Steps p.tables e below (T5.setTop (mkF m 33 #[.val (.int (2 : Int32)), .val (.int x1), .val (.int x2), .val (.int x3)] [(.ref b2)])) _
    refine XS.dup X5.here hx rfl (hb hby dm2_33) rfl rfl ?_
    show Steps p.tables e below (T5.setTop (mkF m 34 #[.val (.int (2 : Int32)), .val (.int x1), .val (.int x2), .val (.int x3)] [(.ref b2), (.ref b2)])) _
    refine XS.iconst X5.here hx rfl (hb hby dm2_34) ?_
    show Steps p.tables e below (T5.setTop (mkF m 35 #[.val (.int (2 : Int32)), .val (.int x1), .val (.int x2), .val (.int x3)] [(.int (1 : Int32)), (.ref b2), (.ref b2)])) _
    refine XS.iloadN X5.here hx rfl (hb hby dm2_35) rfl ?_
    exact k)
  obtain ⟨cl8, Ar8, q8, Sz8, Ng8, Hs8, G8⟩ := id VV5
  have hin8 : ¬ ((1 : Int32) < 0 ∨ cl8.slots.size ≤ ((1 : Int32)).toNatClampNeg) := inb_of Sz8 (⟨by decide, by decide⟩)
  obtain ⟨T8, h8, X8, e8, W8, st8⟩ := stB X5 hx hZ e5 Ar8 (j := (1 : Int32)) hin8 (g := (mkF m 36 #[.val (.int (2 : Int32)), .val (.int x1), .val (.int x2), .val (.int x3)] [(.int x2), (.int (1 : Int32)), (.ref b2), (.ref b2)])) rfl rfl (hb hby dm2_36)
  have VV8 : Arv Z h8 b2 k2 .byte (2 : Int32) [(.int (x1.toInt8.toInt32)), (.int (x2.toInt8.toInt32))] (.int (0 : Int32)) := Arv.set Ar8 q8 Sz8 Ng8 Hs8 G8 (fits_nar_byte _) W8 1 (by decide) (Nat.le_of_ble_eq_true rfl)
  have Z8 := Nat.le_trans Z5 (Keep.of_wr W8).1
  have N8 := Fr.snoc X8 N5 gn_b2
  have KK8 := KK5.wr W8 (Or.inr gk_b2)
  have p9 : ∀ t, Steps p.tables e below (T8.setTop (mkF m 37 #[.val (.int (2 : Int32)), .val (.int x1), .val (.int x2), .val (.int x3)] [(.ref b2)])) t → Steps p.tables e below (s₁.setTop (entryFrame m #[(.int (2 : Int32)), (.int x1), (.int x2), (.int x3)] 4)) t := fun t k => p7 t (st8 t k)
  obtain ⟨fs, hr, hrun, hended, hW, hsame⟩ := X8.leave (v := some (.ref b2)) (fun h => by rw [Bd.returns] at h; cases h)
  refine ⟨_, _, p9 _ ?_, hrun, hended, _, _, rfl, ?_, ⟨_, rfl⟩, hW, hsame.mono (by decide) (by decide)⟩
  · show Steps p.tables e below (T8.setTop (mkF m 37 #[.val (.int (2 : Int32)), .val (.int x1), .val (.int x2), .val (.int x3)] [(.ref b2)])) _
    exact retOut X8 hx Bd.returns rfl (Or.inr (Or.inr (Or.inr (Or.inr ⟨rfl, rfl, rfl⟩)))) (hb hby dm2_37) hr
  · show Qm2 Z x1 x2 x3 h0 n0 _ T8.heap _
    rw [e8]
    exact ⟨_, _, rfl, N8, KK8, gk_b2, VV8⟩
theorem dm3_0 : decode method_2_code 0 = .ok (.iload_n 0, 1) := by decide +kernel
theorem dm3_1 : decode method_2_code 1 = .ok (.ifCond .ne 7, 3) := by decide +kernel
theorem dm3_8 : decode method_2_code 8 = .ok (.iload_n 0, 1) := by decide +kernel
theorem dm3_9 : decode method_2_code 9 = .ok (.iconst 1, 1) := by decide +kernel
theorem dm3_10 : decode method_2_code 10 = .ok (.if_icmp .ne 11, 3) := by decide +kernel
theorem dm3_21 : decode method_2_code 21 = .ok (.iload_n 0, 1) := by decide +kernel
theorem dm3_22 : decode method_2_code 22 = .ok (.iconst 2, 1) := by decide +kernel
theorem dm3_23 : decode method_2_code 23 = .ok (.if_icmp .ne 15, 3) := by decide +kernel
theorem dm3_38 : decode method_2_code 38 = .ok (.iconst 3, 1) := by decide +kernel
theorem dm3_39 : decode method_2_code 39 = .ok (.newarray .byte, 2) := by decide +kernel
theorem dm3_41 : decode method_2_code 41 = .ok (.dup, 1) := by decide +kernel
theorem dm3_42 : decode method_2_code 42 = .ok (.iconst 0, 1) := by decide +kernel
theorem dm3_43 : decode method_2_code 43 = .ok (.iload_n 1, 1) := by decide +kernel
theorem dm3_44 : decode method_2_code 44 = .ok (.bastore, 1) := by decide +kernel
theorem dm3_45 : decode method_2_code 45 = .ok (.dup, 1) := by decide +kernel
theorem dm3_46 : decode method_2_code 46 = .ok (.iconst 1, 1) := by decide +kernel
theorem dm3_47 : decode method_2_code 47 = .ok (.iload_n 2, 1) := by decide +kernel
theorem dm3_48 : decode method_2_code 48 = .ok (.bastore, 1) := by decide +kernel
theorem dm3_49 : decode method_2_code 49 = .ok (.dup, 1) := by decide +kernel
theorem dm3_50 : decode method_2_code 50 = .ok (.iconst 2, 1) := by decide +kernel
theorem dm3_51 : decode method_2_code 51 = .ok (.iload_n 3, 1) := by decide +kernel
theorem dm3_52 : decode method_2_code 52 = .ok (.bastore, 1) := by decide +kernel
theorem dm3_53 : decode method_2_code 53 = .ok (.areturn, 1) := by decide +kernel
theorem pnm3 : plainName "com/example/kinwarden/kinwarden/NameBytesIsPinLaw" = true := by first | (simp [plainName, overriddenIn]; done) | decide +kernel
theorem efm3 (m : MethodId) (x1 : Int32) (x2 : Int32) (x3 : Int32) : entryFrame m #[(.int (3 : Int32)), (.int x1), (.int x2), (.int x3)] 4 = mkF m 0 #[.val (.int (3 : Int32)), .val (.int x1), .val (.int x2), .val (.int x3)] [] := by first | (simp [entryFrame, mkF, argsToLocals, Value.category]; done) | rfl
def Qm3 (Z : State) (x1 : Int32) (x2 : Int32) (x3 : Int32) (h0 : Heap) (n0 : Nat) (v : Option Value) (h : Heap) (L : List Loc) : Prop := ∃ (r : Addr) (kk : ClassId), v = some (.ref r) ∧ Fr n0 L ∧ Keep h0 h [] ∧ h0.size ≤ r ∧ Arv Z h r kk .byte (3 : Int32) [(.int (x1.toInt8.toInt32)), (.int (x2.toInt8.toInt32)), (.int (x3.toInt8.toInt32))] (.int (0 : Int32))
set_option maxRecDepth 65536 in
set_option maxHeartbeats 40000000 in
theorem rmm3 (l : Launch) (Z : State) (a0 : Array Value) (hw : ∀ d ∈ tables_1, d.before a0 Z = true) (ws : List Jvm.Cond) (x1 : Int32) (x2 : Int32) (x3 : Int32) (h0 : Heap) (n0 : Nat) (Z0 : n0 ≤ h0.size) :
    MetFree l (⟨"com/example/kinwarden/kinwarden/NameBytesIsPinLaw", "make", "(IBBB)[B"⟩ : MethodName) (head1 (Jvm.Cond.code (⟨"com/example/kinwarden/kinwarden/NameBytesIsPinLaw", "make", "(IBBB)[B"⟩ : MethodName) method_2_code 4 (some (.array .byte)) :: ws) ({ frames := 0, cells := 1, slots := 3, locals := 0 } : Room)) (fun a U => a = #[(.int (3 : Int32)), (.int x1), (.int x2), (.int x3)] ∧ Z.Warmed39 U.vm ∧ U.heap = h0) (fun _ _ _ _ _ => True) (fun _ U o U' => ∃ v L, o = .returned v ∧ Qm3 Z x1 x2 x3 h0 n0 v U'.heap L ∧ FrameEnd U o U' L ({ frames := 0, cells := 1, slots := 3, locals := 0 } : Room).cells ({ frames := 0, cells := 1, slots := 3, locals := 0 } : Room).slots) := by
  refine MetFree.of_bodySF (plainFor_of_name pnm3) hisR ?_
  intro p e s m args below meth c s₁ Bd hml0 hP hK
  obtain ⟨rfl, hZ, hh⟩ := hP
  have hx := Bd.exec
  have hby := Bd.bytes
  have hml : c.maxLocals = 4 := hml0
  have hown : s.vm.findClass "com/example/kinwarden/kinwarden/NameBytesIsPinLaw" = some m.cls := findClass_of_methodNamed Bd.named
  have hnm := (name_of_methodNamed Bd.named Bd.method).1
  have X0 : Stand p l e ({ frames := 0, cells := 1, slots := 3, locals := 0 } : Room) s m #[(.int (3 : Int32)), (.int x1), (.int x2), (.int x3)] below meth c s₁ [] 0 0 := Stand.of_body Bd
  have e0 : s₁.heap = h0 := by rw [← hh, Bd.state]; rfl
  have N0 := Fr.nil n0
  have pre0 : ∀ t, Steps p.tables e below (s₁.setTop (mkF m 0 #[.val (.int (3 : Int32)), .val (.int x1), .val (.int x2), .val (.int x3)] [])) t → Steps p.tables e below (s₁.setTop (entryFrame m #[(.int (3 : Int32)), (.int x1), (.int x2), (.int x3)] 4)) t := fun t k => castTop (efm3 m x1 x2 x3) k
  have K0 := Keep.refl h0 []
  have p1 : ∀ t, Steps p.tables e below (s₁.setTop (mkF m 39 #[.val (.int (3 : Int32)), .val (.int x1), .val (.int x2), .val (.int x3)] [(.int (3 : Int32))])) t → Steps p.tables e below (s₁.setTop (entryFrame m #[(.int (3 : Int32)), (.int x1), (.int x2), (.int x3)] 4)) t := fun t k => pre0 t (by
    show Steps p.tables e below (s₁.setTop (mkF m 0 #[.val (.int (3 : Int32)), .val (.int x1), .val (.int x2), .val (.int x3)] [])) _
    refine XS.iloadN X0.here hx rfl (hb hby dm3_0) rfl ?_
    show Steps p.tables e below (s₁.setTop (mkF m 1 #[.val (.int (3 : Int32)), .val (.int x1), .val (.int x2), .val (.int x3)] [(.int (3 : Int32))])) _
    refine XS.ifYes X0.here hx rfl (pc0 := 1) (pc' := 8) rfl (hb hby dm3_1) rfl ((if0 _ _).trans (feq (by decide)).2) (by decide) (by decide) ?_
    show Steps p.tables e below (s₁.setTop (mkF m 8 #[.val (.int (3 : Int32)), .val (.int x1), .val (.int x2), .val (.int x3)] [])) _
    refine XS.iloadN X0.here hx rfl (hb hby dm3_8) rfl ?_
    show Steps p.tables e below (s₁.setTop (mkF m 9 #[.val (.int (3 : Int32)), .val (.int x1), .val (.int x2), .val (.int x3)] [(.int (3 : Int32))])) _
    refine XS.iconst X0.here hx rfl (hb hby dm3_9) ?_
    show Steps p.tables e below (s₁.setTop (mkF m 10 #[.val (.int (3 : Int32)), .val (.int x1), .val (.int x2), .val (.int x3)] [(.int (1 : Int32)), (.int (3 : Int32))])) _
    refine XS.icmpYes X0.here hx rfl (pc0 := 10) (pc' := 21) rfl (hb hby dm3_10) rfl ((feq (by decide)).2) (by decide) (by decide) ?_
    show Steps p.tables e below (s₁.setTop (mkF m 21 #[.val (.int (3 : Int32)), .val (.int x1), .val (.int x2), .val (.int x3)] [])) _
    refine XS.iloadN X0.here hx rfl (hb hby dm3_21) rfl ?_
    show Steps p.tables e below (s₁.setTop (mkF m 22 #[.val (.int (3 : Int32)), .val (.int x1), .val (.int x2), .val (.int x3)] [(.int (3 : Int32))])) _
    refine XS.iconst X0.here hx rfl (hb hby dm3_22) ?_
    show Steps p.tables e below (s₁.setTop (mkF m 23 #[.val (.int (3 : Int32)), .val (.int x1), .val (.int x2), .val (.int x3)] [(.int (2 : Int32)), (.int (3 : Int32))])) _
    refine XS.icmpYes X0.here hx rfl (pc0 := 23) (pc' := 38) rfl (hb hby dm3_23) rfl ((feq (by decide)).2) (by decide) (by decide) ?_
    show Steps p.tables e below (s₁.setTop (mkF m 38 #[.val (.int (3 : Int32)), .val (.int x1), .val (.int x2), .val (.int x3)] [])) _
    refine XS.iconst X0.here hx rfl (hb hby dm3_38) ?_
    exact k)
  obtain ⟨T2, h2, k2, X2, e2, E2, A2, st2⟩ := newP X0 hx hZ (hw _ (List.mem_of_getElem? (i := 0) rfl)) e0 (g := (mkF m 39 #[.val (.int (3 : Int32)), .val (.int x1), .val (.int x2), .val (.int x3)] [(.int (3 : Int32))])) rfl (hb hby dm3_39) rfl (by decide) (cap := 3) (by decide) (by decide) (by decide) (by decide)
  obtain ⟨b2, g2⟩ : ∃ z, z = h0.size := ⟨_, rfl⟩
  rw [← g2] at A2 st2
  have gn_b2 : n0 ≤ b2 := Nat.le_trans Z0 (Nat.le_of_eq g2.symm)
  have gk_b2 : h0.size ≤ b2 := Nat.le_trans K0.1 (Nat.le_of_eq g2.symm)
  have Z2 := Nat.le_trans Z0 E2.1
  have KK2 := K0.ext E2
  have VV2 : Arv Z h2 b2 k2 .byte (3 : Int32) [(.int (0 : Int32)), (.int (0 : Int32)), (.int (0 : Int32))] (.int (0 : Int32)) := (Arv.new A2 (by decide)).pad (pad_rep [] (.int (0 : Int32)) 3)
  have p3 : ∀ t, Steps p.tables e below (T2.setTop (mkF m 41 #[.val (.int (3 : Int32)), .val (.int x1), .val (.int x2), .val (.int x3)] [(.ref b2)])) t → Steps p.tables e below (s₁.setTop (entryFrame m #[(.int (3 : Int32)), (.int x1), (.int x2), (.int x3)] 4)) t := fun t k => p1 t (st2 t k)
  have p4 : ∀ t, Steps p.tables e below (T2.setTop (mkF m 44 #[.val (.int (3 : Int32)), .val (.int x1), .val (.int x2), .val (.int x3)] [(.int x1), (.int (0 : Int32)), (.ref b2), (.ref b2)])) t → Steps p.tables e below (s₁.setTop (entryFrame m #[(.int (3 : Int32)), (.int x1), (.int x2), (.int x3)] 4)) t := fun t k => p3 t (by
    show Steps p.tables e below (T2.setTop (mkF m 41 #[.val (.int (3 : Int32)), .val (.int x1), .val (.int x2), .val (.int x3)] [(.ref b2)])) _
    refine XS.dup X2.here hx rfl (hb hby dm3_41) rfl rfl ?_
    show Steps p.tables e below (T2.setTop (mkF m 42 #[.val (.int (3 : Int32)), .val (.int x1), .val (.int x2), .val (.int x3)] [(.ref b2), (.ref b2)])) _
    refine XS.iconst X2.here hx rfl (hb hby dm3_42) ?_
    show Steps p.tables e below (T2.setTop (mkF m 43 #[.val (.int (3 : Int32)), .val (.int x1), .val (.int x2), .val (.int x3)] [(.int (0 : Int32)), (.ref b2), (.ref b2)])) _
    refine XS.iloadN X2.here hx rfl (hb hby dm3_43) rfl ?_
    exact k)
  obtain ⟨cl5, Ar5, q5, Sz5, Ng5, Hs5, G5⟩ := id VV2
  have hin5 : ¬ ((0 : Int32) < 0 ∨ cl5.slots.size ≤ ((0 : Int32)).toNatClampNeg) := inb_of Sz5 (⟨by decide, by decide⟩)
  obtain ⟨T5, h5, X5, e5, W5, st5⟩ := stB X2 hx hZ e2 Ar5 (j := (0 : Int32)) hin5 (g := (mkF m 44 #[.val (.int (3 : Int32)), .val (.int x1), .val (.int x2), .val (.int x3)] [(.int x1), (.int (0 : Int32)), (.ref b2), (.ref b2)])) rfl rfl (hb hby dm3_44)
  have VV5 : Arv Z h5 b2 k2 .byte (3 : Int32) [(.int (x1.toInt8.toInt32)), (.int (0 : Int32)), (.int (0 : Int32))] (.int (0 : Int32)) := Arv.set Ar5 q5 Sz5 Ng5 Hs5 G5 (fits_nar_byte _) W5 0 (by decide) (Nat.le_of_ble_eq_true rfl)
  have Z5 := Nat.le_trans Z2 (Keep.of_wr W5).1
  have N5 := Fr.snoc X5 N0 gn_b2
  have KK5 := KK2.wr W5 (Or.inr gk_b2)
  have p6 : ∀ t, Steps p.tables e below (T5.setTop (mkF m 45 #[.val (.int (3 : Int32)), .val (.int x1), .val (.int x2), .val (.int x3)] [(.ref b2)])) t → Steps p.tables e below (s₁.setTop (entryFrame m #[(.int (3 : Int32)), (.int x1), (.int x2), (.int x3)] 4)) t := fun t k => p4 t (st5 t k)
  have p7 : ∀ t, Steps p.tables e below (T5.setTop (mkF m 48 #[.val (.int (3 : Int32)), .val (.int x1), .val (.int x2), .val (.int x3)] [(.int x2), (.int (1 : Int32)), (.ref b2), (.ref b2)])) t → Steps p.tables e below (s₁.setTop (entryFrame m #[(.int (3 : Int32)), (.int x1), (.int x2), (.int x3)] 4)) t := fun t k => p6 t (by
    show Steps p.tables e below (T5.setTop (mkF m 45 #[.val (.int (3 : Int32)), .val (.int x1), .val (.int x2), .val (.int x3)] [(.ref b2)])) _
    refine XS.dup X5.here hx rfl (hb hby dm3_45) rfl rfl ?_
    show Steps p.tables e below (T5.setTop (mkF m 46 #[.val (.int (3 : Int32)), .val (.int x1), .val (.int x2), .val (.int x3)] [(.ref b2), (.ref b2)])) _
    refine XS.iconst X5.here hx rfl (hb hby dm3_46) ?_
    show Steps p.tables e below (T5.setTop (mkF m 47 #[.val (.int (3 : Int32)), .val (.int x1), .val (.int x2), .val (.int x3)] [(.int (1 : Int32)), (.ref b2), (.ref b2)])) _
    refine XS.iloadN X5.here hx rfl (hb hby dm3_47) rfl ?_
    exact k)
  obtain ⟨cl8, Ar8, q8, Sz8, Ng8, Hs8, G8⟩ := id VV5
  have hin8 : ¬ ((1 : Int32) < 0 ∨ cl8.slots.size ≤ ((1 : Int32)).toNatClampNeg) := inb_of Sz8 (⟨by decide, by decide⟩)
  obtain ⟨T8, h8, X8, e8, W8, st8⟩ := stB X5 hx hZ e5 Ar8 (j := (1 : Int32)) hin8 (g := (mkF m 48 #[.val (.int (3 : Int32)), .val (.int x1), .val (.int x2), .val (.int x3)] [(.int x2), (.int (1 : Int32)), (.ref b2), (.ref b2)])) rfl rfl (hb hby dm3_48)
  have VV8 : Arv Z h8 b2 k2 .byte (3 : Int32) [(.int (x1.toInt8.toInt32)), (.int (x2.toInt8.toInt32)), (.int (0 : Int32))] (.int (0 : Int32)) := Arv.set Ar8 q8 Sz8 Ng8 Hs8 G8 (fits_nar_byte _) W8 1 (by decide) (Nat.le_of_ble_eq_true rfl)
  have Z8 := Nat.le_trans Z5 (Keep.of_wr W8).1
  have N8 := Fr.snoc X8 N5 gn_b2
  have KK8 := KK5.wr W8 (Or.inr gk_b2)
  have p9 : ∀ t, Steps p.tables e below (T8.setTop (mkF m 49 #[.val (.int (3 : Int32)), .val (.int x1), .val (.int x2), .val (.int x3)] [(.ref b2)])) t → Steps p.tables e below (s₁.setTop (entryFrame m #[(.int (3 : Int32)), (.int x1), (.int x2), (.int x3)] 4)) t := fun t k => p7 t (st8 t k)
  have p10 : ∀ t, Steps p.tables e below (T8.setTop (mkF m 52 #[.val (.int (3 : Int32)), .val (.int x1), .val (.int x2), .val (.int x3)] [(.int x3), (.int (2 : Int32)), (.ref b2), (.ref b2)])) t → Steps p.tables e below (s₁.setTop (entryFrame m #[(.int (3 : Int32)), (.int x1), (.int x2), (.int x3)] 4)) t := fun t k => p9 t (by
    show Steps p.tables e below (T8.setTop (mkF m 49 #[.val (.int (3 : Int32)), .val (.int x1), .val (.int x2), .val (.int x3)] [(.ref b2)])) _
    refine XS.dup X8.here hx rfl (hb hby dm3_49) rfl rfl ?_
    show Steps p.tables e below (T8.setTop (mkF m 50 #[.val (.int (3 : Int32)), .val (.int x1), .val (.int x2), .val (.int x3)] [(.ref b2), (.ref b2)])) _
    refine XS.iconst X8.here hx rfl (hb hby dm3_50) ?_
    show Steps p.tables e below (T8.setTop (mkF m 51 #[.val (.int (3 : Int32)), .val (.int x1), .val (.int x2), .val (.int x3)] [(.int (2 : Int32)), (.ref b2), (.ref b2)])) _
    refine XS.iloadN X8.here hx rfl (hb hby dm3_51) rfl ?_
    exact k)
  obtain ⟨cl11, Ar11, q11, Sz11, Ng11, Hs11, G11⟩ := id VV8
  have hin11 : ¬ ((2 : Int32) < 0 ∨ cl11.slots.size ≤ ((2 : Int32)).toNatClampNeg) := inb_of Sz11 (⟨by decide, by decide⟩)
  obtain ⟨T11, h11, X11, e11, W11, st11⟩ := stB X8 hx hZ e8 Ar11 (j := (2 : Int32)) hin11 (g := (mkF m 52 #[.val (.int (3 : Int32)), .val (.int x1), .val (.int x2), .val (.int x3)] [(.int x3), (.int (2 : Int32)), (.ref b2), (.ref b2)])) rfl rfl (hb hby dm3_52)
  have VV11 : Arv Z h11 b2 k2 .byte (3 : Int32) [(.int (x1.toInt8.toInt32)), (.int (x2.toInt8.toInt32)), (.int (x3.toInt8.toInt32))] (.int (0 : Int32)) := Arv.set Ar11 q11 Sz11 Ng11 Hs11 G11 (fits_nar_byte _) W11 2 (by decide) (Nat.le_of_ble_eq_true rfl)
  have Z11 := Nat.le_trans Z8 (Keep.of_wr W11).1
  have N11 := Fr.snoc X11 N8 gn_b2
  have KK11 := KK8.wr W11 (Or.inr gk_b2)
  have p12 : ∀ t, Steps p.tables e below (T11.setTop (mkF m 53 #[.val (.int (3 : Int32)), .val (.int x1), .val (.int x2), .val (.int x3)] [(.ref b2)])) t → Steps p.tables e below (s₁.setTop (entryFrame m #[(.int (3 : Int32)), (.int x1), (.int x2), (.int x3)] 4)) t := fun t k => p10 t (st11 t k)
  obtain ⟨fs, hr, hrun, hended, hW, hsame⟩ := X11.leave (v := some (.ref b2)) (fun h => by rw [Bd.returns] at h; cases h)
  refine ⟨_, _, p12 _ ?_, hrun, hended, _, _, rfl, ?_, ⟨_, rfl⟩, hW, hsame.mono (by decide) (by decide)⟩
  · show Steps p.tables e below (T11.setTop (mkF m 53 #[.val (.int (3 : Int32)), .val (.int x1), .val (.int x2), .val (.int x3)] [(.ref b2)])) _
    exact retOut X11 hx Bd.returns rfl (Or.inr (Or.inr (Or.inr (Or.inr ⟨rfl, rfl, rfl⟩)))) (hb hby dm3_53) hr
  · show Qm3 Z x1 x2 x3 h0 n0 _ T11.heap _
    rw [e11]
    exact ⟨_, _, rfl, N11, KK11, gk_b2, VV11⟩
theorem dI_0 : decode prog_71_method_1_code 0 = .ok (.aload_n 0, 1) := by decide +kernel
theorem dI_1 : decode prog_71_method_1_code 1 = .ok (.invokespecial 1, 3) := by decide +kernel
theorem dI_4 : decode prog_71_method_1_code 4 = .ok (.aload_n 0, 1) := by decide +kernel
theorem dI_5 : decode prog_71_method_1_code 5 = .ok (.getstatic 7, 3) := by decide +kernel
theorem dI_8 : decode prog_71_method_1_code 8 = .ok (.putfield 13, 3) := by decide +kernel
theorem dI_11 : decode prog_71_method_1_code 11 = .ok (.aload_n 0, 1) := by decide +kernel
theorem dI_12 : decode prog_71_method_1_code 12 = .ok (.getstatic 7, 3) := by decide +kernel
theorem dI_15 : decode prog_71_method_1_code 15 = .ok (.putfield 16, 3) := by decide +kernel
theorem dI_18 : decode prog_71_method_1_code 18 = .ok (.return_, 1) := by decide +kernel
theorem pnI : plainName "com/example/kinwarden/kinwarden/NameBytes" = true := by first | (simp [plainName, overriddenIn]; done) | decide +kernel
theorem efI (m : MethodId) (x0 : Addr) : entryFrame m #[(.ref x0)] 1 = mkF m 0 #[.val (.ref x0)] [] := by first | (simp [entryFrame, mkF, argsToLocals, Value.category]; done) | rfl
def QI (Z : State) (x0 : Addr) (a_E : Addr) (h0 : Heap) (n0 : Nat) (v : Option Value) (h : Heap) (L : List Loc) : Prop := v = none ∧ Fr n0 L ∧ Keep h0 h [x0] ∧ Fld Z h x0 "com/example/kinwarden/kinwarden/NameBytes" "bytes" "[B" (.ref a_E) ∧ Fld Z h x0 "com/example/kinwarden/kinwarden/NameBytes" "from" "I" (.int (0 : Int32)) ∧ Fld Z h x0 "com/example/kinwarden/kinwarden/NameBytes" "to" "I" (.int (0 : Int32))
set_option maxRecDepth 65536 in
set_option maxHeartbeats 40000000 in
theorem rmI (l : Launch) (Z : State) (a0 : Array Value) (hw : ∀ d ∈ tables_1, d.before a0 Z = true) (ws : List Jvm.Cond) (x0 : Addr) (a_E : Addr) (h0 : Heap) (n0 : Nat) (Z0 : n0 ≤ h0.size) (E0 : Exa Z h0 x0 "com/example/kinwarden/kinwarden/NameBytes") (F1 : Fld Z h0 x0 "com/example/kinwarden/kinwarden/NameBytes" "bytes" "[B" .null) (F2 : Fld Z h0 x0 "com/example/kinwarden/kinwarden/NameBytes" "room" "[B" .null) (F3 : Fld Z h0 x0 "com/example/kinwarden/kinwarden/NameBytes" "from" "I" (.int (0 : Int32))) (F4 : Fld Z h0 x0 "com/example/kinwarden/kinwarden/NameBytes" "to" "I" (.int (0 : Int32))) (g0 : n0 ≤ x0) (S0 : Sta Z h0 "com/example/kinwarden/kinwarden/NameBytes" "EMPTY" "[B" (.ref a_E)) :
    MetFree l (⟨"com/example/kinwarden/kinwarden/NameBytes", "<init>", "()V"⟩ : MethodName) (head1 (Jvm.Cond.code (⟨"com/example/kinwarden/kinwarden/NameBytes", "<init>", "()V"⟩ : MethodName) prog_71_method_1_code 1 none :: ws) ({ frames := 1, cells := 0, slots := 0, locals := 12 } : Room)) (fun a U => a = #[(.ref x0)] ∧ Z.Warmed39 U.vm ∧ U.heap = h0) (fun _ _ _ _ _ => True) (fun _ U o U' => ∃ v L, o = .returned v ∧ QI Z x0 a_E h0 n0 v U'.heap L ∧ FrameEnd U o U' L ({ frames := 1, cells := 0, slots := 0, locals := 12 } : Room).cells ({ frames := 1, cells := 0, slots := 0, locals := 12 } : Room).slots) := by
  refine MetFree.of_bodySF (plainFor_of_name pnI) hisR ?_
  intro p e s m args below meth c s₁ Bd hml0 hP hK
  obtain ⟨rfl, hZ, hh⟩ := hP
  have hx := Bd.exec
  have hby := Bd.bytes
  have hml : c.maxLocals = 1 := hml0
  have hown : s.vm.findClass "com/example/kinwarden/kinwarden/NameBytes" = some m.cls := findClass_of_methodNamed Bd.named
  have hnm := (name_of_methodNamed Bd.named Bd.method).1
  have X0 : Stand p l e ({ frames := 1, cells := 0, slots := 0, locals := 12 } : Room) s m #[(.ref x0)] below meth c s₁ [] 0 0 := Stand.of_body Bd
  have e0 : s₁.heap = h0 := by rw [← hh, Bd.state]; rfl
  have N0 := Fr.nil n0
  have pre0 : ∀ t, Steps p.tables e below (s₁.setTop (mkF m 0 #[.val (.ref x0)] [])) t → Steps p.tables e below (s₁.setTop (entryFrame m #[(.ref x0)] 1)) t := fun t k => castTop (efI m x0) k
  have K0 := Keep.refl h0 [x0]
  have p1 : ∀ t, Steps p.tables e below (s₁.setTop (mkF m 1 #[.val (.ref x0)] [(.ref x0)])) t → Steps p.tables e below (s₁.setTop (entryFrame m #[(.ref x0)] 1)) t := fun t k => pre0 t (by
    show Steps p.tables e below (s₁.setTop (mkF m 0 #[.val (.ref x0)] [])) _
    refine XS.aloadN X0.here hx rfl (hb hby dI_0) rfl rfl ?_
    exact k)
  obtain ⟨T2, X2, e2, st2⟩ := initO X0 hx hZ hown (hw _ (List.mem_of_getElem? (i := 11) rfl)) (hw _ (List.mem_of_getElem? (i := 12) rfl)) (hw _ (List.mem_of_getElem? (i := 13) rfl)) e0 (g := (mkF m 1 #[.val (.ref x0)] [(.ref x0)])) rfl (by rw [hml]; rfl) rfl (hb hby dI_1) (by decide) (W := 0) (by show 2 * 0 + _ ≤ _; exact Nat.le_of_eq rfl) (by decide)
  have p3 : ∀ t, Steps p.tables e below (T2.setTop (mkF m 4 #[.val (.ref x0)] [])) t → Steps p.tables e below (s₁.setTop (entryFrame m #[(.ref x0)] 1)) t := fun t k => p1 t (st2 t k)
  have p4 : ∀ t, Steps p.tables e below (T2.setTop (mkF m 5 #[.val (.ref x0)] [(.ref x0)])) t → Steps p.tables e below (s₁.setTop (entryFrame m #[(.ref x0)] 1)) t := fun t k => p3 t (by
    show Steps p.tables e below (T2.setTop (mkF m 4 #[.val (.ref x0)] [])) _
    refine XS.aloadN X2.here hx rfl (hb hby dI_4) rfl rfl ?_
    exact k)
  obtain ⟨T5, X5, e5, st5⟩ := getS2 X2 hx hZ hown (host := "") (Or.inl (hw _ (List.mem_of_getElem? (i := 14) rfl))) Via.refl e2 S0 (g := (mkF m 5 #[.val (.ref x0)] [(.ref x0)])) rfl (hb hby dI_5)
  have p6 : ∀ t, Steps p.tables e below (T5.setTop (mkF m 8 #[.val (.ref x0)] [(.ref a_E), (.ref x0)])) t → Steps p.tables e below (s₁.setTop (entryFrame m #[(.ref x0)] 1)) t := fun t k => p4 t (st5 t k)
  obtain ⟨T7, h7, X7, e7, W7, st7⟩ := putF X5 hx hZ hown (host := "") (Or.inl (hw _ (List.mem_of_getElem? (i := 16) rfl))) Via.refl e5 F1 E0 (Or.inl (hw _ (List.mem_of_getElem? (i := 17) rfl))) (hw _ (List.mem_of_getElem? (i := 6) rfl)) (ty := (.array .byte)) (by decide) rfl rfl (g := (mkF m 8 #[.val (.ref x0)] [(.ref a_E), (.ref x0)])) rfl rfl (hb hby dI_8)
  have f8 := F1.same W7
  have f9 := E0.wr W7
  have f10 := F2.other W7 (Or.inr (slot_ne (Or.inl (hw _ (List.mem_of_getElem? (i := 19) rfl))) (Or.inl (hw _ (List.mem_of_getElem? (i := 17) rfl))) (by decide) (t := (.array .byte)) (t' := (.array .byte)) (by decide) (by decide)))
  have f11 := F3.other W7 (Or.inr (slot_ne (Or.inl (hw _ (List.mem_of_getElem? (i := 26) rfl))) (Or.inl (hw _ (List.mem_of_getElem? (i := 17) rfl))) (by decide) (t := .int) (t' := (.array .byte)) (by decide) (by decide)))
  have f12 := F4.other W7 (Or.inr (slot_ne (Or.inl (hw _ (List.mem_of_getElem? (i := 28) rfl))) (Or.inl (hw _ (List.mem_of_getElem? (i := 17) rfl))) (by decide) (t := .int) (t' := (.array .byte)) (by decide) (by decide)))
  have f13 := S0.wr W7
  have Z7 := Nat.le_trans Z0 (Keep.of_wr W7).1
  have N7 := Fr.snoc X7 N0 g0
  have KK7 := K0.wr W7 (Or.inl (List.mem_singleton.mpr rfl))
  have p14 : ∀ t, Steps p.tables e below (T7.setTop (mkF m 11 #[.val (.ref x0)] [])) t → Steps p.tables e below (s₁.setTop (entryFrame m #[(.ref x0)] 1)) t := fun t k => p6 t (st7 t k)
  have p15 : ∀ t, Steps p.tables e below (T7.setTop (mkF m 12 #[.val (.ref x0)] [(.ref x0)])) t → Steps p.tables e below (s₁.setTop (entryFrame m #[(.ref x0)] 1)) t := fun t k => p14 t (by
    show Steps p.tables e below (T7.setTop (mkF m 11 #[.val (.ref x0)] [])) _
    refine XS.aloadN X7.here hx rfl (hb hby dI_11) rfl rfl ?_
    exact k)
  obtain ⟨T16, X16, e16, st16⟩ := getS2 X7 hx hZ hown (host := "") (Or.inl (hw _ (List.mem_of_getElem? (i := 14) rfl))) Via.refl e7 f13 (g := (mkF m 12 #[.val (.ref x0)] [(.ref x0)])) rfl (hb hby dI_12)
  have p17 : ∀ t, Steps p.tables e below (T16.setTop (mkF m 15 #[.val (.ref x0)] [(.ref a_E), (.ref x0)])) t → Steps p.tables e below (s₁.setTop (entryFrame m #[(.ref x0)] 1)) t := fun t k => p15 t (st16 t k)
  obtain ⟨T18, h18, X18, e18, W18, st18⟩ := putF X16 hx hZ hown (host := "") (Or.inl (hw _ (List.mem_of_getElem? (i := 18) rfl))) Via.refl e16 f10 f9 (Or.inl (hw _ (List.mem_of_getElem? (i := 19) rfl))) (hw _ (List.mem_of_getElem? (i := 6) rfl)) (ty := (.array .byte)) (by decide) rfl rfl (g := (mkF m 15 #[.val (.ref x0)] [(.ref a_E), (.ref x0)])) rfl rfl (hb hby dI_15)
  have f19 := f10.same W18
  have f20 := f9.wr W18
  have f21 := f11.other W18 (Or.inr (slot_ne (Or.inl (hw _ (List.mem_of_getElem? (i := 26) rfl))) (Or.inl (hw _ (List.mem_of_getElem? (i := 19) rfl))) (by decide) (t := .int) (t' := (.array .byte)) (by decide) (by decide)))
  have f22 := f12.other W18 (Or.inr (slot_ne (Or.inl (hw _ (List.mem_of_getElem? (i := 28) rfl))) (Or.inl (hw _ (List.mem_of_getElem? (i := 19) rfl))) (by decide) (t := .int) (t' := (.array .byte)) (by decide) (by decide)))
  have f23 := f13.wr W18
  have f24 := f8.other W18 (Or.inr (slot_ne (Or.inl (hw _ (List.mem_of_getElem? (i := 17) rfl))) (Or.inl (hw _ (List.mem_of_getElem? (i := 19) rfl))) (by decide) (t := (.array .byte)) (t' := (.array .byte)) (by decide) (by decide)))
  have Z18 := Nat.le_trans Z7 (Keep.of_wr W18).1
  have N18 := Fr.snoc X18 N7 g0
  have KK18 := KK7.wr W18 (Or.inl (List.mem_singleton.mpr rfl))
  have p25 : ∀ t, Steps p.tables e below (T18.setTop (mkF m 18 #[.val (.ref x0)] [])) t → Steps p.tables e below (s₁.setTop (entryFrame m #[(.ref x0)] 1)) t := fun t k => p17 t (st18 t k)
  obtain ⟨fs, hr, hrun, hended, hW, hsame⟩ := X18.leave (v := none) (fun _ => rfl)
  refine ⟨_, _, p25 _ ?_, hrun, hended, _, _, rfl, ?_, ⟨_, rfl⟩, hW, hsame.mono (by decide) (by decide)⟩
  · show Steps p.tables e below (T18.setTop (mkF m 18 #[.val (.ref x0)] [])) _
    exact X18.returnOut hx Bd.returns (hb hby dI_18) hr
  · show QI Z x0 a_E h0 n0 _ T18.heap _
    rw [e18]
    exact ⟨rfl, N18, KK18, f24, f21, f22⟩
theorem dH_0 : decode prog_71_method_2_code 0 = .ok (.aload_n 0, 1) := by decide +kernel
theorem dH_1 : decode prog_71_method_2_code 1 = .ok (.aload_n 1, 1) := by decide +kernel
theorem dH_2 : decode prog_71_method_2_code 2 = .ok (.putfield 13, 3) := by decide +kernel
theorem dH_5 : decode prog_71_method_2_code 5 = .ok (.aload_n 0, 1) := by decide +kernel
theorem dH_6 : decode prog_71_method_2_code 6 = .ok (.iload_n 2, 1) := by decide +kernel
theorem dH_7 : decode prog_71_method_2_code 7 = .ok (.putfield 19, 3) := by decide +kernel
theorem dH_10 : decode prog_71_method_2_code 10 = .ok (.aload_n 0, 1) := by decide +kernel
theorem dH_11 : decode prog_71_method_2_code 11 = .ok (.iload_n 3, 1) := by decide +kernel
theorem dH_12 : decode prog_71_method_2_code 12 = .ok (.putfield 23, 3) := by decide +kernel
theorem dH_15 : decode prog_71_method_2_code 15 = .ok (.return_, 1) := by decide +kernel
theorem pnH : plainName "com/example/kinwarden/kinwarden/NameBytes" = true := by first | (simp [plainName, overriddenIn]; done) | decide +kernel
theorem efH (m : MethodId) (x0 : Addr) (x1 : Addr) (x2 : Int32) (x3 : Int32) : entryFrame m #[(.ref x0), (.ref x1), (.int x2), (.int x3)] 4 = mkF m 0 #[.val (.ref x0), .val (.ref x1), .val (.int x2), .val (.int x3)] [] := by first | (simp [entryFrame, mkF, argsToLocals, Value.category]; done) | rfl
def QH (Z : State) (x0 : Addr) (x1 : Addr) (x2 : Int32) (x3 : Int32) (a_E : Addr) (h0 : Heap) (n0 : Nat) (v : Option Value) (h : Heap) (L : List Loc) : Prop := v = none ∧ Fr n0 L ∧ Keep h0 h [x0] ∧ Fld Z h x0 "com/example/kinwarden/kinwarden/NameBytes" "bytes" "[B" (.ref x1) ∧ Fld Z h x0 "com/example/kinwarden/kinwarden/NameBytes" "from" "I" (.int x2) ∧ Fld Z h x0 "com/example/kinwarden/kinwarden/NameBytes" "to" "I" (.int x3)
set_option maxRecDepth 65536 in
set_option maxHeartbeats 40000000 in
theorem rmH (l : Launch) (Z : State) (a0 : Array Value) (hw : ∀ d ∈ tables_1, d.before a0 Z = true) (ws : List Jvm.Cond) (x0 : Addr) (x1 : Addr) (x2 : Int32) (x3 : Int32) (a_E : Addr) (h0 : Heap) (n0 : Nat) (Z0 : n0 ≤ h0.size) (E0 : Exa Z h0 x0 "com/example/kinwarden/kinwarden/NameBytes") (F1 : Fld Z h0 x0 "com/example/kinwarden/kinwarden/NameBytes" "bytes" "[B" (.ref a_E)) (F3 : Fld Z h0 x0 "com/example/kinwarden/kinwarden/NameBytes" "from" "I" (.int (0 : Int32))) (F4 : Fld Z h0 x0 "com/example/kinwarden/kinwarden/NameBytes" "to" "I" (.int (0 : Int32))) (g0 : n0 ≤ x0) :
    MetFree l (⟨"com/example/kinwarden/kinwarden/NameBytes", "hold", "([BII)V"⟩ : MethodName) (head1 (Jvm.Cond.code (⟨"com/example/kinwarden/kinwarden/NameBytes", "hold", "([BII)V"⟩ : MethodName) prog_71_method_2_code 4 none :: ws) ({ frames := 0, cells := 0, slots := 0, locals := 0 } : Room)) (fun a U => a = #[(.ref x0), (.ref x1), (.int x2), (.int x3)] ∧ Z.Warmed39 U.vm ∧ U.heap = h0) (fun _ _ _ _ _ => True) (fun _ U o U' => ∃ v L, o = .returned v ∧ QH Z x0 x1 x2 x3 a_E h0 n0 v U'.heap L ∧ FrameEnd U o U' L ({ frames := 0, cells := 0, slots := 0, locals := 0 } : Room).cells ({ frames := 0, cells := 0, slots := 0, locals := 0 } : Room).slots) := by
  refine MetFree.of_bodySF (plainFor_of_name pnH) hisR ?_
  intro p e s m args below meth c s₁ Bd hml0 hP hK
  obtain ⟨rfl, hZ, hh⟩ := hP
  have hx := Bd.exec
  have hby := Bd.bytes
  have hml : c.maxLocals = 4 := hml0
  have hown : s.vm.findClass "com/example/kinwarden/kinwarden/NameBytes" = some m.cls := findClass_of_methodNamed Bd.named
  have hnm := (name_of_methodNamed Bd.named Bd.method).1
  have X0 : Stand p l e ({ frames := 0, cells := 0, slots := 0, locals := 0 } : Room) s m #[(.ref x0), (.ref x1), (.int x2), (.int x3)] below meth c s₁ [] 0 0 := Stand.of_body Bd
  have e0 : s₁.heap = h0 := by rw [← hh, Bd.state]; rfl
  have N0 := Fr.nil n0
  have pre0 : ∀ t, Steps p.tables e below (s₁.setTop (mkF m 0 #[.val (.ref x0), .val (.ref x1), .val (.int x2), .val (.int x3)] [])) t → Steps p.tables e below (s₁.setTop (entryFrame m #[(.ref x0), (.ref x1), (.int x2), (.int x3)] 4)) t := fun t k => castTop (efH m x0 x1 x2 x3) k
  have K0 := Keep.refl h0 [x0]
  have p1 : ∀ t, Steps p.tables e below (s₁.setTop (mkF m 2 #[.val (.ref x0), .val (.ref x1), .val (.int x2), .val (.int x3)] [(.ref x1), (.ref x0)])) t → Steps p.tables e below (s₁.setTop (entryFrame m #[(.ref x0), (.ref x1), (.int x2), (.int x3)] 4)) t := fun t k => pre0 t (by
    show Steps p.tables e below (s₁.setTop (mkF m 0 #[.val (.ref x0), .val (.ref x1), .val (.int x2), .val (.int x3)] [])) _
    refine XS.aloadN X0.here hx rfl (hb hby dH_0) rfl rfl ?_
    show Steps p.tables e below (s₁.setTop (mkF m 1 #[.val (.ref x0), .val (.ref x1), .val (.int x2), .val (.int x3)] [(.ref x0)])) _
    refine XS.aloadN X0.here hx rfl (hb hby dH_1) rfl rfl ?_
    exact k)
  obtain ⟨T2, h2, X2, e2, W2, st2⟩ := putF X0 hx hZ hown (host := "") (Or.inl (hw _ (List.mem_of_getElem? (i := 16) rfl))) Via.refl e0 F1 E0 (Or.inl (hw _ (List.mem_of_getElem? (i := 17) rfl))) (hw _ (List.mem_of_getElem? (i := 6) rfl)) (ty := (.array .byte)) (by decide) rfl rfl (g := (mkF m 2 #[.val (.ref x0), .val (.ref x1), .val (.int x2), .val (.int x3)] [(.ref x1), (.ref x0)])) rfl rfl (hb hby dH_2)
  have f3 := F1.same W2
  have f4 := E0.wr W2
  have f5 := F3.other W2 (Or.inr (slot_ne (Or.inl (hw _ (List.mem_of_getElem? (i := 26) rfl))) (Or.inl (hw _ (List.mem_of_getElem? (i := 17) rfl))) (by decide) (t := .int) (t' := (.array .byte)) (by decide) (by decide)))
  have f6 := F4.other W2 (Or.inr (slot_ne (Or.inl (hw _ (List.mem_of_getElem? (i := 28) rfl))) (Or.inl (hw _ (List.mem_of_getElem? (i := 17) rfl))) (by decide) (t := .int) (t' := (.array .byte)) (by decide) (by decide)))
  have Z2 := Nat.le_trans Z0 (Keep.of_wr W2).1
  have N2 := Fr.snoc X2 N0 g0
  have KK2 := K0.wr W2 (Or.inl (List.mem_singleton.mpr rfl))
  have p7 : ∀ t, Steps p.tables e below (T2.setTop (mkF m 5 #[.val (.ref x0), .val (.ref x1), .val (.int x2), .val (.int x3)] [])) t → Steps p.tables e below (s₁.setTop (entryFrame m #[(.ref x0), (.ref x1), (.int x2), (.int x3)] 4)) t := fun t k => p1 t (st2 t k)
  have p8 : ∀ t, Steps p.tables e below (T2.setTop (mkF m 7 #[.val (.ref x0), .val (.ref x1), .val (.int x2), .val (.int x3)] [(.int x2), (.ref x0)])) t → Steps p.tables e below (s₁.setTop (entryFrame m #[(.ref x0), (.ref x1), (.int x2), (.int x3)] 4)) t := fun t k => p7 t (by
    show Steps p.tables e below (T2.setTop (mkF m 5 #[.val (.ref x0), .val (.ref x1), .val (.int x2), .val (.int x3)] [])) _
    refine XS.aloadN X2.here hx rfl (hb hby dH_5) rfl rfl ?_
    show Steps p.tables e below (T2.setTop (mkF m 6 #[.val (.ref x0), .val (.ref x1), .val (.int x2), .val (.int x3)] [(.ref x0)])) _
    refine XS.iloadN X2.here hx rfl (hb hby dH_6) rfl ?_
    exact k)
  obtain ⟨T9, h9, X9, e9, W9, st9⟩ := putF X2 hx hZ hown (host := "") (Or.inl (hw _ (List.mem_of_getElem? (i := 25) rfl))) Via.refl e2 f5 f4 (Or.inl (hw _ (List.mem_of_getElem? (i := 26) rfl))) (hw _ (List.mem_of_getElem? (i := 6) rfl)) (ty := .int) (by decide) rfl rfl (g := (mkF m 7 #[.val (.ref x0), .val (.ref x1), .val (.int x2), .val (.int x3)] [(.int x2), (.ref x0)])) rfl rfl (hb hby dH_7)
  have f10 := f5.same W9
  have f11 := f4.wr W9
  have f12 := f6.other W9 (Or.inr (slot_ne (Or.inl (hw _ (List.mem_of_getElem? (i := 28) rfl))) (Or.inl (hw _ (List.mem_of_getElem? (i := 26) rfl))) (by decide) (t := .int) (t' := .int) (by decide) (by decide)))
  have f13 := f3.other W9 (Or.inr (slot_ne (Or.inl (hw _ (List.mem_of_getElem? (i := 17) rfl))) (Or.inl (hw _ (List.mem_of_getElem? (i := 26) rfl))) (by decide) (t := (.array .byte)) (t' := .int) (by decide) (by decide)))
  have Z9 := Nat.le_trans Z2 (Keep.of_wr W9).1
  have N9 := Fr.snoc X9 N2 g0
  have KK9 := KK2.wr W9 (Or.inl (List.mem_singleton.mpr rfl))
  have p14 : ∀ t, Steps p.tables e below (T9.setTop (mkF m 10 #[.val (.ref x0), .val (.ref x1), .val (.int x2), .val (.int x3)] [])) t → Steps p.tables e below (s₁.setTop (entryFrame m #[(.ref x0), (.ref x1), (.int x2), (.int x3)] 4)) t := fun t k => p8 t (st9 t k)
  have p15 : ∀ t, Steps p.tables e below (T9.setTop (mkF m 12 #[.val (.ref x0), .val (.ref x1), .val (.int x2), .val (.int x3)] [(.int x3), (.ref x0)])) t → Steps p.tables e below (s₁.setTop (entryFrame m #[(.ref x0), (.ref x1), (.int x2), (.int x3)] 4)) t := fun t k => p14 t (by
    show Steps p.tables e below (T9.setTop (mkF m 10 #[.val (.ref x0), .val (.ref x1), .val (.int x2), .val (.int x3)] [])) _
    refine XS.aloadN X9.here hx rfl (hb hby dH_10) rfl rfl ?_
    show Steps p.tables e below (T9.setTop (mkF m 11 #[.val (.ref x0), .val (.ref x1), .val (.int x2), .val (.int x3)] [(.ref x0)])) _
    refine XS.iloadN X9.here hx rfl (hb hby dH_11) rfl ?_
    exact k)
  obtain ⟨T16, h16, X16, e16, W16, st16⟩ := putF X9 hx hZ hown (host := "") (Or.inl (hw _ (List.mem_of_getElem? (i := 27) rfl))) Via.refl e9 f12 f11 (Or.inl (hw _ (List.mem_of_getElem? (i := 28) rfl))) (hw _ (List.mem_of_getElem? (i := 6) rfl)) (ty := .int) (by decide) rfl rfl (g := (mkF m 12 #[.val (.ref x0), .val (.ref x1), .val (.int x2), .val (.int x3)] [(.int x3), (.ref x0)])) rfl rfl (hb hby dH_12)
  have f17 := f12.same W16
  have f18 := f11.wr W16
  have f19 := f13.other W16 (Or.inr (slot_ne (Or.inl (hw _ (List.mem_of_getElem? (i := 17) rfl))) (Or.inl (hw _ (List.mem_of_getElem? (i := 28) rfl))) (by decide) (t := (.array .byte)) (t' := .int) (by decide) (by decide)))
  have f20 := f10.other W16 (Or.inr (slot_ne (Or.inl (hw _ (List.mem_of_getElem? (i := 26) rfl))) (Or.inl (hw _ (List.mem_of_getElem? (i := 28) rfl))) (by decide) (t := .int) (t' := .int) (by decide) (by decide)))
  have Z16 := Nat.le_trans Z9 (Keep.of_wr W16).1
  have N16 := Fr.snoc X16 N9 g0
  have KK16 := KK9.wr W16 (Or.inl (List.mem_singleton.mpr rfl))
  have p21 : ∀ t, Steps p.tables e below (T16.setTop (mkF m 15 #[.val (.ref x0), .val (.ref x1), .val (.int x2), .val (.int x3)] [])) t → Steps p.tables e below (s₁.setTop (entryFrame m #[(.ref x0), (.ref x1), (.int x2), (.int x3)] 4)) t := fun t k => p15 t (st16 t k)
  obtain ⟨fs, hr, hrun, hended, hW, hsame⟩ := X16.leave (v := none) (fun _ => rfl)
  refine ⟨_, _, p21 _ ?_, hrun, hended, _, _, rfl, ?_, ⟨_, rfl⟩, hW, hsame.mono (by decide) (by decide)⟩
  · show Steps p.tables e below (T16.setTop (mkF m 15 #[.val (.ref x0), .val (.ref x1), .val (.int x2), .val (.int x3)] [])) _
    exact X16.returnOut hx Bd.returns (hb hby dH_15) hr
  · show QH Z x0 x1 x2 x3 a_E h0 n0 _ T16.heap _
    rw [e16]
    exact ⟨rfl, N16, KK16, f19, f20, f17⟩
theorem dF_0 : decode prog_71_method_5_code 0 = .ok (.aload_n 0, 1) := by decide +kernel
theorem dF_1 : decode prog_71_method_5_code 1 = .ok (.getfield 19, 3) := by decide +kernel
theorem dF_4 : decode prog_71_method_5_code 4 = .ok (.ireturn, 1) := by decide +kernel
theorem pnF : plainName "com/example/kinwarden/kinwarden/NameBytes" = true := by first | (simp [plainName, overriddenIn]; done) | decide +kernel
theorem efF (m : MethodId) (x0 : Addr) : entryFrame m #[(.ref x0)] 1 = mkF m 0 #[.val (.ref x0)] [] := by first | (simp [entryFrame, mkF, argsToLocals, Value.category]; done) | rfl
def QF (Z : State) (x0 : Addr) (kv : Int32) (h0 : Heap) (n0 : Nat) (v : Option Value) (h : Heap) (L : List Loc) : Prop := v = some (.int kv) ∧ Fr n0 L ∧ h = h0
set_option maxRecDepth 65536 in
set_option maxHeartbeats 40000000 in
theorem rmF (l : Launch) (Z : State) (a0 : Array Value) (hw : ∀ d ∈ tables_1, d.before a0 Z = true) (ws : List Jvm.Cond) (x0 : Addr) (kv : Int32) (h0 : Heap) (n0 : Nat) (Z0 : n0 ≤ h0.size) (F0 : Fld Z h0 x0 "com/example/kinwarden/kinwarden/NameBytes" "from" "I" (.int kv)) :
    MetFree l (⟨"com/example/kinwarden/kinwarden/NameBytes", "from", "()I"⟩ : MethodName) (head1 (Jvm.Cond.code (⟨"com/example/kinwarden/kinwarden/NameBytes", "from", "()I"⟩ : MethodName) prog_71_method_5_code 1 (some .int) :: ws) ({ frames := 0, cells := 0, slots := 0, locals := 0 } : Room)) (fun a U => a = #[(.ref x0)] ∧ Z.Warmed39 U.vm ∧ U.heap = h0) (fun _ _ _ _ _ => True) (fun _ U o U' => ∃ v L, o = .returned v ∧ QF Z x0 kv h0 n0 v U'.heap L ∧ FrameEnd U o U' L ({ frames := 0, cells := 0, slots := 0, locals := 0 } : Room).cells ({ frames := 0, cells := 0, slots := 0, locals := 0 } : Room).slots) := by
  refine MetFree.of_bodySF (plainFor_of_name pnF) hisR ?_
  intro p e s m args below meth c s₁ Bd hml0 hP hK
  obtain ⟨rfl, hZ, hh⟩ := hP
  have hx := Bd.exec
  have hby := Bd.bytes
  have hml : c.maxLocals = 1 := hml0
  have hown : s.vm.findClass "com/example/kinwarden/kinwarden/NameBytes" = some m.cls := findClass_of_methodNamed Bd.named
  have hnm := (name_of_methodNamed Bd.named Bd.method).1
  have X0 : Stand p l e ({ frames := 0, cells := 0, slots := 0, locals := 0 } : Room) s m #[(.ref x0)] below meth c s₁ [] 0 0 := Stand.of_body Bd
  have e0 : s₁.heap = h0 := by rw [← hh, Bd.state]; rfl
  have N0 := Fr.nil n0
  have pre0 : ∀ t, Steps p.tables e below (s₁.setTop (mkF m 0 #[.val (.ref x0)] [])) t → Steps p.tables e below (s₁.setTop (entryFrame m #[(.ref x0)] 1)) t := fun t k => castTop (efF m x0) k
  have p1 : ∀ t, Steps p.tables e below (s₁.setTop (mkF m 1 #[.val (.ref x0)] [(.ref x0)])) t → Steps p.tables e below (s₁.setTop (entryFrame m #[(.ref x0)] 1)) t := fun t k => pre0 t (by
    show Steps p.tables e below (s₁.setTop (mkF m 0 #[.val (.ref x0)] [])) _
    refine XS.aloadN X0.here hx rfl (hb hby dF_0) rfl rfl ?_
    exact k)
  obtain ⟨T2, X2, e2, st2⟩ := getF X0 hx hZ hown (host := "") (Or.inl (hw _ (List.mem_of_getElem? (i := 25) rfl))) Via.refl e0 F0 (g := (mkF m 1 #[.val (.ref x0)] [(.ref x0)])) rfl rfl (hb hby dF_1)
  have p3 : ∀ t, Steps p.tables e below (T2.setTop (mkF m 4 #[.val (.ref x0)] [(.int kv)])) t → Steps p.tables e below (s₁.setTop (entryFrame m #[(.ref x0)] 1)) t := fun t k => p1 t (st2 t k)
  obtain ⟨fs, hr, hrun, hended, hW, hsame⟩ := X2.leave (v := some (.int kv)) (fun h => by rw [Bd.returns] at h; cases h)
  refine ⟨_, _, p3 _ ?_, hrun, hended, _, _, rfl, ?_, ⟨_, rfl⟩, hW, hsame.mono (by decide) (by decide)⟩
  · show Steps p.tables e below (T2.setTop (mkF m 4 #[.val (.ref x0)] [(.int kv)])) _
    exact retI X2 hx Bd.returns (hb hby dF_4) hr
  · show QF Z x0 kv h0 n0 _ T2.heap _
    rw [e2]
    exact ⟨rfl, N0, rfl⟩
theorem dT_0 : decode prog_71_method_6_code 0 = .ok (.aload_n 0, 1) := by decide +kernel
theorem dT_1 : decode prog_71_method_6_code 1 = .ok (.getfield 23, 3) := by decide +kernel
theorem dT_4 : decode prog_71_method_6_code 4 = .ok (.ireturn, 1) := by decide +kernel
theorem pnT : plainName "com/example/kinwarden/kinwarden/NameBytes" = true := by first | (simp [plainName, overriddenIn]; done) | decide +kernel
theorem efT (m : MethodId) (x0 : Addr) : entryFrame m #[(.ref x0)] 1 = mkF m 0 #[.val (.ref x0)] [] := by first | (simp [entryFrame, mkF, argsToLocals, Value.category]; done) | rfl
def QT (Z : State) (x0 : Addr) (kv : Int32) (h0 : Heap) (n0 : Nat) (v : Option Value) (h : Heap) (L : List Loc) : Prop := v = some (.int kv) ∧ Fr n0 L ∧ h = h0
set_option maxRecDepth 65536 in
set_option maxHeartbeats 40000000 in
theorem rmT (l : Launch) (Z : State) (a0 : Array Value) (hw : ∀ d ∈ tables_1, d.before a0 Z = true) (ws : List Jvm.Cond) (x0 : Addr) (kv : Int32) (h0 : Heap) (n0 : Nat) (Z0 : n0 ≤ h0.size) (F0 : Fld Z h0 x0 "com/example/kinwarden/kinwarden/NameBytes" "to" "I" (.int kv)) :
    MetFree l (⟨"com/example/kinwarden/kinwarden/NameBytes", "to", "()I"⟩ : MethodName) (head1 (Jvm.Cond.code (⟨"com/example/kinwarden/kinwarden/NameBytes", "to", "()I"⟩ : MethodName) prog_71_method_6_code 1 (some .int) :: ws) ({ frames := 0, cells := 0, slots := 0, locals := 0 } : Room)) (fun a U => a = #[(.ref x0)] ∧ Z.Warmed39 U.vm ∧ U.heap = h0) (fun _ _ _ _ _ => True) (fun _ U o U' => ∃ v L, o = .returned v ∧ QT Z x0 kv h0 n0 v U'.heap L ∧ FrameEnd U o U' L ({ frames := 0, cells := 0, slots := 0, locals := 0 } : Room).cells ({ frames := 0, cells := 0, slots := 0, locals := 0 } : Room).slots) := by
  refine MetFree.of_bodySF (plainFor_of_name pnT) hisR ?_
  intro p e s m args below meth c s₁ Bd hml0 hP hK
  obtain ⟨rfl, hZ, hh⟩ := hP
  have hx := Bd.exec
  have hby := Bd.bytes
  have hml : c.maxLocals = 1 := hml0
  have hown : s.vm.findClass "com/example/kinwarden/kinwarden/NameBytes" = some m.cls := findClass_of_methodNamed Bd.named
  have hnm := (name_of_methodNamed Bd.named Bd.method).1
  have X0 : Stand p l e ({ frames := 0, cells := 0, slots := 0, locals := 0 } : Room) s m #[(.ref x0)] below meth c s₁ [] 0 0 := Stand.of_body Bd
  have e0 : s₁.heap = h0 := by rw [← hh, Bd.state]; rfl
  have N0 := Fr.nil n0
  have pre0 : ∀ t, Steps p.tables e below (s₁.setTop (mkF m 0 #[.val (.ref x0)] [])) t → Steps p.tables e below (s₁.setTop (entryFrame m #[(.ref x0)] 1)) t := fun t k => castTop (efT m x0) k
  have p1 : ∀ t, Steps p.tables e below (s₁.setTop (mkF m 1 #[.val (.ref x0)] [(.ref x0)])) t → Steps p.tables e below (s₁.setTop (entryFrame m #[(.ref x0)] 1)) t := fun t k => pre0 t (by
    show Steps p.tables e below (s₁.setTop (mkF m 0 #[.val (.ref x0)] [])) _
    refine XS.aloadN X0.here hx rfl (hb hby dT_0) rfl rfl ?_
    exact k)
  obtain ⟨T2, X2, e2, st2⟩ := getF X0 hx hZ hown (host := "") (Or.inl (hw _ (List.mem_of_getElem? (i := 27) rfl))) Via.refl e0 F0 (g := (mkF m 1 #[.val (.ref x0)] [(.ref x0)])) rfl rfl (hb hby dT_1)
  have p3 : ∀ t, Steps p.tables e below (T2.setTop (mkF m 4 #[.val (.ref x0)] [(.int kv)])) t → Steps p.tables e below (s₁.setTop (entryFrame m #[(.ref x0)] 1)) t := fun t k => p1 t (st2 t k)
  obtain ⟨fs, hr, hrun, hended, hW, hsame⟩ := X2.leave (v := some (.int kv)) (fun h => by rw [Bd.returns] at h; cases h)
  refine ⟨_, _, p3 _ ?_, hrun, hended, _, _, rfl, ?_, ⟨_, rfl⟩, hW, hsame.mono (by decide) (by decide)⟩
  · show Steps p.tables e below (T2.setTop (mkF m 4 #[.val (.ref x0)] [(.int kv)])) _
    exact retI X2 hx Bd.returns (hb hby dT_4) hr
  · show QT Z x0 kv h0 n0 _ T2.heap _
    rw [e2]
    exact ⟨rfl, N0, rfl⟩
theorem ds0_0 : decode prog_71_method_7_code 0 = .ok (.aload_n 0, 1) := by decide +kernel
theorem ds0_1 : decode prog_71_method_7_code 1 = .ok (.getfield 23, 3) := by decide +kernel
theorem ds0_4 : decode prog_71_method_7_code 4 = .ok (.aload_n 0, 1) := by decide +kernel
theorem ds0_5 : decode prog_71_method_7_code 5 = .ok (.getfield 19, 3) := by decide +kernel
theorem ds0_8 : decode prog_71_method_7_code 8 = .ok (.isub, 1) := by decide +kernel
theorem ds0_9 : decode prog_71_method_7_code 9 = .ok (.aload_n 1, 1) := by decide +kernel
theorem ds0_10 : decode prog_71_method_7_code 10 = .ok (.arraylength, 1) := by decide +kernel
theorem ds0_11 : decode prog_71_method_7_code 11 = .ok (.if_icmp .eq 5, 3) := by decide +kernel
theorem ds0_14 : decode prog_71_method_7_code 14 = .ok (.iconst 0, 1) := by decide +kernel
theorem ds0_15 : decode prog_71_method_7_code 15 = .ok (.ireturn, 1) := by decide +kernel
theorem ds0_16 : decode prog_71_method_7_code 16 = .ok (.iconst 0, 1) := by decide +kernel
theorem ds0_17 : decode prog_71_method_7_code 17 = .ok (.istore_n 2, 1) := by decide +kernel
theorem ds0_18 : decode prog_71_method_7_code 18 = .ok (.iload_n 2, 1) := by decide +kernel
theorem ds0_19 : decode prog_71_method_7_code 19 = .ok (.aload_n 1, 1) := by decide +kernel
theorem ds0_20 : decode prog_71_method_7_code 20 = .ok (.arraylength, 1) := by decide +kernel
theorem ds0_21 : decode prog_71_method_7_code 21 = .ok (.if_icmp .ge 28, 3) := by decide +kernel
theorem ds0_49 : decode prog_71_method_7_code 49 = .ok (.iconst 1, 1) := by decide +kernel
theorem ds0_50 : decode prog_71_method_7_code 50 = .ok (.ireturn, 1) := by decide +kernel
theorem pns0 : plainName "com/example/kinwarden/kinwarden/NameBytes" = true := by first | (simp [plainName, overriddenIn]; done) | decide +kernel
theorem efs0 (m : MethodId) (x0 : Addr) (x1 : Addr) : entryFrame m #[(.ref x0), (.ref x1)] 3 = mkF m 0 #[.val (.ref x0), .val (.ref x1), .unset] [] := by first | (simp [entryFrame, mkF, argsToLocals, Value.category]; done) | rfl
def Qs0 (Z : State) (x0 : Addr) (x1 : Addr) (a_B : Addr) (kk : ClassId) (kt : Int32) (kf : Int32) (el0 : Int32) (el1 : Int32) (el2 : Int32) (h0 : Heap) (n0 : Nat) (v : Option Value) (h : Heap) (L : List Loc) : Prop := v = some (.int (own_is0 kt kf )) ∧ Fr n0 L ∧ h = h0
set_option maxRecDepth 65536 in
set_option maxHeartbeats 40000000 in
theorem rms0 (l : Launch) (Z : State) (a0 : Array Value) (hw : ∀ d ∈ tables_1, d.before a0 Z = true) (ws : List Jvm.Cond) (x0 : Addr) (x1 : Addr) (a_B : Addr) (kk : ClassId) (kt : Int32) (kf : Int32) (el0 : Int32) (el1 : Int32) (el2 : Int32) (h0 : Heap) (n0 : Nat) (Z0 : n0 ≤ h0.size) (F1 : Fld Z h0 x0 "com/example/kinwarden/kinwarden/NameBytes" "bytes" "[B" (.ref a_B)) (F3 : Fld Z h0 x0 "com/example/kinwarden/kinwarden/NameBytes" "from" "I" (.int kf)) (F4 : Fld Z h0 x0 "com/example/kinwarden/kinwarden/NameBytes" "to" "I" (.int kt)) (B0 : own_B Z h0 a_B kf el0 el1 el2) (V0 : Arv Z h0 x1 kk .byte (0 : Int32) [] (.int (0 : Int32))) :
    MetFree l (⟨"com/example/kinwarden/kinwarden/NameBytes", "is", "([B)Z"⟩ : MethodName) (head1 (Jvm.Cond.code (⟨"com/example/kinwarden/kinwarden/NameBytes", "is", "([B)Z"⟩ : MethodName) prog_71_method_7_code 3 (some .boolean) :: ws) ({ frames := 0, cells := 0, slots := 0, locals := 0 } : Room)) (fun a U => a = #[(.ref x0), (.ref x1)] ∧ Z.Warmed39 U.vm ∧ U.heap = h0) (fun _ _ _ _ _ => True) (fun _ U o U' => ∃ v L, o = .returned v ∧ Qs0 Z x0 x1 a_B kk kt kf el0 el1 el2 h0 n0 v U'.heap L ∧ FrameEnd U o U' L ({ frames := 0, cells := 0, slots := 0, locals := 0 } : Room).cells ({ frames := 0, cells := 0, slots := 0, locals := 0 } : Room).slots) := by
  refine MetFree.of_bodySF (plainFor_of_name pns0) hisR ?_
  intro p e s m args below meth c s₁ Bd hml0 hP hK
  obtain ⟨rfl, hZ, hh⟩ := hP
  have hx := Bd.exec
  have hby := Bd.bytes
  have hml : c.maxLocals = 3 := hml0
  have hown : s.vm.findClass "com/example/kinwarden/kinwarden/NameBytes" = some m.cls := findClass_of_methodNamed Bd.named
  have hnm := (name_of_methodNamed Bd.named Bd.method).1
  have X0 : Stand p l e ({ frames := 0, cells := 0, slots := 0, locals := 0 } : Room) s m #[(.ref x0), (.ref x1)] below meth c s₁ [] 0 0 := Stand.of_body Bd
  have e0 : s₁.heap = h0 := by rw [← hh, Bd.state]; rfl
  have N0 := Fr.nil n0
  have pre0 : ∀ t, Steps p.tables e below (s₁.setTop (mkF m 0 #[.val (.ref x0), .val (.ref x1), .unset] [])) t → Steps p.tables e below (s₁.setTop (entryFrame m #[(.ref x0), (.ref x1)] 3)) t := fun t k => castTop (efs0 m x0 x1) k
  obtain ⟨cb, Ab, ⟨i0, t0⟩, ⟨i1, t1⟩, ⟨i2, t2⟩⟩ := B0
  have p1 : ∀ t, Steps p.tables e below (s₁.setTop (mkF m 1 #[.val (.ref x0), .val (.ref x1), .unset] [(.ref x0)])) t → Steps p.tables e below (s₁.setTop (entryFrame m #[(.ref x0), (.ref x1)] 3)) t := fun t k => pre0 t (by
    show Steps p.tables e below (s₁.setTop (mkF m 0 #[.val (.ref x0), .val (.ref x1), .unset] [])) _
    refine XS.aloadN X0.here hx rfl (hb hby ds0_0) rfl rfl ?_
    exact k)
  obtain ⟨T2, X2, e2, st2⟩ := getF X0 hx hZ hown (host := "") (Or.inl (hw _ (List.mem_of_getElem? (i := 27) rfl))) Via.refl e0 F4 (g := (mkF m 1 #[.val (.ref x0), .val (.ref x1), .unset] [(.ref x0)])) rfl rfl (hb hby ds0_1)
  have p3 : ∀ t, Steps p.tables e below (T2.setTop (mkF m 4 #[.val (.ref x0), .val (.ref x1), .unset] [(.int kt)])) t → Steps p.tables e below (s₁.setTop (entryFrame m #[(.ref x0), (.ref x1)] 3)) t := fun t k => p1 t (st2 t k)
  have p4 : ∀ t, Steps p.tables e below (T2.setTop (mkF m 5 #[.val (.ref x0), .val (.ref x1), .unset] [(.ref x0), (.int kt)])) t → Steps p.tables e below (s₁.setTop (entryFrame m #[(.ref x0), (.ref x1)] 3)) t := fun t k => p3 t (by
    show Steps p.tables e below (T2.setTop (mkF m 4 #[.val (.ref x0), .val (.ref x1), .unset] [(.int kt)])) _
    refine XS.aloadN X2.here hx rfl (hb hby ds0_4) rfl rfl ?_
    exact k)
  obtain ⟨T5, X5, e5, st5⟩ := getF X2 hx hZ hown (host := "") (Or.inl (hw _ (List.mem_of_getElem? (i := 25) rfl))) Via.refl e2 F3 (g := (mkF m 5 #[.val (.ref x0), .val (.ref x1), .unset] [(.ref x0), (.int kt)])) rfl rfl (hb hby ds0_5)
  have p6 : ∀ t, Steps p.tables e below (T5.setTop (mkF m 8 #[.val (.ref x0), .val (.ref x1), .unset] [(.int kf), (.int kt)])) t → Steps p.tables e below (s₁.setTop (entryFrame m #[(.ref x0), (.ref x1)] 3)) t := fun t k => p4 t (st5 t k)
  have p7 : ∀ t, Steps p.tables e below (T5.setTop (mkF m 10 #[.val (.ref x0), .val (.ref x1), .unset] [(.ref x1), (.int (kt - kf))])) t → Steps p.tables e below (s₁.setTop (entryFrame m #[(.ref x0), (.ref x1)] 3)) t := fun t k => p6 t (by
    show Steps p.tables e below (T5.setTop (mkF m 8 #[.val (.ref x0), .val (.ref x1), .unset] [(.int kf), (.int kt)])) _
    refine XS.isub X5.here hx rfl (hb hby ds0_8) rfl ?_
    show Steps p.tables e below (T5.setTop (mkF m 9 #[.val (.ref x0), .val (.ref x1), .unset] [(.int (kt - kf))])) _
    refine XS.aloadN X5.here hx rfl (hb hby ds0_9) rfl rfl ?_
    exact k)
  obtain ⟨cl8, Ar8, -, Sz8, Ng8, -, -⟩ := id V0
  have p9 : ∀ t, Steps p.tables e below (T5.setTop (mkF m 11 #[.val (.ref x0), .val (.ref x1), .unset] [(.int (0 : Int32)), (.int (kt - kf))])) t → Steps p.tables e below (s₁.setTop (entryFrame m #[(.ref x0), (.ref x1)] 3)) t := fun t k => p7 t (by
    show Steps p.tables e below (T5.setTop (mkF m 10 #[.val (.ref x0), .val (.ref x1), .unset] [(.ref x1), (.int (kt - kf))])) _
    refine X5.arraylength hx (by rw [e5]; exact Ar8.1) (State.isArrayOf_alike hZ.alike Ar8.2.1) (g := (mkF m 10 #[.val (.ref x0), .val (.ref x1), .unset] [(.ref x1), (.int (kt - kf))])) rfl rfl (hb hby ds0_10) _ ?_
    rw [len_of Sz8 Ng8]
    exact k)
  by_cases hc11 : (kt - kf) = (0 : Int32)
  · have p10 : ∀ t, Steps p.tables e below (T5.setTop (mkF m 20 #[.val (.ref x0), .val (.ref x1), .val (.int (0 : Int32))] [(.ref x1), (.int (0 : Int32))])) t → Steps p.tables e below (s₁.setTop (entryFrame m #[(.ref x0), (.ref x1)] 3)) t := fun t k => p9 t (by
      show Steps p.tables e below (T5.setTop (mkF m 11 #[.val (.ref x0), .val (.ref x1), .unset] [(.int (0 : Int32)), (.int (kt - kf))])) _
      refine XS.icmpYes X5.here hx rfl (pc0 := 11) (pc' := 16) rfl (hb hby ds0_11) rfl ((teq (hc11)).1) (by decide) (by decide) ?_
      show Steps p.tables e below (T5.setTop (mkF m 16 #[.val (.ref x0), .val (.ref x1), .unset] [])) _
      refine XS.iconst X5.here hx rfl (hb hby ds0_16) ?_
      show Steps p.tables e below (T5.setTop (mkF m 17 #[.val (.ref x0), .val (.ref x1), .unset] [(.int (0 : Int32))])) _
      refine XS.istoreN X5.here hx rfl (hb hby ds0_17) rfl (l' := #[.val (.ref x0), .val (.ref x1), .val (.int (0 : Int32))]) rfl ?_
      show Steps p.tables e below (T5.setTop (mkF m 18 #[.val (.ref x0), .val (.ref x1), .val (.int (0 : Int32))] [])) _
      refine XS.iloadN X5.here hx rfl (hb hby ds0_18) rfl ?_
      show Steps p.tables e below (T5.setTop (mkF m 19 #[.val (.ref x0), .val (.ref x1), .val (.int (0 : Int32))] [(.int (0 : Int32))])) _
      refine XS.aloadN X5.here hx rfl (hb hby ds0_19) rfl rfl ?_
      exact k)
    obtain ⟨cl11, Ar11, -, Sz11, Ng11, -, -⟩ := id V0
    have p12 : ∀ t, Steps p.tables e below (T5.setTop (mkF m 50 #[.val (.ref x0), .val (.ref x1), .val (.int (0 : Int32))] [(.int (1 : Int32))])) t → Steps p.tables e below (s₁.setTop (entryFrame m #[(.ref x0), (.ref x1)] 3)) t := fun t k => p10 t (by
      show Steps p.tables e below (T5.setTop (mkF m 20 #[.val (.ref x0), .val (.ref x1), .val (.int (0 : Int32))] [(.ref x1), (.int (0 : Int32))])) _
      refine X5.arraylength hx (by rw [e5]; exact Ar11.1) (State.isArrayOf_alike hZ.alike Ar11.2.1) (g := (mkF m 20 #[.val (.ref x0), .val (.ref x1), .val (.int (0 : Int32))] [(.ref x1), (.int (0 : Int32))])) rfl rfl (hb hby ds0_20) _ ?_
      rw [len_of Sz11 Ng11]
      show Steps p.tables e below (T5.setTop (mkF m 21 #[.val (.ref x0), .val (.ref x1), .val (.int (0 : Int32))] [(.int (0 : Int32)), (.int (0 : Int32))])) _
      refine XS.icmpYes X5.here hx rfl (pc0 := 21) (pc' := 49) rfl (hb hby ds0_21) rfl ((flt (by decide)).2.1) (by decide) (by decide) ?_
      show Steps p.tables e below (T5.setTop (mkF m 49 #[.val (.ref x0), .val (.ref x1), .val (.int (0 : Int32))] [])) _
      refine XS.iconst X5.here hx rfl (hb hby ds0_49) ?_
      exact k)
    obtain ⟨fs, hr, hrun, hended, hW, hsame⟩ := X5.leave (v := some (.int (1 : Int32))) (fun h => by rw [Bd.returns] at h; cases h)
    refine ⟨_, _, p12 _ ?_, hrun, hended, _, _, rfl, ?_, ⟨_, rfl⟩, hW, hsame.mono (by decide) (by decide)⟩
    · show Steps p.tables e below (T5.setTop (mkF m 50 #[.val (.ref x0), .val (.ref x1), .val (.int (0 : Int32))] [(.int (1 : Int32))])) _
      exact retN X5 hx (t := .boolean) Bd.returns (by simp) (hb hby ds0_50) hr
    · show Qs0 Z x0 x1 a_B kk kt kf el0 el1 el2 h0 n0 _ T5.heap _
      rw [e5]
      exact ⟨by unfold own_is0; rw [if_pos hc11], N0, rfl⟩
  · have p13 : ∀ t, Steps p.tables e below (T5.setTop (mkF m 15 #[.val (.ref x0), .val (.ref x1), .unset] [(.int (0 : Int32))])) t → Steps p.tables e below (s₁.setTop (entryFrame m #[(.ref x0), (.ref x1)] 3)) t := fun t k => p9 t (by
      show Steps p.tables e below (T5.setTop (mkF m 11 #[.val (.ref x0), .val (.ref x1), .unset] [(.int (0 : Int32)), (.int (kt - kf))])) _
      refine XS.icmpNo X5.here hx rfl (hb hby ds0_11) rfl ((feq (hc11)).1) ?_
      show Steps p.tables e below (T5.setTop (mkF m 14 #[.val (.ref x0), .val (.ref x1), .unset] [])) _
      refine XS.iconst X5.here hx rfl (hb hby ds0_14) ?_
      exact k)
    obtain ⟨fs, hr, hrun, hended, hW, hsame⟩ := X5.leave (v := some (.int (0 : Int32))) (fun h => by rw [Bd.returns] at h; cases h)
    refine ⟨_, _, p13 _ ?_, hrun, hended, _, _, rfl, ?_, ⟨_, rfl⟩, hW, hsame.mono (by decide) (by decide)⟩
    · show Steps p.tables e below (T5.setTop (mkF m 15 #[.val (.ref x0), .val (.ref x1), .unset] [(.int (0 : Int32))])) _
      exact retN X5 hx (t := .boolean) Bd.returns (by simp) (hb hby ds0_15) hr
    · show Qs0 Z x0 x1 a_B kk kt kf el0 el1 el2 h0 n0 _ T5.heap _
      rw [e5]
      exact ⟨by unfold own_is0; rw [if_neg hc11], N0, rfl⟩
theorem ds1_0 : decode prog_71_method_7_code 0 = .ok (.aload_n 0, 1) := by decide +kernel
theorem ds1_1 : decode prog_71_method_7_code 1 = .ok (.getfield 23, 3) := by decide +kernel
theorem ds1_4 : decode prog_71_method_7_code 4 = .ok (.aload_n 0, 1) := by decide +kernel
theorem ds1_5 : decode prog_71_method_7_code 5 = .ok (.getfield 19, 3) := by decide +kernel
theorem ds1_8 : decode prog_71_method_7_code 8 = .ok (.isub, 1) := by decide +kernel
theorem ds1_9 : decode prog_71_method_7_code 9 = .ok (.aload_n 1, 1) := by decide +kernel
theorem ds1_10 : decode prog_71_method_7_code 10 = .ok (.arraylength, 1) := by decide +kernel
theorem ds1_11 : decode prog_71_method_7_code 11 = .ok (.if_icmp .eq 5, 3) := by decide +kernel
theorem ds1_14 : decode prog_71_method_7_code 14 = .ok (.iconst 0, 1) := by decide +kernel
theorem ds1_15 : decode prog_71_method_7_code 15 = .ok (.ireturn, 1) := by decide +kernel
theorem ds1_16 : decode prog_71_method_7_code 16 = .ok (.iconst 0, 1) := by decide +kernel
theorem ds1_17 : decode prog_71_method_7_code 17 = .ok (.istore_n 2, 1) := by decide +kernel
theorem ds1_18 : decode prog_71_method_7_code 18 = .ok (.iload_n 2, 1) := by decide +kernel
theorem ds1_19 : decode prog_71_method_7_code 19 = .ok (.aload_n 1, 1) := by decide +kernel
theorem ds1_20 : decode prog_71_method_7_code 20 = .ok (.arraylength, 1) := by decide +kernel
theorem ds1_21 : decode prog_71_method_7_code 21 = .ok (.if_icmp .ge 28, 3) := by decide +kernel
theorem ds1_24 : decode prog_71_method_7_code 24 = .ok (.aload_n 0, 1) := by decide +kernel
theorem ds1_25 : decode prog_71_method_7_code 25 = .ok (.getfield 13, 3) := by decide +kernel
theorem ds1_28 : decode prog_71_method_7_code 28 = .ok (.aload_n 0, 1) := by decide +kernel
theorem ds1_29 : decode prog_71_method_7_code 29 = .ok (.getfield 19, 3) := by decide +kernel
theorem ds1_32 : decode prog_71_method_7_code 32 = .ok (.iload_n 2, 1) := by decide +kernel
theorem ds1_33 : decode prog_71_method_7_code 33 = .ok (.iadd, 1) := by decide +kernel
theorem ds1_34 : decode prog_71_method_7_code 34 = .ok (.baload, 1) := by decide +kernel
theorem ds1_35 : decode prog_71_method_7_code 35 = .ok (.aload_n 1, 1) := by decide +kernel
theorem ds1_36 : decode prog_71_method_7_code 36 = .ok (.iload_n 2, 1) := by decide +kernel
theorem ds1_37 : decode prog_71_method_7_code 37 = .ok (.baload, 1) := by decide +kernel
theorem ds1_38 : decode prog_71_method_7_code 38 = .ok (.if_icmp .eq 5, 3) := by decide +kernel
theorem ds1_41 : decode prog_71_method_7_code 41 = .ok (.iconst 0, 1) := by decide +kernel
theorem ds1_42 : decode prog_71_method_7_code 42 = .ok (.ireturn, 1) := by decide +kernel
theorem ds1_43 : decode prog_71_method_7_code 43 = .ok (.iinc 2 1, 3) := by decide +kernel
theorem ds1_46 : decode prog_71_method_7_code 46 = .ok (.goto (-28), 3) := by decide +kernel
theorem ds1_49 : decode prog_71_method_7_code 49 = .ok (.iconst 1, 1) := by decide +kernel
theorem ds1_50 : decode prog_71_method_7_code 50 = .ok (.ireturn, 1) := by decide +kernel
theorem pns1 : plainName "com/example/kinwarden/kinwarden/NameBytes" = true := by first | (simp [plainName, overriddenIn]; done) | decide +kernel
theorem efs1 (m : MethodId) (x0 : Addr) (x1 : Addr) : entryFrame m #[(.ref x0), (.ref x1)] 3 = mkF m 0 #[.val (.ref x0), .val (.ref x1), .unset] [] := by first | (simp [entryFrame, mkF, argsToLocals, Value.category]; done) | rfl
def Qs1 (Z : State) (x0 : Addr) (x1 : Addr) (a_B : Addr) (kk : ClassId) (kt : Int32) (kf : Int32) (el0 : Int32) (el1 : Int32) (el2 : Int32) (y0 : Int32) (h0 : Heap) (n0 : Nat) (v : Option Value) (h : Heap) (L : List Loc) : Prop := v = some (.int (own_is1 kt kf el0 y0)) ∧ Fr n0 L ∧ h = h0
set_option maxRecDepth 65536 in
set_option maxHeartbeats 40000000 in
theorem rms1 (l : Launch) (Z : State) (a0 : Array Value) (hw : ∀ d ∈ tables_1, d.before a0 Z = true) (ws : List Jvm.Cond) (x0 : Addr) (x1 : Addr) (a_B : Addr) (kk : ClassId) (kt : Int32) (kf : Int32) (el0 : Int32) (el1 : Int32) (el2 : Int32) (y0 : Int32) (h0 : Heap) (n0 : Nat) (Z0 : n0 ≤ h0.size) (F1 : Fld Z h0 x0 "com/example/kinwarden/kinwarden/NameBytes" "bytes" "[B" (.ref a_B)) (F3 : Fld Z h0 x0 "com/example/kinwarden/kinwarden/NameBytes" "from" "I" (.int kf)) (F4 : Fld Z h0 x0 "com/example/kinwarden/kinwarden/NameBytes" "to" "I" (.int kt)) (B0 : own_B Z h0 a_B kf el0 el1 el2) (V0 : Arv Z h0 x1 kk .byte (1 : Int32) [(.int y0)] (.int (0 : Int32))) :
    MetFree l (⟨"com/example/kinwarden/kinwarden/NameBytes", "is", "([B)Z"⟩ : MethodName) (head1 (Jvm.Cond.code (⟨"com/example/kinwarden/kinwarden/NameBytes", "is", "([B)Z"⟩ : MethodName) prog_71_method_7_code 3 (some .boolean) :: ws) ({ frames := 0, cells := 0, slots := 0, locals := 0 } : Room)) (fun a U => a = #[(.ref x0), (.ref x1)] ∧ Z.Warmed39 U.vm ∧ U.heap = h0) (fun _ _ _ _ _ => True) (fun _ U o U' => ∃ v L, o = .returned v ∧ Qs1 Z x0 x1 a_B kk kt kf el0 el1 el2 y0 h0 n0 v U'.heap L ∧ FrameEnd U o U' L ({ frames := 0, cells := 0, slots := 0, locals := 0 } : Room).cells ({ frames := 0, cells := 0, slots := 0, locals := 0 } : Room).slots) := by
  refine MetFree.of_bodySF (plainFor_of_name pns1) hisR ?_
  intro p e s m args below meth c s₁ Bd hml0 hP hK
  obtain ⟨rfl, hZ, hh⟩ := hP
  have hx := Bd.exec
  have hby := Bd.bytes
  have hml : c.maxLocals = 3 := hml0
  have hown : s.vm.findClass "com/example/kinwarden/kinwarden/NameBytes" = some m.cls := findClass_of_methodNamed Bd.named
  have hnm := (name_of_methodNamed Bd.named Bd.method).1
  have X0 : Stand p l e ({ frames := 0, cells := 0, slots := 0, locals := 0 } : Room) s m #[(.ref x0), (.ref x1)] below meth c s₁ [] 0 0 := Stand.of_body Bd
  have e0 : s₁.heap = h0 := by rw [← hh, Bd.state]; rfl
  have N0 := Fr.nil n0
  have pre0 : ∀ t, Steps p.tables e below (s₁.setTop (mkF m 0 #[.val (.ref x0), .val (.ref x1), .unset] [])) t → Steps p.tables e below (s₁.setTop (entryFrame m #[(.ref x0), (.ref x1)] 3)) t := fun t k => castTop (efs1 m x0 x1) k
  obtain ⟨cb, Ab, ⟨i0, t0⟩, ⟨i1, t1⟩, ⟨i2, t2⟩⟩ := B0
  have p1 : ∀ t, Steps p.tables e below (s₁.setTop (mkF m 1 #[.val (.ref x0), .val (.ref x1), .unset] [(.ref x0)])) t → Steps p.tables e below (s₁.setTop (entryFrame m #[(.ref x0), (.ref x1)] 3)) t := fun t k => pre0 t (by
    show Steps p.tables e below (s₁.setTop (mkF m 0 #[.val (.ref x0), .val (.ref x1), .unset] [])) _
    refine XS.aloadN X0.here hx rfl (hb hby ds1_0) rfl rfl ?_
    exact k)
  obtain ⟨T2, X2, e2, st2⟩ := getF X0 hx hZ hown (host := "") (Or.inl (hw _ (List.mem_of_getElem? (i := 27) rfl))) Via.refl e0 F4 (g := (mkF m 1 #[.val (.ref x0), .val (.ref x1), .unset] [(.ref x0)])) rfl rfl (hb hby ds1_1)
  have p3 : ∀ t, Steps p.tables e below (T2.setTop (mkF m 4 #[.val (.ref x0), .val (.ref x1), .unset] [(.int kt)])) t → Steps p.tables e below (s₁.setTop (entryFrame m #[(.ref x0), (.ref x1)] 3)) t := fun t k => p1 t (st2 t k)
  have p4 : ∀ t, Steps p.tables e below (T2.setTop (mkF m 5 #[.val (.ref x0), .val (.ref x1), .unset] [(.ref x0), (.int kt)])) t → Steps p.tables e below (s₁.setTop (entryFrame m #[(.ref x0), (.ref x1)] 3)) t := fun t k => p3 t (by
    show Steps p.tables e below (T2.setTop (mkF m 4 #[.val (.ref x0), .val (.ref x1), .unset] [(.int kt)])) _
    refine XS.aloadN X2.here hx rfl (hb hby ds1_4) rfl rfl ?_
    exact k)
  obtain ⟨T5, X5, e5, st5⟩ := getF X2 hx hZ hown (host := "") (Or.inl (hw _ (List.mem_of_getElem? (i := 25) rfl))) Via.refl e2 F3 (g := (mkF m 5 #[.val (.ref x0), .val (.ref x1), .unset] [(.ref x0), (.int kt)])) rfl rfl (hb hby ds1_5)
  have p6 : ∀ t, Steps p.tables e below (T5.setTop (mkF m 8 #[.val (.ref x0), .val (.ref x1), .unset] [(.int kf), (.int kt)])) t → Steps p.tables e below (s₁.setTop (entryFrame m #[(.ref x0), (.ref x1)] 3)) t := fun t k => p4 t (st5 t k)
  have p7 : ∀ t, Steps p.tables e below (T5.setTop (mkF m 10 #[.val (.ref x0), .val (.ref x1), .unset] [(.ref x1), (.int (kt - kf))])) t → Steps p.tables e below (s₁.setTop (entryFrame m #[(.ref x0), (.ref x1)] 3)) t := fun t k => p6 t (by
    show Steps p.tables e below (T5.setTop (mkF m 8 #[.val (.ref x0), .val (.ref x1), .unset] [(.int kf), (.int kt)])) _
    refine XS.isub X5.here hx rfl (hb hby ds1_8) rfl ?_
    show Steps p.tables e below (T5.setTop (mkF m 9 #[.val (.ref x0), .val (.ref x1), .unset] [(.int (kt - kf))])) _
    refine XS.aloadN X5.here hx rfl (hb hby ds1_9) rfl rfl ?_
    exact k)
  obtain ⟨cl8, Ar8, -, Sz8, Ng8, -, -⟩ := id V0
  have p9 : ∀ t, Steps p.tables e below (T5.setTop (mkF m 11 #[.val (.ref x0), .val (.ref x1), .unset] [(.int (1 : Int32)), (.int (kt - kf))])) t → Steps p.tables e below (s₁.setTop (entryFrame m #[(.ref x0), (.ref x1)] 3)) t := fun t k => p7 t (by
    show Steps p.tables e below (T5.setTop (mkF m 10 #[.val (.ref x0), .val (.ref x1), .unset] [(.ref x1), (.int (kt - kf))])) _
    refine X5.arraylength hx (by rw [e5]; exact Ar8.1) (State.isArrayOf_alike hZ.alike Ar8.2.1) (g := (mkF m 10 #[.val (.ref x0), .val (.ref x1), .unset] [(.ref x1), (.int (kt - kf))])) rfl rfl (hb hby ds1_10) _ ?_
    rw [len_of Sz8 Ng8]
    exact k)
  by_cases hc11 : (kt - kf) = (1 : Int32)
  · have p10 : ∀ t, Steps p.tables e below (T5.setTop (mkF m 20 #[.val (.ref x0), .val (.ref x1), .val (.int (0 : Int32))] [(.ref x1), (.int (0 : Int32))])) t → Steps p.tables e below (s₁.setTop (entryFrame m #[(.ref x0), (.ref x1)] 3)) t := fun t k => p9 t (by
      show Steps p.tables e below (T5.setTop (mkF m 11 #[.val (.ref x0), .val (.ref x1), .unset] [(.int (1 : Int32)), (.int (kt - kf))])) _
      refine XS.icmpYes X5.here hx rfl (pc0 := 11) (pc' := 16) rfl (hb hby ds1_11) rfl ((teq (hc11)).1) (by decide) (by decide) ?_
      show Steps p.tables e below (T5.setTop (mkF m 16 #[.val (.ref x0), .val (.ref x1), .unset] [])) _
      refine XS.iconst X5.here hx rfl (hb hby ds1_16) ?_
      show Steps p.tables e below (T5.setTop (mkF m 17 #[.val (.ref x0), .val (.ref x1), .unset] [(.int (0 : Int32))])) _
      refine XS.istoreN X5.here hx rfl (hb hby ds1_17) rfl (l' := #[.val (.ref x0), .val (.ref x1), .val (.int (0 : Int32))]) rfl ?_
      show Steps p.tables e below (T5.setTop (mkF m 18 #[.val (.ref x0), .val (.ref x1), .val (.int (0 : Int32))] [])) _
      refine XS.iloadN X5.here hx rfl (hb hby ds1_18) rfl ?_
      show Steps p.tables e below (T5.setTop (mkF m 19 #[.val (.ref x0), .val (.ref x1), .val (.int (0 : Int32))] [(.int (0 : Int32))])) _
      refine XS.aloadN X5.here hx rfl (hb hby ds1_19) rfl rfl ?_
      exact k)
    obtain ⟨cl11, Ar11, -, Sz11, Ng11, -, -⟩ := id V0
    have p12 : ∀ t, Steps p.tables e below (T5.setTop (mkF m 25 #[.val (.ref x0), .val (.ref x1), .val (.int (0 : Int32))] [(.ref x0)])) t → Steps p.tables e below (s₁.setTop (entryFrame m #[(.ref x0), (.ref x1)] 3)) t := fun t k => p10 t (by
      show Steps p.tables e below (T5.setTop (mkF m 20 #[.val (.ref x0), .val (.ref x1), .val (.int (0 : Int32))] [(.ref x1), (.int (0 : Int32))])) _
      refine X5.arraylength hx (by rw [e5]; exact Ar11.1) (State.isArrayOf_alike hZ.alike Ar11.2.1) (g := (mkF m 20 #[.val (.ref x0), .val (.ref x1), .val (.int (0 : Int32))] [(.ref x1), (.int (0 : Int32))])) rfl rfl (hb hby ds1_20) _ ?_
      rw [len_of Sz11 Ng11]
      show Steps p.tables e below (T5.setTop (mkF m 21 #[.val (.ref x0), .val (.ref x1), .val (.int (0 : Int32))] [(.int (1 : Int32)), (.int (0 : Int32))])) _
      refine XS.icmpNo X5.here hx rfl (hb hby ds1_21) rfl ((tlt (by decide)).2.1) ?_
      show Steps p.tables e below (T5.setTop (mkF m 24 #[.val (.ref x0), .val (.ref x1), .val (.int (0 : Int32))] [])) _
      refine XS.aloadN X5.here hx rfl (hb hby ds1_24) rfl rfl ?_
      exact k)
    obtain ⟨T13, X13, e13, st13⟩ := getF X5 hx hZ hown (host := "") (Or.inl (hw _ (List.mem_of_getElem? (i := 16) rfl))) Via.refl e5 F1 (g := (mkF m 25 #[.val (.ref x0), .val (.ref x1), .val (.int (0 : Int32))] [(.ref x0)])) rfl rfl (hb hby ds1_25)
    have p14 : ∀ t, Steps p.tables e below (T13.setTop (mkF m 28 #[.val (.ref x0), .val (.ref x1), .val (.int (0 : Int32))] [(.ref a_B)])) t → Steps p.tables e below (s₁.setTop (entryFrame m #[(.ref x0), (.ref x1)] 3)) t := fun t k => p12 t (st13 t k)
    have p15 : ∀ t, Steps p.tables e below (T13.setTop (mkF m 29 #[.val (.ref x0), .val (.ref x1), .val (.int (0 : Int32))] [(.ref x0), (.ref a_B)])) t → Steps p.tables e below (s₁.setTop (entryFrame m #[(.ref x0), (.ref x1)] 3)) t := fun t k => p14 t (by
      show Steps p.tables e below (T13.setTop (mkF m 28 #[.val (.ref x0), .val (.ref x1), .val (.int (0 : Int32))] [(.ref a_B)])) _
      refine XS.aloadN X13.here hx rfl (hb hby ds1_28) rfl rfl ?_
      exact k)
    obtain ⟨T16, X16, e16, st16⟩ := getF X13 hx hZ hown (host := "") (Or.inl (hw _ (List.mem_of_getElem? (i := 25) rfl))) Via.refl e13 F3 (g := (mkF m 29 #[.val (.ref x0), .val (.ref x1), .val (.int (0 : Int32))] [(.ref x0), (.ref a_B)])) rfl rfl (hb hby ds1_29)
    have p17 : ∀ t, Steps p.tables e below (T16.setTop (mkF m 32 #[.val (.ref x0), .val (.ref x1), .val (.int (0 : Int32))] [(.int kf), (.ref a_B)])) t → Steps p.tables e below (s₁.setTop (entryFrame m #[(.ref x0), (.ref x1)] 3)) t := fun t k => p15 t (st16 t k)
    have p18 : ∀ t, Steps p.tables e below (T16.setTop (mkF m 34 #[.val (.ref x0), .val (.ref x1), .val (.int (0 : Int32))] [(.int (kf + (0 : Int32))), (.ref a_B)])) t → Steps p.tables e below (s₁.setTop (entryFrame m #[(.ref x0), (.ref x1)] 3)) t := fun t k => p17 t (by
      show Steps p.tables e below (T16.setTop (mkF m 32 #[.val (.ref x0), .val (.ref x1), .val (.int (0 : Int32))] [(.int kf), (.ref a_B)])) _
      refine XS.iloadN X16.here hx rfl (hb hby ds1_32) rfl ?_
      show Steps p.tables e below (T16.setTop (mkF m 33 #[.val (.ref x0), .val (.ref x1), .val (.int (0 : Int32))] [(.int (0 : Int32)), (.int kf), (.ref a_B)])) _
      refine XS.iadd X16.here hx rfl (hb hby ds1_33) rfl ?_
      exact k)
    have p19 : ∀ t, Steps p.tables e below (T16.setTop (mkF m 37 #[.val (.ref x0), .val (.ref x1), .val (.int (0 : Int32))] [(.int (0 : Int32)), (.ref x1), (.int el0)])) t → Steps p.tables e below (s₁.setTop (entryFrame m #[(.ref x0), (.ref x1)] 3)) t := fun t k => p18 t (by
      show Steps p.tables e below (T16.setTop (mkF m 34 #[.val (.ref x0), .val (.ref x1), .val (.int (0 : Int32))] [(.int (kf + (0 : Int32))), (.ref a_B)])) _
      refine X16.baloadBytes hx (j := (kf + (0 : Int32))) (v := (.int el0)) (by rw [e16]; exact Ab.1) (State.isArrayOf_alike hZ.alike Ab.2.1) Ab.2.2 (by rw [own_i0]; exact i0) (by rw [own_i0]; exact t0) (g := (mkF m 34 #[.val (.ref x0), .val (.ref x1), .val (.int (0 : Int32))] [(.int (kf + (0 : Int32))), (.ref a_B)])) rfl rfl (hb hby ds1_34) _ ?_
      show Steps p.tables e below (T16.setTop (mkF m 35 #[.val (.ref x0), .val (.ref x1), .val (.int (0 : Int32))] [(.int el0)])) _
      refine XS.aloadN X16.here hx rfl (hb hby ds1_35) rfl rfl ?_
      show Steps p.tables e below (T16.setTop (mkF m 36 #[.val (.ref x0), .val (.ref x1), .val (.int (0 : Int32))] [(.ref x1), (.int el0)])) _
      refine XS.iloadN X16.here hx rfl (hb hby ds1_36) rfl ?_
      exact k)
    obtain ⟨cl20, Ar20, q20, Sz20, Ng20, Hs20, G20⟩ := id V0
    have hin20 : ¬ ((0 : Int32) < 0 ∨ cl20.slots.size ≤ ((0 : Int32)).toNatClampNeg) := inb_of Sz20 ⟨by decide, by decide⟩
    have hat20 : cl20.slots[((0 : Int32)).toNatClampNeg]? = some (.int y0) := Hs20.at hin20 (rfl)
    have p21 : ∀ t, Steps p.tables e below (T16.setTop (mkF m 38 #[.val (.ref x0), .val (.ref x1), .val (.int (0 : Int32))] [(.int y0), (.int el0)])) t → Steps p.tables e below (s₁.setTop (entryFrame m #[(.ref x0), (.ref x1)] 3)) t := fun t k => p19 t (by
      show Steps p.tables e below (T16.setTop (mkF m 37 #[.val (.ref x0), .val (.ref x1), .val (.int (0 : Int32))] [(.int (0 : Int32)), (.ref x1), (.int el0)])) _
      refine X16.baloadBytes hx (j := (0 : Int32)) (v := (.int y0)) (by rw [e16]; exact Ar20.1) (State.isArrayOf_alike hZ.alike Ar20.2.1) Ar20.2.2 hin20 hat20 (g := (mkF m 37 #[.val (.ref x0), .val (.ref x1), .val (.int (0 : Int32))] [(.int (0 : Int32)), (.ref x1), (.int el0)])) rfl rfl (hb hby ds1_37) _ ?_
      exact k)
    by_cases hd0 : el0 = y0
    · have p22 : ∀ t, Steps p.tables e below (T16.setTop (mkF m 20 #[.val (.ref x0), .val (.ref x1), .val (.int ((0 : Int32) + (1 : Int32)))] [(.ref x1), (.int ((0 : Int32) + (1 : Int32)))])) t → Steps p.tables e below (s₁.setTop (entryFrame m #[(.ref x0), (.ref x1)] 3)) t := fun t k => p21 t (by
        show Steps p.tables e below (T16.setTop (mkF m 38 #[.val (.ref x0), .val (.ref x1), .val (.int (0 : Int32))] [(.int y0), (.int el0)])) _
        refine XS.icmpYes X16.here hx rfl (pc0 := 38) (pc' := 43) rfl (hb hby ds1_38) rfl ((teq (hd0)).1) (by decide) (by decide) ?_
        show Steps p.tables e below (T16.setTop (mkF m 43 #[.val (.ref x0), .val (.ref x1), .val (.int (0 : Int32))] [])) _
        refine XS.iinc X16.here hx rfl (hb hby ds1_43) rfl (l' := #[.val (.ref x0), .val (.ref x1), .val (.int ((0 : Int32) + (1 : Int32)))]) rfl ?_
        show Steps p.tables e below (T16.setTop (mkF m 46 #[.val (.ref x0), .val (.ref x1), .val (.int ((0 : Int32) + (1 : Int32)))] [])) _
        refine XS.goto X16.here hx rfl (pc0 := 46) (pc' := 18) rfl (hb hby ds1_46) (by decide) (by decide) ?_
        show Steps p.tables e below (T16.setTop (mkF m 18 #[.val (.ref x0), .val (.ref x1), .val (.int ((0 : Int32) + (1 : Int32)))] [])) _
        refine XS.iloadN X16.here hx rfl (hb hby ds1_18) rfl ?_
        show Steps p.tables e below (T16.setTop (mkF m 19 #[.val (.ref x0), .val (.ref x1), .val (.int ((0 : Int32) + (1 : Int32)))] [(.int ((0 : Int32) + (1 : Int32)))])) _
        refine XS.aloadN X16.here hx rfl (hb hby ds1_19) rfl rfl ?_
        exact k)
      obtain ⟨cl23, Ar23, -, Sz23, Ng23, -, -⟩ := id V0
      have p24 : ∀ t, Steps p.tables e below (T16.setTop (mkF m 50 #[.val (.ref x0), .val (.ref x1), .val (.int ((0 : Int32) + (1 : Int32)))] [(.int (1 : Int32))])) t → Steps p.tables e below (s₁.setTop (entryFrame m #[(.ref x0), (.ref x1)] 3)) t := fun t k => p22 t (by
        show Steps p.tables e below (T16.setTop (mkF m 20 #[.val (.ref x0), .val (.ref x1), .val (.int ((0 : Int32) + (1 : Int32)))] [(.ref x1), (.int ((0 : Int32) + (1 : Int32)))])) _
        refine X16.arraylength hx (by rw [e16]; exact Ar23.1) (State.isArrayOf_alike hZ.alike Ar23.2.1) (g := (mkF m 20 #[.val (.ref x0), .val (.ref x1), .val (.int ((0 : Int32) + (1 : Int32)))] [(.ref x1), (.int ((0 : Int32) + (1 : Int32)))])) rfl rfl (hb hby ds1_20) _ ?_
        rw [len_of Sz23 Ng23]
        show Steps p.tables e below (T16.setTop (mkF m 21 #[.val (.ref x0), .val (.ref x1), .val (.int ((0 : Int32) + (1 : Int32)))] [(.int (1 : Int32)), (.int ((0 : Int32) + (1 : Int32)))])) _
        refine XS.icmpYes X16.here hx rfl (pc0 := 21) (pc' := 49) rfl (hb hby ds1_21) rfl ((flt (by decide)).2.1) (by decide) (by decide) ?_
        show Steps p.tables e below (T16.setTop (mkF m 49 #[.val (.ref x0), .val (.ref x1), .val (.int ((0 : Int32) + (1 : Int32)))] [])) _
        refine XS.iconst X16.here hx rfl (hb hby ds1_49) ?_
        exact k)
      obtain ⟨fs, hr, hrun, hended, hW, hsame⟩ := X16.leave (v := some (.int (1 : Int32))) (fun h => by rw [Bd.returns] at h; cases h)
      refine ⟨_, _, p24 _ ?_, hrun, hended, _, _, rfl, ?_, ⟨_, rfl⟩, hW, hsame.mono (by decide) (by decide)⟩
      · show Steps p.tables e below (T16.setTop (mkF m 50 #[.val (.ref x0), .val (.ref x1), .val (.int ((0 : Int32) + (1 : Int32)))] [(.int (1 : Int32))])) _
        exact retN X16 hx (t := .boolean) Bd.returns (by simp) (hb hby ds1_50) hr
      · show Qs1 Z x0 x1 a_B kk kt kf el0 el1 el2 y0 h0 n0 _ T16.heap _
        rw [e16]
        exact ⟨by unfold own_is1; rw [if_pos hc11, if_pos hd0], N0, rfl⟩
    · have p25 : ∀ t, Steps p.tables e below (T16.setTop (mkF m 42 #[.val (.ref x0), .val (.ref x1), .val (.int (0 : Int32))] [(.int (0 : Int32))])) t → Steps p.tables e below (s₁.setTop (entryFrame m #[(.ref x0), (.ref x1)] 3)) t := fun t k => p21 t (by
        show Steps p.tables e below (T16.setTop (mkF m 38 #[.val (.ref x0), .val (.ref x1), .val (.int (0 : Int32))] [(.int y0), (.int el0)])) _
        refine XS.icmpNo X16.here hx rfl (hb hby ds1_38) rfl ((feq (hd0)).1) ?_
        show Steps p.tables e below (T16.setTop (mkF m 41 #[.val (.ref x0), .val (.ref x1), .val (.int (0 : Int32))] [])) _
        refine XS.iconst X16.here hx rfl (hb hby ds1_41) ?_
        exact k)
      obtain ⟨fs, hr, hrun, hended, hW, hsame⟩ := X16.leave (v := some (.int (0 : Int32))) (fun h => by rw [Bd.returns] at h; cases h)
      refine ⟨_, _, p25 _ ?_, hrun, hended, _, _, rfl, ?_, ⟨_, rfl⟩, hW, hsame.mono (by decide) (by decide)⟩
      · show Steps p.tables e below (T16.setTop (mkF m 42 #[.val (.ref x0), .val (.ref x1), .val (.int (0 : Int32))] [(.int (0 : Int32))])) _
        exact retN X16 hx (t := .boolean) Bd.returns (by simp) (hb hby ds1_42) hr
      · show Qs1 Z x0 x1 a_B kk kt kf el0 el1 el2 y0 h0 n0 _ T16.heap _
        rw [e16]
        exact ⟨by unfold own_is1; rw [if_pos hc11, if_neg hd0], N0, rfl⟩
  · have p26 : ∀ t, Steps p.tables e below (T5.setTop (mkF m 15 #[.val (.ref x0), .val (.ref x1), .unset] [(.int (0 : Int32))])) t → Steps p.tables e below (s₁.setTop (entryFrame m #[(.ref x0), (.ref x1)] 3)) t := fun t k => p9 t (by
      show Steps p.tables e below (T5.setTop (mkF m 11 #[.val (.ref x0), .val (.ref x1), .unset] [(.int (1 : Int32)), (.int (kt - kf))])) _
      refine XS.icmpNo X5.here hx rfl (hb hby ds1_11) rfl ((feq (hc11)).1) ?_
      show Steps p.tables e below (T5.setTop (mkF m 14 #[.val (.ref x0), .val (.ref x1), .unset] [])) _
      refine XS.iconst X5.here hx rfl (hb hby ds1_14) ?_
      exact k)
    obtain ⟨fs, hr, hrun, hended, hW, hsame⟩ := X5.leave (v := some (.int (0 : Int32))) (fun h => by rw [Bd.returns] at h; cases h)
    refine ⟨_, _, p26 _ ?_, hrun, hended, _, _, rfl, ?_, ⟨_, rfl⟩, hW, hsame.mono (by decide) (by decide)⟩
    · show Steps p.tables e below (T5.setTop (mkF m 15 #[.val (.ref x0), .val (.ref x1), .unset] [(.int (0 : Int32))])) _
      exact retN X5 hx (t := .boolean) Bd.returns (by simp) (hb hby ds1_15) hr
    · show Qs1 Z x0 x1 a_B kk kt kf el0 el1 el2 y0 h0 n0 _ T5.heap _
      rw [e5]
      exact ⟨by unfold own_is1; rw [if_neg hc11], N0, rfl⟩
theorem ds2_0 : decode prog_71_method_7_code 0 = .ok (.aload_n 0, 1) := by decide +kernel
theorem ds2_1 : decode prog_71_method_7_code 1 = .ok (.getfield 23, 3) := by decide +kernel
theorem ds2_4 : decode prog_71_method_7_code 4 = .ok (.aload_n 0, 1) := by decide +kernel
theorem ds2_5 : decode prog_71_method_7_code 5 = .ok (.getfield 19, 3) := by decide +kernel
theorem ds2_8 : decode prog_71_method_7_code 8 = .ok (.isub, 1) := by decide +kernel
theorem ds2_9 : decode prog_71_method_7_code 9 = .ok (.aload_n 1, 1) := by decide +kernel
theorem ds2_10 : decode prog_71_method_7_code 10 = .ok (.arraylength, 1) := by decide +kernel
theorem ds2_11 : decode prog_71_method_7_code 11 = .ok (.if_icmp .eq 5, 3) := by decide +kernel
theorem ds2_14 : decode prog_71_method_7_code 14 = .ok (.iconst 0, 1) := by decide +kernel
theorem ds2_15 : decode prog_71_method_7_code 15 = .ok (.ireturn, 1) := by decide +kernel
theorem ds2_16 : decode prog_71_method_7_code 16 = .ok (.iconst 0, 1) := by decide +kernel
theorem ds2_17 : decode prog_71_method_7_code 17 = .ok (.istore_n 2, 1) := by decide +kernel
theorem ds2_18 : decode prog_71_method_7_code 18 = .ok (.iload_n 2, 1) := by decide +kernel
theorem ds2_19 : decode prog_71_method_7_code 19 = .ok (.aload_n 1, 1) := by decide +kernel
theorem ds2_20 : decode prog_71_method_7_code 20 = .ok (.arraylength, 1) := by decide +kernel
theorem ds2_21 : decode prog_71_method_7_code 21 = .ok (.if_icmp .ge 28, 3) := by decide +kernel
theorem ds2_24 : decode prog_71_method_7_code 24 = .ok (.aload_n 0, 1) := by decide +kernel
theorem ds2_25 : decode prog_71_method_7_code 25 = .ok (.getfield 13, 3) := by decide +kernel
theorem ds2_28 : decode prog_71_method_7_code 28 = .ok (.aload_n 0, 1) := by decide +kernel
theorem ds2_29 : decode prog_71_method_7_code 29 = .ok (.getfield 19, 3) := by decide +kernel
theorem ds2_32 : decode prog_71_method_7_code 32 = .ok (.iload_n 2, 1) := by decide +kernel
theorem ds2_33 : decode prog_71_method_7_code 33 = .ok (.iadd, 1) := by decide +kernel
theorem ds2_34 : decode prog_71_method_7_code 34 = .ok (.baload, 1) := by decide +kernel
theorem ds2_35 : decode prog_71_method_7_code 35 = .ok (.aload_n 1, 1) := by decide +kernel
theorem ds2_36 : decode prog_71_method_7_code 36 = .ok (.iload_n 2, 1) := by decide +kernel
theorem ds2_37 : decode prog_71_method_7_code 37 = .ok (.baload, 1) := by decide +kernel
theorem ds2_38 : decode prog_71_method_7_code 38 = .ok (.if_icmp .eq 5, 3) := by decide +kernel
theorem ds2_41 : decode prog_71_method_7_code 41 = .ok (.iconst 0, 1) := by decide +kernel
theorem ds2_42 : decode prog_71_method_7_code 42 = .ok (.ireturn, 1) := by decide +kernel
theorem ds2_43 : decode prog_71_method_7_code 43 = .ok (.iinc 2 1, 3) := by decide +kernel
theorem ds2_46 : decode prog_71_method_7_code 46 = .ok (.goto (-28), 3) := by decide +kernel
theorem ds2_49 : decode prog_71_method_7_code 49 = .ok (.iconst 1, 1) := by decide +kernel
theorem ds2_50 : decode prog_71_method_7_code 50 = .ok (.ireturn, 1) := by decide +kernel
theorem pns2 : plainName "com/example/kinwarden/kinwarden/NameBytes" = true := by first | (simp [plainName, overriddenIn]; done) | decide +kernel
theorem efs2 (m : MethodId) (x0 : Addr) (x1 : Addr) : entryFrame m #[(.ref x0), (.ref x1)] 3 = mkF m 0 #[.val (.ref x0), .val (.ref x1), .unset] [] := by first | (simp [entryFrame, mkF, argsToLocals, Value.category]; done) | rfl
def Qs2 (Z : State) (x0 : Addr) (x1 : Addr) (a_B : Addr) (kk : ClassId) (kt : Int32) (kf : Int32) (el0 : Int32) (el1 : Int32) (el2 : Int32) (y0 : Int32) (y1 : Int32) (h0 : Heap) (n0 : Nat) (v : Option Value) (h : Heap) (L : List Loc) : Prop := v = some (.int (own_is2 kt kf el0 y0 el1 y1)) ∧ Fr n0 L ∧ h = h0
set_option maxRecDepth 65536 in
set_option maxHeartbeats 40000000 in
theorem rms2 (l : Launch) (Z : State) (a0 : Array Value) (hw : ∀ d ∈ tables_1, d.before a0 Z = true) (ws : List Jvm.Cond) (x0 : Addr) (x1 : Addr) (a_B : Addr) (kk : ClassId) (kt : Int32) (kf : Int32) (el0 : Int32) (el1 : Int32) (el2 : Int32) (y0 : Int32) (y1 : Int32) (h0 : Heap) (n0 : Nat) (Z0 : n0 ≤ h0.size) (F1 : Fld Z h0 x0 "com/example/kinwarden/kinwarden/NameBytes" "bytes" "[B" (.ref a_B)) (F3 : Fld Z h0 x0 "com/example/kinwarden/kinwarden/NameBytes" "from" "I" (.int kf)) (F4 : Fld Z h0 x0 "com/example/kinwarden/kinwarden/NameBytes" "to" "I" (.int kt)) (B0 : own_B Z h0 a_B kf el0 el1 el2) (V0 : Arv Z h0 x1 kk .byte (2 : Int32) [(.int y0), (.int y1)] (.int (0 : Int32))) :
    MetFree l (⟨"com/example/kinwarden/kinwarden/NameBytes", "is", "([B)Z"⟩ : MethodName) (head1 (Jvm.Cond.code (⟨"com/example/kinwarden/kinwarden/NameBytes", "is", "([B)Z"⟩ : MethodName) prog_71_method_7_code 3 (some .boolean) :: ws) ({ frames := 0, cells := 0, slots := 0, locals := 0 } : Room)) (fun a U => a = #[(.ref x0), (.ref x1)] ∧ Z.Warmed39 U.vm ∧ U.heap = h0) (fun _ _ _ _ _ => True) (fun _ U o U' => ∃ v L, o = .returned v ∧ Qs2 Z x0 x1 a_B kk kt kf el0 el1 el2 y0 y1 h0 n0 v U'.heap L ∧ FrameEnd U o U' L ({ frames := 0, cells := 0, slots := 0, locals := 0 } : Room).cells ({ frames := 0, cells := 0, slots := 0, locals := 0 } : Room).slots) := by
  refine MetFree.of_bodySF (plainFor_of_name pns2) hisR ?_
  intro p e s m args below meth c s₁ Bd hml0 hP hK
  obtain ⟨rfl, hZ, hh⟩ := hP
  have hx := Bd.exec
  have hby := Bd.bytes
  have hml : c.maxLocals = 3 := hml0
  have hown : s.vm.findClass "com/example/kinwarden/kinwarden/NameBytes" = some m.cls := findClass_of_methodNamed Bd.named
  have hnm := (name_of_methodNamed Bd.named Bd.method).1
  have X0 : Stand p l e ({ frames := 0, cells := 0, slots := 0, locals := 0 } : Room) s m #[(.ref x0), (.ref x1)] below meth c s₁ [] 0 0 := Stand.of_body Bd
  have e0 : s₁.heap = h0 := by rw [← hh, Bd.state]; rfl
  have N0 := Fr.nil n0
  have pre0 : ∀ t, Steps p.tables e below (s₁.setTop (mkF m 0 #[.val (.ref x0), .val (.ref x1), .unset] [])) t → Steps p.tables e below (s₁.setTop (entryFrame m #[(.ref x0), (.ref x1)] 3)) t := fun t k => castTop (efs2 m x0 x1) k
  obtain ⟨cb, Ab, ⟨i0, t0⟩, ⟨i1, t1⟩, ⟨i2, t2⟩⟩ := B0
  have p1 : ∀ t, Steps p.tables e below (s₁.setTop (mkF m 1 #[.val (.ref x0), .val (.ref x1), .unset] [(.ref x0)])) t → Steps p.tables e below (s₁.setTop (entryFrame m #[(.ref x0), (.ref x1)] 3)) t := fun t k => pre0 t (by
    show Steps p.tables e below (s₁.setTop (mkF m 0 #[.val (.ref x0), .val (.ref x1), .unset] [])) _
    refine XS.aloadN X0.here hx rfl (hb hby ds2_0) rfl rfl ?_
    exact k)
  obtain ⟨T2, X2, e2, st2⟩ := getF X0 hx hZ hown (host := "") (Or.inl (hw _ (List.mem_of_getElem? (i := 27) rfl))) Via.refl e0 F4 (g := (mkF m 1 #[.val (.ref x0), .val (.ref x1), .unset] [(.ref x0)])) rfl rfl (hb hby ds2_1)
  have p3 : ∀ t, Steps p.tables e below (T2.setTop (mkF m 4 #[.val (.ref x0), .val (.ref x1), .unset] [(.int kt)])) t → Steps p.tables e below (s₁.setTop (entryFrame m #[(.ref x0), (.ref x1)] 3)) t := fun t k => p1 t (st2 t k)
  have p4 : ∀ t, Steps p.tables e below (T2.setTop (mkF m 5 #[.val (.ref x0), .val (.ref x1), .unset] [(.ref x0), (.int kt)])) t → Steps p.tables e below (s₁.setTop (entryFrame m #[(.ref x0), (.ref x1)] 3)) t := fun t k => p3 t (by
    show Steps p.tables e below (T2.setTop (mkF m 4 #[.val (.ref x0), .val (.ref x1), .unset] [(.int kt)])) _
    refine XS.aloadN X2.here hx rfl (hb hby ds2_4) rfl rfl ?_
    exact k)
  obtain ⟨T5, X5, e5, st5⟩ := getF X2 hx hZ hown (host := "") (Or.inl (hw _ (List.mem_of_getElem? (i := 25) rfl))) Via.refl e2 F3 (g := (mkF m 5 #[.val (.ref x0), .val (.ref x1), .unset] [(.ref x0), (.int kt)])) rfl rfl (hb hby ds2_5)
  have p6 : ∀ t, Steps p.tables e below (T5.setTop (mkF m 8 #[.val (.ref x0), .val (.ref x1), .unset] [(.int kf), (.int kt)])) t → Steps p.tables e below (s₁.setTop (entryFrame m #[(.ref x0), (.ref x1)] 3)) t := fun t k => p4 t (st5 t k)
  have p7 : ∀ t, Steps p.tables e below (T5.setTop (mkF m 10 #[.val (.ref x0), .val (.ref x1), .unset] [(.ref x1), (.int (kt - kf))])) t → Steps p.tables e below (s₁.setTop (entryFrame m #[(.ref x0), (.ref x1)] 3)) t := fun t k => p6 t (by
    show Steps p.tables e below (T5.setTop (mkF m 8 #[.val (.ref x0), .val (.ref x1), .unset] [(.int kf), (.int kt)])) _
    refine XS.isub X5.here hx rfl (hb hby ds2_8) rfl ?_
    show Steps p.tables e below (T5.setTop (mkF m 9 #[.val (.ref x0), .val (.ref x1), .unset] [(.int (kt - kf))])) _
    refine XS.aloadN X5.here hx rfl (hb hby ds2_9) rfl rfl ?_
    exact k)
  obtain ⟨cl8, Ar8, -, Sz8, Ng8, -, -⟩ := id V0
  have p9 : ∀ t, Steps p.tables e below (T5.setTop (mkF m 11 #[.val (.ref x0), .val (.ref x1), .unset] [(.int (2 : Int32)), (.int (kt - kf))])) t → Steps p.tables e below (s₁.setTop (entryFrame m #[(.ref x0), (.ref x1)] 3)) t := fun t k => p7 t (by
    show Steps p.tables e below (T5.setTop (mkF m 10 #[.val (.ref x0), .val (.ref x1), .unset] [(.ref x1), (.int (kt - kf))])) _
    refine X5.arraylength hx (by rw [e5]; exact Ar8.1) (State.isArrayOf_alike hZ.alike Ar8.2.1) (g := (mkF m 10 #[.val (.ref x0), .val (.ref x1), .unset] [(.ref x1), (.int (kt - kf))])) rfl rfl (hb hby ds2_10) _ ?_
    rw [len_of Sz8 Ng8]
    exact k)
  by_cases hc11 : (kt - kf) = (2 : Int32)
  · have p10 : ∀ t, Steps p.tables e below (T5.setTop (mkF m 20 #[.val (.ref x0), .val (.ref x1), .val (.int (0 : Int32))] [(.ref x1), (.int (0 : Int32))])) t → Steps p.tables e below (s₁.setTop (entryFrame m #[(.ref x0), (.ref x1)] 3)) t := fun t k => p9 t (by
      show Steps p.tables e below (T5.setTop (mkF m 11 #[.val (.ref x0), .val (.ref x1), .unset] [(.int (2 : Int32)), (.int (kt - kf))])) _
      refine XS.icmpYes X5.here hx rfl (pc0 := 11) (pc' := 16) rfl (hb hby ds2_11) rfl ((teq (hc11)).1) (by decide) (by decide) ?_
      show Steps p.tables e below (T5.setTop (mkF m 16 #[.val (.ref x0), .val (.ref x1), .unset] [])) _
      refine XS.iconst X5.here hx rfl (hb hby ds2_16) ?_
      show Steps p.tables e below (T5.setTop (mkF m 17 #[.val (.ref x0), .val (.ref x1), .unset] [(.int (0 : Int32))])) _
      refine XS.istoreN X5.here hx rfl (hb hby ds2_17) rfl (l' := #[.val (.ref x0), .val (.ref x1), .val (.int (0 : Int32))]) rfl ?_
      show Steps p.tables e below (T5.setTop (mkF m 18 #[.val (.ref x0), .val (.ref x1), .val (.int (0 : Int32))] [])) _
      refine XS.iloadN X5.here hx rfl (hb hby ds2_18) rfl ?_
      show Steps p.tables e below (T5.setTop (mkF m 19 #[.val (.ref x0), .val (.ref x1), .val (.int (0 : Int32))] [(.int (0 : Int32))])) _
      refine XS.aloadN X5.here hx rfl (hb hby ds2_19) rfl rfl ?_
      exact k)
    obtain ⟨cl11, Ar11, -, Sz11, Ng11, -, -⟩ := id V0
    have p12 : ∀ t, Steps p.tables e below (T5.setTop (mkF m 25 #[.val (.ref x0), .val (.ref x1), .val (.int (0 : Int32))] [(.ref x0)])) t → Steps p.tables e below (s₁.setTop (entryFrame m #[(.ref x0), (.ref x1)] 3)) t := fun t k => p10 t (by
      show Steps p.tables e below (T5.setTop (mkF m 20 #[.val (.ref x0), .val (.ref x1), .val (.int (0 : Int32))] [(.ref x1), (.int (0 : Int32))])) _
      refine X5.arraylength hx (by rw [e5]; exact Ar11.1) (State.isArrayOf_alike hZ.alike Ar11.2.1) (g := (mkF m 20 #[.val (.ref x0), .val (.ref x1), .val (.int (0 : Int32))] [(.ref x1), (.int (0 : Int32))])) rfl rfl (hb hby ds2_20) _ ?_
      rw [len_of Sz11 Ng11]
      show Steps p.tables e below (T5.setTop (mkF m 21 #[.val (.ref x0), .val (.ref x1), .val (.int (0 : Int32))] [(.int (2 : Int32)), (.int (0 : Int32))])) _
      refine XS.icmpNo X5.here hx rfl (hb hby ds2_21) rfl ((tlt (by decide)).2.1) ?_
      show Steps p.tables e below (T5.setTop (mkF m 24 #[.val (.ref x0), .val (.ref x1), .val (.int (0 : Int32))] [])) _
      refine XS.aloadN X5.here hx rfl (hb hby ds2_24) rfl rfl ?_
      exact k)
    obtain ⟨T13, X13, e13, st13⟩ := getF X5 hx hZ hown (host := "") (Or.inl (hw _ (List.mem_of_getElem? (i := 16) rfl))) Via.refl e5 F1 (g := (mkF m 25 #[.val (.ref x0), .val (.ref x1), .val (.int (0 : Int32))] [(.ref x0)])) rfl rfl (hb hby ds2_25)
    have p14 : ∀ t, Steps p.tables e below (T13.setTop (mkF m 28 #[.val (.ref x0), .val (.ref x1), .val (.int (0 : Int32))] [(.ref a_B)])) t → Steps p.tables e below (s₁.setTop (entryFrame m #[(.ref x0), (.ref x1)] 3)) t := fun t k => p12 t (st13 t k)
    have p15 : ∀ t, Steps p.tables e below (T13.setTop (mkF m 29 #[.val (.ref x0), .val (.ref x1), .val (.int (0 : Int32))] [(.ref x0), (.ref a_B)])) t → Steps p.tables e below (s₁.setTop (entryFrame m #[(.ref x0), (.ref x1)] 3)) t := fun t k => p14 t (by
      show Steps p.tables e below (T13.setTop (mkF m 28 #[.val (.ref x0), .val (.ref x1), .val (.int (0 : Int32))] [(.ref a_B)])) _
      refine XS.aloadN X13.here hx rfl (hb hby ds2_28) rfl rfl ?_
      exact k)
    obtain ⟨T16, X16, e16, st16⟩ := getF X13 hx hZ hown (host := "") (Or.inl (hw _ (List.mem_of_getElem? (i := 25) rfl))) Via.refl e13 F3 (g := (mkF m 29 #[.val (.ref x0), .val (.ref x1), .val (.int (0 : Int32))] [(.ref x0), (.ref a_B)])) rfl rfl (hb hby ds2_29)
    have p17 : ∀ t, Steps p.tables e below (T16.setTop (mkF m 32 #[.val (.ref x0), .val (.ref x1), .val (.int (0 : Int32))] [(.int kf), (.ref a_B)])) t → Steps p.tables e below (s₁.setTop (entryFrame m #[(.ref x0), (.ref x1)] 3)) t := fun t k => p15 t (st16 t k)
    have p18 : ∀ t, Steps p.tables e below (T16.setTop (mkF m 34 #[.val (.ref x0), .val (.ref x1), .val (.int (0 : Int32))] [(.int (kf + (0 : Int32))), (.ref a_B)])) t → Steps p.tables e below (s₁.setTop (entryFrame m #[(.ref x0), (.ref x1)] 3)) t := fun t k => p17 t (by
      show Steps p.tables e below (T16.setTop (mkF m 32 #[.val (.ref x0), .val (.ref x1), .val (.int (0 : Int32))] [(.int kf), (.ref a_B)])) _
      refine XS.iloadN X16.here hx rfl (hb hby ds2_32) rfl ?_
      show Steps p.tables e below (T16.setTop (mkF m 33 #[.val (.ref x0), .val (.ref x1), .val (.int (0 : Int32))] [(.int (0 : Int32)), (.int kf), (.ref a_B)])) _
      refine XS.iadd X16.here hx rfl (hb hby ds2_33) rfl ?_
      exact k)
    have p19 : ∀ t, Steps p.tables e below (T16.setTop (mkF m 37 #[.val (.ref x0), .val (.ref x1), .val (.int (0 : Int32))] [(.int (0 : Int32)), (.ref x1), (.int el0)])) t → Steps p.tables e below (s₁.setTop (entryFrame m #[(.ref x0), (.ref x1)] 3)) t := fun t k => p18 t (by
      show Steps p.tables e below (T16.setTop (mkF m 34 #[.val (.ref x0), .val (.ref x1), .val (.int (0 : Int32))] [(.int (kf + (0 : Int32))), (.ref a_B)])) _
      refine X16.baloadBytes hx (j := (kf + (0 : Int32))) (v := (.int el0)) (by rw [e16]; exact Ab.1) (State.isArrayOf_alike hZ.alike Ab.2.1) Ab.2.2 (by rw [own_i0]; exact i0) (by rw [own_i0]; exact t0) (g := (mkF m 34 #[.val (.ref x0), .val (.ref x1), .val (.int (0 : Int32))] [(.int (kf + (0 : Int32))), (.ref a_B)])) rfl rfl (hb hby ds2_34) _ ?_
      show Steps p.tables e below (T16.setTop (mkF m 35 #[.val (.ref x0), .val (.ref x1), .val (.int (0 : Int32))] [(.int el0)])) _
      refine XS.aloadN X16.here hx rfl (hb hby ds2_35) rfl rfl ?_
      show Steps p.tables e below (T16.setTop (mkF m 36 #[.val (.ref x0), .val (.ref x1), .val (.int (0 : Int32))] [(.ref x1), (.int el0)])) _
      refine XS.iloadN X16.here hx rfl (hb hby ds2_36) rfl ?_
      exact k)
    obtain ⟨cl20, Ar20, q20, Sz20, Ng20, Hs20, G20⟩ := id V0
    have hin20 : ¬ ((0 : Int32) < 0 ∨ cl20.slots.size ≤ ((0 : Int32)).toNatClampNeg) := inb_of Sz20 ⟨by decide, by decide⟩
    have hat20 : cl20.slots[((0 : Int32)).toNatClampNeg]? = some (.int y0) := Hs20.at hin20 (rfl)
    have p21 : ∀ t, Steps p.tables e below (T16.setTop (mkF m 38 #[.val (.ref x0), .val (.ref x1), .val (.int (0 : Int32))] [(.int y0), (.int el0)])) t → Steps p.tables e below (s₁.setTop (entryFrame m #[(.ref x0), (.ref x1)] 3)) t := fun t k => p19 t (by
      show Steps p.tables e below (T16.setTop (mkF m 37 #[.val (.ref x0), .val (.ref x1), .val (.int (0 : Int32))] [(.int (0 : Int32)), (.ref x1), (.int el0)])) _
      refine X16.baloadBytes hx (j := (0 : Int32)) (v := (.int y0)) (by rw [e16]; exact Ar20.1) (State.isArrayOf_alike hZ.alike Ar20.2.1) Ar20.2.2 hin20 hat20 (g := (mkF m 37 #[.val (.ref x0), .val (.ref x1), .val (.int (0 : Int32))] [(.int (0 : Int32)), (.ref x1), (.int el0)])) rfl rfl (hb hby ds2_37) _ ?_
      exact k)
    by_cases hd0 : el0 = y0
    · have p22 : ∀ t, Steps p.tables e below (T16.setTop (mkF m 20 #[.val (.ref x0), .val (.ref x1), .val (.int ((0 : Int32) + (1 : Int32)))] [(.ref x1), (.int ((0 : Int32) + (1 : Int32)))])) t → Steps p.tables e below (s₁.setTop (entryFrame m #[(.ref x0), (.ref x1)] 3)) t := fun t k => p21 t (by
        show Steps p.tables e below (T16.setTop (mkF m 38 #[.val (.ref x0), .val (.ref x1), .val (.int (0 : Int32))] [(.int y0), (.int el0)])) _
        refine XS.icmpYes X16.here hx rfl (pc0 := 38) (pc' := 43) rfl (hb hby ds2_38) rfl ((teq (hd0)).1) (by decide) (by decide) ?_
        show Steps p.tables e below (T16.setTop (mkF m 43 #[.val (.ref x0), .val (.ref x1), .val (.int (0 : Int32))] [])) _
        refine XS.iinc X16.here hx rfl (hb hby ds2_43) rfl (l' := #[.val (.ref x0), .val (.ref x1), .val (.int ((0 : Int32) + (1 : Int32)))]) rfl ?_
        show Steps p.tables e below (T16.setTop (mkF m 46 #[.val (.ref x0), .val (.ref x1), .val (.int ((0 : Int32) + (1 : Int32)))] [])) _
        refine XS.goto X16.here hx rfl (pc0 := 46) (pc' := 18) rfl (hb hby ds2_46) (by decide) (by decide) ?_
        show Steps p.tables e below (T16.setTop (mkF m 18 #[.val (.ref x0), .val (.ref x1), .val (.int ((0 : Int32) + (1 : Int32)))] [])) _
        refine XS.iloadN X16.here hx rfl (hb hby ds2_18) rfl ?_
        show Steps p.tables e below (T16.setTop (mkF m 19 #[.val (.ref x0), .val (.ref x1), .val (.int ((0 : Int32) + (1 : Int32)))] [(.int ((0 : Int32) + (1 : Int32)))])) _
        refine XS.aloadN X16.here hx rfl (hb hby ds2_19) rfl rfl ?_
        exact k)
      obtain ⟨cl23, Ar23, -, Sz23, Ng23, -, -⟩ := id V0
      have p24 : ∀ t, Steps p.tables e below (T16.setTop (mkF m 25 #[.val (.ref x0), .val (.ref x1), .val (.int ((0 : Int32) + (1 : Int32)))] [(.ref x0)])) t → Steps p.tables e below (s₁.setTop (entryFrame m #[(.ref x0), (.ref x1)] 3)) t := fun t k => p22 t (by
        show Steps p.tables e below (T16.setTop (mkF m 20 #[.val (.ref x0), .val (.ref x1), .val (.int ((0 : Int32) + (1 : Int32)))] [(.ref x1), (.int ((0 : Int32) + (1 : Int32)))])) _
        refine X16.arraylength hx (by rw [e16]; exact Ar23.1) (State.isArrayOf_alike hZ.alike Ar23.2.1) (g := (mkF m 20 #[.val (.ref x0), .val (.ref x1), .val (.int ((0 : Int32) + (1 : Int32)))] [(.ref x1), (.int ((0 : Int32) + (1 : Int32)))])) rfl rfl (hb hby ds2_20) _ ?_
        rw [len_of Sz23 Ng23]
        show Steps p.tables e below (T16.setTop (mkF m 21 #[.val (.ref x0), .val (.ref x1), .val (.int ((0 : Int32) + (1 : Int32)))] [(.int (2 : Int32)), (.int ((0 : Int32) + (1 : Int32)))])) _
        refine XS.icmpNo X16.here hx rfl (hb hby ds2_21) rfl ((tlt (by decide)).2.1) ?_
        show Steps p.tables e below (T16.setTop (mkF m 24 #[.val (.ref x0), .val (.ref x1), .val (.int ((0 : Int32) + (1 : Int32)))] [])) _
        refine XS.aloadN X16.here hx rfl (hb hby ds2_24) rfl rfl ?_
        exact k)
      obtain ⟨T25, X25, e25, st25⟩ := getF X16 hx hZ hown (host := "") (Or.inl (hw _ (List.mem_of_getElem? (i := 16) rfl))) Via.refl e16 F1 (g := (mkF m 25 #[.val (.ref x0), .val (.ref x1), .val (.int ((0 : Int32) + (1 : Int32)))] [(.ref x0)])) rfl rfl (hb hby ds2_25)
      have p26 : ∀ t, Steps p.tables e below (T25.setTop (mkF m 28 #[.val (.ref x0), .val (.ref x1), .val (.int ((0 : Int32) + (1 : Int32)))] [(.ref a_B)])) t → Steps p.tables e below (s₁.setTop (entryFrame m #[(.ref x0), (.ref x1)] 3)) t := fun t k => p24 t (st25 t k)
      have p27 : ∀ t, Steps p.tables e below (T25.setTop (mkF m 29 #[.val (.ref x0), .val (.ref x1), .val (.int ((0 : Int32) + (1 : Int32)))] [(.ref x0), (.ref a_B)])) t → Steps p.tables e below (s₁.setTop (entryFrame m #[(.ref x0), (.ref x1)] 3)) t := fun t k => p26 t (by
        show Steps p.tables e below (T25.setTop (mkF m 28 #[.val (.ref x0), .val (.ref x1), .val (.int ((0 : Int32) + (1 : Int32)))] [(.ref a_B)])) _
        refine XS.aloadN X25.here hx rfl (hb hby ds2_28) rfl rfl ?_
        exact k)
      obtain ⟨T28, X28, e28, st28⟩ := getF X25 hx hZ hown (host := "") (Or.inl (hw _ (List.mem_of_getElem? (i := 25) rfl))) Via.refl e25 F3 (g := (mkF m 29 #[.val (.ref x0), .val (.ref x1), .val (.int ((0 : Int32) + (1 : Int32)))] [(.ref x0), (.ref a_B)])) rfl rfl (hb hby ds2_29)
      have p29 : ∀ t, Steps p.tables e below (T28.setTop (mkF m 32 #[.val (.ref x0), .val (.ref x1), .val (.int ((0 : Int32) + (1 : Int32)))] [(.int kf), (.ref a_B)])) t → Steps p.tables e below (s₁.setTop (entryFrame m #[(.ref x0), (.ref x1)] 3)) t := fun t k => p27 t (st28 t k)
      have p30 : ∀ t, Steps p.tables e below (T28.setTop (mkF m 34 #[.val (.ref x0), .val (.ref x1), .val (.int ((0 : Int32) + (1 : Int32)))] [(.int (kf + ((0 : Int32) + (1 : Int32)))), (.ref a_B)])) t → Steps p.tables e below (s₁.setTop (entryFrame m #[(.ref x0), (.ref x1)] 3)) t := fun t k => p29 t (by
        show Steps p.tables e below (T28.setTop (mkF m 32 #[.val (.ref x0), .val (.ref x1), .val (.int ((0 : Int32) + (1 : Int32)))] [(.int kf), (.ref a_B)])) _
        refine XS.iloadN X28.here hx rfl (hb hby ds2_32) rfl ?_
        show Steps p.tables e below (T28.setTop (mkF m 33 #[.val (.ref x0), .val (.ref x1), .val (.int ((0 : Int32) + (1 : Int32)))] [(.int ((0 : Int32) + (1 : Int32))), (.int kf), (.ref a_B)])) _
        refine XS.iadd X28.here hx rfl (hb hby ds2_33) rfl ?_
        exact k)
      have p31 : ∀ t, Steps p.tables e below (T28.setTop (mkF m 37 #[.val (.ref x0), .val (.ref x1), .val (.int ((0 : Int32) + (1 : Int32)))] [(.int ((0 : Int32) + (1 : Int32))), (.ref x1), (.int el1)])) t → Steps p.tables e below (s₁.setTop (entryFrame m #[(.ref x0), (.ref x1)] 3)) t := fun t k => p30 t (by
        show Steps p.tables e below (T28.setTop (mkF m 34 #[.val (.ref x0), .val (.ref x1), .val (.int ((0 : Int32) + (1 : Int32)))] [(.int (kf + ((0 : Int32) + (1 : Int32)))), (.ref a_B)])) _
        refine X28.baloadBytes hx (j := (kf + ((0 : Int32) + (1 : Int32)))) (v := (.int el1)) (by rw [e28]; exact Ab.1) (State.isArrayOf_alike hZ.alike Ab.2.1) Ab.2.2 (by rw [own_i1]; exact i1) (by rw [own_i1]; exact t1) (g := (mkF m 34 #[.val (.ref x0), .val (.ref x1), .val (.int ((0 : Int32) + (1 : Int32)))] [(.int (kf + ((0 : Int32) + (1 : Int32)))), (.ref a_B)])) rfl rfl (hb hby ds2_34) _ ?_
        show Steps p.tables e below (T28.setTop (mkF m 35 #[.val (.ref x0), .val (.ref x1), .val (.int ((0 : Int32) + (1 : Int32)))] [(.int el1)])) _
        refine XS.aloadN X28.here hx rfl (hb hby ds2_35) rfl rfl ?_
        show Steps p.tables e below (T28.setTop (mkF m 36 #[.val (.ref x0), .val (.ref x1), .val (.int ((0 : Int32) + (1 : Int32)))] [(.ref x1), (.int el1)])) _
        refine XS.iloadN X28.here hx rfl (hb hby ds2_36) rfl ?_
        exact k)
      obtain ⟨cl32, Ar32, q32, Sz32, Ng32, Hs32, G32⟩ := id V0
      have hin32 : ¬ (((0 : Int32) + (1 : Int32)) < 0 ∨ cl32.slots.size ≤ (((0 : Int32) + (1 : Int32))).toNatClampNeg) := inb_of Sz32 ⟨by decide, by decide⟩
      have hat32 : cl32.slots[(((0 : Int32) + (1 : Int32))).toNatClampNeg]? = some (.int y1) := Hs32.at hin32 (rfl)
      have p33 : ∀ t, Steps p.tables e below (T28.setTop (mkF m 38 #[.val (.ref x0), .val (.ref x1), .val (.int ((0 : Int32) + (1 : Int32)))] [(.int y1), (.int el1)])) t → Steps p.tables e below (s₁.setTop (entryFrame m #[(.ref x0), (.ref x1)] 3)) t := fun t k => p31 t (by
        show Steps p.tables e below (T28.setTop (mkF m 37 #[.val (.ref x0), .val (.ref x1), .val (.int ((0 : Int32) + (1 : Int32)))] [(.int ((0 : Int32) + (1 : Int32))), (.ref x1), (.int el1)])) _
        refine X28.baloadBytes hx (j := ((0 : Int32) + (1 : Int32))) (v := (.int y1)) (by rw [e28]; exact Ar32.1) (State.isArrayOf_alike hZ.alike Ar32.2.1) Ar32.2.2 hin32 hat32 (g := (mkF m 37 #[.val (.ref x0), .val (.ref x1), .val (.int ((0 : Int32) + (1 : Int32)))] [(.int ((0 : Int32) + (1 : Int32))), (.ref x1), (.int el1)])) rfl rfl (hb hby ds2_37) _ ?_
        exact k)
      by_cases hd1 : el1 = y1
      · have p34 : ∀ t, Steps p.tables e below (T28.setTop (mkF m 20 #[.val (.ref x0), .val (.ref x1), .val (.int (((0 : Int32) + (1 : Int32)) + (1 : Int32)))] [(.ref x1), (.int (((0 : Int32) + (1 : Int32)) + (1 : Int32)))])) t → Steps p.tables e below (s₁.setTop (entryFrame m #[(.ref x0), (.ref x1)] 3)) t := fun t k => p33 t (by
          show Steps p.tables e below (T28.setTop (mkF m 38 #[.val (.ref x0), .val (.ref x1), .val (.int ((0 : Int32) + (1 : Int32)))] [(.int y1), (.int el1)])) _
          refine XS.icmpYes X28.here hx rfl (pc0 := 38) (pc' := 43) rfl (hb hby ds2_38) rfl ((teq (hd1)).1) (by decide) (by decide) ?_
          show Steps p.tables e below (T28.setTop (mkF m 43 #[.val (.ref x0), .val (.ref x1), .val (.int ((0 : Int32) + (1 : Int32)))] [])) _
          refine XS.iinc X28.here hx rfl (hb hby ds2_43) rfl (l' := #[.val (.ref x0), .val (.ref x1), .val (.int (((0 : Int32) + (1 : Int32)) + (1 : Int32)))]) rfl ?_
          show Steps p.tables e below (T28.setTop (mkF m 46 #[.val (.ref x0), .val (.ref x1), .val (.int (((0 : Int32) + (1 : Int32)) + (1 : Int32)))] [])) _
          refine XS.goto X28.here hx rfl (pc0 := 46) (pc' := 18) rfl (hb hby ds2_46) (by decide) (by decide) ?_
          show Steps p.tables e below (T28.setTop (mkF m 18 #[.val (.ref x0), .val (.ref x1), .val (.int (((0 : Int32) + (1 : Int32)) + (1 : Int32)))] [])) _
          refine XS.iloadN X28.here hx rfl (hb hby ds2_18) rfl ?_
          show Steps p.tables e below (T28.setTop (mkF m 19 #[.val (.ref x0), .val (.ref x1), .val (.int (((0 : Int32) + (1 : Int32)) + (1 : Int32)))] [(.int (((0 : Int32) + (1 : Int32)) + (1 : Int32)))])) _
          refine XS.aloadN X28.here hx rfl (hb hby ds2_19) rfl rfl ?_
          exact k)
        obtain ⟨cl35, Ar35, -, Sz35, Ng35, -, -⟩ := id V0
        have p36 : ∀ t, Steps p.tables e below (T28.setTop (mkF m 50 #[.val (.ref x0), .val (.ref x1), .val (.int (((0 : Int32) + (1 : Int32)) + (1 : Int32)))] [(.int (1 : Int32))])) t → Steps p.tables e below (s₁.setTop (entryFrame m #[(.ref x0), (.ref x1)] 3)) t := fun t k => p34 t (by
          show Steps p.tables e below (T28.setTop (mkF m 20 #[.val (.ref x0), .val (.ref x1), .val (.int (((0 : Int32) + (1 : Int32)) + (1 : Int32)))] [(.ref x1), (.int (((0 : Int32) + (1 : Int32)) + (1 : Int32)))])) _
          refine X28.arraylength hx (by rw [e28]; exact Ar35.1) (State.isArrayOf_alike hZ.alike Ar35.2.1) (g := (mkF m 20 #[.val (.ref x0), .val (.ref x1), .val (.int (((0 : Int32) + (1 : Int32)) + (1 : Int32)))] [(.ref x1), (.int (((0 : Int32) + (1 : Int32)) + (1 : Int32)))])) rfl rfl (hb hby ds2_20) _ ?_
          rw [len_of Sz35 Ng35]
          show Steps p.tables e below (T28.setTop (mkF m 21 #[.val (.ref x0), .val (.ref x1), .val (.int (((0 : Int32) + (1 : Int32)) + (1 : Int32)))] [(.int (2 : Int32)), (.int (((0 : Int32) + (1 : Int32)) + (1 : Int32)))])) _
          refine XS.icmpYes X28.here hx rfl (pc0 := 21) (pc' := 49) rfl (hb hby ds2_21) rfl ((flt (by decide)).2.1) (by decide) (by decide) ?_
          show Steps p.tables e below (T28.setTop (mkF m 49 #[.val (.ref x0), .val (.ref x1), .val (.int (((0 : Int32) + (1 : Int32)) + (1 : Int32)))] [])) _
          refine XS.iconst X28.here hx rfl (hb hby ds2_49) ?_
          exact k)
        obtain ⟨fs, hr, hrun, hended, hW, hsame⟩ := X28.leave (v := some (.int (1 : Int32))) (fun h => by rw [Bd.returns] at h; cases h)
        refine ⟨_, _, p36 _ ?_, hrun, hended, _, _, rfl, ?_, ⟨_, rfl⟩, hW, hsame.mono (by decide) (by decide)⟩
        · show Steps p.tables e below (T28.setTop (mkF m 50 #[.val (.ref x0), .val (.ref x1), .val (.int (((0 : Int32) + (1 : Int32)) + (1 : Int32)))] [(.int (1 : Int32))])) _
          exact retN X28 hx (t := .boolean) Bd.returns (by simp) (hb hby ds2_50) hr
        · show Qs2 Z x0 x1 a_B kk kt kf el0 el1 el2 y0 y1 h0 n0 _ T28.heap _
          rw [e28]
          exact ⟨by unfold own_is2; rw [if_pos hc11, if_pos hd0, if_pos hd1], N0, rfl⟩
      · have p37 : ∀ t, Steps p.tables e below (T28.setTop (mkF m 42 #[.val (.ref x0), .val (.ref x1), .val (.int ((0 : Int32) + (1 : Int32)))] [(.int (0 : Int32))])) t → Steps p.tables e below (s₁.setTop (entryFrame m #[(.ref x0), (.ref x1)] 3)) t := fun t k => p33 t (by
          show Steps p.tables e below (T28.setTop (mkF m 38 #[.val (.ref x0), .val (.ref x1), .val (.int ((0 : Int32) + (1 : Int32)))] [(.int y1), (.int el1)])) _
          refine XS.icmpNo X28.here hx rfl (hb hby ds2_38) rfl ((feq (hd1)).1) ?_
          show Steps p.tables e below (T28.setTop (mkF m 41 #[.val (.ref x0), .val (.ref x1), .val (.int ((0 : Int32) + (1 : Int32)))] [])) _
          refine XS.iconst X28.here hx rfl (hb hby ds2_41) ?_
          exact k)
        obtain ⟨fs, hr, hrun, hended, hW, hsame⟩ := X28.leave (v := some (.int (0 : Int32))) (fun h => by rw [Bd.returns] at h; cases h)
        refine ⟨_, _, p37 _ ?_, hrun, hended, _, _, rfl, ?_, ⟨_, rfl⟩, hW, hsame.mono (by decide) (by decide)⟩
        · show Steps p.tables e below (T28.setTop (mkF m 42 #[.val (.ref x0), .val (.ref x1), .val (.int ((0 : Int32) + (1 : Int32)))] [(.int (0 : Int32))])) _
          exact retN X28 hx (t := .boolean) Bd.returns (by simp) (hb hby ds2_42) hr
        · show Qs2 Z x0 x1 a_B kk kt kf el0 el1 el2 y0 y1 h0 n0 _ T28.heap _
          rw [e28]
          exact ⟨by unfold own_is2; rw [if_pos hc11, if_pos hd0, if_neg hd1], N0, rfl⟩
    · have p38 : ∀ t, Steps p.tables e below (T16.setTop (mkF m 42 #[.val (.ref x0), .val (.ref x1), .val (.int (0 : Int32))] [(.int (0 : Int32))])) t → Steps p.tables e below (s₁.setTop (entryFrame m #[(.ref x0), (.ref x1)] 3)) t := fun t k => p21 t (by
        show Steps p.tables e below (T16.setTop (mkF m 38 #[.val (.ref x0), .val (.ref x1), .val (.int (0 : Int32))] [(.int y0), (.int el0)])) _
        refine XS.icmpNo X16.here hx rfl (hb hby ds2_38) rfl ((feq (hd0)).1) ?_
        show Steps p.tables e below (T16.setTop (mkF m 41 #[.val (.ref x0), .val (.ref x1), .val (.int (0 : Int32))] [])) _
        refine XS.iconst X16.here hx rfl (hb hby ds2_41) ?_
        exact k)
      obtain ⟨fs, hr, hrun, hended, hW, hsame⟩ := X16.leave (v := some (.int (0 : Int32))) (fun h => by rw [Bd.returns] at h; cases h)
      refine ⟨_, _, p38 _ ?_, hrun, hended, _, _, rfl, ?_, ⟨_, rfl⟩, hW, hsame.mono (by decide) (by decide)⟩
      · show Steps p.tables e below (T16.setTop (mkF m 42 #[.val (.ref x0), .val (.ref x1), .val (.int (0 : Int32))] [(.int (0 : Int32))])) _
        exact retN X16 hx (t := .boolean) Bd.returns (by simp) (hb hby ds2_42) hr
      · show Qs2 Z x0 x1 a_B kk kt kf el0 el1 el2 y0 y1 h0 n0 _ T16.heap _
        rw [e16]
        exact ⟨by unfold own_is2; rw [if_pos hc11, if_neg hd0], N0, rfl⟩
  · have p39 : ∀ t, Steps p.tables e below (T5.setTop (mkF m 15 #[.val (.ref x0), .val (.ref x1), .unset] [(.int (0 : Int32))])) t → Steps p.tables e below (s₁.setTop (entryFrame m #[(.ref x0), (.ref x1)] 3)) t := fun t k => p9 t (by
      show Steps p.tables e below (T5.setTop (mkF m 11 #[.val (.ref x0), .val (.ref x1), .unset] [(.int (2 : Int32)), (.int (kt - kf))])) _
      refine XS.icmpNo X5.here hx rfl (hb hby ds2_11) rfl ((feq (hc11)).1) ?_
      show Steps p.tables e below (T5.setTop (mkF m 14 #[.val (.ref x0), .val (.ref x1), .unset] [])) _
      refine XS.iconst X5.here hx rfl (hb hby ds2_14) ?_
      exact k)
    obtain ⟨fs, hr, hrun, hended, hW, hsame⟩ := X5.leave (v := some (.int (0 : Int32))) (fun h => by rw [Bd.returns] at h; cases h)
    refine ⟨_, _, p39 _ ?_, hrun, hended, _, _, rfl, ?_, ⟨_, rfl⟩, hW, hsame.mono (by decide) (by decide)⟩
    · show Steps p.tables e below (T5.setTop (mkF m 15 #[.val (.ref x0), .val (.ref x1), .unset] [(.int (0 : Int32))])) _
      exact retN X5 hx (t := .boolean) Bd.returns (by simp) (hb hby ds2_15) hr
    · show Qs2 Z x0 x1 a_B kk kt kf el0 el1 el2 y0 y1 h0 n0 _ T5.heap _
      rw [e5]
      exact ⟨by unfold own_is2; rw [if_neg hc11], N0, rfl⟩
theorem ds3_0 : decode prog_71_method_7_code 0 = .ok (.aload_n 0, 1) := by decide +kernel
theorem ds3_1 : decode prog_71_method_7_code 1 = .ok (.getfield 23, 3) := by decide +kernel
theorem ds3_4 : decode prog_71_method_7_code 4 = .ok (.aload_n 0, 1) := by decide +kernel
theorem ds3_5 : decode prog_71_method_7_code 5 = .ok (.getfield 19, 3) := by decide +kernel
theorem ds3_8 : decode prog_71_method_7_code 8 = .ok (.isub, 1) := by decide +kernel
theorem ds3_9 : decode prog_71_method_7_code 9 = .ok (.aload_n 1, 1) := by decide +kernel
theorem ds3_10 : decode prog_71_method_7_code 10 = .ok (.arraylength, 1) := by decide +kernel
theorem ds3_11 : decode prog_71_method_7_code 11 = .ok (.if_icmp .eq 5, 3) := by decide +kernel
theorem ds3_14 : decode prog_71_method_7_code 14 = .ok (.iconst 0, 1) := by decide +kernel
theorem ds3_15 : decode prog_71_method_7_code 15 = .ok (.ireturn, 1) := by decide +kernel
theorem ds3_16 : decode prog_71_method_7_code 16 = .ok (.iconst 0, 1) := by decide +kernel
theorem ds3_17 : decode prog_71_method_7_code 17 = .ok (.istore_n 2, 1) := by decide +kernel
theorem ds3_18 : decode prog_71_method_7_code 18 = .ok (.iload_n 2, 1) := by decide +kernel
theorem ds3_19 : decode prog_71_method_7_code 19 = .ok (.aload_n 1, 1) := by decide +kernel
theorem ds3_20 : decode prog_71_method_7_code 20 = .ok (.arraylength, 1) := by decide +kernel
theorem ds3_21 : decode prog_71_method_7_code 21 = .ok (.if_icmp .ge 28, 3) := by decide +kernel
theorem ds3_24 : decode prog_71_method_7_code 24 = .ok (.aload_n 0, 1) := by decide +kernel
theorem ds3_25 : decode prog_71_method_7_code 25 = .ok (.getfield 13, 3) := by decide +kernel
theorem ds3_28 : decode prog_71_method_7_code 28 = .ok (.aload_n 0, 1) := by decide +kernel
theorem ds3_29 : decode prog_71_method_7_code 29 = .ok (.getfield 19, 3) := by decide +kernel
theorem ds3_32 : decode prog_71_method_7_code 32 = .ok (.iload_n 2, 1) := by decide +kernel
theorem ds3_33 : decode prog_71_method_7_code 33 = .ok (.iadd, 1) := by decide +kernel
theorem ds3_34 : decode prog_71_method_7_code 34 = .ok (.baload, 1) := by decide +kernel
theorem ds3_35 : decode prog_71_method_7_code 35 = .ok (.aload_n 1, 1) := by decide +kernel
theorem ds3_36 : decode prog_71_method_7_code 36 = .ok (.iload_n 2, 1) := by decide +kernel
theorem ds3_37 : decode prog_71_method_7_code 37 = .ok (.baload, 1) := by decide +kernel
theorem ds3_38 : decode prog_71_method_7_code 38 = .ok (.if_icmp .eq 5, 3) := by decide +kernel
theorem ds3_41 : decode prog_71_method_7_code 41 = .ok (.iconst 0, 1) := by decide +kernel
theorem ds3_42 : decode prog_71_method_7_code 42 = .ok (.ireturn, 1) := by decide +kernel
theorem ds3_43 : decode prog_71_method_7_code 43 = .ok (.iinc 2 1, 3) := by decide +kernel
theorem ds3_46 : decode prog_71_method_7_code 46 = .ok (.goto (-28), 3) := by decide +kernel
theorem ds3_49 : decode prog_71_method_7_code 49 = .ok (.iconst 1, 1) := by decide +kernel
theorem ds3_50 : decode prog_71_method_7_code 50 = .ok (.ireturn, 1) := by decide +kernel
theorem pns3 : plainName "com/example/kinwarden/kinwarden/NameBytes" = true := by first | (simp [plainName, overriddenIn]; done) | decide +kernel
theorem efs3 (m : MethodId) (x0 : Addr) (x1 : Addr) : entryFrame m #[(.ref x0), (.ref x1)] 3 = mkF m 0 #[.val (.ref x0), .val (.ref x1), .unset] [] := by first | (simp [entryFrame, mkF, argsToLocals, Value.category]; done) | rfl
def Qs3 (Z : State) (x0 : Addr) (x1 : Addr) (a_B : Addr) (kk : ClassId) (kt : Int32) (kf : Int32) (el0 : Int32) (el1 : Int32) (el2 : Int32) (y0 : Int32) (y1 : Int32) (y2 : Int32) (h0 : Heap) (n0 : Nat) (v : Option Value) (h : Heap) (L : List Loc) : Prop := v = some (.int (own_is3 kt kf el0 y0 el1 y1 el2 y2)) ∧ Fr n0 L ∧ h = h0
set_option maxRecDepth 65536 in
set_option maxHeartbeats 40000000 in
theorem rms3 (l : Launch) (Z : State) (a0 : Array Value) (hw : ∀ d ∈ tables_1, d.before a0 Z = true) (ws : List Jvm.Cond) (x0 : Addr) (x1 : Addr) (a_B : Addr) (kk : ClassId) (kt : Int32) (kf : Int32) (el0 : Int32) (el1 : Int32) (el2 : Int32) (y0 : Int32) (y1 : Int32) (y2 : Int32) (h0 : Heap) (n0 : Nat) (Z0 : n0 ≤ h0.size) (F1 : Fld Z h0 x0 "com/example/kinwarden/kinwarden/NameBytes" "bytes" "[B" (.ref a_B)) (F3 : Fld Z h0 x0 "com/example/kinwarden/kinwarden/NameBytes" "from" "I" (.int kf)) (F4 : Fld Z h0 x0 "com/example/kinwarden/kinwarden/NameBytes" "to" "I" (.int kt)) (B0 : own_B Z h0 a_B kf el0 el1 el2) (V0 : Arv Z h0 x1 kk .byte (3 : Int32) [(.int y0), (.int y1), (.int y2)] (.int (0 : Int32))) :
    MetFree l (⟨"com/example/kinwarden/kinwarden/NameBytes", "is", "([B)Z"⟩ : MethodName) (head1 (Jvm.Cond.code (⟨"com/example/kinwarden/kinwarden/NameBytes", "is", "([B)Z"⟩ : MethodName) prog_71_method_7_code 3 (some .boolean) :: ws) ({ frames := 0, cells := 0, slots := 0, locals := 0 } : Room)) (fun a U => a = #[(.ref x0), (.ref x1)] ∧ Z.Warmed39 U.vm ∧ U.heap = h0) (fun _ _ _ _ _ => True) (fun _ U o U' => ∃ v L, o = .returned v ∧ Qs3 Z x0 x1 a_B kk kt kf el0 el1 el2 y0 y1 y2 h0 n0 v U'.heap L ∧ FrameEnd U o U' L ({ frames := 0, cells := 0, slots := 0, locals := 0 } : Room).cells ({ frames := 0, cells := 0, slots := 0, locals := 0 } : Room).slots) := by
  refine MetFree.of_bodySF (plainFor_of_name pns3) hisR ?_
  intro p e s m args below meth c s₁ Bd hml0 hP hK
  obtain ⟨rfl, hZ, hh⟩ := hP
  have hx := Bd.exec
  have hby := Bd.bytes
  have hml : c.maxLocals = 3 := hml0
  have hown : s.vm.findClass "com/example/kinwarden/kinwarden/NameBytes" = some m.cls := findClass_of_methodNamed Bd.named
  have hnm := (name_of_methodNamed Bd.named Bd.method).1
  have X0 : Stand p l e ({ frames := 0, cells := 0, slots := 0, locals := 0 } : Room) s m #[(.ref x0), (.ref x1)] below meth c s₁ [] 0 0 := Stand.of_body Bd
  have e0 : s₁.heap = h0 := by rw [← hh, Bd.state]; rfl
  have N0 := Fr.nil n0
  have pre0 : ∀ t, Steps p.tables e below (s₁.setTop (mkF m 0 #[.val (.ref x0), .val (.ref x1), .unset] [])) t → Steps p.tables e below (s₁.setTop (entryFrame m #[(.ref x0), (.ref x1)] 3)) t := fun t k => castTop (efs3 m x0 x1) k
  obtain ⟨cb, Ab, ⟨i0, t0⟩, ⟨i1, t1⟩, ⟨i2, t2⟩⟩ := B0
  have p1 : ∀ t, Steps p.tables e below (s₁.setTop (mkF m 1 #[.val (.ref x0), .val (.ref x1), .unset] [(.ref x0)])) t → Steps p.tables e below (s₁.setTop (entryFrame m #[(.ref x0), (.ref x1)] 3)) t := fun t k => pre0 t (by
    show Steps p.tables e below (s₁.setTop (mkF m 0 #[.val (.ref x0), .val (.ref x1), .unset] [])) _
    refine XS.aloadN X0.here hx rfl (hb hby ds3_0) rfl rfl ?_
    exact k)
  obtain ⟨T2, X2, e2, st2⟩ := getF X0 hx hZ hown (host := "") (Or.inl (hw _ (List.mem_of_getElem? (i := 27) rfl))) Via.refl e0 F4 (g := (mkF m 1 #[.val (.ref x0), .val (.ref x1), .unset] [(.ref x0)])) rfl rfl (hb hby ds3_1)
  have p3 : ∀ t, Steps p.tables e below (T2.setTop (mkF m 4 #[.val (.ref x0), .val (.ref x1), .unset] [(.int kt)])) t → Steps p.tables e below (s₁.setTop (entryFrame m #[(.ref x0), (.ref x1)] 3)) t := fun t k => p1 t (st2 t k)
  have p4 : ∀ t, Steps p.tables e below (T2.setTop (mkF m 5 #[.val (.ref x0), .val (.ref x1), .unset] [(.ref x0), (.int kt)])) t → Steps p.tables e below (s₁.setTop (entryFrame m #[(.ref x0), (.ref x1)] 3)) t := fun t k => p3 t (by
    show Steps p.tables e below (T2.setTop (mkF m 4 #[.val (.ref x0), .val (.ref x1), .unset] [(.int kt)])) _
    refine XS.aloadN X2.here hx rfl (hb hby ds3_4) rfl rfl ?_
    exact k)
  obtain ⟨T5, X5, e5, st5⟩ := getF X2 hx hZ hown (host := "") (Or.inl (hw _ (List.mem_of_getElem? (i := 25) rfl))) Via.refl e2 F3 (g := (mkF m 5 #[.val (.ref x0), .val (.ref x1), .unset] [(.ref x0), (.int kt)])) rfl rfl (hb hby ds3_5)
  have p6 : ∀ t, Steps p.tables e below (T5.setTop (mkF m 8 #[.val (.ref x0), .val (.ref x1), .unset] [(.int kf), (.int kt)])) t → Steps p.tables e below (s₁.setTop (entryFrame m #[(.ref x0), (.ref x1)] 3)) t := fun t k => p4 t (st5 t k)
  have p7 : ∀ t, Steps p.tables e below (T5.setTop (mkF m 10 #[.val (.ref x0), .val (.ref x1), .unset] [(.ref x1), (.int (kt - kf))])) t → Steps p.tables e below (s₁.setTop (entryFrame m #[(.ref x0), (.ref x1)] 3)) t := fun t k => p6 t (by
    show Steps p.tables e below (T5.setTop (mkF m 8 #[.val (.ref x0), .val (.ref x1), .unset] [(.int kf), (.int kt)])) _
    refine XS.isub X5.here hx rfl (hb hby ds3_8) rfl ?_
    show Steps p.tables e below (T5.setTop (mkF m 9 #[.val (.ref x0), .val (.ref x1), .unset] [(.int (kt - kf))])) _
    refine XS.aloadN X5.here hx rfl (hb hby ds3_9) rfl rfl ?_
    exact k)
  obtain ⟨cl8, Ar8, -, Sz8, Ng8, -, -⟩ := id V0
  have p9 : ∀ t, Steps p.tables e below (T5.setTop (mkF m 11 #[.val (.ref x0), .val (.ref x1), .unset] [(.int (3 : Int32)), (.int (kt - kf))])) t → Steps p.tables e below (s₁.setTop (entryFrame m #[(.ref x0), (.ref x1)] 3)) t := fun t k => p7 t (by
    show Steps p.tables e below (T5.setTop (mkF m 10 #[.val (.ref x0), .val (.ref x1), .unset] [(.ref x1), (.int (kt - kf))])) _
    refine X5.arraylength hx (by rw [e5]; exact Ar8.1) (State.isArrayOf_alike hZ.alike Ar8.2.1) (g := (mkF m 10 #[.val (.ref x0), .val (.ref x1), .unset] [(.ref x1), (.int (kt - kf))])) rfl rfl (hb hby ds3_10) _ ?_
    rw [len_of Sz8 Ng8]
    exact k)
  by_cases hc11 : (kt - kf) = (3 : Int32)
  · have p10 : ∀ t, Steps p.tables e below (T5.setTop (mkF m 20 #[.val (.ref x0), .val (.ref x1), .val (.int (0 : Int32))] [(.ref x1), (.int (0 : Int32))])) t → Steps p.tables e below (s₁.setTop (entryFrame m #[(.ref x0), (.ref x1)] 3)) t := fun t k => p9 t (by
      show Steps p.tables e below (T5.setTop (mkF m 11 #[.val (.ref x0), .val (.ref x1), .unset] [(.int (3 : Int32)), (.int (kt - kf))])) _
      refine XS.icmpYes X5.here hx rfl (pc0 := 11) (pc' := 16) rfl (hb hby ds3_11) rfl ((teq (hc11)).1) (by decide) (by decide) ?_
      show Steps p.tables e below (T5.setTop (mkF m 16 #[.val (.ref x0), .val (.ref x1), .unset] [])) _
      refine XS.iconst X5.here hx rfl (hb hby ds3_16) ?_
      show Steps p.tables e below (T5.setTop (mkF m 17 #[.val (.ref x0), .val (.ref x1), .unset] [(.int (0 : Int32))])) _
      refine XS.istoreN X5.here hx rfl (hb hby ds3_17) rfl (l' := #[.val (.ref x0), .val (.ref x1), .val (.int (0 : Int32))]) rfl ?_
      show Steps p.tables e below (T5.setTop (mkF m 18 #[.val (.ref x0), .val (.ref x1), .val (.int (0 : Int32))] [])) _
      refine XS.iloadN X5.here hx rfl (hb hby ds3_18) rfl ?_
      show Steps p.tables e below (T5.setTop (mkF m 19 #[.val (.ref x0), .val (.ref x1), .val (.int (0 : Int32))] [(.int (0 : Int32))])) _
      refine XS.aloadN X5.here hx rfl (hb hby ds3_19) rfl rfl ?_
      exact k)
    obtain ⟨cl11, Ar11, -, Sz11, Ng11, -, -⟩ := id V0
    have p12 : ∀ t, Steps p.tables e below (T5.setTop (mkF m 25 #[.val (.ref x0), .val (.ref x1), .val (.int (0 : Int32))] [(.ref x0)])) t → Steps p.tables e below (s₁.setTop (entryFrame m #[(.ref x0), (.ref x1)] 3)) t := fun t k => p10 t (by
      show Steps p.tables e below (T5.setTop (mkF m 20 #[.val (.ref x0), .val (.ref x1), .val (.int (0 : Int32))] [(.ref x1), (.int (0 : Int32))])) _
      refine X5.arraylength hx (by rw [e5]; exact Ar11.1) (State.isArrayOf_alike hZ.alike Ar11.2.1) (g := (mkF m 20 #[.val (.ref x0), .val (.ref x1), .val (.int (0 : Int32))] [(.ref x1), (.int (0 : Int32))])) rfl rfl (hb hby ds3_20) _ ?_
      rw [len_of Sz11 Ng11]
      show Steps p.tables e below (T5.setTop (mkF m 21 #[.val (.ref x0), .val (.ref x1), .val (.int (0 : Int32))] [(.int (3 : Int32)), (.int (0 : Int32))])) _
      refine XS.icmpNo X5.here hx rfl (hb hby ds3_21) rfl ((tlt (by decide)).2.1) ?_
      show Steps p.tables e below (T5.setTop (mkF m 24 #[.val (.ref x0), .val (.ref x1), .val (.int (0 : Int32))] [])) _
      refine XS.aloadN X5.here hx rfl (hb hby ds3_24) rfl rfl ?_
      exact k)
    obtain ⟨T13, X13, e13, st13⟩ := getF X5 hx hZ hown (host := "") (Or.inl (hw _ (List.mem_of_getElem? (i := 16) rfl))) Via.refl e5 F1 (g := (mkF m 25 #[.val (.ref x0), .val (.ref x1), .val (.int (0 : Int32))] [(.ref x0)])) rfl rfl (hb hby ds3_25)
    have p14 : ∀ t, Steps p.tables e below (T13.setTop (mkF m 28 #[.val (.ref x0), .val (.ref x1), .val (.int (0 : Int32))] [(.ref a_B)])) t → Steps p.tables e below (s₁.setTop (entryFrame m #[(.ref x0), (.ref x1)] 3)) t := fun t k => p12 t (st13 t k)
    have p15 : ∀ t, Steps p.tables e below (T13.setTop (mkF m 29 #[.val (.ref x0), .val (.ref x1), .val (.int (0 : Int32))] [(.ref x0), (.ref a_B)])) t → Steps p.tables e below (s₁.setTop (entryFrame m #[(.ref x0), (.ref x1)] 3)) t := fun t k => p14 t (by
      show Steps p.tables e below (T13.setTop (mkF m 28 #[.val (.ref x0), .val (.ref x1), .val (.int (0 : Int32))] [(.ref a_B)])) _
      refine XS.aloadN X13.here hx rfl (hb hby ds3_28) rfl rfl ?_
      exact k)
    obtain ⟨T16, X16, e16, st16⟩ := getF X13 hx hZ hown (host := "") (Or.inl (hw _ (List.mem_of_getElem? (i := 25) rfl))) Via.refl e13 F3 (g := (mkF m 29 #[.val (.ref x0), .val (.ref x1), .val (.int (0 : Int32))] [(.ref x0), (.ref a_B)])) rfl rfl (hb hby ds3_29)
    have p17 : ∀ t, Steps p.tables e below (T16.setTop (mkF m 32 #[.val (.ref x0), .val (.ref x1), .val (.int (0 : Int32))] [(.int kf), (.ref a_B)])) t → Steps p.tables e below (s₁.setTop (entryFrame m #[(.ref x0), (.ref x1)] 3)) t := fun t k => p15 t (st16 t k)
    have p18 : ∀ t, Steps p.tables e below (T16.setTop (mkF m 34 #[.val (.ref x0), .val (.ref x1), .val (.int (0 : Int32))] [(.int (kf + (0 : Int32))), (.ref a_B)])) t → Steps p.tables e below (s₁.setTop (entryFrame m #[(.ref x0), (.ref x1)] 3)) t := fun t k => p17 t (by
      show Steps p.tables e below (T16.setTop (mkF m 32 #[.val (.ref x0), .val (.ref x1), .val (.int (0 : Int32))] [(.int kf), (.ref a_B)])) _
      refine XS.iloadN X16.here hx rfl (hb hby ds3_32) rfl ?_
      show Steps p.tables e below (T16.setTop (mkF m 33 #[.val (.ref x0), .val (.ref x1), .val (.int (0 : Int32))] [(.int (0 : Int32)), (.int kf), (.ref a_B)])) _
      refine XS.iadd X16.here hx rfl (hb hby ds3_33) rfl ?_
      exact k)
    have p19 : ∀ t, Steps p.tables e below (T16.setTop (mkF m 37 #[.val (.ref x0), .val (.ref x1), .val (.int (0 : Int32))] [(.int (0 : Int32)), (.ref x1), (.int el0)])) t → Steps p.tables e below (s₁.setTop (entryFrame m #[(.ref x0), (.ref x1)] 3)) t := fun t k => p18 t (by
      show Steps p.tables e below (T16.setTop (mkF m 34 #[.val (.ref x0), .val (.ref x1), .val (.int (0 : Int32))] [(.int (kf + (0 : Int32))), (.ref a_B)])) _
      refine X16.baloadBytes hx (j := (kf + (0 : Int32))) (v := (.int el0)) (by rw [e16]; exact Ab.1) (State.isArrayOf_alike hZ.alike Ab.2.1) Ab.2.2 (by rw [own_i0]; exact i0) (by rw [own_i0]; exact t0) (g := (mkF m 34 #[.val (.ref x0), .val (.ref x1), .val (.int (0 : Int32))] [(.int (kf + (0 : Int32))), (.ref a_B)])) rfl rfl (hb hby ds3_34) _ ?_
      show Steps p.tables e below (T16.setTop (mkF m 35 #[.val (.ref x0), .val (.ref x1), .val (.int (0 : Int32))] [(.int el0)])) _
      refine XS.aloadN X16.here hx rfl (hb hby ds3_35) rfl rfl ?_
      show Steps p.tables e below (T16.setTop (mkF m 36 #[.val (.ref x0), .val (.ref x1), .val (.int (0 : Int32))] [(.ref x1), (.int el0)])) _
      refine XS.iloadN X16.here hx rfl (hb hby ds3_36) rfl ?_
      exact k)
    obtain ⟨cl20, Ar20, q20, Sz20, Ng20, Hs20, G20⟩ := id V0
    have hin20 : ¬ ((0 : Int32) < 0 ∨ cl20.slots.size ≤ ((0 : Int32)).toNatClampNeg) := inb_of Sz20 ⟨by decide, by decide⟩
    have hat20 : cl20.slots[((0 : Int32)).toNatClampNeg]? = some (.int y0) := Hs20.at hin20 (rfl)
    have p21 : ∀ t, Steps p.tables e below (T16.setTop (mkF m 38 #[.val (.ref x0), .val (.ref x1), .val (.int (0 : Int32))] [(.int y0), (.int el0)])) t → Steps p.tables e below (s₁.setTop (entryFrame m #[(.ref x0), (.ref x1)] 3)) t := fun t k => p19 t (by
      show Steps p.tables e below (T16.setTop (mkF m 37 #[.val (.ref x0), .val (.ref x1), .val (.int (0 : Int32))] [(.int (0 : Int32)), (.ref x1), (.int el0)])) _
      refine X16.baloadBytes hx (j := (0 : Int32)) (v := (.int y0)) (by rw [e16]; exact Ar20.1) (State.isArrayOf_alike hZ.alike Ar20.2.1) Ar20.2.2 hin20 hat20 (g := (mkF m 37 #[.val (.ref x0), .val (.ref x1), .val (.int (0 : Int32))] [(.int (0 : Int32)), (.ref x1), (.int el0)])) rfl rfl (hb hby ds3_37) _ ?_
      exact k)
    by_cases hd0 : el0 = y0
    · have p22 : ∀ t, Steps p.tables e below (T16.setTop (mkF m 20 #[.val (.ref x0), .val (.ref x1), .val (.int ((0 : Int32) + (1 : Int32)))] [(.ref x1), (.int ((0 : Int32) + (1 : Int32)))])) t → Steps p.tables e below (s₁.setTop (entryFrame m #[(.ref x0), (.ref x1)] 3)) t := fun t k => p21 t (by
        show Steps p.tables e below (T16.setTop (mkF m 38 #[.val (.ref x0), .val (.ref x1), .val (.int (0 : Int32))] [(.int y0), (.int el0)])) _
        refine XS.icmpYes X16.here hx rfl (pc0 := 38) (pc' := 43) rfl (hb hby ds3_38) rfl ((teq (hd0)).1) (by decide) (by decide) ?_
        show Steps p.tables e below (T16.setTop (mkF m 43 #[.val (.ref x0), .val (.ref x1), .val (.int (0 : Int32))] [])) _
        refine XS.iinc X16.here hx rfl (hb hby ds3_43) rfl (l' := #[.val (.ref x0), .val (.ref x1), .val (.int ((0 : Int32) + (1 : Int32)))]) rfl ?_
        show Steps p.tables e below (T16.setTop (mkF m 46 #[.val (.ref x0), .val (.ref x1), .val (.int ((0 : Int32) + (1 : Int32)))] [])) _
        refine XS.goto X16.here hx rfl (pc0 := 46) (pc' := 18) rfl (hb hby ds3_46) (by decide) (by decide) ?_
        show Steps p.tables e below (T16.setTop (mkF m 18 #[.val (.ref x0), .val (.ref x1), .val (.int ((0 : Int32) + (1 : Int32)))] [])) _
        refine XS.iloadN X16.here hx rfl (hb hby ds3_18) rfl ?_
        show Steps p.tables e below (T16.setTop (mkF m 19 #[.val (.ref x0), .val (.ref x1), .val (.int ((0 : Int32) + (1 : Int32)))] [(.int ((0 : Int32) + (1 : Int32)))])) _
        refine XS.aloadN X16.here hx rfl (hb hby ds3_19) rfl rfl ?_
        exact k)
      obtain ⟨cl23, Ar23, -, Sz23, Ng23, -, -⟩ := id V0
      have p24 : ∀ t, Steps p.tables e below (T16.setTop (mkF m 25 #[.val (.ref x0), .val (.ref x1), .val (.int ((0 : Int32) + (1 : Int32)))] [(.ref x0)])) t → Steps p.tables e below (s₁.setTop (entryFrame m #[(.ref x0), (.ref x1)] 3)) t := fun t k => p22 t (by
        show Steps p.tables e below (T16.setTop (mkF m 20 #[.val (.ref x0), .val (.ref x1), .val (.int ((0 : Int32) + (1 : Int32)))] [(.ref x1), (.int ((0 : Int32) + (1 : Int32)))])) _
        refine X16.arraylength hx (by rw [e16]; exact Ar23.1) (State.isArrayOf_alike hZ.alike Ar23.2.1) (g := (mkF m 20 #[.val (.ref x0), .val (.ref x1), .val (.int ((0 : Int32) + (1 : Int32)))] [(.ref x1), (.int ((0 : Int32) + (1 : Int32)))])) rfl rfl (hb hby ds3_20) _ ?_
        rw [len_of Sz23 Ng23]
        show Steps p.tables e below (T16.setTop (mkF m 21 #[.val (.ref x0), .val (.ref x1), .val (.int ((0 : Int32) + (1 : Int32)))] [(.int (3 : Int32)), (.int ((0 : Int32) + (1 : Int32)))])) _
        refine XS.icmpNo X16.here hx rfl (hb hby ds3_21) rfl ((tlt (by decide)).2.1) ?_
        show Steps p.tables e below (T16.setTop (mkF m 24 #[.val (.ref x0), .val (.ref x1), .val (.int ((0 : Int32) + (1 : Int32)))] [])) _
        refine XS.aloadN X16.here hx rfl (hb hby ds3_24) rfl rfl ?_
        exact k)
      obtain ⟨T25, X25, e25, st25⟩ := getF X16 hx hZ hown (host := "") (Or.inl (hw _ (List.mem_of_getElem? (i := 16) rfl))) Via.refl e16 F1 (g := (mkF m 25 #[.val (.ref x0), .val (.ref x1), .val (.int ((0 : Int32) + (1 : Int32)))] [(.ref x0)])) rfl rfl (hb hby ds3_25)
      have p26 : ∀ t, Steps p.tables e below (T25.setTop (mkF m 28 #[.val (.ref x0), .val (.ref x1), .val (.int ((0 : Int32) + (1 : Int32)))] [(.ref a_B)])) t → Steps p.tables e below (s₁.setTop (entryFrame m #[(.ref x0), (.ref x1)] 3)) t := fun t k => p24 t (st25 t k)
      have p27 : ∀ t, Steps p.tables e below (T25.setTop (mkF m 29 #[.val (.ref x0), .val (.ref x1), .val (.int ((0 : Int32) + (1 : Int32)))] [(.ref x0), (.ref a_B)])) t → Steps p.tables e below (s₁.setTop (entryFrame m #[(.ref x0), (.ref x1)] 3)) t := fun t k => p26 t (by
        show Steps p.tables e below (T25.setTop (mkF m 28 #[.val (.ref x0), .val (.ref x1), .val (.int ((0 : Int32) + (1 : Int32)))] [(.ref a_B)])) _
        refine XS.aloadN X25.here hx rfl (hb hby ds3_28) rfl rfl ?_
        exact k)
      obtain ⟨T28, X28, e28, st28⟩ := getF X25 hx hZ hown (host := "") (Or.inl (hw _ (List.mem_of_getElem? (i := 25) rfl))) Via.refl e25 F3 (g := (mkF m 29 #[.val (.ref x0), .val (.ref x1), .val (.int ((0 : Int32) + (1 : Int32)))] [(.ref x0), (.ref a_B)])) rfl rfl (hb hby ds3_29)
      have p29 : ∀ t, Steps p.tables e below (T28.setTop (mkF m 32 #[.val (.ref x0), .val (.ref x1), .val (.int ((0 : Int32) + (1 : Int32)))] [(.int kf), (.ref a_B)])) t → Steps p.tables e below (s₁.setTop (entryFrame m #[(.ref x0), (.ref x1)] 3)) t := fun t k => p27 t (st28 t k)
      have p30 : ∀ t, Steps p.tables e below (T28.setTop (mkF m 34 #[.val (.ref x0), .val (.ref x1), .val (.int ((0 : Int32) + (1 : Int32)))] [(.int (kf + ((0 : Int32) + (1 : Int32)))), (.ref a_B)])) t → Steps p.tables e below (s₁.setTop (entryFrame m #[(.ref x0), (.ref x1)] 3)) t := fun t k => p29 t (by
        show Steps p.tables e below (T28.setTop (mkF m 32 #[.val (.ref x0), .val (.ref x1), .val (.int ((0 : Int32) + (1 : Int32)))] [(.int kf), (.ref a_B)])) _
        refine XS.iloadN X28.here hx rfl (hb hby ds3_32) rfl ?_
        show Steps p.tables e below (T28.setTop (mkF m 33 #[.val (.ref x0), .val (.ref x1), .val (.int ((0 : Int32) + (1 : Int32)))] [(.int ((0 : Int32) + (1 : Int32))), (.int kf), (.ref a_B)])) _
        refine XS.iadd X28.here hx rfl (hb hby ds3_33) rfl ?_
        exact k)
      have p31 : ∀ t, Steps p.tables e below (T28.setTop (mkF m 37 #[.val (.ref x0), .val (.ref x1), .val (.int ((0 : Int32) + (1 : Int32)))] [(.int ((0 : Int32) + (1 : Int32))), (.ref x1), (.int el1)])) t → Steps p.tables e below (s₁.setTop (entryFrame m #[(.ref x0), (.ref x1)] 3)) t := fun t k => p30 t (by
        show Steps p.tables e below (T28.setTop (mkF m 34 #[.val (.ref x0), .val (.ref x1), .val (.int ((0 : Int32) + (1 : Int32)))] [(.int (kf + ((0 : Int32) + (1 : Int32)))), (.ref a_B)])) _
        refine X28.baloadBytes hx (j := (kf + ((0 : Int32) + (1 : Int32)))) (v := (.int el1)) (by rw [e28]; exact Ab.1) (State.isArrayOf_alike hZ.alike Ab.2.1) Ab.2.2 (by rw [own_i1]; exact i1) (by rw [own_i1]; exact t1) (g := (mkF m 34 #[.val (.ref x0), .val (.ref x1), .val (.int ((0 : Int32) + (1 : Int32)))] [(.int (kf + ((0 : Int32) + (1 : Int32)))), (.ref a_B)])) rfl rfl (hb hby ds3_34) _ ?_
        show Steps p.tables e below (T28.setTop (mkF m 35 #[.val (.ref x0), .val (.ref x1), .val (.int ((0 : Int32) + (1 : Int32)))] [(.int el1)])) _
        refine XS.aloadN X28.here hx rfl (hb hby ds3_35) rfl rfl ?_
        show Steps p.tables e below (T28.setTop (mkF m 36 #[.val (.ref x0), .val (.ref x1), .val (.int ((0 : Int32) + (1 : Int32)))] [(.ref x1), (.int el1)])) _
        refine XS.iloadN X28.here hx rfl (hb hby ds3_36) rfl ?_
        exact k)
      obtain ⟨cl32, Ar32, q32, Sz32, Ng32, Hs32, G32⟩ := id V0
      have hin32 : ¬ (((0 : Int32) + (1 : Int32)) < 0 ∨ cl32.slots.size ≤ (((0 : Int32) + (1 : Int32))).toNatClampNeg) := inb_of Sz32 ⟨by decide, by decide⟩
      have hat32 : cl32.slots[(((0 : Int32) + (1 : Int32))).toNatClampNeg]? = some (.int y1) := Hs32.at hin32 (rfl)
      have p33 : ∀ t, Steps p.tables e below (T28.setTop (mkF m 38 #[.val (.ref x0), .val (.ref x1), .val (.int ((0 : Int32) + (1 : Int32)))] [(.int y1), (.int el1)])) t → Steps p.tables e below (s₁.setTop (entryFrame m #[(.ref x0), (.ref x1)] 3)) t := fun t k => p31 t (by
        show Steps p.tables e below (T28.setTop (mkF m 37 #[.val (.ref x0), .val (.ref x1), .val (.int ((0 : Int32) + (1 : Int32)))] [(.int ((0 : Int32) + (1 : Int32))), (.ref x1), (.int el1)])) _
        refine X28.baloadBytes hx (j := ((0 : Int32) + (1 : Int32))) (v := (.int y1)) (by rw [e28]; exact Ar32.1) (State.isArrayOf_alike hZ.alike Ar32.2.1) Ar32.2.2 hin32 hat32 (g := (mkF m 37 #[.val (.ref x0), .val (.ref x1), .val (.int ((0 : Int32) + (1 : Int32)))] [(.int ((0 : Int32) + (1 : Int32))), (.ref x1), (.int el1)])) rfl rfl (hb hby ds3_37) _ ?_
        exact k)
      by_cases hd1 : el1 = y1
      · have p34 : ∀ t, Steps p.tables e below (T28.setTop (mkF m 20 #[.val (.ref x0), .val (.ref x1), .val (.int (((0 : Int32) + (1 : Int32)) + (1 : Int32)))] [(.ref x1), (.int (((0 : Int32) + (1 : Int32)) + (1 : Int32)))])) t → Steps p.tables e below (s₁.setTop (entryFrame m #[(.ref x0), (.ref x1)] 3)) t := fun t k => p33 t (by
          show Steps p.tables e below (T28.setTop (mkF m 38 #[.val (.ref x0), .val (.ref x1), .val (.int ((0 : Int32) + (1 : Int32)))] [(.int y1), (.int el1)])) _
          refine XS.icmpYes X28.here hx rfl (pc0 := 38) (pc' := 43) rfl (hb hby ds3_38) rfl ((teq (hd1)).1) (by decide) (by decide) ?_
          show Steps p.tables e below (T28.setTop (mkF m 43 #[.val (.ref x0), .val (.ref x1), .val (.int ((0 : Int32) + (1 : Int32)))] [])) _
          refine XS.iinc X28.here hx rfl (hb hby ds3_43) rfl (l' := #[.val (.ref x0), .val (.ref x1), .val (.int (((0 : Int32) + (1 : Int32)) + (1 : Int32)))]) rfl ?_
          show Steps p.tables e below (T28.setTop (mkF m 46 #[.val (.ref x0), .val (.ref x1), .val (.int (((0 : Int32) + (1 : Int32)) + (1 : Int32)))] [])) _
          refine XS.goto X28.here hx rfl (pc0 := 46) (pc' := 18) rfl (hb hby ds3_46) (by decide) (by decide) ?_
          show Steps p.tables e below (T28.setTop (mkF m 18 #[.val (.ref x0), .val (.ref x1), .val (.int (((0 : Int32) + (1 : Int32)) + (1 : Int32)))] [])) _
          refine XS.iloadN X28.here hx rfl (hb hby ds3_18) rfl ?_
          show Steps p.tables e below (T28.setTop (mkF m 19 #[.val (.ref x0), .val (.ref x1), .val (.int (((0 : Int32) + (1 : Int32)) + (1 : Int32)))] [(.int (((0 : Int32) + (1 : Int32)) + (1 : Int32)))])) _
          refine XS.aloadN X28.here hx rfl (hb hby ds3_19) rfl rfl ?_
          exact k)
        obtain ⟨cl35, Ar35, -, Sz35, Ng35, -, -⟩ := id V0
        have p36 : ∀ t, Steps p.tables e below (T28.setTop (mkF m 25 #[.val (.ref x0), .val (.ref x1), .val (.int (((0 : Int32) + (1 : Int32)) + (1 : Int32)))] [(.ref x0)])) t → Steps p.tables e below (s₁.setTop (entryFrame m #[(.ref x0), (.ref x1)] 3)) t := fun t k => p34 t (by
          show Steps p.tables e below (T28.setTop (mkF m 20 #[.val (.ref x0), .val (.ref x1), .val (.int (((0 : Int32) + (1 : Int32)) + (1 : Int32)))] [(.ref x1), (.int (((0 : Int32) + (1 : Int32)) + (1 : Int32)))])) _
          refine X28.arraylength hx (by rw [e28]; exact Ar35.1) (State.isArrayOf_alike hZ.alike Ar35.2.1) (g := (mkF m 20 #[.val (.ref x0), .val (.ref x1), .val (.int (((0 : Int32) + (1 : Int32)) + (1 : Int32)))] [(.ref x1), (.int (((0 : Int32) + (1 : Int32)) + (1 : Int32)))])) rfl rfl (hb hby ds3_20) _ ?_
          rw [len_of Sz35 Ng35]
          show Steps p.tables e below (T28.setTop (mkF m 21 #[.val (.ref x0), .val (.ref x1), .val (.int (((0 : Int32) + (1 : Int32)) + (1 : Int32)))] [(.int (3 : Int32)), (.int (((0 : Int32) + (1 : Int32)) + (1 : Int32)))])) _
          refine XS.icmpNo X28.here hx rfl (hb hby ds3_21) rfl ((tlt (by decide)).2.1) ?_
          show Steps p.tables e below (T28.setTop (mkF m 24 #[.val (.ref x0), .val (.ref x1), .val (.int (((0 : Int32) + (1 : Int32)) + (1 : Int32)))] [])) _
          refine XS.aloadN X28.here hx rfl (hb hby ds3_24) rfl rfl ?_
          exact k)
        obtain ⟨T37, X37, e37, st37⟩ := getF X28 hx hZ hown (host := "") (Or.inl (hw _ (List.mem_of_getElem? (i := 16) rfl))) Via.refl e28 F1 (g := (mkF m 25 #[.val (.ref x0), .val (.ref x1), .val (.int (((0 : Int32) + (1 : Int32)) + (1 : Int32)))] [(.ref x0)])) rfl rfl (hb hby ds3_25)
        have p38 : ∀ t, Steps p.tables e below (T37.setTop (mkF m 28 #[.val (.ref x0), .val (.ref x1), .val (.int (((0 : Int32) + (1 : Int32)) + (1 : Int32)))] [(.ref a_B)])) t → Steps p.tables e below (s₁.setTop (entryFrame m #[(.ref x0), (.ref x1)] 3)) t := fun t k => p36 t (st37 t k)
        have p39 : ∀ t, Steps p.tables e below (T37.setTop (mkF m 29 #[.val (.ref x0), .val (.ref x1), .val (.int (((0 : Int32) + (1 : Int32)) + (1 : Int32)))] [(.ref x0), (.ref a_B)])) t → Steps p.tables e below (s₁.setTop (entryFrame m #[(.ref x0), (.ref x1)] 3)) t := fun t k => p38 t (by
          show Steps p.tables e below (T37.setTop (mkF m 28 #[.val (.ref x0), .val (.ref x1), .val (.int (((0 : Int32) + (1 : Int32)) + (1 : Int32)))] [(.ref a_B)])) _
          refine XS.aloadN X37.here hx rfl (hb hby ds3_28) rfl rfl ?_
          exact k)
        obtain ⟨T40, X40, e40, st40⟩ := getF X37 hx hZ hown (host := "") (Or.inl (hw _ (List.mem_of_getElem? (i := 25) rfl))) Via.refl e37 F3 (g := (mkF m 29 #[.val (.ref x0), .val (.ref x1), .val (.int (((0 : Int32) + (1 : Int32)) + (1 : Int32)))] [(.ref x0), (.ref a_B)])) rfl rfl (hb hby ds3_29)
        have p41 : ∀ t, Steps p.tables e below (T40.setTop (mkF m 32 #[.val (.ref x0), .val (.ref x1), .val (.int (((0 : Int32) + (1 : Int32)) + (1 : Int32)))] [(.int kf), (.ref a_B)])) t → Steps p.tables e below (s₁.setTop (entryFrame m #[(.ref x0), (.ref x1)] 3)) t := fun t k => p39 t (st40 t k)
        have p42 : ∀ t, Steps p.tables e below (T40.setTop (mkF m 34 #[.val (.ref x0), .val (.ref x1), .val (.int (((0 : Int32) + (1 : Int32)) + (1 : Int32)))] [(.int (kf + (((0 : Int32) + (1 : Int32)) + (1 : Int32)))), (.ref a_B)])) t → Steps p.tables e below (s₁.setTop (entryFrame m #[(.ref x0), (.ref x1)] 3)) t := fun t k => p41 t (by
          show Steps p.tables e below (T40.setTop (mkF m 32 #[.val (.ref x0), .val (.ref x1), .val (.int (((0 : Int32) + (1 : Int32)) + (1 : Int32)))] [(.int kf), (.ref a_B)])) _
          refine XS.iloadN X40.here hx rfl (hb hby ds3_32) rfl ?_
          show Steps p.tables e below (T40.setTop (mkF m 33 #[.val (.ref x0), .val (.ref x1), .val (.int (((0 : Int32) + (1 : Int32)) + (1 : Int32)))] [(.int (((0 : Int32) + (1 : Int32)) + (1 : Int32))), (.int kf), (.ref a_B)])) _
          refine XS.iadd X40.here hx rfl (hb hby ds3_33) rfl ?_
          exact k)
        have p43 : ∀ t, Steps p.tables e below (T40.setTop (mkF m 37 #[.val (.ref x0), .val (.ref x1), .val (.int (((0 : Int32) + (1 : Int32)) + (1 : Int32)))] [(.int (((0 : Int32) + (1 : Int32)) + (1 : Int32))), (.ref x1), (.int el2)])) t → Steps p.tables e below (s₁.setTop (entryFrame m #[(.ref x0), (.ref x1)] 3)) t := fun t k => p42 t (by
          show Steps p.tables e below (T40.setTop (mkF m 34 #[.val (.ref x0), .val (.ref x1), .val (.int (((0 : Int32) + (1 : Int32)) + (1 : Int32)))] [(.int (kf + (((0 : Int32) + (1 : Int32)) + (1 : Int32)))), (.ref a_B)])) _
          refine X40.baloadBytes hx (j := (kf + (((0 : Int32) + (1 : Int32)) + (1 : Int32)))) (v := (.int el2)) (by rw [e40]; exact Ab.1) (State.isArrayOf_alike hZ.alike Ab.2.1) Ab.2.2 (by rw [own_i2]; exact i2) (by rw [own_i2]; exact t2) (g := (mkF m 34 #[.val (.ref x0), .val (.ref x1), .val (.int (((0 : Int32) + (1 : Int32)) + (1 : Int32)))] [(.int (kf + (((0 : Int32) + (1 : Int32)) + (1 : Int32)))), (.ref a_B)])) rfl rfl (hb hby ds3_34) _ ?_
          show Steps p.tables e below (T40.setTop (mkF m 35 #[.val (.ref x0), .val (.ref x1), .val (.int (((0 : Int32) + (1 : Int32)) + (1 : Int32)))] [(.int el2)])) _
          refine XS.aloadN X40.here hx rfl (hb hby ds3_35) rfl rfl ?_
          show Steps p.tables e below (T40.setTop (mkF m 36 #[.val (.ref x0), .val (.ref x1), .val (.int (((0 : Int32) + (1 : Int32)) + (1 : Int32)))] [(.ref x1), (.int el2)])) _
          refine XS.iloadN X40.here hx rfl (hb hby ds3_36) rfl ?_
          exact k)
        obtain ⟨cl44, Ar44, q44, Sz44, Ng44, Hs44, G44⟩ := id V0
        have hin44 : ¬ ((((0 : Int32) + (1 : Int32)) + (1 : Int32)) < 0 ∨ cl44.slots.size ≤ ((((0 : Int32) + (1 : Int32)) + (1 : Int32))).toNatClampNeg) := inb_of Sz44 ⟨by decide, by decide⟩
        have hat44 : cl44.slots[((((0 : Int32) + (1 : Int32)) + (1 : Int32))).toNatClampNeg]? = some (.int y2) := Hs44.at hin44 (rfl)
        have p45 : ∀ t, Steps p.tables e below (T40.setTop (mkF m 38 #[.val (.ref x0), .val (.ref x1), .val (.int (((0 : Int32) + (1 : Int32)) + (1 : Int32)))] [(.int y2), (.int el2)])) t → Steps p.tables e below (s₁.setTop (entryFrame m #[(.ref x0), (.ref x1)] 3)) t := fun t k => p43 t (by
          show Steps p.tables e below (T40.setTop (mkF m 37 #[.val (.ref x0), .val (.ref x1), .val (.int (((0 : Int32) + (1 : Int32)) + (1 : Int32)))] [(.int (((0 : Int32) + (1 : Int32)) + (1 : Int32))), (.ref x1), (.int el2)])) _
          refine X40.baloadBytes hx (j := (((0 : Int32) + (1 : Int32)) + (1 : Int32))) (v := (.int y2)) (by rw [e40]; exact Ar44.1) (State.isArrayOf_alike hZ.alike Ar44.2.1) Ar44.2.2 hin44 hat44 (g := (mkF m 37 #[.val (.ref x0), .val (.ref x1), .val (.int (((0 : Int32) + (1 : Int32)) + (1 : Int32)))] [(.int (((0 : Int32) + (1 : Int32)) + (1 : Int32))), (.ref x1), (.int el2)])) rfl rfl (hb hby ds3_37) _ ?_
          exact k)
        by_cases hd2 : el2 = y2
        · have p46 : ∀ t, Steps p.tables e below (T40.setTop (mkF m 20 #[.val (.ref x0), .val (.ref x1), .val (.int ((((0 : Int32) + (1 : Int32)) + (1 : Int32)) + (1 : Int32)))] [(.ref x1), (.int ((((0 : Int32) + (1 : Int32)) + (1 : Int32)) + (1 : Int32)))])) t → Steps p.tables e below (s₁.setTop (entryFrame m #[(.ref x0), (.ref x1)] 3)) t := fun t k => p45 t (by
            show Steps p.tables e below (T40.setTop (mkF m 38 #[.val (.ref x0), .val (.ref x1), .val (.int (((0 : Int32) + (1 : Int32)) + (1 : Int32)))] [(.int y2), (.int el2)])) _
            refine XS.icmpYes X40.here hx rfl (pc0 := 38) (pc' := 43) rfl (hb hby ds3_38) rfl ((teq (hd2)).1) (by decide) (by decide) ?_
            show Steps p.tables e below (T40.setTop (mkF m 43 #[.val (.ref x0), .val (.ref x1), .val (.int (((0 : Int32) + (1 : Int32)) + (1 : Int32)))] [])) _
            refine XS.iinc X40.here hx rfl (hb hby ds3_43) rfl (l' := #[.val (.ref x0), .val (.ref x1), .val (.int ((((0 : Int32) + (1 : Int32)) + (1 : Int32)) + (1 : Int32)))]) rfl ?_
            show Steps p.tables e below (T40.setTop (mkF m 46 #[.val (.ref x0), .val (.ref x1), .val (.int ((((0 : Int32) + (1 : Int32)) + (1 : Int32)) + (1 : Int32)))] [])) _
            refine XS.goto X40.here hx rfl (pc0 := 46) (pc' := 18) rfl (hb hby ds3_46) (by decide) (by decide) ?_
            show Steps p.tables e below (T40.setTop (mkF m 18 #[.val (.ref x0), .val (.ref x1), .val (.int ((((0 : Int32) + (1 : Int32)) + (1 : Int32)) + (1 : Int32)))] [])) _
            refine XS.iloadN X40.here hx rfl (hb hby ds3_18) rfl ?_
            show Steps p.tables e below (T40.setTop (mkF m 19 #[.val (.ref x0), .val (.ref x1), .val (.int ((((0 : Int32) + (1 : Int32)) + (1 : Int32)) + (1 : Int32)))] [(.int ((((0 : Int32) + (1 : Int32)) + (1 : Int32)) + (1 : Int32)))])) _
            refine XS.aloadN X40.here hx rfl (hb hby ds3_19) rfl rfl ?_
            exact k)
          obtain ⟨cl47, Ar47, -, Sz47, Ng47, -, -⟩ := id V0
          have p48 : ∀ t, Steps p.tables e below (T40.setTop (mkF m 50 #[.val (.ref x0), .val (.ref x1), .val (.int ((((0 : Int32) + (1 : Int32)) + (1 : Int32)) + (1 : Int32)))] [(.int (1 : Int32))])) t → Steps p.tables e below (s₁.setTop (entryFrame m #[(.ref x0), (.ref x1)] 3)) t := fun t k => p46 t (by
            show Steps p.tables e below (T40.setTop (mkF m 20 #[.val (.ref x0), .val (.ref x1), .val (.int ((((0 : Int32) + (1 : Int32)) + (1 : Int32)) + (1 : Int32)))] [(.ref x1), (.int ((((0 : Int32) + (1 : Int32)) + (1 : Int32)) + (1 : Int32)))])) _
            refine X40.arraylength hx (by rw [e40]; exact Ar47.1) (State.isArrayOf_alike hZ.alike Ar47.2.1) (g := (mkF m 20 #[.val (.ref x0), .val (.ref x1), .val (.int ((((0 : Int32) + (1 : Int32)) + (1 : Int32)) + (1 : Int32)))] [(.ref x1), (.int ((((0 : Int32) + (1 : Int32)) + (1 : Int32)) + (1 : Int32)))])) rfl rfl (hb hby ds3_20) _ ?_
            rw [len_of Sz47 Ng47]
            show Steps p.tables e below (T40.setTop (mkF m 21 #[.val (.ref x0), .val (.ref x1), .val (.int ((((0 : Int32) + (1 : Int32)) + (1 : Int32)) + (1 : Int32)))] [(.int (3 : Int32)), (.int ((((0 : Int32) + (1 : Int32)) + (1 : Int32)) + (1 : Int32)))])) _
            refine XS.icmpYes X40.here hx rfl (pc0 := 21) (pc' := 49) rfl (hb hby ds3_21) rfl ((flt (by decide)).2.1) (by decide) (by decide) ?_
            show Steps p.tables e below (T40.setTop (mkF m 49 #[.val (.ref x0), .val (.ref x1), .val (.int ((((0 : Int32) + (1 : Int32)) + (1 : Int32)) + (1 : Int32)))] [])) _
            refine XS.iconst X40.here hx rfl (hb hby ds3_49) ?_
            exact k)
          obtain ⟨fs, hr, hrun, hended, hW, hsame⟩ := X40.leave (v := some (.int (1 : Int32))) (fun h => by rw [Bd.returns] at h; cases h)
          refine ⟨_, _, p48 _ ?_, hrun, hended, _, _, rfl, ?_, ⟨_, rfl⟩, hW, hsame.mono (by decide) (by decide)⟩
          · show Steps p.tables e below (T40.setTop (mkF m 50 #[.val (.ref x0), .val (.ref x1), .val (.int ((((0 : Int32) + (1 : Int32)) + (1 : Int32)) + (1 : Int32)))] [(.int (1 : Int32))])) _
            exact retN X40 hx (t := .boolean) Bd.returns (by simp) (hb hby ds3_50) hr
          · show Qs3 Z x0 x1 a_B kk kt kf el0 el1 el2 y0 y1 y2 h0 n0 _ T40.heap _
            rw [e40]
            exact ⟨by unfold own_is3; rw [if_pos hc11, if_pos hd0, if_pos hd1, if_pos hd2], N0, rfl⟩
        · have p49 : ∀ t, Steps p.tables e below (T40.setTop (mkF m 42 #[.val (.ref x0), .val (.ref x1), .val (.int (((0 : Int32) + (1 : Int32)) + (1 : Int32)))] [(.int (0 : Int32))])) t → Steps p.tables e below (s₁.setTop (entryFrame m #[(.ref x0), (.ref x1)] 3)) t := fun t k => p45 t (by
            show Steps p.tables e below (T40.setTop (mkF m 38 #[.val (.ref x0), .val (.ref x1), .val (.int (((0 : Int32) + (1 : Int32)) + (1 : Int32)))] [(.int y2), (.int el2)])) _
            refine XS.icmpNo X40.here hx rfl (hb hby ds3_38) rfl ((feq (hd2)).1) ?_
            show Steps p.tables e below (T40.setTop (mkF m 41 #[.val (.ref x0), .val (.ref x1), .val (.int (((0 : Int32) + (1 : Int32)) + (1 : Int32)))] [])) _
            refine XS.iconst X40.here hx rfl (hb hby ds3_41) ?_
            exact k)
          obtain ⟨fs, hr, hrun, hended, hW, hsame⟩ := X40.leave (v := some (.int (0 : Int32))) (fun h => by rw [Bd.returns] at h; cases h)
          refine ⟨_, _, p49 _ ?_, hrun, hended, _, _, rfl, ?_, ⟨_, rfl⟩, hW, hsame.mono (by decide) (by decide)⟩
          · show Steps p.tables e below (T40.setTop (mkF m 42 #[.val (.ref x0), .val (.ref x1), .val (.int (((0 : Int32) + (1 : Int32)) + (1 : Int32)))] [(.int (0 : Int32))])) _
            exact retN X40 hx (t := .boolean) Bd.returns (by simp) (hb hby ds3_42) hr
          · show Qs3 Z x0 x1 a_B kk kt kf el0 el1 el2 y0 y1 y2 h0 n0 _ T40.heap _
            rw [e40]
            exact ⟨by unfold own_is3; rw [if_pos hc11, if_pos hd0, if_pos hd1, if_neg hd2], N0, rfl⟩
      · have p50 : ∀ t, Steps p.tables e below (T28.setTop (mkF m 42 #[.val (.ref x0), .val (.ref x1), .val (.int ((0 : Int32) + (1 : Int32)))] [(.int (0 : Int32))])) t → Steps p.tables e below (s₁.setTop (entryFrame m #[(.ref x0), (.ref x1)] 3)) t := fun t k => p33 t (by
          show Steps p.tables e below (T28.setTop (mkF m 38 #[.val (.ref x0), .val (.ref x1), .val (.int ((0 : Int32) + (1 : Int32)))] [(.int y1), (.int el1)])) _
          refine XS.icmpNo X28.here hx rfl (hb hby ds3_38) rfl ((feq (hd1)).1) ?_
          show Steps p.tables e below (T28.setTop (mkF m 41 #[.val (.ref x0), .val (.ref x1), .val (.int ((0 : Int32) + (1 : Int32)))] [])) _
          refine XS.iconst X28.here hx rfl (hb hby ds3_41) ?_
          exact k)
        obtain ⟨fs, hr, hrun, hended, hW, hsame⟩ := X28.leave (v := some (.int (0 : Int32))) (fun h => by rw [Bd.returns] at h; cases h)
        refine ⟨_, _, p50 _ ?_, hrun, hended, _, _, rfl, ?_, ⟨_, rfl⟩, hW, hsame.mono (by decide) (by decide)⟩
        · show Steps p.tables e below (T28.setTop (mkF m 42 #[.val (.ref x0), .val (.ref x1), .val (.int ((0 : Int32) + (1 : Int32)))] [(.int (0 : Int32))])) _
          exact retN X28 hx (t := .boolean) Bd.returns (by simp) (hb hby ds3_42) hr
        · show Qs3 Z x0 x1 a_B kk kt kf el0 el1 el2 y0 y1 y2 h0 n0 _ T28.heap _
          rw [e28]
          exact ⟨by unfold own_is3; rw [if_pos hc11, if_pos hd0, if_neg hd1], N0, rfl⟩
    · have p51 : ∀ t, Steps p.tables e below (T16.setTop (mkF m 42 #[.val (.ref x0), .val (.ref x1), .val (.int (0 : Int32))] [(.int (0 : Int32))])) t → Steps p.tables e below (s₁.setTop (entryFrame m #[(.ref x0), (.ref x1)] 3)) t := fun t k => p21 t (by
        show Steps p.tables e below (T16.setTop (mkF m 38 #[.val (.ref x0), .val (.ref x1), .val (.int (0 : Int32))] [(.int y0), (.int el0)])) _
        refine XS.icmpNo X16.here hx rfl (hb hby ds3_38) rfl ((feq (hd0)).1) ?_
        show Steps p.tables e below (T16.setTop (mkF m 41 #[.val (.ref x0), .val (.ref x1), .val (.int (0 : Int32))] [])) _
        refine XS.iconst X16.here hx rfl (hb hby ds3_41) ?_
        exact k)
      obtain ⟨fs, hr, hrun, hended, hW, hsame⟩ := X16.leave (v := some (.int (0 : Int32))) (fun h => by rw [Bd.returns] at h; cases h)
      refine ⟨_, _, p51 _ ?_, hrun, hended, _, _, rfl, ?_, ⟨_, rfl⟩, hW, hsame.mono (by decide) (by decide)⟩
      · show Steps p.tables e below (T16.setTop (mkF m 42 #[.val (.ref x0), .val (.ref x1), .val (.int (0 : Int32))] [(.int (0 : Int32))])) _
        exact retN X16 hx (t := .boolean) Bd.returns (by simp) (hb hby ds3_42) hr
      · show Qs3 Z x0 x1 a_B kk kt kf el0 el1 el2 y0 y1 y2 h0 n0 _ T16.heap _
        rw [e16]
        exact ⟨by unfold own_is3; rw [if_pos hc11, if_neg hd0], N0, rfl⟩
  · have p52 : ∀ t, Steps p.tables e below (T5.setTop (mkF m 15 #[.val (.ref x0), .val (.ref x1), .unset] [(.int (0 : Int32))])) t → Steps p.tables e below (s₁.setTop (entryFrame m #[(.ref x0), (.ref x1)] 3)) t := fun t k => p9 t (by
      show Steps p.tables e below (T5.setTop (mkF m 11 #[.val (.ref x0), .val (.ref x1), .unset] [(.int (3 : Int32)), (.int (kt - kf))])) _
      refine XS.icmpNo X5.here hx rfl (hb hby ds3_11) rfl ((feq (hc11)).1) ?_
      show Steps p.tables e below (T5.setTop (mkF m 14 #[.val (.ref x0), .val (.ref x1), .unset] [])) _
      refine XS.iconst X5.here hx rfl (hb hby ds3_14) ?_
      exact k)
    obtain ⟨fs, hr, hrun, hended, hW, hsame⟩ := X5.leave (v := some (.int (0 : Int32))) (fun h => by rw [Bd.returns] at h; cases h)
    refine ⟨_, _, p52 _ ?_, hrun, hended, _, _, rfl, ?_, ⟨_, rfl⟩, hW, hsame.mono (by decide) (by decide)⟩
    · show Steps p.tables e below (T5.setTop (mkF m 15 #[.val (.ref x0), .val (.ref x1), .unset] [(.int (0 : Int32))])) _
      exact retN X5 hx (t := .boolean) Bd.returns (by simp) (hb hby ds3_15) hr
    · show Qs3 Z x0 x1 a_B kk kt kf el0 el1 el2 y0 y1 y2 h0 n0 _ T5.heap _
      rw [e5]
      exact ⟨by unfold own_is3; rw [if_neg hc11], N0, rfl⟩
theorem pn0 : plainName "com/example/kinwarden/kinwarden/NameBytesIsPinLaw" = true := by first | (simp [plainName, overriddenIn]; done) | decide +kernel
theorem pd0_0 : parseMethodDescriptor "(IBBB)[B" = some ⟨[.int, .byte, .byte, .byte], some (.array .byte)⟩ := by decide +kernel
theorem pd0_1 : parseMethodDescriptor "()V" = some ⟨[], none⟩ := by decide +kernel
theorem pd0_2 : parseMethodDescriptor "([BII)V" = some ⟨[(.array .byte), .int, .int], none⟩ := by decide +kernel
theorem pd0_3 : parseMethodDescriptor "([B)Z" = some ⟨[(.array .byte)], some .boolean⟩ := by decide +kernel
theorem pd0_4 : parseMethodDescriptor "()I" = some ⟨[], some .int⟩ := by decide +kernel
theorem ef0 (m : MethodId) (x0 : Int64) (x1 : Int32) (x2 : Int64) : entryFrame m #[(.long x0), (.int x1), (.long x2)] maxLocals = mkF m 0 #[.val (.long x0), .second, .val (.int x1), .val (.long x2), .second, .unset, .unset, .unset, .unset, .unset, .unset, .unset, .unset, .unset, .unset, .unset, .unset] [] := by first | (simp [entryFrame, mkF, argsToLocals, Value.category, maxLocals]; done) | rfl
def Q0 (Z : State) (x0 : Int64) (x1 : Int32) (x2 : Int64) (a_E : Addr) (h0 : Heap) (n0 : Nat) (v : Option Value) (h : Heap) (L : List Loc) : Prop := v = some (.int (1 : Int32)) ∧ Fr n0 L
set_option maxRecDepth 65536 in
set_option maxHeartbeats 40000000 in
theorem rm0 (l : Launch) (Z : State) (a0 : Array Value) (hw : ∀ d ∈ tables_1, d.before a0 Z = true) (ws : List Jvm.Cond) (x0 : Int64) (x1 : Int32) (x2 : Int64) (a_E : Addr) (h0 : Heap) (n0 : Nat) (Z0 : n0 ≤ h0.size) (O0 : Old Z n0 h0) (S0 : Sta Z Z.heap "com/example/kinwarden/kinwarden/NameBytes" "EMPTY" "[B" (.ref a_E)) :
    MetFree l x (head1 (Jvm.Cond.code x code maxLocals ret :: ws) room_1) (fun a U => a = #[(.long x0), (.int x1), (.long x2)] ∧ Z.Warmed39 U.vm ∧ U.heap = h0) (fun _ _ _ _ _ => True) (fun _ U o U' => ∃ v L, o = .returned v ∧ Q0 Z x0 x1 x2 a_E h0 n0 v U'.heap L ∧ FrameEnd U o U' L room_1.cells room_1.slots) := by
  refine MetFree.of_bodySF (plainFor_of_name pn0) hisR ?_
  intro p e s m args below meth c s₁ Bd hml0 hP hK
  obtain ⟨rfl, hZ, hh⟩ := hP
  have hx := Bd.exec
  have hby := Bd.bytes
  have hml : c.maxLocals = 17 := hml0
  have hown : s.vm.findClass "com/example/kinwarden/kinwarden/NameBytesIsPinLaw" = some m.cls := findClass_of_methodNamed Bd.named
  have hnm := (name_of_methodNamed Bd.named Bd.method).1
  have X0 : Stand p l e room_1 s m #[(.long x0), (.int x1), (.long x2)] below meth c s₁ [] 0 0 := Stand.of_body Bd
  have e0 : s₁.heap = h0 := by rw [← hh, Bd.state]; rfl
  have N0 := Fr.nil n0
  have pre0 : ∀ t, Steps p.tables e below (s₁.setTop (mkF m 0 #[.val (.long x0), .second, .val (.int x1), .val (.long x2), .second, .unset, .unset, .unset, .unset, .unset, .unset, .unset, .unset, .unset, .unset, .unset, .unset] [])) t → Steps p.tables e below (s₁.setTop (entryFrame m #[(.long x0), (.int x1), (.long x2)] maxLocals)) t := fun t k => castTop (ef0 m x0 x1 x2) k
  have p1 : ∀ t, Steps p.tables e below (s₁.setTop (mkF m 2 #[.val (.long x0), .second, .val (.int x1), .val (.long x2), .second, .unset, .unset, .unset, .unset, .unset, .unset, .unset, .unset, .unset, .unset, .unset, .unset] [(.int (6 : Int32))])) t → Steps p.tables e below (s₁.setTop (entryFrame m #[(.long x0), (.int x1), (.long x2)] maxLocals)) t := fun t k => pre0 t (by
    show Steps p.tables e below (s₁.setTop (mkF m 0 #[.val (.long x0), .second, .val (.int x1), .val (.long x2), .second, .unset, .unset, .unset, .unset, .unset, .unset, .unset, .unset, .unset, .unset, .unset, .unset] [])) _
    refine XS.bipush X0.here hx rfl (hb hby at_0) ?_
    exact k)
  obtain ⟨T2, h2, k2, X2, e2, E2, A2, st2⟩ := newP X0 hx hZ (hw _ (List.mem_of_getElem? (i := 0) rfl)) e0 (g := (mkF m 2 #[.val (.long x0), .second, .val (.int x1), .val (.long x2), .second, .unset, .unset, .unset, .unset, .unset, .unset, .unset, .unset, .unset, .unset, .unset, .unset] [(.int (6 : Int32))])) rfl (hb hby at_2) rfl (by decide) (cap := 6) (by decide) (by decide) (by decide) (by decide)
  obtain ⟨b2, g2⟩ : ∃ z, z = h0.size := ⟨_, rfl⟩
  rw [← g2] at A2 st2
  have gn_b2 : n0 ≤ b2 := Nat.le_trans Z0 (Nat.le_of_eq g2.symm)
  have f3 := O0.ext E2
  have Z2 := Nat.le_trans Z0 E2.1
  have VV2 : Arv Z h2 b2 k2 .byte (6 : Int32) [(.int (0 : Int32)), (.int (0 : Int32)), (.int (0 : Int32)), (.int (0 : Int32)), (.int (0 : Int32)), (.int (0 : Int32))] (.int (0 : Int32)) := (Arv.new A2 (by decide)).pad (pad_rep [] (.int (0 : Int32)) 6)
  have p4 : ∀ t, Steps p.tables e below (T2.setTop (mkF m 4 #[.val (.long x0), .second, .val (.int x1), .val (.long x2), .second, .unset, .unset, .unset, .unset, .unset, .unset, .unset, .unset, .unset, .unset, .unset, .unset] [(.ref b2)])) t → Steps p.tables e below (s₁.setTop (entryFrame m #[(.long x0), (.int x1), (.long x2)] maxLocals)) t := fun t k => p1 t (st2 t k)
  have p5 : ∀ t, Steps p.tables e below (T2.setTop (mkF m 12 #[.val (.long x0), .second, .val (.int x1), .val (.long x2), .second, .val (.ref b2), .unset, .unset, .unset, .unset, .unset, .unset, .unset, .unset, .unset, .unset, .unset] [(.int ((x0.toInt32).toInt8.toInt32)), (.int (0 : Int32)), (.ref b2)])) t → Steps p.tables e below (s₁.setTop (entryFrame m #[(.long x0), (.int x1), (.long x2)] maxLocals)) t := fun t k => p4 t (by
    show Steps p.tables e below (T2.setTop (mkF m 4 #[.val (.long x0), .second, .val (.int x1), .val (.long x2), .second, .unset, .unset, .unset, .unset, .unset, .unset, .unset, .unset, .unset, .unset, .unset, .unset] [(.ref b2)])) _
    refine XS.astore X2.here hx rfl (hb hby at_4) rfl rfl (l' := #[.val (.long x0), .second, .val (.int x1), .val (.long x2), .second, .val (.ref b2), .unset, .unset, .unset, .unset, .unset, .unset, .unset, .unset, .unset, .unset, .unset]) rfl ?_
    show Steps p.tables e below (T2.setTop (mkF m 6 #[.val (.long x0), .second, .val (.int x1), .val (.long x2), .second, .val (.ref b2), .unset, .unset, .unset, .unset, .unset, .unset, .unset, .unset, .unset, .unset, .unset] [])) _
    refine XS.aload X2.here hx rfl (hb hby at_6) rfl rfl ?_
    show Steps p.tables e below (T2.setTop (mkF m 8 #[.val (.long x0), .second, .val (.int x1), .val (.long x2), .second, .val (.ref b2), .unset, .unset, .unset, .unset, .unset, .unset, .unset, .unset, .unset, .unset, .unset] [(.ref b2)])) _
    refine XS.iconst X2.here hx rfl (hb hby at_8) ?_
    show Steps p.tables e below (T2.setTop (mkF m 9 #[.val (.long x0), .second, .val (.int x1), .val (.long x2), .second, .val (.ref b2), .unset, .unset, .unset, .unset, .unset, .unset, .unset, .unset, .unset, .unset, .unset] [(.int (0 : Int32)), (.ref b2)])) _
    refine XS.lloadN X2.here hx rfl (hb hby at_9) rfl ?_
    show Steps p.tables e below (T2.setTop (mkF m 10 #[.val (.long x0), .second, .val (.int x1), .val (.long x2), .second, .val (.ref b2), .unset, .unset, .unset, .unset, .unset, .unset, .unset, .unset, .unset, .unset, .unset] [(.long x0), (.int (0 : Int32)), (.ref b2)])) _
    refine XS.l2i X2.here hx rfl (hb hby at_10) rfl ?_
    show Steps p.tables e below (T2.setTop (mkF m 11 #[.val (.long x0), .second, .val (.int x1), .val (.long x2), .second, .val (.ref b2), .unset, .unset, .unset, .unset, .unset, .unset, .unset, .unset, .unset, .unset, .unset] [(.int (x0.toInt32)), (.int (0 : Int32)), (.ref b2)])) _
    refine XS.i2b X2.here hx rfl (hb hby at_11) rfl ?_
    exact k)
  obtain ⟨cl6, Ar6, q6, Sz6, Ng6, Hs6, G6⟩ := id VV2
  have hin6 : ¬ ((0 : Int32) < 0 ∨ cl6.slots.size ≤ ((0 : Int32)).toNatClampNeg) := inb_of Sz6 (⟨by decide, by decide⟩)
  obtain ⟨T6, h6, X6, e6, W6, st6⟩ := stB X2 hx hZ e2 Ar6 (j := (0 : Int32)) hin6 (g := (mkF m 12 #[.val (.long x0), .second, .val (.int x1), .val (.long x2), .second, .val (.ref b2), .unset, .unset, .unset, .unset, .unset, .unset, .unset, .unset, .unset, .unset, .unset] [(.int ((x0.toInt32).toInt8.toInt32)), (.int (0 : Int32)), (.ref b2)])) rfl rfl (hb hby at_12)
  have VV6 : Arv Z h6 b2 k2 .byte (6 : Int32) [(.int (((x0.toInt32).toInt8.toInt32).toInt8.toInt32)), (.int (0 : Int32)), (.int (0 : Int32)), (.int (0 : Int32)), (.int (0 : Int32)), (.int (0 : Int32))] (.int (0 : Int32)) := Arv.set Ar6 q6 Sz6 Ng6 Hs6 G6 (fits_nar_byte _) W6 0 (by decide) (Nat.le_of_ble_eq_true rfl)
  have f7 := f3.wr W6 gn_b2
  have Z6 := Nat.le_trans Z2 (Keep.of_wr W6).1
  have N6 := Fr.snoc X6 N0 gn_b2
  have p8 : ∀ t, Steps p.tables e below (T6.setTop (mkF m 13 #[.val (.long x0), .second, .val (.int x1), .val (.long x2), .second, .val (.ref b2), .unset, .unset, .unset, .unset, .unset, .unset, .unset, .unset, .unset, .unset, .unset] [])) t → Steps p.tables e below (s₁.setTop (entryFrame m #[(.long x0), (.int x1), (.long x2)] maxLocals)) t := fun t k => p5 t (st6 t k)
  have p9 : ∀ t, Steps p.tables e below (T6.setTop (mkF m 22 #[.val (.long x0), .second, .val (.int x1), .val (.long x2), .second, .val (.ref b2), .unset, .unset, .unset, .unset, .unset, .unset, .unset, .unset, .unset, .unset, .unset] [(.int ((((x0.toUInt64 >>> ((8 : Int32) &&& 0x3f).toInt64.toUInt64).toInt64).toInt32).toInt8.toInt32)), (.int (1 : Int32)), (.ref b2)])) t → Steps p.tables e below (s₁.setTop (entryFrame m #[(.long x0), (.int x1), (.long x2)] maxLocals)) t := fun t k => p8 t (by
    show Steps p.tables e below (T6.setTop (mkF m 13 #[.val (.long x0), .second, .val (.int x1), .val (.long x2), .second, .val (.ref b2), .unset, .unset, .unset, .unset, .unset, .unset, .unset, .unset, .unset, .unset, .unset] [])) _
    refine XS.aload X6.here hx rfl (hb hby at_13) rfl rfl ?_
    show Steps p.tables e below (T6.setTop (mkF m 15 #[.val (.long x0), .second, .val (.int x1), .val (.long x2), .second, .val (.ref b2), .unset, .unset, .unset, .unset, .unset, .unset, .unset, .unset, .unset, .unset, .unset] [(.ref b2)])) _
    refine XS.iconst X6.here hx rfl (hb hby at_15) ?_
    show Steps p.tables e below (T6.setTop (mkF m 16 #[.val (.long x0), .second, .val (.int x1), .val (.long x2), .second, .val (.ref b2), .unset, .unset, .unset, .unset, .unset, .unset, .unset, .unset, .unset, .unset, .unset] [(.int (1 : Int32)), (.ref b2)])) _
    refine XS.lloadN X6.here hx rfl (hb hby at_16) rfl ?_
    show Steps p.tables e below (T6.setTop (mkF m 17 #[.val (.long x0), .second, .val (.int x1), .val (.long x2), .second, .val (.ref b2), .unset, .unset, .unset, .unset, .unset, .unset, .unset, .unset, .unset, .unset, .unset] [(.long x0), (.int (1 : Int32)), (.ref b2)])) _
    refine XS.bipush X6.here hx rfl (hb hby at_17) ?_
    show Steps p.tables e below (T6.setTop (mkF m 19 #[.val (.long x0), .second, .val (.int x1), .val (.long x2), .second, .val (.ref b2), .unset, .unset, .unset, .unset, .unset, .unset, .unset, .unset, .unset, .unset, .unset] [(.int (8 : Int32)), (.long x0), (.int (1 : Int32)), (.ref b2)])) _
    refine XS.lushr X6.here hx rfl (hb hby at_19) rfl ?_
    show Steps p.tables e below (T6.setTop (mkF m 20 #[.val (.long x0), .second, .val (.int x1), .val (.long x2), .second, .val (.ref b2), .unset, .unset, .unset, .unset, .unset, .unset, .unset, .unset, .unset, .unset, .unset] [(.long ((x0.toUInt64 >>> ((8 : Int32) &&& 0x3f).toInt64.toUInt64).toInt64)), (.int (1 : Int32)), (.ref b2)])) _
    refine XS.l2i X6.here hx rfl (hb hby at_20) rfl ?_
    show Steps p.tables e below (T6.setTop (mkF m 21 #[.val (.long x0), .second, .val (.int x1), .val (.long x2), .second, .val (.ref b2), .unset, .unset, .unset, .unset, .unset, .unset, .unset, .unset, .unset, .unset, .unset] [(.int (((x0.toUInt64 >>> ((8 : Int32) &&& 0x3f).toInt64.toUInt64).toInt64).toInt32)), (.int (1 : Int32)), (.ref b2)])) _
    refine XS.i2b X6.here hx rfl (hb hby at_21) rfl ?_
    exact k)
  obtain ⟨cl10, Ar10, q10, Sz10, Ng10, Hs10, G10⟩ := id VV6
  have hin10 : ¬ ((1 : Int32) < 0 ∨ cl10.slots.size ≤ ((1 : Int32)).toNatClampNeg) := inb_of Sz10 (⟨by decide, by decide⟩)
  obtain ⟨T10, h10, X10, e10, W10, st10⟩ := stB X6 hx hZ e6 Ar10 (j := (1 : Int32)) hin10 (g := (mkF m 22 #[.val (.long x0), .second, .val (.int x1), .val (.long x2), .second, .val (.ref b2), .unset, .unset, .unset, .unset, .unset, .unset, .unset, .unset, .unset, .unset, .unset] [(.int ((((x0.toUInt64 >>> ((8 : Int32) &&& 0x3f).toInt64.toUInt64).toInt64).toInt32).toInt8.toInt32)), (.int (1 : Int32)), (.ref b2)])) rfl rfl (hb hby at_22)
  have VV10 : Arv Z h10 b2 k2 .byte (6 : Int32) [(.int (((x0.toInt32).toInt8.toInt32).toInt8.toInt32)), (.int (((((x0.toUInt64 >>> ((8 : Int32) &&& 0x3f).toInt64.toUInt64).toInt64).toInt32).toInt8.toInt32).toInt8.toInt32)), (.int (0 : Int32)), (.int (0 : Int32)), (.int (0 : Int32)), (.int (0 : Int32))] (.int (0 : Int32)) := Arv.set Ar10 q10 Sz10 Ng10 Hs10 G10 (fits_nar_byte _) W10 1 (by decide) (Nat.le_of_ble_eq_true rfl)
  have f11 := f7.wr W10 gn_b2
  have Z10 := Nat.le_trans Z6 (Keep.of_wr W10).1
  have N10 := Fr.snoc X10 N6 gn_b2
  have p12 : ∀ t, Steps p.tables e below (T10.setTop (mkF m 23 #[.val (.long x0), .second, .val (.int x1), .val (.long x2), .second, .val (.ref b2), .unset, .unset, .unset, .unset, .unset, .unset, .unset, .unset, .unset, .unset, .unset] [])) t → Steps p.tables e below (s₁.setTop (entryFrame m #[(.long x0), (.int x1), (.long x2)] maxLocals)) t := fun t k => p9 t (st10 t k)
  have p13 : ∀ t, Steps p.tables e below (T10.setTop (mkF m 32 #[.val (.long x0), .second, .val (.int x1), .val (.long x2), .second, .val (.ref b2), .unset, .unset, .unset, .unset, .unset, .unset, .unset, .unset, .unset, .unset, .unset] [(.int ((((x0.toUInt64 >>> ((16 : Int32) &&& 0x3f).toInt64.toUInt64).toInt64).toInt32).toInt8.toInt32)), (.int (2 : Int32)), (.ref b2)])) t → Steps p.tables e below (s₁.setTop (entryFrame m #[(.long x0), (.int x1), (.long x2)] maxLocals)) t := fun t k => p12 t (by
    show Steps p.tables e below (T10.setTop (mkF m 23 #[.val (.long x0), .second, .val (.int x1), .val (.long x2), .second, .val (.ref b2), .unset, .unset, .unset, .unset, .unset, .unset, .unset, .unset, .unset, .unset, .unset] [])) _
    refine XS.aload X10.here hx rfl (hb hby at_23) rfl rfl ?_
    show Steps p.tables e below (T10.setTop (mkF m 25 #[.val (.long x0), .second, .val (.int x1), .val (.long x2), .second, .val (.ref b2), .unset, .unset, .unset, .unset, .unset, .unset, .unset, .unset, .unset, .unset, .unset] [(.ref b2)])) _
    refine XS.iconst X10.here hx rfl (hb hby at_25) ?_
    show Steps p.tables e below (T10.setTop (mkF m 26 #[.val (.long x0), .second, .val (.int x1), .val (.long x2), .second, .val (.ref b2), .unset, .unset, .unset, .unset, .unset, .unset, .unset, .unset, .unset, .unset, .unset] [(.int (2 : Int32)), (.ref b2)])) _
    refine XS.lloadN X10.here hx rfl (hb hby at_26) rfl ?_
    show Steps p.tables e below (T10.setTop (mkF m 27 #[.val (.long x0), .second, .val (.int x1), .val (.long x2), .second, .val (.ref b2), .unset, .unset, .unset, .unset, .unset, .unset, .unset, .unset, .unset, .unset, .unset] [(.long x0), (.int (2 : Int32)), (.ref b2)])) _
    refine XS.bipush X10.here hx rfl (hb hby at_27) ?_
    show Steps p.tables e below (T10.setTop (mkF m 29 #[.val (.long x0), .second, .val (.int x1), .val (.long x2), .second, .val (.ref b2), .unset, .unset, .unset, .unset, .unset, .unset, .unset, .unset, .unset, .unset, .unset] [(.int (16 : Int32)), (.long x0), (.int (2 : Int32)), (.ref b2)])) _
    refine XS.lushr X10.here hx rfl (hb hby at_29) rfl ?_
    show Steps p.tables e below (T10.setTop (mkF m 30 #[.val (.long x0), .second, .val (.int x1), .val (.long x2), .second, .val (.ref b2), .unset, .unset, .unset, .unset, .unset, .unset, .unset, .unset, .unset, .unset, .unset] [(.long ((x0.toUInt64 >>> ((16 : Int32) &&& 0x3f).toInt64.toUInt64).toInt64)), (.int (2 : Int32)), (.ref b2)])) _
    refine XS.l2i X10.here hx rfl (hb hby at_30) rfl ?_
    show Steps p.tables e below (T10.setTop (mkF m 31 #[.val (.long x0), .second, .val (.int x1), .val (.long x2), .second, .val (.ref b2), .unset, .unset, .unset, .unset, .unset, .unset, .unset, .unset, .unset, .unset, .unset] [(.int (((x0.toUInt64 >>> ((16 : Int32) &&& 0x3f).toInt64.toUInt64).toInt64).toInt32)), (.int (2 : Int32)), (.ref b2)])) _
    refine XS.i2b X10.here hx rfl (hb hby at_31) rfl ?_
    exact k)
  obtain ⟨cl14, Ar14, q14, Sz14, Ng14, Hs14, G14⟩ := id VV10
  have hin14 : ¬ ((2 : Int32) < 0 ∨ cl14.slots.size ≤ ((2 : Int32)).toNatClampNeg) := inb_of Sz14 (⟨by decide, by decide⟩)
  obtain ⟨T14, h14, X14, e14, W14, st14⟩ := stB X10 hx hZ e10 Ar14 (j := (2 : Int32)) hin14 (g := (mkF m 32 #[.val (.long x0), .second, .val (.int x1), .val (.long x2), .second, .val (.ref b2), .unset, .unset, .unset, .unset, .unset, .unset, .unset, .unset, .unset, .unset, .unset] [(.int ((((x0.toUInt64 >>> ((16 : Int32) &&& 0x3f).toInt64.toUInt64).toInt64).toInt32).toInt8.toInt32)), (.int (2 : Int32)), (.ref b2)])) rfl rfl (hb hby at_32)
  have VV14 : Arv Z h14 b2 k2 .byte (6 : Int32) [(.int (((x0.toInt32).toInt8.toInt32).toInt8.toInt32)), (.int (((((x0.toUInt64 >>> ((8 : Int32) &&& 0x3f).toInt64.toUInt64).toInt64).toInt32).toInt8.toInt32).toInt8.toInt32)), (.int (((((x0.toUInt64 >>> ((16 : Int32) &&& 0x3f).toInt64.toUInt64).toInt64).toInt32).toInt8.toInt32).toInt8.toInt32)), (.int (0 : Int32)), (.int (0 : Int32)), (.int (0 : Int32))] (.int (0 : Int32)) := Arv.set Ar14 q14 Sz14 Ng14 Hs14 G14 (fits_nar_byte _) W14 2 (by decide) (Nat.le_of_ble_eq_true rfl)
  have f15 := f11.wr W14 gn_b2
  have Z14 := Nat.le_trans Z10 (Keep.of_wr W14).1
  have N14 := Fr.snoc X14 N10 gn_b2
  have p16 : ∀ t, Steps p.tables e below (T14.setTop (mkF m 33 #[.val (.long x0), .second, .val (.int x1), .val (.long x2), .second, .val (.ref b2), .unset, .unset, .unset, .unset, .unset, .unset, .unset, .unset, .unset, .unset, .unset] [])) t → Steps p.tables e below (s₁.setTop (entryFrame m #[(.long x0), (.int x1), (.long x2)] maxLocals)) t := fun t k => p13 t (st14 t k)
  have p17 : ∀ t, Steps p.tables e below (T14.setTop (mkF m 42 #[.val (.long x0), .second, .val (.int x1), .val (.long x2), .second, .val (.ref b2), .unset, .unset, .unset, .unset, .unset, .unset, .unset, .unset, .unset, .unset, .unset] [(.int ((((x0.toUInt64 >>> ((24 : Int32) &&& 0x3f).toInt64.toUInt64).toInt64).toInt32).toInt8.toInt32)), (.int (3 : Int32)), (.ref b2)])) t → Steps p.tables e below (s₁.setTop (entryFrame m #[(.long x0), (.int x1), (.long x2)] maxLocals)) t := fun t k => p16 t (by
    show Steps p.tables e below (T14.setTop (mkF m 33 #[.val (.long x0), .second, .val (.int x1), .val (.long x2), .second, .val (.ref b2), .unset, .unset, .unset, .unset, .unset, .unset, .unset, .unset, .unset, .unset, .unset] [])) _
    refine XS.aload X14.here hx rfl (hb hby at_33) rfl rfl ?_
    show Steps p.tables e below (T14.setTop (mkF m 35 #[.val (.long x0), .second, .val (.int x1), .val (.long x2), .second, .val (.ref b2), .unset, .unset, .unset, .unset, .unset, .unset, .unset, .unset, .unset, .unset, .unset] [(.ref b2)])) _
    refine XS.iconst X14.here hx rfl (hb hby at_35) ?_
    show Steps p.tables e below (T14.setTop (mkF m 36 #[.val (.long x0), .second, .val (.int x1), .val (.long x2), .second, .val (.ref b2), .unset, .unset, .unset, .unset, .unset, .unset, .unset, .unset, .unset, .unset, .unset] [(.int (3 : Int32)), (.ref b2)])) _
    refine XS.lloadN X14.here hx rfl (hb hby at_36) rfl ?_
    show Steps p.tables e below (T14.setTop (mkF m 37 #[.val (.long x0), .second, .val (.int x1), .val (.long x2), .second, .val (.ref b2), .unset, .unset, .unset, .unset, .unset, .unset, .unset, .unset, .unset, .unset, .unset] [(.long x0), (.int (3 : Int32)), (.ref b2)])) _
    refine XS.bipush X14.here hx rfl (hb hby at_37) ?_
    show Steps p.tables e below (T14.setTop (mkF m 39 #[.val (.long x0), .second, .val (.int x1), .val (.long x2), .second, .val (.ref b2), .unset, .unset, .unset, .unset, .unset, .unset, .unset, .unset, .unset, .unset, .unset] [(.int (24 : Int32)), (.long x0), (.int (3 : Int32)), (.ref b2)])) _
    refine XS.lushr X14.here hx rfl (hb hby at_39) rfl ?_
    show Steps p.tables e below (T14.setTop (mkF m 40 #[.val (.long x0), .second, .val (.int x1), .val (.long x2), .second, .val (.ref b2), .unset, .unset, .unset, .unset, .unset, .unset, .unset, .unset, .unset, .unset, .unset] [(.long ((x0.toUInt64 >>> ((24 : Int32) &&& 0x3f).toInt64.toUInt64).toInt64)), (.int (3 : Int32)), (.ref b2)])) _
    refine XS.l2i X14.here hx rfl (hb hby at_40) rfl ?_
    show Steps p.tables e below (T14.setTop (mkF m 41 #[.val (.long x0), .second, .val (.int x1), .val (.long x2), .second, .val (.ref b2), .unset, .unset, .unset, .unset, .unset, .unset, .unset, .unset, .unset, .unset, .unset] [(.int (((x0.toUInt64 >>> ((24 : Int32) &&& 0x3f).toInt64.toUInt64).toInt64).toInt32)), (.int (3 : Int32)), (.ref b2)])) _
    refine XS.i2b X14.here hx rfl (hb hby at_41) rfl ?_
    exact k)
  obtain ⟨cl18, Ar18, q18, Sz18, Ng18, Hs18, G18⟩ := id VV14
  have hin18 : ¬ ((3 : Int32) < 0 ∨ cl18.slots.size ≤ ((3 : Int32)).toNatClampNeg) := inb_of Sz18 (⟨by decide, by decide⟩)
  obtain ⟨T18, h18, X18, e18, W18, st18⟩ := stB X14 hx hZ e14 Ar18 (j := (3 : Int32)) hin18 (g := (mkF m 42 #[.val (.long x0), .second, .val (.int x1), .val (.long x2), .second, .val (.ref b2), .unset, .unset, .unset, .unset, .unset, .unset, .unset, .unset, .unset, .unset, .unset] [(.int ((((x0.toUInt64 >>> ((24 : Int32) &&& 0x3f).toInt64.toUInt64).toInt64).toInt32).toInt8.toInt32)), (.int (3 : Int32)), (.ref b2)])) rfl rfl (hb hby at_42)
  have VV18 : Arv Z h18 b2 k2 .byte (6 : Int32) [(.int (((x0.toInt32).toInt8.toInt32).toInt8.toInt32)), (.int (((((x0.toUInt64 >>> ((8 : Int32) &&& 0x3f).toInt64.toUInt64).toInt64).toInt32).toInt8.toInt32).toInt8.toInt32)), (.int (((((x0.toUInt64 >>> ((16 : Int32) &&& 0x3f).toInt64.toUInt64).toInt64).toInt32).toInt8.toInt32).toInt8.toInt32)), (.int (((((x0.toUInt64 >>> ((24 : Int32) &&& 0x3f).toInt64.toUInt64).toInt64).toInt32).toInt8.toInt32).toInt8.toInt32)), (.int (0 : Int32)), (.int (0 : Int32))] (.int (0 : Int32)) := Arv.set Ar18 q18 Sz18 Ng18 Hs18 G18 (fits_nar_byte _) W18 3 (by decide) (Nat.le_of_ble_eq_true rfl)
  have f19 := f15.wr W18 gn_b2
  have Z18 := Nat.le_trans Z14 (Keep.of_wr W18).1
  have N18 := Fr.snoc X18 N14 gn_b2
  have p20 : ∀ t, Steps p.tables e below (T18.setTop (mkF m 43 #[.val (.long x0), .second, .val (.int x1), .val (.long x2), .second, .val (.ref b2), .unset, .unset, .unset, .unset, .unset, .unset, .unset, .unset, .unset, .unset, .unset] [])) t → Steps p.tables e below (s₁.setTop (entryFrame m #[(.long x0), (.int x1), (.long x2)] maxLocals)) t := fun t k => p17 t (st18 t k)
  have p21 : ∀ t, Steps p.tables e below (T18.setTop (mkF m 52 #[.val (.long x0), .second, .val (.int x1), .val (.long x2), .second, .val (.ref b2), .unset, .unset, .unset, .unset, .unset, .unset, .unset, .unset, .unset, .unset, .unset] [(.int ((((x0.toUInt64 >>> ((32 : Int32) &&& 0x3f).toInt64.toUInt64).toInt64).toInt32).toInt8.toInt32)), (.int (4 : Int32)), (.ref b2)])) t → Steps p.tables e below (s₁.setTop (entryFrame m #[(.long x0), (.int x1), (.long x2)] maxLocals)) t := fun t k => p20 t (by
    show Steps p.tables e below (T18.setTop (mkF m 43 #[.val (.long x0), .second, .val (.int x1), .val (.long x2), .second, .val (.ref b2), .unset, .unset, .unset, .unset, .unset, .unset, .unset, .unset, .unset, .unset, .unset] [])) _
    refine XS.aload X18.here hx rfl (hb hby at_43) rfl rfl ?_
    show Steps p.tables e below (T18.setTop (mkF m 45 #[.val (.long x0), .second, .val (.int x1), .val (.long x2), .second, .val (.ref b2), .unset, .unset, .unset, .unset, .unset, .unset, .unset, .unset, .unset, .unset, .unset] [(.ref b2)])) _
    refine XS.iconst X18.here hx rfl (hb hby at_45) ?_
    show Steps p.tables e below (T18.setTop (mkF m 46 #[.val (.long x0), .second, .val (.int x1), .val (.long x2), .second, .val (.ref b2), .unset, .unset, .unset, .unset, .unset, .unset, .unset, .unset, .unset, .unset, .unset] [(.int (4 : Int32)), (.ref b2)])) _
    refine XS.lloadN X18.here hx rfl (hb hby at_46) rfl ?_
    show Steps p.tables e below (T18.setTop (mkF m 47 #[.val (.long x0), .second, .val (.int x1), .val (.long x2), .second, .val (.ref b2), .unset, .unset, .unset, .unset, .unset, .unset, .unset, .unset, .unset, .unset, .unset] [(.long x0), (.int (4 : Int32)), (.ref b2)])) _
    refine XS.bipush X18.here hx rfl (hb hby at_47) ?_
    show Steps p.tables e below (T18.setTop (mkF m 49 #[.val (.long x0), .second, .val (.int x1), .val (.long x2), .second, .val (.ref b2), .unset, .unset, .unset, .unset, .unset, .unset, .unset, .unset, .unset, .unset, .unset] [(.int (32 : Int32)), (.long x0), (.int (4 : Int32)), (.ref b2)])) _
    refine XS.lushr X18.here hx rfl (hb hby at_49) rfl ?_
    show Steps p.tables e below (T18.setTop (mkF m 50 #[.val (.long x0), .second, .val (.int x1), .val (.long x2), .second, .val (.ref b2), .unset, .unset, .unset, .unset, .unset, .unset, .unset, .unset, .unset, .unset, .unset] [(.long ((x0.toUInt64 >>> ((32 : Int32) &&& 0x3f).toInt64.toUInt64).toInt64)), (.int (4 : Int32)), (.ref b2)])) _
    refine XS.l2i X18.here hx rfl (hb hby at_50) rfl ?_
    show Steps p.tables e below (T18.setTop (mkF m 51 #[.val (.long x0), .second, .val (.int x1), .val (.long x2), .second, .val (.ref b2), .unset, .unset, .unset, .unset, .unset, .unset, .unset, .unset, .unset, .unset, .unset] [(.int (((x0.toUInt64 >>> ((32 : Int32) &&& 0x3f).toInt64.toUInt64).toInt64).toInt32)), (.int (4 : Int32)), (.ref b2)])) _
    refine XS.i2b X18.here hx rfl (hb hby at_51) rfl ?_
    exact k)
  obtain ⟨cl22, Ar22, q22, Sz22, Ng22, Hs22, G22⟩ := id VV18
  have hin22 : ¬ ((4 : Int32) < 0 ∨ cl22.slots.size ≤ ((4 : Int32)).toNatClampNeg) := inb_of Sz22 (⟨by decide, by decide⟩)
  obtain ⟨T22, h22, X22, e22, W22, st22⟩ := stB X18 hx hZ e18 Ar22 (j := (4 : Int32)) hin22 (g := (mkF m 52 #[.val (.long x0), .second, .val (.int x1), .val (.long x2), .second, .val (.ref b2), .unset, .unset, .unset, .unset, .unset, .unset, .unset, .unset, .unset, .unset, .unset] [(.int ((((x0.toUInt64 >>> ((32 : Int32) &&& 0x3f).toInt64.toUInt64).toInt64).toInt32).toInt8.toInt32)), (.int (4 : Int32)), (.ref b2)])) rfl rfl (hb hby at_52)
  have VV22 : Arv Z h22 b2 k2 .byte (6 : Int32) [(.int (((x0.toInt32).toInt8.toInt32).toInt8.toInt32)), (.int (((((x0.toUInt64 >>> ((8 : Int32) &&& 0x3f).toInt64.toUInt64).toInt64).toInt32).toInt8.toInt32).toInt8.toInt32)), (.int (((((x0.toUInt64 >>> ((16 : Int32) &&& 0x3f).toInt64.toUInt64).toInt64).toInt32).toInt8.toInt32).toInt8.toInt32)), (.int (((((x0.toUInt64 >>> ((24 : Int32) &&& 0x3f).toInt64.toUInt64).toInt64).toInt32).toInt8.toInt32).toInt8.toInt32)), (.int (((((x0.toUInt64 >>> ((32 : Int32) &&& 0x3f).toInt64.toUInt64).toInt64).toInt32).toInt8.toInt32).toInt8.toInt32)), (.int (0 : Int32))] (.int (0 : Int32)) := Arv.set Ar22 q22 Sz22 Ng22 Hs22 G22 (fits_nar_byte _) W22 4 (by decide) (Nat.le_of_ble_eq_true rfl)
  have f23 := f19.wr W22 gn_b2
  have Z22 := Nat.le_trans Z18 (Keep.of_wr W22).1
  have N22 := Fr.snoc X22 N18 gn_b2
  have p24 : ∀ t, Steps p.tables e below (T22.setTop (mkF m 53 #[.val (.long x0), .second, .val (.int x1), .val (.long x2), .second, .val (.ref b2), .unset, .unset, .unset, .unset, .unset, .unset, .unset, .unset, .unset, .unset, .unset] [])) t → Steps p.tables e below (s₁.setTop (entryFrame m #[(.long x0), (.int x1), (.long x2)] maxLocals)) t := fun t k => p21 t (st22 t k)
  have p25 : ∀ t, Steps p.tables e below (T22.setTop (mkF m 62 #[.val (.long x0), .second, .val (.int x1), .val (.long x2), .second, .val (.ref b2), .unset, .unset, .unset, .unset, .unset, .unset, .unset, .unset, .unset, .unset, .unset] [(.int ((((x0.toUInt64 >>> ((40 : Int32) &&& 0x3f).toInt64.toUInt64).toInt64).toInt32).toInt8.toInt32)), (.int (5 : Int32)), (.ref b2)])) t → Steps p.tables e below (s₁.setTop (entryFrame m #[(.long x0), (.int x1), (.long x2)] maxLocals)) t := fun t k => p24 t (by
    show Steps p.tables e below (T22.setTop (mkF m 53 #[.val (.long x0), .second, .val (.int x1), .val (.long x2), .second, .val (.ref b2), .unset, .unset, .unset, .unset, .unset, .unset, .unset, .unset, .unset, .unset, .unset] [])) _
    refine XS.aload X22.here hx rfl (hb hby at_53) rfl rfl ?_
    show Steps p.tables e below (T22.setTop (mkF m 55 #[.val (.long x0), .second, .val (.int x1), .val (.long x2), .second, .val (.ref b2), .unset, .unset, .unset, .unset, .unset, .unset, .unset, .unset, .unset, .unset, .unset] [(.ref b2)])) _
    refine XS.iconst X22.here hx rfl (hb hby at_55) ?_
    show Steps p.tables e below (T22.setTop (mkF m 56 #[.val (.long x0), .second, .val (.int x1), .val (.long x2), .second, .val (.ref b2), .unset, .unset, .unset, .unset, .unset, .unset, .unset, .unset, .unset, .unset, .unset] [(.int (5 : Int32)), (.ref b2)])) _
    refine XS.lloadN X22.here hx rfl (hb hby at_56) rfl ?_
    show Steps p.tables e below (T22.setTop (mkF m 57 #[.val (.long x0), .second, .val (.int x1), .val (.long x2), .second, .val (.ref b2), .unset, .unset, .unset, .unset, .unset, .unset, .unset, .unset, .unset, .unset, .unset] [(.long x0), (.int (5 : Int32)), (.ref b2)])) _
    refine XS.bipush X22.here hx rfl (hb hby at_57) ?_
    show Steps p.tables e below (T22.setTop (mkF m 59 #[.val (.long x0), .second, .val (.int x1), .val (.long x2), .second, .val (.ref b2), .unset, .unset, .unset, .unset, .unset, .unset, .unset, .unset, .unset, .unset, .unset] [(.int (40 : Int32)), (.long x0), (.int (5 : Int32)), (.ref b2)])) _
    refine XS.lushr X22.here hx rfl (hb hby at_59) rfl ?_
    show Steps p.tables e below (T22.setTop (mkF m 60 #[.val (.long x0), .second, .val (.int x1), .val (.long x2), .second, .val (.ref b2), .unset, .unset, .unset, .unset, .unset, .unset, .unset, .unset, .unset, .unset, .unset] [(.long ((x0.toUInt64 >>> ((40 : Int32) &&& 0x3f).toInt64.toUInt64).toInt64)), (.int (5 : Int32)), (.ref b2)])) _
    refine XS.l2i X22.here hx rfl (hb hby at_60) rfl ?_
    show Steps p.tables e below (T22.setTop (mkF m 61 #[.val (.long x0), .second, .val (.int x1), .val (.long x2), .second, .val (.ref b2), .unset, .unset, .unset, .unset, .unset, .unset, .unset, .unset, .unset, .unset, .unset] [(.int (((x0.toUInt64 >>> ((40 : Int32) &&& 0x3f).toInt64.toUInt64).toInt64).toInt32)), (.int (5 : Int32)), (.ref b2)])) _
    refine XS.i2b X22.here hx rfl (hb hby at_61) rfl ?_
    exact k)
  obtain ⟨cl26, Ar26, q26, Sz26, Ng26, Hs26, G26⟩ := id VV22
  have hin26 : ¬ ((5 : Int32) < 0 ∨ cl26.slots.size ≤ ((5 : Int32)).toNatClampNeg) := inb_of Sz26 (⟨by decide, by decide⟩)
  obtain ⟨T26, h26, X26, e26, W26, st26⟩ := stB X22 hx hZ e22 Ar26 (j := (5 : Int32)) hin26 (g := (mkF m 62 #[.val (.long x0), .second, .val (.int x1), .val (.long x2), .second, .val (.ref b2), .unset, .unset, .unset, .unset, .unset, .unset, .unset, .unset, .unset, .unset, .unset] [(.int ((((x0.toUInt64 >>> ((40 : Int32) &&& 0x3f).toInt64.toUInt64).toInt64).toInt32).toInt8.toInt32)), (.int (5 : Int32)), (.ref b2)])) rfl rfl (hb hby at_62)
  have VV26 : Arv Z h26 b2 k2 .byte (6 : Int32) [(.int (((x0.toInt32).toInt8.toInt32).toInt8.toInt32)), (.int (((((x0.toUInt64 >>> ((8 : Int32) &&& 0x3f).toInt64.toUInt64).toInt64).toInt32).toInt8.toInt32).toInt8.toInt32)), (.int (((((x0.toUInt64 >>> ((16 : Int32) &&& 0x3f).toInt64.toUInt64).toInt64).toInt32).toInt8.toInt32).toInt8.toInt32)), (.int (((((x0.toUInt64 >>> ((24 : Int32) &&& 0x3f).toInt64.toUInt64).toInt64).toInt32).toInt8.toInt32).toInt8.toInt32)), (.int (((((x0.toUInt64 >>> ((32 : Int32) &&& 0x3f).toInt64.toUInt64).toInt64).toInt32).toInt8.toInt32).toInt8.toInt32)), (.int (((((x0.toUInt64 >>> ((40 : Int32) &&& 0x3f).toInt64.toUInt64).toInt64).toInt32).toInt8.toInt32).toInt8.toInt32))] (.int (0 : Int32)) := Arv.set Ar26 q26 Sz26 Ng26 Hs26 G26 (fits_nar_byte _) W26 5 (by decide) (Nat.le_of_ble_eq_true rfl)
  have f27 := f23.wr W26 gn_b2
  have Z26 := Nat.le_trans Z22 (Keep.of_wr W26).1
  have N26 := Fr.snoc X26 N22 gn_b2
  have p28 : ∀ t, Steps p.tables e below (T26.setTop (mkF m 63 #[.val (.long x0), .second, .val (.int x1), .val (.long x2), .second, .val (.ref b2), .unset, .unset, .unset, .unset, .unset, .unset, .unset, .unset, .unset, .unset, .unset] [])) t → Steps p.tables e below (s₁.setTop (entryFrame m #[(.long x0), (.int x1), (.long x2)] maxLocals)) t := fun t k => p25 t (st26 t k)
  obtain ⟨u0, hu0⟩ : ∃ z : Int32, z = (((x0.toInt32).toInt8.toInt32).toInt8.toInt32) := ⟨_, rfl⟩
  have hub0 : (u0.toInt8.toInt32) = u0 := by rw [hu0]; exact own_b2 _
  obtain ⟨u1, hu1⟩ : ∃ z : Int32, z = (((((x0.toUInt64 >>> ((8 : Int32) &&& 0x3f).toInt64.toUInt64).toInt64).toInt32).toInt8.toInt32).toInt8.toInt32) := ⟨_, rfl⟩
  have hub1 : (u1.toInt8.toInt32) = u1 := by rw [hu1]; exact own_b2 _
  obtain ⟨u2, hu2⟩ : ∃ z : Int32, z = (((((x0.toUInt64 >>> ((16 : Int32) &&& 0x3f).toInt64.toUInt64).toInt64).toInt32).toInt8.toInt32).toInt8.toInt32) := ⟨_, rfl⟩
  have hub2 : (u2.toInt8.toInt32) = u2 := by rw [hu2]; exact own_b2 _
  obtain ⟨u3, hu3⟩ : ∃ z : Int32, z = (((((x0.toUInt64 >>> ((24 : Int32) &&& 0x3f).toInt64.toUInt64).toInt64).toInt32).toInt8.toInt32).toInt8.toInt32) := ⟨_, rfl⟩
  have hub3 : (u3.toInt8.toInt32) = u3 := by rw [hu3]; exact own_b2 _
  obtain ⟨u4, hu4⟩ : ∃ z : Int32, z = (((((x0.toUInt64 >>> ((32 : Int32) &&& 0x3f).toInt64.toUInt64).toInt64).toInt32).toInt8.toInt32).toInt8.toInt32) := ⟨_, rfl⟩
  have hub4 : (u4.toInt8.toInt32) = u4 := by rw [hu4]; exact own_b2 _
  obtain ⟨u5, hu5⟩ : ∃ z : Int32, z = (((((x0.toUInt64 >>> ((40 : Int32) &&& 0x3f).toInt64.toUInt64).toInt64).toInt32).toInt8.toInt32).toInt8.toInt32) := ⟨_, rfl⟩
  have hub5 : (u5.toInt8.toInt32) = u5 := by rw [hu5]; exact own_b2 _
  have VH : Arv Z h26 b2 k2 .byte (6 : Int32) ([u0, u1, u2, u3, u4, u5].map Value.int) (.int (0 : Int32)) := by
    subst hu0 hu1 hu2 hu3 hu4 hu5; exact VV26
  have p29 : ∀ t, Steps p.tables e below (T26.setTop (mkF m 68 #[.val (.long x0), .second, .val (.int x1), .val (.long x2), .second, .val (.ref b2), .val (.int (x1 &&& (3 : Int32))), .unset, .unset, .unset, .unset, .unset, .unset, .unset, .unset, .unset, .unset] [])) t → Steps p.tables e below (s₁.setTop (entryFrame m #[(.long x0), (.int x1), (.long x2)] maxLocals)) t := fun t k => p28 t (by
    show Steps p.tables e below (T26.setTop (mkF m 63 #[.val (.long x0), .second, .val (.int x1), .val (.long x2), .second, .val (.ref b2), .unset, .unset, .unset, .unset, .unset, .unset, .unset, .unset, .unset, .unset, .unset] [])) _
    refine XS.iloadN X26.here hx rfl (hb hby at_63) rfl ?_
    show Steps p.tables e below (T26.setTop (mkF m 64 #[.val (.long x0), .second, .val (.int x1), .val (.long x2), .second, .val (.ref b2), .unset, .unset, .unset, .unset, .unset, .unset, .unset, .unset, .unset, .unset, .unset] [(.int x1)])) _
    refine XS.iconst X26.here hx rfl (hb hby at_64) ?_
    show Steps p.tables e below (T26.setTop (mkF m 65 #[.val (.long x0), .second, .val (.int x1), .val (.long x2), .second, .val (.ref b2), .unset, .unset, .unset, .unset, .unset, .unset, .unset, .unset, .unset, .unset, .unset] [(.int (3 : Int32)), (.int x1)])) _
    refine XS.iand X26.here hx rfl (hb hby at_65) rfl ?_
    show Steps p.tables e below (T26.setTop (mkF m 66 #[.val (.long x0), .second, .val (.int x1), .val (.long x2), .second, .val (.ref b2), .unset, .unset, .unset, .unset, .unset, .unset, .unset, .unset, .unset, .unset, .unset] [(.int (x1 &&& (3 : Int32)))])) _
    refine XS.istore X26.here hx rfl (hb hby at_66) rfl (l' := #[.val (.long x0), .second, .val (.int x1), .val (.long x2), .second, .val (.ref b2), .val (.int (x1 &&& (3 : Int32))), .unset, .unset, .unset, .unset, .unset, .unset, .unset, .unset, .unset, .unset]) rfl ?_
    exact k)
  obtain ⟨vf, hvf⟩ : ∃ z : Int32, z = (x1 &&& (3 : Int32)) := ⟨_, rfl⟩
  have p30 : ∀ t, Steps p.tables e below (T26.setTop (mkF m 68 #[.val (.long x0), .second, .val (.int x1), .val (.long x2), .second, .val (.ref b2), .val (.int vf), .unset, .unset, .unset, .unset, .unset, .unset, .unset, .unset, .unset, .unset] [])) t → Steps p.tables e below (s₁.setTop (entryFrame m #[(.long x0), (.int x1), (.long x2)] maxLocals)) t := by
    intro t k; subst hvf; exact p29 t k
  have hf0 := own_m3 x1; rw [← hvf] at hf0
  have p31 : ∀ t, Steps p.tables e below (T26.setTop (mkF m 75 #[.val (.long x0), .second, .val (.int x1), .val (.long x2), .second, .val (.ref b2), .val (.int vf), .val (.int (((x1.toUInt32 >>> ((2 : Int32) &&& 31).toUInt32).toInt32) &&& (3 : Int32))), .unset, .unset, .unset, .unset, .unset, .unset, .unset, .unset, .unset] [])) t → Steps p.tables e below (s₁.setTop (entryFrame m #[(.long x0), (.int x1), (.long x2)] maxLocals)) t := fun t k => p30 t (by
    show Steps p.tables e below (T26.setTop (mkF m 68 #[.val (.long x0), .second, .val (.int x1), .val (.long x2), .second, .val (.ref b2), .val (.int vf), .unset, .unset, .unset, .unset, .unset, .unset, .unset, .unset, .unset, .unset] [])) _
    refine XS.iloadN X26.here hx rfl (hb hby at_68) rfl ?_
    show Steps p.tables e below (T26.setTop (mkF m 69 #[.val (.long x0), .second, .val (.int x1), .val (.long x2), .second, .val (.ref b2), .val (.int vf), .unset, .unset, .unset, .unset, .unset, .unset, .unset, .unset, .unset, .unset] [(.int x1)])) _
    refine XS.iconst X26.here hx rfl (hb hby at_69) ?_
    show Steps p.tables e below (T26.setTop (mkF m 70 #[.val (.long x0), .second, .val (.int x1), .val (.long x2), .second, .val (.ref b2), .val (.int vf), .unset, .unset, .unset, .unset, .unset, .unset, .unset, .unset, .unset, .unset] [(.int (2 : Int32)), (.int x1)])) _
    refine XS.iushr X26.here hx rfl (hb hby at_70) rfl ?_
    show Steps p.tables e below (T26.setTop (mkF m 71 #[.val (.long x0), .second, .val (.int x1), .val (.long x2), .second, .val (.ref b2), .val (.int vf), .unset, .unset, .unset, .unset, .unset, .unset, .unset, .unset, .unset, .unset] [(.int ((x1.toUInt32 >>> ((2 : Int32) &&& 31).toUInt32).toInt32))])) _
    refine XS.iconst X26.here hx rfl (hb hby at_71) ?_
    show Steps p.tables e below (T26.setTop (mkF m 72 #[.val (.long x0), .second, .val (.int x1), .val (.long x2), .second, .val (.ref b2), .val (.int vf), .unset, .unset, .unset, .unset, .unset, .unset, .unset, .unset, .unset, .unset] [(.int (3 : Int32)), (.int ((x1.toUInt32 >>> ((2 : Int32) &&& 31).toUInt32).toInt32))])) _
    refine XS.iand X26.here hx rfl (hb hby at_72) rfl ?_
    show Steps p.tables e below (T26.setTop (mkF m 73 #[.val (.long x0), .second, .val (.int x1), .val (.long x2), .second, .val (.ref b2), .val (.int vf), .unset, .unset, .unset, .unset, .unset, .unset, .unset, .unset, .unset, .unset] [(.int (((x1.toUInt32 >>> ((2 : Int32) &&& 31).toUInt32).toInt32) &&& (3 : Int32)))])) _
    refine XS.istore X26.here hx rfl (hb hby at_73) rfl (l' := #[.val (.long x0), .second, .val (.int x1), .val (.long x2), .second, .val (.ref b2), .val (.int vf), .val (.int (((x1.toUInt32 >>> ((2 : Int32) &&& 31).toUInt32).toInt32) &&& (3 : Int32))), .unset, .unset, .unset, .unset, .unset, .unset, .unset, .unset, .unset]) rfl ?_
    exact k)
  obtain ⟨vl, hvl⟩ : ∃ z : Int32, z = (((x1.toUInt32 >>> ((2 : Int32) &&& 31).toUInt32).toInt32) &&& (3 : Int32)) := ⟨_, rfl⟩
  have p32 : ∀ t, Steps p.tables e below (T26.setTop (mkF m 75 #[.val (.long x0), .second, .val (.int x1), .val (.long x2), .second, .val (.ref b2), .val (.int vf), .val (.int vl), .unset, .unset, .unset, .unset, .unset, .unset, .unset, .unset, .unset] [])) t → Steps p.tables e below (s₁.setTop (entryFrame m #[(.long x0), (.int x1), (.long x2)] maxLocals)) t := by
    intro t k; subst hvl; exact p31 t k
  have p33 : ∀ t, Steps p.tables e below (T26.setTop (mkF m 82 #[.val (.long x0), .second, .val (.int x1), .val (.long x2), .second, .val (.ref b2), .val (.int vf), .val (.int vl), .val (.int (vf + vl)), .unset, .unset, .unset, .unset, .unset, .unset, .unset, .unset] [])) t → Steps p.tables e below (s₁.setTop (entryFrame m #[(.long x0), (.int x1), (.long x2)] maxLocals)) t := fun t k => p32 t (by
    show Steps p.tables e below (T26.setTop (mkF m 75 #[.val (.long x0), .second, .val (.int x1), .val (.long x2), .second, .val (.ref b2), .val (.int vf), .val (.int vl), .unset, .unset, .unset, .unset, .unset, .unset, .unset, .unset, .unset] [])) _
    refine XS.iload X26.here hx rfl (hb hby at_75) rfl ?_
    show Steps p.tables e below (T26.setTop (mkF m 77 #[.val (.long x0), .second, .val (.int x1), .val (.long x2), .second, .val (.ref b2), .val (.int vf), .val (.int vl), .unset, .unset, .unset, .unset, .unset, .unset, .unset, .unset, .unset] [(.int vf)])) _
    refine XS.iload X26.here hx rfl (hb hby at_77) rfl ?_
    show Steps p.tables e below (T26.setTop (mkF m 79 #[.val (.long x0), .second, .val (.int x1), .val (.long x2), .second, .val (.ref b2), .val (.int vf), .val (.int vl), .unset, .unset, .unset, .unset, .unset, .unset, .unset, .unset, .unset] [(.int vl), (.int vf)])) _
    refine XS.iadd X26.here hx rfl (hb hby at_79) rfl ?_
    show Steps p.tables e below (T26.setTop (mkF m 80 #[.val (.long x0), .second, .val (.int x1), .val (.long x2), .second, .val (.ref b2), .val (.int vf), .val (.int vl), .unset, .unset, .unset, .unset, .unset, .unset, .unset, .unset, .unset] [(.int (vf + vl))])) _
    refine XS.istore X26.here hx rfl (hb hby at_80) rfl (l' := #[.val (.long x0), .second, .val (.int x1), .val (.long x2), .second, .val (.ref b2), .val (.int vf), .val (.int vl), .val (.int (vf + vl)), .unset, .unset, .unset, .unset, .unset, .unset, .unset, .unset]) rfl ?_
    exact k)
  obtain ⟨vt, hvt⟩ : ∃ z : Int32, z = (vf + vl) := ⟨_, rfl⟩
  have p34 : ∀ t, Steps p.tables e below (T26.setTop (mkF m 82 #[.val (.long x0), .second, .val (.int x1), .val (.long x2), .second, .val (.ref b2), .val (.int vf), .val (.int vl), .val (.int vt), .unset, .unset, .unset, .unset, .unset, .unset, .unset, .unset] [])) t → Steps p.tables e below (s₁.setTop (entryFrame m #[(.long x0), (.int x1), (.long x2)] maxLocals)) t := by
    intro t k; subst hvt; exact p33 t k
  have p35 : ∀ t, Steps p.tables e below (T26.setTop (mkF m 89 #[.val (.long x0), .second, .val (.int x1), .val (.long x2), .second, .val (.ref b2), .val (.int vf), .val (.int vl), .val (.int vt), .val (.int (((x1.toUInt32 >>> ((4 : Int32) &&& 31).toUInt32).toInt32) &&& (3 : Int32))), .unset, .unset, .unset, .unset, .unset, .unset, .unset] [])) t → Steps p.tables e below (s₁.setTop (entryFrame m #[(.long x0), (.int x1), (.long x2)] maxLocals)) t := fun t k => p34 t (by
    show Steps p.tables e below (T26.setTop (mkF m 82 #[.val (.long x0), .second, .val (.int x1), .val (.long x2), .second, .val (.ref b2), .val (.int vf), .val (.int vl), .val (.int vt), .unset, .unset, .unset, .unset, .unset, .unset, .unset, .unset] [])) _
    refine XS.iloadN X26.here hx rfl (hb hby at_82) rfl ?_
    show Steps p.tables e below (T26.setTop (mkF m 83 #[.val (.long x0), .second, .val (.int x1), .val (.long x2), .second, .val (.ref b2), .val (.int vf), .val (.int vl), .val (.int vt), .unset, .unset, .unset, .unset, .unset, .unset, .unset, .unset] [(.int x1)])) _
    refine XS.iconst X26.here hx rfl (hb hby at_83) ?_
    show Steps p.tables e below (T26.setTop (mkF m 84 #[.val (.long x0), .second, .val (.int x1), .val (.long x2), .second, .val (.ref b2), .val (.int vf), .val (.int vl), .val (.int vt), .unset, .unset, .unset, .unset, .unset, .unset, .unset, .unset] [(.int (4 : Int32)), (.int x1)])) _
    refine XS.iushr X26.here hx rfl (hb hby at_84) rfl ?_
    show Steps p.tables e below (T26.setTop (mkF m 85 #[.val (.long x0), .second, .val (.int x1), .val (.long x2), .second, .val (.ref b2), .val (.int vf), .val (.int vl), .val (.int vt), .unset, .unset, .unset, .unset, .unset, .unset, .unset, .unset] [(.int ((x1.toUInt32 >>> ((4 : Int32) &&& 31).toUInt32).toInt32))])) _
    refine XS.iconst X26.here hx rfl (hb hby at_85) ?_
    show Steps p.tables e below (T26.setTop (mkF m 86 #[.val (.long x0), .second, .val (.int x1), .val (.long x2), .second, .val (.ref b2), .val (.int vf), .val (.int vl), .val (.int vt), .unset, .unset, .unset, .unset, .unset, .unset, .unset, .unset] [(.int (3 : Int32)), (.int ((x1.toUInt32 >>> ((4 : Int32) &&& 31).toUInt32).toInt32))])) _
    refine XS.iand X26.here hx rfl (hb hby at_86) rfl ?_
    show Steps p.tables e below (T26.setTop (mkF m 87 #[.val (.long x0), .second, .val (.int x1), .val (.long x2), .second, .val (.ref b2), .val (.int vf), .val (.int vl), .val (.int vt), .unset, .unset, .unset, .unset, .unset, .unset, .unset, .unset] [(.int (((x1.toUInt32 >>> ((4 : Int32) &&& 31).toUInt32).toInt32) &&& (3 : Int32)))])) _
    refine XS.istore X26.here hx rfl (hb hby at_87) rfl (l' := #[.val (.long x0), .second, .val (.int x1), .val (.long x2), .second, .val (.ref b2), .val (.int vf), .val (.int vl), .val (.int vt), .val (.int (((x1.toUInt32 >>> ((4 : Int32) &&& 31).toUInt32).toInt32) &&& (3 : Int32))), .unset, .unset, .unset, .unset, .unset, .unset, .unset]) rfl ?_
    exact k)
  obtain ⟨vm, hvm⟩ : ∃ z : Int32, z = (((x1.toUInt32 >>> ((4 : Int32) &&& 31).toUInt32).toInt32) &&& (3 : Int32)) := ⟨_, rfl⟩
  have p36 : ∀ t, Steps p.tables e below (T26.setTop (mkF m 89 #[.val (.long x0), .second, .val (.int x1), .val (.long x2), .second, .val (.ref b2), .val (.int vf), .val (.int vl), .val (.int vt), .val (.int vm), .unset, .unset, .unset, .unset, .unset, .unset, .unset] [])) t → Steps p.tables e below (s₁.setTop (entryFrame m #[(.long x0), (.int x1), (.long x2)] maxLocals)) t := by
    intro t k; subst hvm; exact p35 t k
  obtain ⟨el0, he0⟩ : ∃ z : Int32, z = own_el [u0, u1, u2, u3, u4, u5] (vf).toNatClampNeg := ⟨_, rfl⟩
  have heb0 : (el0.toInt8.toInt32) = el0 := by rw [he0]; exact own_elb _ (by simp [hub0, hub1, hub2, hub3, hub4, hub5]) _
  obtain ⟨el1, he1⟩ : ∃ z : Int32, z = own_el [u0, u1, u2, u3, u4, u5] ((vf + (1 : Int32))).toNatClampNeg := ⟨_, rfl⟩
  have heb1 : (el1.toInt8.toInt32) = el1 := by rw [he1]; exact own_elb _ (by simp [hub0, hub1, hub2, hub3, hub4, hub5]) _
  obtain ⟨el2, he2⟩ : ∃ z : Int32, z = own_el [u0, u1, u2, u3, u4, u5] ((vf + (2 : Int32))).toNatClampNeg := ⟨_, rfl⟩
  have heb2 : (el2.toInt8.toInt32) = el2 := by rw [he2]; exact own_elb _ (by simp [hub0, hub1, hub2, hub3, hub4, hub5]) _
  have BB := own_B.of VH hf0.1 hf0.2 he0 he1 he2
  obtain ⟨vn0, hvn0, p37⟩ : ∃ (vn0 : Int32), ((vn0.toInt8.toInt32) = vn0) ∧ ∀ t, Steps p.tables e below (T26.setTop (mkF m 109 #[.val (.long x0), .second, .val (.int x1), .val (.long x2), .second, .val (.ref b2), .val (.int vf), .val (.int vl), .val (.int vt), .val (.int vm), .unset, .unset, .unset, .unset, .unset, .unset, .unset] [(.int vn0)])) t → Steps p.tables e below (s₁.setTop (entryFrame m #[(.long x0), (.int x1), (.long x2)] maxLocals)) t := by
    have p38 : ∀ t, Steps p.tables e below (T26.setTop (mkF m 95 #[.val (.long x0), .second, .val (.int x1), .val (.long x2), .second, .val (.ref b2), .val (.int vf), .val (.int vl), .val (.int vt), .val (.int vm), .unset, .unset, .unset, .unset, .unset, .unset, .unset] [(.int (((x1.toUInt32 >>> ((6 : Int32) &&& 31).toUInt32).toInt32) &&& (1 : Int32)))])) t → Steps p.tables e below (s₁.setTop (entryFrame m #[(.long x0), (.int x1), (.long x2)] maxLocals)) t := fun t k => p36 t (by
      show Steps p.tables e below (T26.setTop (mkF m 89 #[.val (.long x0), .second, .val (.int x1), .val (.long x2), .second, .val (.ref b2), .val (.int vf), .val (.int vl), .val (.int vt), .val (.int vm), .unset, .unset, .unset, .unset, .unset, .unset, .unset] [])) _
      refine XS.iloadN X26.here hx rfl (hb hby at_89) rfl ?_
      show Steps p.tables e below (T26.setTop (mkF m 90 #[.val (.long x0), .second, .val (.int x1), .val (.long x2), .second, .val (.ref b2), .val (.int vf), .val (.int vl), .val (.int vt), .val (.int vm), .unset, .unset, .unset, .unset, .unset, .unset, .unset] [(.int x1)])) _
      refine XS.bipush X26.here hx rfl (hb hby at_90) ?_
      show Steps p.tables e below (T26.setTop (mkF m 92 #[.val (.long x0), .second, .val (.int x1), .val (.long x2), .second, .val (.ref b2), .val (.int vf), .val (.int vl), .val (.int vt), .val (.int vm), .unset, .unset, .unset, .unset, .unset, .unset, .unset] [(.int (6 : Int32)), (.int x1)])) _
      refine XS.iushr X26.here hx rfl (hb hby at_92) rfl ?_
      show Steps p.tables e below (T26.setTop (mkF m 93 #[.val (.long x0), .second, .val (.int x1), .val (.long x2), .second, .val (.ref b2), .val (.int vf), .val (.int vl), .val (.int vt), .val (.int vm), .unset, .unset, .unset, .unset, .unset, .unset, .unset] [(.int ((x1.toUInt32 >>> ((6 : Int32) &&& 31).toUInt32).toInt32))])) _
      refine XS.iconst X26.here hx rfl (hb hby at_93) ?_
      show Steps p.tables e below (T26.setTop (mkF m 94 #[.val (.long x0), .second, .val (.int x1), .val (.long x2), .second, .val (.ref b2), .val (.int vf), .val (.int vl), .val (.int vt), .val (.int vm), .unset, .unset, .unset, .unset, .unset, .unset, .unset] [(.int (1 : Int32)), (.int ((x1.toUInt32 >>> ((6 : Int32) &&& 31).toUInt32).toInt32))])) _
      refine XS.iand X26.here hx rfl (hb hby at_94) rfl ?_
      exact k)
    by_cases hc95 : (((x1.toUInt32 >>> ((6 : Int32) &&& 31).toUInt32).toInt32) &&& (1 : Int32)) = (0 : Int32)
    · have p39 : ∀ t, Steps p.tables e below (T26.setTop (mkF m 108 #[.val (.long x0), .second, .val (.int x1), .val (.long x2), .second, .val (.ref b2), .val (.int vf), .val (.int vl), .val (.int vt), .val (.int vm), .unset, .unset, .unset, .unset, .unset, .unset, .unset] [(.int vf), (.ref b2)])) t → Steps p.tables e below (s₁.setTop (entryFrame m #[(.long x0), (.int x1), (.long x2)] maxLocals)) t := fun t k => p38 t (by
        show Steps p.tables e below (T26.setTop (mkF m 95 #[.val (.long x0), .second, .val (.int x1), .val (.long x2), .second, .val (.ref b2), .val (.int vf), .val (.int vl), .val (.int vt), .val (.int vm), .unset, .unset, .unset, .unset, .unset, .unset, .unset] [(.int (((x1.toUInt32 >>> ((6 : Int32) &&& 31).toUInt32).toInt32) &&& (1 : Int32)))])) _
        refine XS.ifYes X26.here hx rfl (pc0 := 95) (pc' := 104) rfl (hb hby at_95) rfl ((if0 _ _).trans (teq (hc95)).1) (by decide) (by decide) ?_
        show Steps p.tables e below (T26.setTop (mkF m 104 #[.val (.long x0), .second, .val (.int x1), .val (.long x2), .second, .val (.ref b2), .val (.int vf), .val (.int vl), .val (.int vt), .val (.int vm), .unset, .unset, .unset, .unset, .unset, .unset, .unset] [])) _
        refine XS.aload X26.here hx rfl (hb hby at_104) rfl rfl ?_
        show Steps p.tables e below (T26.setTop (mkF m 106 #[.val (.long x0), .second, .val (.int x1), .val (.long x2), .second, .val (.ref b2), .val (.int vf), .val (.int vl), .val (.int vt), .val (.int vm), .unset, .unset, .unset, .unset, .unset, .unset, .unset] [(.ref b2)])) _
        refine XS.iload X26.here hx rfl (hb hby at_106) rfl ?_
        exact k)
      obtain ⟨cb40, Ab40, ⟨i040, t040⟩, ⟨i140, t140⟩, ⟨i240, t240⟩⟩ := id BB
      have p41 : ∀ t, Steps p.tables e below (T26.setTop (mkF m 109 #[.val (.long x0), .second, .val (.int x1), .val (.long x2), .second, .val (.ref b2), .val (.int vf), .val (.int vl), .val (.int vt), .val (.int vm), .unset, .unset, .unset, .unset, .unset, .unset, .unset] [(.int el0)])) t → Steps p.tables e below (s₁.setTop (entryFrame m #[(.long x0), (.int x1), (.long x2)] maxLocals)) t := fun t k => p39 t (by
        show Steps p.tables e below (T26.setTop (mkF m 108 #[.val (.long x0), .second, .val (.int x1), .val (.long x2), .second, .val (.ref b2), .val (.int vf), .val (.int vl), .val (.int vt), .val (.int vm), .unset, .unset, .unset, .unset, .unset, .unset, .unset] [(.int vf), (.ref b2)])) _
        refine X26.baloadBytes hx (j := vf) (v := (.int el0)) (by rw [e26]; exact Ab40.1) (State.isArrayOf_alike hZ.alike Ab40.2.1) Ab40.2.2 i040 t040 (g := (mkF m 108 #[.val (.long x0), .second, .val (.int x1), .val (.long x2), .second, .val (.ref b2), .val (.int vf), .val (.int vl), .val (.int vt), .val (.int vm), .unset, .unset, .unset, .unset, .unset, .unset, .unset] [(.int vf), (.ref b2)])) rfl rfl (hb hby at_108) _ ?_
        exact k)
      exact ⟨el0, heb0, p41⟩
    · have p42 : ∀ t, Steps p.tables e below (T26.setTop (mkF m 109 #[.val (.long x0), .second, .val (.int x1), .val (.long x2), .second, .val (.ref b2), .val (.int vf), .val (.int vl), .val (.int vt), .val (.int vm), .unset, .unset, .unset, .unset, .unset, .unset, .unset] [(.int ((x2.toInt32).toInt8.toInt32))])) t → Steps p.tables e below (s₁.setTop (entryFrame m #[(.long x0), (.int x1), (.long x2)] maxLocals)) t := fun t k => p38 t (by
        show Steps p.tables e below (T26.setTop (mkF m 95 #[.val (.long x0), .second, .val (.int x1), .val (.long x2), .second, .val (.ref b2), .val (.int vf), .val (.int vl), .val (.int vt), .val (.int vm), .unset, .unset, .unset, .unset, .unset, .unset, .unset] [(.int (((x1.toUInt32 >>> ((6 : Int32) &&& 31).toUInt32).toInt32) &&& (1 : Int32)))])) _
        refine XS.ifNo X26.here hx rfl (hb hby at_95) rfl ((if0 _ _).trans (feq (hc95)).1) ?_
        show Steps p.tables e below (T26.setTop (mkF m 98 #[.val (.long x0), .second, .val (.int x1), .val (.long x2), .second, .val (.ref b2), .val (.int vf), .val (.int vl), .val (.int vt), .val (.int vm), .unset, .unset, .unset, .unset, .unset, .unset, .unset] [])) _
        refine XS.lloadN X26.here hx rfl (hb hby at_98) rfl ?_
        show Steps p.tables e below (T26.setTop (mkF m 99 #[.val (.long x0), .second, .val (.int x1), .val (.long x2), .second, .val (.ref b2), .val (.int vf), .val (.int vl), .val (.int vt), .val (.int vm), .unset, .unset, .unset, .unset, .unset, .unset, .unset] [(.long x2)])) _
        refine XS.l2i X26.here hx rfl (hb hby at_99) rfl ?_
        show Steps p.tables e below (T26.setTop (mkF m 100 #[.val (.long x0), .second, .val (.int x1), .val (.long x2), .second, .val (.ref b2), .val (.int vf), .val (.int vl), .val (.int vt), .val (.int vm), .unset, .unset, .unset, .unset, .unset, .unset, .unset] [(.int (x2.toInt32))])) _
        refine XS.i2b X26.here hx rfl (hb hby at_100) rfl ?_
        show Steps p.tables e below (T26.setTop (mkF m 101 #[.val (.long x0), .second, .val (.int x1), .val (.long x2), .second, .val (.ref b2), .val (.int vf), .val (.int vl), .val (.int vt), .val (.int vm), .unset, .unset, .unset, .unset, .unset, .unset, .unset] [(.int ((x2.toInt32).toInt8.toInt32))])) _
        refine XS.goto X26.here hx rfl (pc0 := 101) (pc' := 109) rfl (hb hby at_101) (by decide) (by decide) ?_
        exact k)
      exact ⟨((x2.toInt32).toInt8.toInt32), own_b2 _, p42⟩
  have p43 : ∀ t, Steps p.tables e below (T26.setTop (mkF m 111 #[.val (.long x0), .second, .val (.int x1), .val (.long x2), .second, .val (.ref b2), .val (.int vf), .val (.int vl), .val (.int vt), .val (.int vm), .val (.int vn0), .unset, .unset, .unset, .unset, .unset, .unset] [])) t → Steps p.tables e below (s₁.setTop (entryFrame m #[(.long x0), (.int x1), (.long x2)] maxLocals)) t := fun t k => p37 t (by
    show Steps p.tables e below (T26.setTop (mkF m 109 #[.val (.long x0), .second, .val (.int x1), .val (.long x2), .second, .val (.ref b2), .val (.int vf), .val (.int vl), .val (.int vt), .val (.int vm), .unset, .unset, .unset, .unset, .unset, .unset, .unset] [(.int vn0)])) _
    refine XS.istore X26.here hx rfl (hb hby at_109) rfl (l' := #[.val (.long x0), .second, .val (.int x1), .val (.long x2), .second, .val (.ref b2), .val (.int vf), .val (.int vl), .val (.int vt), .val (.int vm), .val (.int vn0), .unset, .unset, .unset, .unset, .unset, .unset]) rfl ?_
    exact k)
  obtain ⟨vn1, hvn1, p44⟩ : ∃ (vn1 : Int32), ((vn1.toInt8.toInt32) = vn1) ∧ ∀ t, Steps p.tables e below (T26.setTop (mkF m 136 #[.val (.long x0), .second, .val (.int x1), .val (.long x2), .second, .val (.ref b2), .val (.int vf), .val (.int vl), .val (.int vt), .val (.int vm), .val (.int vn0), .unset, .unset, .unset, .unset, .unset, .unset] [(.int vn1)])) t → Steps p.tables e below (s₁.setTop (entryFrame m #[(.long x0), (.int x1), (.long x2)] maxLocals)) t := by
    have p45 : ∀ t, Steps p.tables e below (T26.setTop (mkF m 117 #[.val (.long x0), .second, .val (.int x1), .val (.long x2), .second, .val (.ref b2), .val (.int vf), .val (.int vl), .val (.int vt), .val (.int vm), .val (.int vn0), .unset, .unset, .unset, .unset, .unset, .unset] [(.int (((x1.toUInt32 >>> ((7 : Int32) &&& 31).toUInt32).toInt32) &&& (1 : Int32)))])) t → Steps p.tables e below (s₁.setTop (entryFrame m #[(.long x0), (.int x1), (.long x2)] maxLocals)) t := fun t k => p43 t (by
      show Steps p.tables e below (T26.setTop (mkF m 111 #[.val (.long x0), .second, .val (.int x1), .val (.long x2), .second, .val (.ref b2), .val (.int vf), .val (.int vl), .val (.int vt), .val (.int vm), .val (.int vn0), .unset, .unset, .unset, .unset, .unset, .unset] [])) _
      refine XS.iloadN X26.here hx rfl (hb hby at_111) rfl ?_
      show Steps p.tables e below (T26.setTop (mkF m 112 #[.val (.long x0), .second, .val (.int x1), .val (.long x2), .second, .val (.ref b2), .val (.int vf), .val (.int vl), .val (.int vt), .val (.int vm), .val (.int vn0), .unset, .unset, .unset, .unset, .unset, .unset] [(.int x1)])) _
      refine XS.bipush X26.here hx rfl (hb hby at_112) ?_
      show Steps p.tables e below (T26.setTop (mkF m 114 #[.val (.long x0), .second, .val (.int x1), .val (.long x2), .second, .val (.ref b2), .val (.int vf), .val (.int vl), .val (.int vt), .val (.int vm), .val (.int vn0), .unset, .unset, .unset, .unset, .unset, .unset] [(.int (7 : Int32)), (.int x1)])) _
      refine XS.iushr X26.here hx rfl (hb hby at_114) rfl ?_
      show Steps p.tables e below (T26.setTop (mkF m 115 #[.val (.long x0), .second, .val (.int x1), .val (.long x2), .second, .val (.ref b2), .val (.int vf), .val (.int vl), .val (.int vt), .val (.int vm), .val (.int vn0), .unset, .unset, .unset, .unset, .unset, .unset] [(.int ((x1.toUInt32 >>> ((7 : Int32) &&& 31).toUInt32).toInt32))])) _
      refine XS.iconst X26.here hx rfl (hb hby at_115) ?_
      show Steps p.tables e below (T26.setTop (mkF m 116 #[.val (.long x0), .second, .val (.int x1), .val (.long x2), .second, .val (.ref b2), .val (.int vf), .val (.int vl), .val (.int vt), .val (.int vm), .val (.int vn0), .unset, .unset, .unset, .unset, .unset, .unset] [(.int (1 : Int32)), (.int ((x1.toUInt32 >>> ((7 : Int32) &&& 31).toUInt32).toInt32))])) _
      refine XS.iand X26.here hx rfl (hb hby at_116) rfl ?_
      exact k)
    by_cases hc117 : (((x1.toUInt32 >>> ((7 : Int32) &&& 31).toUInt32).toInt32) &&& (1 : Int32)) = (0 : Int32)
    · have p46 : ∀ t, Steps p.tables e below (T26.setTop (mkF m 135 #[.val (.long x0), .second, .val (.int x1), .val (.long x2), .second, .val (.ref b2), .val (.int vf), .val (.int vl), .val (.int vt), .val (.int vm), .val (.int vn0), .unset, .unset, .unset, .unset, .unset, .unset] [(.int (vf + (1 : Int32))), (.ref b2)])) t → Steps p.tables e below (s₁.setTop (entryFrame m #[(.long x0), (.int x1), (.long x2)] maxLocals)) t := fun t k => p45 t (by
        show Steps p.tables e below (T26.setTop (mkF m 117 #[.val (.long x0), .second, .val (.int x1), .val (.long x2), .second, .val (.ref b2), .val (.int vf), .val (.int vl), .val (.int vt), .val (.int vm), .val (.int vn0), .unset, .unset, .unset, .unset, .unset, .unset] [(.int (((x1.toUInt32 >>> ((7 : Int32) &&& 31).toUInt32).toInt32) &&& (1 : Int32)))])) _
        refine XS.ifYes X26.here hx rfl (pc0 := 117) (pc' := 129) rfl (hb hby at_117) rfl ((if0 _ _).trans (teq (hc117)).1) (by decide) (by decide) ?_
        show Steps p.tables e below (T26.setTop (mkF m 129 #[.val (.long x0), .second, .val (.int x1), .val (.long x2), .second, .val (.ref b2), .val (.int vf), .val (.int vl), .val (.int vt), .val (.int vm), .val (.int vn0), .unset, .unset, .unset, .unset, .unset, .unset] [])) _
        refine XS.aload X26.here hx rfl (hb hby at_129) rfl rfl ?_
        show Steps p.tables e below (T26.setTop (mkF m 131 #[.val (.long x0), .second, .val (.int x1), .val (.long x2), .second, .val (.ref b2), .val (.int vf), .val (.int vl), .val (.int vt), .val (.int vm), .val (.int vn0), .unset, .unset, .unset, .unset, .unset, .unset] [(.ref b2)])) _
        refine XS.iload X26.here hx rfl (hb hby at_131) rfl ?_
        show Steps p.tables e below (T26.setTop (mkF m 133 #[.val (.long x0), .second, .val (.int x1), .val (.long x2), .second, .val (.ref b2), .val (.int vf), .val (.int vl), .val (.int vt), .val (.int vm), .val (.int vn0), .unset, .unset, .unset, .unset, .unset, .unset] [(.int vf), (.ref b2)])) _
        refine XS.iconst X26.here hx rfl (hb hby at_133) ?_
        show Steps p.tables e below (T26.setTop (mkF m 134 #[.val (.long x0), .second, .val (.int x1), .val (.long x2), .second, .val (.ref b2), .val (.int vf), .val (.int vl), .val (.int vt), .val (.int vm), .val (.int vn0), .unset, .unset, .unset, .unset, .unset, .unset] [(.int (1 : Int32)), (.int vf), (.ref b2)])) _
        refine XS.iadd X26.here hx rfl (hb hby at_134) rfl ?_
        exact k)
      obtain ⟨cb47, Ab47, ⟨i047, t047⟩, ⟨i147, t147⟩, ⟨i247, t247⟩⟩ := id BB
      have p48 : ∀ t, Steps p.tables e below (T26.setTop (mkF m 136 #[.val (.long x0), .second, .val (.int x1), .val (.long x2), .second, .val (.ref b2), .val (.int vf), .val (.int vl), .val (.int vt), .val (.int vm), .val (.int vn0), .unset, .unset, .unset, .unset, .unset, .unset] [(.int el1)])) t → Steps p.tables e below (s₁.setTop (entryFrame m #[(.long x0), (.int x1), (.long x2)] maxLocals)) t := fun t k => p46 t (by
        show Steps p.tables e below (T26.setTop (mkF m 135 #[.val (.long x0), .second, .val (.int x1), .val (.long x2), .second, .val (.ref b2), .val (.int vf), .val (.int vl), .val (.int vt), .val (.int vm), .val (.int vn0), .unset, .unset, .unset, .unset, .unset, .unset] [(.int (vf + (1 : Int32))), (.ref b2)])) _
        refine X26.baloadBytes hx (j := (vf + (1 : Int32))) (v := (.int el1)) (by rw [e26]; exact Ab47.1) (State.isArrayOf_alike hZ.alike Ab47.2.1) Ab47.2.2 i147 t147 (g := (mkF m 135 #[.val (.long x0), .second, .val (.int x1), .val (.long x2), .second, .val (.ref b2), .val (.int vf), .val (.int vl), .val (.int vt), .val (.int vm), .val (.int vn0), .unset, .unset, .unset, .unset, .unset, .unset] [(.int (vf + (1 : Int32))), (.ref b2)])) rfl rfl (hb hby at_135) _ ?_
        exact k)
      exact ⟨el1, heb1, p48⟩
    · have p49 : ∀ t, Steps p.tables e below (T26.setTop (mkF m 136 #[.val (.long x0), .second, .val (.int x1), .val (.long x2), .second, .val (.ref b2), .val (.int vf), .val (.int vl), .val (.int vt), .val (.int vm), .val (.int vn0), .unset, .unset, .unset, .unset, .unset, .unset] [(.int ((((x2.toUInt64 >>> ((8 : Int32) &&& 0x3f).toInt64.toUInt64).toInt64).toInt32).toInt8.toInt32))])) t → Steps p.tables e below (s₁.setTop (entryFrame m #[(.long x0), (.int x1), (.long x2)] maxLocals)) t := fun t k => p45 t (by
        show Steps p.tables e below (T26.setTop (mkF m 117 #[.val (.long x0), .second, .val (.int x1), .val (.long x2), .second, .val (.ref b2), .val (.int vf), .val (.int vl), .val (.int vt), .val (.int vm), .val (.int vn0), .unset, .unset, .unset, .unset, .unset, .unset] [(.int (((x1.toUInt32 >>> ((7 : Int32) &&& 31).toUInt32).toInt32) &&& (1 : Int32)))])) _
        refine XS.ifNo X26.here hx rfl (hb hby at_117) rfl ((if0 _ _).trans (feq (hc117)).1) ?_
        show Steps p.tables e below (T26.setTop (mkF m 120 #[.val (.long x0), .second, .val (.int x1), .val (.long x2), .second, .val (.ref b2), .val (.int vf), .val (.int vl), .val (.int vt), .val (.int vm), .val (.int vn0), .unset, .unset, .unset, .unset, .unset, .unset] [])) _
        refine XS.lloadN X26.here hx rfl (hb hby at_120) rfl ?_
        show Steps p.tables e below (T26.setTop (mkF m 121 #[.val (.long x0), .second, .val (.int x1), .val (.long x2), .second, .val (.ref b2), .val (.int vf), .val (.int vl), .val (.int vt), .val (.int vm), .val (.int vn0), .unset, .unset, .unset, .unset, .unset, .unset] [(.long x2)])) _
        refine XS.bipush X26.here hx rfl (hb hby at_121) ?_
        show Steps p.tables e below (T26.setTop (mkF m 123 #[.val (.long x0), .second, .val (.int x1), .val (.long x2), .second, .val (.ref b2), .val (.int vf), .val (.int vl), .val (.int vt), .val (.int vm), .val (.int vn0), .unset, .unset, .unset, .unset, .unset, .unset] [(.int (8 : Int32)), (.long x2)])) _
        refine XS.lushr X26.here hx rfl (hb hby at_123) rfl ?_
        show Steps p.tables e below (T26.setTop (mkF m 124 #[.val (.long x0), .second, .val (.int x1), .val (.long x2), .second, .val (.ref b2), .val (.int vf), .val (.int vl), .val (.int vt), .val (.int vm), .val (.int vn0), .unset, .unset, .unset, .unset, .unset, .unset] [(.long ((x2.toUInt64 >>> ((8 : Int32) &&& 0x3f).toInt64.toUInt64).toInt64))])) _
        refine XS.l2i X26.here hx rfl (hb hby at_124) rfl ?_
        show Steps p.tables e below (T26.setTop (mkF m 125 #[.val (.long x0), .second, .val (.int x1), .val (.long x2), .second, .val (.ref b2), .val (.int vf), .val (.int vl), .val (.int vt), .val (.int vm), .val (.int vn0), .unset, .unset, .unset, .unset, .unset, .unset] [(.int (((x2.toUInt64 >>> ((8 : Int32) &&& 0x3f).toInt64.toUInt64).toInt64).toInt32))])) _
        refine XS.i2b X26.here hx rfl (hb hby at_125) rfl ?_
        show Steps p.tables e below (T26.setTop (mkF m 126 #[.val (.long x0), .second, .val (.int x1), .val (.long x2), .second, .val (.ref b2), .val (.int vf), .val (.int vl), .val (.int vt), .val (.int vm), .val (.int vn0), .unset, .unset, .unset, .unset, .unset, .unset] [(.int ((((x2.toUInt64 >>> ((8 : Int32) &&& 0x3f).toInt64.toUInt64).toInt64).toInt32).toInt8.toInt32))])) _
        refine XS.goto X26.here hx rfl (pc0 := 126) (pc' := 136) rfl (hb hby at_126) (by decide) (by decide) ?_
        exact k)
      exact ⟨((((x2.toUInt64 >>> ((8 : Int32) &&& 0x3f).toInt64.toUInt64).toInt64).toInt32).toInt8.toInt32), own_b2 _, p49⟩
  have p50 : ∀ t, Steps p.tables e below (T26.setTop (mkF m 138 #[.val (.long x0), .second, .val (.int x1), .val (.long x2), .second, .val (.ref b2), .val (.int vf), .val (.int vl), .val (.int vt), .val (.int vm), .val (.int vn0), .val (.int vn1), .unset, .unset, .unset, .unset, .unset] [])) t → Steps p.tables e below (s₁.setTop (entryFrame m #[(.long x0), (.int x1), (.long x2)] maxLocals)) t := fun t k => p44 t (by
    show Steps p.tables e below (T26.setTop (mkF m 136 #[.val (.long x0), .second, .val (.int x1), .val (.long x2), .second, .val (.ref b2), .val (.int vf), .val (.int vl), .val (.int vt), .val (.int vm), .val (.int vn0), .unset, .unset, .unset, .unset, .unset, .unset] [(.int vn1)])) _
    refine XS.istore X26.here hx rfl (hb hby at_136) rfl (l' := #[.val (.long x0), .second, .val (.int x1), .val (.long x2), .second, .val (.ref b2), .val (.int vf), .val (.int vl), .val (.int vt), .val (.int vm), .val (.int vn0), .val (.int vn1), .unset, .unset, .unset, .unset, .unset]) rfl ?_
    exact k)
  obtain ⟨vn2, hvn2, p51⟩ : ∃ (vn2 : Int32), ((vn2.toInt8.toInt32) = vn2) ∧ ∀ t, Steps p.tables e below (T26.setTop (mkF m 163 #[.val (.long x0), .second, .val (.int x1), .val (.long x2), .second, .val (.ref b2), .val (.int vf), .val (.int vl), .val (.int vt), .val (.int vm), .val (.int vn0), .val (.int vn1), .unset, .unset, .unset, .unset, .unset] [(.int vn2)])) t → Steps p.tables e below (s₁.setTop (entryFrame m #[(.long x0), (.int x1), (.long x2)] maxLocals)) t := by
    have p52 : ∀ t, Steps p.tables e below (T26.setTop (mkF m 144 #[.val (.long x0), .second, .val (.int x1), .val (.long x2), .second, .val (.ref b2), .val (.int vf), .val (.int vl), .val (.int vt), .val (.int vm), .val (.int vn0), .val (.int vn1), .unset, .unset, .unset, .unset, .unset] [(.int (((x1.toUInt32 >>> ((8 : Int32) &&& 31).toUInt32).toInt32) &&& (1 : Int32)))])) t → Steps p.tables e below (s₁.setTop (entryFrame m #[(.long x0), (.int x1), (.long x2)] maxLocals)) t := fun t k => p50 t (by
      show Steps p.tables e below (T26.setTop (mkF m 138 #[.val (.long x0), .second, .val (.int x1), .val (.long x2), .second, .val (.ref b2), .val (.int vf), .val (.int vl), .val (.int vt), .val (.int vm), .val (.int vn0), .val (.int vn1), .unset, .unset, .unset, .unset, .unset] [])) _
      refine XS.iloadN X26.here hx rfl (hb hby at_138) rfl ?_
      show Steps p.tables e below (T26.setTop (mkF m 139 #[.val (.long x0), .second, .val (.int x1), .val (.long x2), .second, .val (.ref b2), .val (.int vf), .val (.int vl), .val (.int vt), .val (.int vm), .val (.int vn0), .val (.int vn1), .unset, .unset, .unset, .unset, .unset] [(.int x1)])) _
      refine XS.bipush X26.here hx rfl (hb hby at_139) ?_
      show Steps p.tables e below (T26.setTop (mkF m 141 #[.val (.long x0), .second, .val (.int x1), .val (.long x2), .second, .val (.ref b2), .val (.int vf), .val (.int vl), .val (.int vt), .val (.int vm), .val (.int vn0), .val (.int vn1), .unset, .unset, .unset, .unset, .unset] [(.int (8 : Int32)), (.int x1)])) _
      refine XS.iushr X26.here hx rfl (hb hby at_141) rfl ?_
      show Steps p.tables e below (T26.setTop (mkF m 142 #[.val (.long x0), .second, .val (.int x1), .val (.long x2), .second, .val (.ref b2), .val (.int vf), .val (.int vl), .val (.int vt), .val (.int vm), .val (.int vn0), .val (.int vn1), .unset, .unset, .unset, .unset, .unset] [(.int ((x1.toUInt32 >>> ((8 : Int32) &&& 31).toUInt32).toInt32))])) _
      refine XS.iconst X26.here hx rfl (hb hby at_142) ?_
      show Steps p.tables e below (T26.setTop (mkF m 143 #[.val (.long x0), .second, .val (.int x1), .val (.long x2), .second, .val (.ref b2), .val (.int vf), .val (.int vl), .val (.int vt), .val (.int vm), .val (.int vn0), .val (.int vn1), .unset, .unset, .unset, .unset, .unset] [(.int (1 : Int32)), (.int ((x1.toUInt32 >>> ((8 : Int32) &&& 31).toUInt32).toInt32))])) _
      refine XS.iand X26.here hx rfl (hb hby at_143) rfl ?_
      exact k)
    by_cases hc144 : (((x1.toUInt32 >>> ((8 : Int32) &&& 31).toUInt32).toInt32) &&& (1 : Int32)) = (0 : Int32)
    · have p53 : ∀ t, Steps p.tables e below (T26.setTop (mkF m 162 #[.val (.long x0), .second, .val (.int x1), .val (.long x2), .second, .val (.ref b2), .val (.int vf), .val (.int vl), .val (.int vt), .val (.int vm), .val (.int vn0), .val (.int vn1), .unset, .unset, .unset, .unset, .unset] [(.int (vf + (2 : Int32))), (.ref b2)])) t → Steps p.tables e below (s₁.setTop (entryFrame m #[(.long x0), (.int x1), (.long x2)] maxLocals)) t := fun t k => p52 t (by
        show Steps p.tables e below (T26.setTop (mkF m 144 #[.val (.long x0), .second, .val (.int x1), .val (.long x2), .second, .val (.ref b2), .val (.int vf), .val (.int vl), .val (.int vt), .val (.int vm), .val (.int vn0), .val (.int vn1), .unset, .unset, .unset, .unset, .unset] [(.int (((x1.toUInt32 >>> ((8 : Int32) &&& 31).toUInt32).toInt32) &&& (1 : Int32)))])) _
        refine XS.ifYes X26.here hx rfl (pc0 := 144) (pc' := 156) rfl (hb hby at_144) rfl ((if0 _ _).trans (teq (hc144)).1) (by decide) (by decide) ?_
        show Steps p.tables e below (T26.setTop (mkF m 156 #[.val (.long x0), .second, .val (.int x1), .val (.long x2), .second, .val (.ref b2), .val (.int vf), .val (.int vl), .val (.int vt), .val (.int vm), .val (.int vn0), .val (.int vn1), .unset, .unset, .unset, .unset, .unset] [])) _
        refine XS.aload X26.here hx rfl (hb hby at_156) rfl rfl ?_
        show Steps p.tables e below (T26.setTop (mkF m 158 #[.val (.long x0), .second, .val (.int x1), .val (.long x2), .second, .val (.ref b2), .val (.int vf), .val (.int vl), .val (.int vt), .val (.int vm), .val (.int vn0), .val (.int vn1), .unset, .unset, .unset, .unset, .unset] [(.ref b2)])) _
        refine XS.iload X26.here hx rfl (hb hby at_158) rfl ?_
        show Steps p.tables e below (T26.setTop (mkF m 160 #[.val (.long x0), .second, .val (.int x1), .val (.long x2), .second, .val (.ref b2), .val (.int vf), .val (.int vl), .val (.int vt), .val (.int vm), .val (.int vn0), .val (.int vn1), .unset, .unset, .unset, .unset, .unset] [(.int vf), (.ref b2)])) _
        refine XS.iconst X26.here hx rfl (hb hby at_160) ?_
        show Steps p.tables e below (T26.setTop (mkF m 161 #[.val (.long x0), .second, .val (.int x1), .val (.long x2), .second, .val (.ref b2), .val (.int vf), .val (.int vl), .val (.int vt), .val (.int vm), .val (.int vn0), .val (.int vn1), .unset, .unset, .unset, .unset, .unset] [(.int (2 : Int32)), (.int vf), (.ref b2)])) _
        refine XS.iadd X26.here hx rfl (hb hby at_161) rfl ?_
        exact k)
      obtain ⟨cb54, Ab54, ⟨i054, t054⟩, ⟨i154, t154⟩, ⟨i254, t254⟩⟩ := id BB
      have p55 : ∀ t, Steps p.tables e below (T26.setTop (mkF m 163 #[.val (.long x0), .second, .val (.int x1), .val (.long x2), .second, .val (.ref b2), .val (.int vf), .val (.int vl), .val (.int vt), .val (.int vm), .val (.int vn0), .val (.int vn1), .unset, .unset, .unset, .unset, .unset] [(.int el2)])) t → Steps p.tables e below (s₁.setTop (entryFrame m #[(.long x0), (.int x1), (.long x2)] maxLocals)) t := fun t k => p53 t (by
        show Steps p.tables e below (T26.setTop (mkF m 162 #[.val (.long x0), .second, .val (.int x1), .val (.long x2), .second, .val (.ref b2), .val (.int vf), .val (.int vl), .val (.int vt), .val (.int vm), .val (.int vn0), .val (.int vn1), .unset, .unset, .unset, .unset, .unset] [(.int (vf + (2 : Int32))), (.ref b2)])) _
        refine X26.baloadBytes hx (j := (vf + (2 : Int32))) (v := (.int el2)) (by rw [e26]; exact Ab54.1) (State.isArrayOf_alike hZ.alike Ab54.2.1) Ab54.2.2 i254 t254 (g := (mkF m 162 #[.val (.long x0), .second, .val (.int x1), .val (.long x2), .second, .val (.ref b2), .val (.int vf), .val (.int vl), .val (.int vt), .val (.int vm), .val (.int vn0), .val (.int vn1), .unset, .unset, .unset, .unset, .unset] [(.int (vf + (2 : Int32))), (.ref b2)])) rfl rfl (hb hby at_162) _ ?_
        exact k)
      exact ⟨el2, heb2, p55⟩
    · have p56 : ∀ t, Steps p.tables e below (T26.setTop (mkF m 163 #[.val (.long x0), .second, .val (.int x1), .val (.long x2), .second, .val (.ref b2), .val (.int vf), .val (.int vl), .val (.int vt), .val (.int vm), .val (.int vn0), .val (.int vn1), .unset, .unset, .unset, .unset, .unset] [(.int ((((x2.toUInt64 >>> ((16 : Int32) &&& 0x3f).toInt64.toUInt64).toInt64).toInt32).toInt8.toInt32))])) t → Steps p.tables e below (s₁.setTop (entryFrame m #[(.long x0), (.int x1), (.long x2)] maxLocals)) t := fun t k => p52 t (by
        show Steps p.tables e below (T26.setTop (mkF m 144 #[.val (.long x0), .second, .val (.int x1), .val (.long x2), .second, .val (.ref b2), .val (.int vf), .val (.int vl), .val (.int vt), .val (.int vm), .val (.int vn0), .val (.int vn1), .unset, .unset, .unset, .unset, .unset] [(.int (((x1.toUInt32 >>> ((8 : Int32) &&& 31).toUInt32).toInt32) &&& (1 : Int32)))])) _
        refine XS.ifNo X26.here hx rfl (hb hby at_144) rfl ((if0 _ _).trans (feq (hc144)).1) ?_
        show Steps p.tables e below (T26.setTop (mkF m 147 #[.val (.long x0), .second, .val (.int x1), .val (.long x2), .second, .val (.ref b2), .val (.int vf), .val (.int vl), .val (.int vt), .val (.int vm), .val (.int vn0), .val (.int vn1), .unset, .unset, .unset, .unset, .unset] [])) _
        refine XS.lloadN X26.here hx rfl (hb hby at_147) rfl ?_
        show Steps p.tables e below (T26.setTop (mkF m 148 #[.val (.long x0), .second, .val (.int x1), .val (.long x2), .second, .val (.ref b2), .val (.int vf), .val (.int vl), .val (.int vt), .val (.int vm), .val (.int vn0), .val (.int vn1), .unset, .unset, .unset, .unset, .unset] [(.long x2)])) _
        refine XS.bipush X26.here hx rfl (hb hby at_148) ?_
        show Steps p.tables e below (T26.setTop (mkF m 150 #[.val (.long x0), .second, .val (.int x1), .val (.long x2), .second, .val (.ref b2), .val (.int vf), .val (.int vl), .val (.int vt), .val (.int vm), .val (.int vn0), .val (.int vn1), .unset, .unset, .unset, .unset, .unset] [(.int (16 : Int32)), (.long x2)])) _
        refine XS.lushr X26.here hx rfl (hb hby at_150) rfl ?_
        show Steps p.tables e below (T26.setTop (mkF m 151 #[.val (.long x0), .second, .val (.int x1), .val (.long x2), .second, .val (.ref b2), .val (.int vf), .val (.int vl), .val (.int vt), .val (.int vm), .val (.int vn0), .val (.int vn1), .unset, .unset, .unset, .unset, .unset] [(.long ((x2.toUInt64 >>> ((16 : Int32) &&& 0x3f).toInt64.toUInt64).toInt64))])) _
        refine XS.l2i X26.here hx rfl (hb hby at_151) rfl ?_
        show Steps p.tables e below (T26.setTop (mkF m 152 #[.val (.long x0), .second, .val (.int x1), .val (.long x2), .second, .val (.ref b2), .val (.int vf), .val (.int vl), .val (.int vt), .val (.int vm), .val (.int vn0), .val (.int vn1), .unset, .unset, .unset, .unset, .unset] [(.int (((x2.toUInt64 >>> ((16 : Int32) &&& 0x3f).toInt64.toUInt64).toInt64).toInt32))])) _
        refine XS.i2b X26.here hx rfl (hb hby at_152) rfl ?_
        show Steps p.tables e below (T26.setTop (mkF m 153 #[.val (.long x0), .second, .val (.int x1), .val (.long x2), .second, .val (.ref b2), .val (.int vf), .val (.int vl), .val (.int vt), .val (.int vm), .val (.int vn0), .val (.int vn1), .unset, .unset, .unset, .unset, .unset] [(.int ((((x2.toUInt64 >>> ((16 : Int32) &&& 0x3f).toInt64.toUInt64).toInt64).toInt32).toInt8.toInt32))])) _
        refine XS.goto X26.here hx rfl (pc0 := 153) (pc' := 163) rfl (hb hby at_153) (by decide) (by decide) ?_
        exact k)
      exact ⟨((((x2.toUInt64 >>> ((16 : Int32) &&& 0x3f).toInt64.toUInt64).toInt64).toInt32).toInt8.toInt32), own_b2 _, p56⟩
  have p57 : ∀ t, Steps p.tables e below (T26.setTop (mkF m 165 #[.val (.long x0), .second, .val (.int x1), .val (.long x2), .second, .val (.ref b2), .val (.int vf), .val (.int vl), .val (.int vt), .val (.int vm), .val (.int vn0), .val (.int vn1), .val (.int vn2), .unset, .unset, .unset, .unset] [])) t → Steps p.tables e below (s₁.setTop (entryFrame m #[(.long x0), (.int x1), (.long x2)] maxLocals)) t := fun t k => p51 t (by
    show Steps p.tables e below (T26.setTop (mkF m 163 #[.val (.long x0), .second, .val (.int x1), .val (.long x2), .second, .val (.ref b2), .val (.int vf), .val (.int vl), .val (.int vt), .val (.int vm), .val (.int vn0), .val (.int vn1), .unset, .unset, .unset, .unset, .unset] [(.int vn2)])) _
    refine XS.istore X26.here hx rfl (hb hby at_163) rfl (l' := #[.val (.long x0), .second, .val (.int x1), .val (.long x2), .second, .val (.ref b2), .val (.int vf), .val (.int vl), .val (.int vt), .val (.int vm), .val (.int vn0), .val (.int vn1), .val (.int vn2), .unset, .unset, .unset, .unset]) rfl ?_
    exact k)
  rcases own_n3 hvm with rfl | rfl | rfl | rfl
  · have p58 : ∀ t, Steps p.tables e below (T26.setTop (mkF m 173 #[.val (.long x0), .second, .val (.int x1), .val (.long x2), .second, .val (.ref b2), .val (.int vf), .val (.int vl), .val (.int vt), .val (.int (0 : Int32)), .val (.int vn0), .val (.int vn1), .val (.int vn2), .unset, .unset, .unset, .unset] [(.int vn2), (.int vn1), (.int vn0), (.int (0 : Int32))])) t → Steps p.tables e below (s₁.setTop (entryFrame m #[(.long x0), (.int x1), (.long x2)] maxLocals)) t := fun t k => p57 t (by
      show Steps p.tables e below (T26.setTop (mkF m 165 #[.val (.long x0), .second, .val (.int x1), .val (.long x2), .second, .val (.ref b2), .val (.int vf), .val (.int vl), .val (.int vt), .val (.int (0 : Int32)), .val (.int vn0), .val (.int vn1), .val (.int vn2), .unset, .unset, .unset, .unset] [])) _
      refine XS.iload X26.here hx rfl (hb hby at_165) rfl ?_
      show Steps p.tables e below (T26.setTop (mkF m 167 #[.val (.long x0), .second, .val (.int x1), .val (.long x2), .second, .val (.ref b2), .val (.int vf), .val (.int vl), .val (.int vt), .val (.int (0 : Int32)), .val (.int vn0), .val (.int vn1), .val (.int vn2), .unset, .unset, .unset, .unset] [(.int (0 : Int32))])) _
      refine XS.iload X26.here hx rfl (hb hby at_167) rfl ?_
      show Steps p.tables e below (T26.setTop (mkF m 169 #[.val (.long x0), .second, .val (.int x1), .val (.long x2), .second, .val (.ref b2), .val (.int vf), .val (.int vl), .val (.int vt), .val (.int (0 : Int32)), .val (.int vn0), .val (.int vn1), .val (.int vn2), .unset, .unset, .unset, .unset] [(.int vn0), (.int (0 : Int32))])) _
      refine XS.iload X26.here hx rfl (hb hby at_169) rfl ?_
      show Steps p.tables e below (T26.setTop (mkF m 171 #[.val (.long x0), .second, .val (.int x1), .val (.long x2), .second, .val (.ref b2), .val (.int vf), .val (.int vl), .val (.int vt), .val (.int (0 : Int32)), .val (.int vn0), .val (.int vn1), .val (.int vn2), .unset, .unset, .unset, .unset] [(.int vn1), (.int vn0), (.int (0 : Int32))])) _
      refine XS.iload X26.here hx rfl (hb hby at_171) rfl ?_
      exact k)
    obtain ⟨_, _, ⟨T59, L59, k59, n59⟩, -, X59, ⟨Lc59, hQ59, l59, y59, z59⟩, st59⟩ := Jvm.LawKit.callS X26 hx (y := (⟨"com/example/kinwarden/kinwarden/NameBytesIsPinLaw", "make", "(IBBB)[B"⟩ : MethodName)) hown (mvT hZ (hw _ (List.mem_of_getElem? (i := 1) rfl))) (mvT hZ (hw _ (List.mem_of_getElem? (i := 2) rfl))) (mvT hZ (hw _ (List.mem_of_getElem? (i := 3) rfl))) (mvT hZ (hw _ (List.mem_of_getElem? (i := 4) rfl))) (by decide) (backOf (W := 0) (rmm0 l Z a0 hw [] vn0 vn1 vn2  h26 n0 Z26 ) hZ (hw _ (List.mem_of_getElem? (i := 4) rfl)) (hw _ (List.mem_of_getElem? (i := 3) rfl)) (by decide) (by decide)) (g := (mkF m 173 #[.val (.long x0), .second, .val (.int x1), .val (.long x2), .second, .val (.ref b2), .val (.int vf), .val (.int vl), .val (.int vt), .val (.int (0 : Int32)), .val (.int vn0), .val (.int vn1), .val (.int vn2), .unset, .unset, .unset, .unset] [(.int vn2), (.int vn1), (.int vn0), (.int (0 : Int32))])) rfl (by rw [hml]; rfl) (argsL := [(.int (0 : Int32)), (.int vn0), (.int vn1), (.int vn2)]) (rest := []) (lenOf pd0_0 rfl) rfl (by show 2 * 0 + _ ≤ _; exact Nat.le_of_eq rfl) (hb hby at_173) (fun _ _ => ⟨rfl, e26, (by decide : 1 + 1 ≤ _), (by decide : 6 + 0 ≤ _)⟩)
    dsimp only [Pt.U, Pt.locs, Pt.cells, Pt.slots] at X59 l59 y59 z59 st59 hQ59
    subst l59 y59 z59
    obtain ⟨r59, kk59, rfl, Nq59, K59, gr59, VR59⟩ := hQ59
    have N59 := Fr.app N26 Nq59
    have f60 := f27.keep K59 (all0)
    have f61 := BB.keep K59 nin0
    have Z59 := Nat.le_trans Z26 K59.1
    have p62 : ∀ t, Steps p.tables e below (T59.setTop (mkF m 176 #[.val (.long x0), .second, .val (.int x1), .val (.long x2), .second, .val (.ref b2), .val (.int vf), .val (.int vl), .val (.int vt), .val (.int (0 : Int32)), .val (.int vn0), .val (.int vn1), .val (.int vn2), .unset, .unset, .unset, .unset] [(.ref r59)])) t → Steps p.tables e below (s₁.setTop (entryFrame m #[(.long x0), (.int x1), (.long x2)] maxLocals)) t := fun t k => p58 t (st59 _ k)
    have p63 : ∀ t, Steps p.tables e below (T59.setTop (mkF m 178 #[.val (.long x0), .second, .val (.int x1), .val (.long x2), .second, .val (.ref b2), .val (.int vf), .val (.int vl), .val (.int vt), .val (.int (0 : Int32)), .val (.int vn0), .val (.int vn1), .val (.int vn2), .val (.ref r59), .unset, .unset, .unset] [])) t → Steps p.tables e below (s₁.setTop (entryFrame m #[(.long x0), (.int x1), (.long x2)] maxLocals)) t := fun t k => p62 t (by
      show Steps p.tables e below (T59.setTop (mkF m 176 #[.val (.long x0), .second, .val (.int x1), .val (.long x2), .second, .val (.ref b2), .val (.int vf), .val (.int vl), .val (.int vt), .val (.int (0 : Int32)), .val (.int vn0), .val (.int vn1), .val (.int vn2), .unset, .unset, .unset, .unset] [(.ref r59)])) _
      refine XS.astore X59.here hx rfl (hb hby at_176) rfl rfl (l' := #[.val (.long x0), .second, .val (.int x1), .val (.long x2), .second, .val (.ref b2), .val (.int vf), .val (.int vl), .val (.int vt), .val (.int (0 : Int32)), .val (.int vn0), .val (.int vn1), .val (.int vn2), .val (.ref r59), .unset, .unset, .unset]) rfl ?_
      exact k)
    obtain ⟨T64, h64, X64, e64, E64, A64, D64, -, st64⟩ := newO X59 hx hZ hown (hw _ (List.mem_of_getElem? (i := 5) rfl)) (hw _ (List.mem_of_getElem? (i := 6) rfl)) (hw _ (List.mem_of_getElem? (i := 7) rfl)) rfl (g := (mkF m 178 #[.val (.long x0), .second, .val (.int x1), .val (.long x2), .second, .val (.ref b2), .val (.int vf), .val (.int vl), .val (.int vt), .val (.int (0 : Int32)), .val (.int vn0), .val (.int vn1), .val (.int vn2), .val (.ref r59), .unset, .unset, .unset] [])) rfl (hb hby at_178) (by decide) (by decide)
    obtain ⟨b64, g64⟩ : ∃ z, z = T59.heap.size := ⟨_, rfl⟩
    rw [← g64] at A64 D64 st64
    have gn_b64 : n0 ≤ b64 := Nat.le_trans Z59 (Nat.le_of_eq g64.symm)
    have ne65 : b2 ≠ b64 := Nat.ne_of_lt (Nat.lt_of_lt_of_le f61.lt (Nat.le_of_eq g64.symm))
    have ne66 : r59 ≠ b64 := Nat.ne_of_lt (Nat.lt_of_lt_of_le VR59.lt (Nat.le_of_eq g64.symm))
    have f67 := f60.ext E64
    have f68 := f61.ext E64
    have f69 := VR59.ext E64
    have Z64 := Nat.le_trans Z59 E64.1
    have f70 : Fld Z h64 b64 "com/example/kinwarden/kinwarden/NameBytes" "bytes" "[B" .null := D64 (Or.inl (hw _ (List.mem_of_getElem? (i := 17) rfl))) (ty := (.array .byte)) (by decide)
    have f71 : Fld Z h64 b64 "com/example/kinwarden/kinwarden/NameBytes" "room" "[B" .null := D64 (Or.inl (hw _ (List.mem_of_getElem? (i := 19) rfl))) (ty := (.array .byte)) (by decide)
    have f72 : Fld Z h64 b64 "com/example/kinwarden/kinwarden/NameBytes" "from" "I" (.int (0 : Int32)) := D64 (Or.inl (hw _ (List.mem_of_getElem? (i := 26) rfl))) (ty := .int) (by decide)
    have f73 : Fld Z h64 b64 "com/example/kinwarden/kinwarden/NameBytes" "to" "I" (.int (0 : Int32)) := D64 (Or.inl (hw _ (List.mem_of_getElem? (i := 28) rfl))) (ty := .int) (by decide)
    have p74 : ∀ t, Steps p.tables e below (T64.setTop (mkF m 181 #[.val (.long x0), .second, .val (.int x1), .val (.long x2), .second, .val (.ref b2), .val (.int vf), .val (.int vl), .val (.int vt), .val (.int (0 : Int32)), .val (.int vn0), .val (.int vn1), .val (.int vn2), .val (.ref r59), .unset, .unset, .unset] [(.ref b64)])) t → Steps p.tables e below (s₁.setTop (entryFrame m #[(.long x0), (.int x1), (.long x2)] maxLocals)) t := fun t k => p63 t (st64 t k)
    have S0h := S0.ext f67.2
    have p75 : ∀ t, Steps p.tables e below (T64.setTop (mkF m 182 #[.val (.long x0), .second, .val (.int x1), .val (.long x2), .second, .val (.ref b2), .val (.int vf), .val (.int vl), .val (.int vt), .val (.int (0 : Int32)), .val (.int vn0), .val (.int vn1), .val (.int vn2), .val (.ref r59), .unset, .unset, .unset] [(.ref b64), (.ref b64)])) t → Steps p.tables e below (s₁.setTop (entryFrame m #[(.long x0), (.int x1), (.long x2)] maxLocals)) t := fun t k => p74 t (by
      show Steps p.tables e below (T64.setTop (mkF m 181 #[.val (.long x0), .second, .val (.int x1), .val (.long x2), .second, .val (.ref b2), .val (.int vf), .val (.int vl), .val (.int vt), .val (.int (0 : Int32)), .val (.int vn0), .val (.int vn1), .val (.int vn2), .val (.ref r59), .unset, .unset, .unset] [(.ref b64)])) _
      refine XS.dup X64.here hx rfl (hb hby at_181) rfl rfl ?_
      exact k)
    obtain ⟨_, _, ⟨T76, L76, k76, n76⟩, -, X76, ⟨Lc76, hQ76, l76, y76, z76⟩, st76⟩ := X64.specialBack hx (y := (⟨"com/example/kinwarden/kinwarden/NameBytes", "<init>", "()V"⟩ : MethodName)) rfl hown (mvT hZ (hw _ (List.mem_of_getElem? (i := 8) rfl))) (mvT hZ (hw _ (List.mem_of_getElem? (i := 9) rfl))) (mvT hZ (hw _ (List.mem_of_getElem? (i := 10) rfl))) (by decide) (backOf (W := 1) (rmI l Z a0 hw [] b64 a_E h64 n0 Z64 A64 f70 f71 f72 f73 gn_b64 S0h) hZ (hw _ (List.mem_of_getElem? (i := 10) rfl)) (hw _ (List.mem_of_getElem? (i := 7) rfl)) (by decide) (by decide)) (g := (mkF m 182 #[.val (.long x0), .second, .val (.int x1), .val (.long x2), .second, .val (.ref b2), .val (.int vf), .val (.int vl), .val (.int vt), .val (.int (0 : Int32)), .val (.int vn0), .val (.int vn1), .val (.int vn2), .val (.ref r59), .unset, .unset, .unset] [(.ref b64), (.ref b64)])) rfl (by rw [hml]; rfl) (Steps.refl _) (a := b64) (argsL := []) (rest := [(.ref b64)]) (lenOf pd0_1 rfl) rfl (by show 2 * 0 + _ ≤ _; exact Nat.le_of_eq rfl) (hb hby at_182) (fun _ _ => ⟨rfl, e64, (by decide : 3 + 0 ≤ _), (by decide : 10 + 0 ≤ _)⟩)
    dsimp only [Pt.U, Pt.locs, Pt.cells, Pt.slots] at X76 l76 y76 z76 st76 hQ76
    subst l76 y76 z76
    obtain ⟨rfl, Nq76, K76, Fa76, Fb76, Fc76⟩ := hQ76
    have N76 := Fr.app N59 Nq76
    have f77 := f67.keep K76 (allS gn_b64 (all0))
    have f78 := f68.keep K76 (ninS ne65 nin0)
    have f79 := f69.keep K76 (ninS ne66 nin0)
    have f80 := A64.keep K76
    have Z76 := Nat.le_trans Z64 K76.1
    have p81 : ∀ t, Steps p.tables e below (T76.setTop (mkF m 185 #[.val (.long x0), .second, .val (.int x1), .val (.long x2), .second, .val (.ref b2), .val (.int vf), .val (.int vl), .val (.int vt), .val (.int (0 : Int32)), .val (.int vn0), .val (.int vn1), .val (.int vn2), .val (.ref r59), .unset, .unset, .unset] [(.ref b64)])) t → Steps p.tables e below (s₁.setTop (entryFrame m #[(.long x0), (.int x1), (.long x2)] maxLocals)) t := fun t k => p75 t (st76.trans k)
    have p82 : ∀ t, Steps p.tables e below (T76.setTop (mkF m 195 #[.val (.long x0), .second, .val (.int x1), .val (.long x2), .second, .val (.ref b2), .val (.int vf), .val (.int vl), .val (.int vt), .val (.int (0 : Int32)), .val (.int vn0), .val (.int vn1), .val (.int vn2), .val (.ref r59), .val (.ref b64), .unset, .unset] [(.int vt), (.int vf), (.ref b2), (.ref b64)])) t → Steps p.tables e below (s₁.setTop (entryFrame m #[(.long x0), (.int x1), (.long x2)] maxLocals)) t := fun t k => p81 t (by
      show Steps p.tables e below (T76.setTop (mkF m 185 #[.val (.long x0), .second, .val (.int x1), .val (.long x2), .second, .val (.ref b2), .val (.int vf), .val (.int vl), .val (.int vt), .val (.int (0 : Int32)), .val (.int vn0), .val (.int vn1), .val (.int vn2), .val (.ref r59), .unset, .unset, .unset] [(.ref b64)])) _
      refine XS.astore X76.here hx rfl (hb hby at_185) rfl rfl (l' := #[.val (.long x0), .second, .val (.int x1), .val (.long x2), .second, .val (.ref b2), .val (.int vf), .val (.int vl), .val (.int vt), .val (.int (0 : Int32)), .val (.int vn0), .val (.int vn1), .val (.int vn2), .val (.ref r59), .val (.ref b64), .unset, .unset]) rfl ?_
      show Steps p.tables e below (T76.setTop (mkF m 187 #[.val (.long x0), .second, .val (.int x1), .val (.long x2), .second, .val (.ref b2), .val (.int vf), .val (.int vl), .val (.int vt), .val (.int (0 : Int32)), .val (.int vn0), .val (.int vn1), .val (.int vn2), .val (.ref r59), .val (.ref b64), .unset, .unset] [])) _
      refine XS.aload X76.here hx rfl (hb hby at_187) rfl rfl ?_
      show Steps p.tables e below (T76.setTop (mkF m 189 #[.val (.long x0), .second, .val (.int x1), .val (.long x2), .second, .val (.ref b2), .val (.int vf), .val (.int vl), .val (.int vt), .val (.int (0 : Int32)), .val (.int vn0), .val (.int vn1), .val (.int vn2), .val (.ref r59), .val (.ref b64), .unset, .unset] [(.ref b64)])) _
      refine XS.aload X76.here hx rfl (hb hby at_189) rfl rfl ?_
      show Steps p.tables e below (T76.setTop (mkF m 191 #[.val (.long x0), .second, .val (.int x1), .val (.long x2), .second, .val (.ref b2), .val (.int vf), .val (.int vl), .val (.int vt), .val (.int (0 : Int32)), .val (.int vn0), .val (.int vn1), .val (.int vn2), .val (.ref r59), .val (.ref b64), .unset, .unset] [(.ref b2), (.ref b64)])) _
      refine XS.iload X76.here hx rfl (hb hby at_191) rfl ?_
      show Steps p.tables e below (T76.setTop (mkF m 193 #[.val (.long x0), .second, .val (.int x1), .val (.long x2), .second, .val (.ref b2), .val (.int vf), .val (.int vl), .val (.int vt), .val (.int (0 : Int32)), .val (.int vn0), .val (.int vn1), .val (.int vn2), .val (.ref r59), .val (.ref b64), .unset, .unset] [(.int vf), (.ref b2), (.ref b64)])) _
      refine XS.iload X76.here hx rfl (hb hby at_193) rfl ?_
      exact k)
    obtain ⟨cq83, kq83, qa83, qb83, qc83⟩ := isOf hZ rfl f80
    obtain ⟨_, _, ⟨T83, L83, k83, n83⟩, -, X83, ⟨Lc83, hQ83, l83, y83, z83⟩, st83⟩ := X76.virtualBack hx (y := (⟨"com/example/kinwarden/kinwarden/NameBytes", "hold", "([BII)V"⟩ : MethodName)) (z := (⟨"com/example/kinwarden/kinwarden/NameBytes", "hold", "([BII)V"⟩ : MethodName)) hown (mvT hZ (hw _ (List.mem_of_getElem? (i := 20) rfl))) (mvT hZ (hw _ (List.mem_of_getElem? (i := 21) rfl))) (notFace_of_selects (args := #[]) (mvT hZ (hw _ (List.mem_of_getElem? (i := 23) rfl)))) (mvT hZ (hw _ (List.mem_of_getElem? (i := 23) rfl))) (mvT hZ (hw _ (List.mem_of_getElem? (i := 22) rfl))) (by decide) (backOf (W := 0) (rmH l Z a0 hw [] b64 b2 vf vt a_E T76.heap n0 Z76 f80 Fa76 Fb76 Fc76 gn_b64) hZ (hw _ (List.mem_of_getElem? (i := 24) rfl)) (hw _ (List.mem_of_getElem? (i := 7) rfl)) (by decide) (by decide)) qa83 qc83 (g := (mkF m 195 #[.val (.long x0), .second, .val (.int x1), .val (.long x2), .second, .val (.ref b2), .val (.int vf), .val (.int vl), .val (.int vt), .val (.int (0 : Int32)), .val (.int vn0), .val (.int vn1), .val (.int vn2), .val (.ref r59), .val (.ref b64), .unset, .unset] [(.int vt), (.int vf), (.ref b2), (.ref b64)])) rfl (by rw [hml]; rfl) (Steps.refl _) (argsL := [(.ref b2), (.int vf), (.int vt)]) (rest := []) (lenOf pd0_2 rfl) rfl (by show 2 * 0 + _ ≤ _; exact Nat.le_of_eq rfl) (hb hby at_195) (fun _ _ => ⟨rfl, rfl, (by decide : 3 + 0 ≤ _), (by decide : 10 + 0 ≤ _)⟩)
    dsimp only [Pt.U, Pt.locs, Pt.cells, Pt.slots] at X83 l83 y83 z83 st83 hQ83
    subst l83 y83 z83
    obtain ⟨rfl, Nq83, K83, Fa83, Fb83, Fc83⟩ := hQ83
    have N83 := Fr.app N76 Nq83
    have f84 := f77.keep K83 (allS gn_b64 (all0))
    have f85 := f78.keep K83 (ninS ne65 nin0)
    have f86 := f79.keep K83 (ninS ne66 nin0)
    have f87 := f80.keep K83
    have Z83 := Nat.le_trans Z76 K83.1
    have p88 : ∀ t, Steps p.tables e below (T83.setTop (mkF m 198 #[.val (.long x0), .second, .val (.int x1), .val (.long x2), .second, .val (.ref b2), .val (.int vf), .val (.int vl), .val (.int vt), .val (.int (0 : Int32)), .val (.int vn0), .val (.int vn1), .val (.int vn2), .val (.ref r59), .val (.ref b64), .unset, .unset] [])) t → Steps p.tables e below (s₁.setTop (entryFrame m #[(.long x0), (.int x1), (.long x2)] maxLocals)) t := fun t k => p82 t (st83.trans k)
    have p89 : ∀ t, Steps p.tables e below (T83.setTop (mkF m 202 #[.val (.long x0), .second, .val (.int x1), .val (.long x2), .second, .val (.ref b2), .val (.int vf), .val (.int vl), .val (.int vt), .val (.int (0 : Int32)), .val (.int vn0), .val (.int vn1), .val (.int vn2), .val (.ref r59), .val (.ref b64), .unset, .unset] [(.ref r59), (.ref b64)])) t → Steps p.tables e below (s₁.setTop (entryFrame m #[(.long x0), (.int x1), (.long x2)] maxLocals)) t := fun t k => p88 t (by
      show Steps p.tables e below (T83.setTop (mkF m 198 #[.val (.long x0), .second, .val (.int x1), .val (.long x2), .second, .val (.ref b2), .val (.int vf), .val (.int vl), .val (.int vt), .val (.int (0 : Int32)), .val (.int vn0), .val (.int vn1), .val (.int vn2), .val (.ref r59), .val (.ref b64), .unset, .unset] [])) _
      refine XS.aload X83.here hx rfl (hb hby at_198) rfl rfl ?_
      show Steps p.tables e below (T83.setTop (mkF m 200 #[.val (.long x0), .second, .val (.int x1), .val (.long x2), .second, .val (.ref b2), .val (.int vf), .val (.int vl), .val (.int vt), .val (.int (0 : Int32)), .val (.int vn0), .val (.int vn1), .val (.int vn2), .val (.ref r59), .val (.ref b64), .unset, .unset] [(.ref b64)])) _
      refine XS.aload X83.here hx rfl (hb hby at_200) rfl rfl ?_
      exact k)
    obtain ⟨cq90, kq90, qa90, qb90, qc90⟩ := isOf hZ rfl f87
    obtain ⟨_, _, ⟨T90, L90, k90, n90⟩, -, X90, ⟨Lc90, hQ90, l90, y90, z90⟩, st90⟩ := X83.virtualBack hx (y := (⟨"com/example/kinwarden/kinwarden/NameBytes", "is", "([B)Z"⟩ : MethodName)) (z := (⟨"com/example/kinwarden/kinwarden/NameBytes", "is", "([B)Z"⟩ : MethodName)) hown (mvT hZ (hw _ (List.mem_of_getElem? (i := 29) rfl))) (mvT hZ (hw _ (List.mem_of_getElem? (i := 30) rfl))) (notFace_of_selects (args := #[]) (mvT hZ (hw _ (List.mem_of_getElem? (i := 32) rfl)))) (mvT hZ (hw _ (List.mem_of_getElem? (i := 32) rfl))) (mvT hZ (hw _ (List.mem_of_getElem? (i := 31) rfl))) (by decide) (backOf (W := 0) (rms0 l Z a0 hw [] b64 r59 b2 kk59 vt vf el0 el1 el2  T83.heap n0 Z83 Fa83 Fb83 Fc83 f85 f86) hZ (hw _ (List.mem_of_getElem? (i := 33) rfl)) (hw _ (List.mem_of_getElem? (i := 7) rfl)) (by decide) (by decide)) qa90 qc90 (g := (mkF m 202 #[.val (.long x0), .second, .val (.int x1), .val (.long x2), .second, .val (.ref b2), .val (.int vf), .val (.int vl), .val (.int vt), .val (.int (0 : Int32)), .val (.int vn0), .val (.int vn1), .val (.int vn2), .val (.ref r59), .val (.ref b64), .unset, .unset] [(.ref r59), (.ref b64)])) rfl (by rw [hml]; rfl) (Steps.refl _) (argsL := [(.ref r59)]) (rest := []) (lenOf pd0_3 rfl) rfl (by show 2 * 0 + _ ≤ _; exact Nat.le_of_eq rfl) (hb hby at_202) (fun _ _ => ⟨rfl, rfl, (by decide : 3 + 0 ≤ _), (by decide : 10 + 0 ≤ _)⟩)
    dsimp only [Pt.U, Pt.locs, Pt.cells, Pt.slots] at X90 l90 y90 z90 st90 hQ90
    subst l90 y90 z90
    obtain ⟨rfl, Nq90, e90⟩ := hQ90
    have N90 := Fr.app N83 Nq90
    have p91 : ∀ t, Steps p.tables e below (T90.setTop (mkF m 205 #[.val (.long x0), .second, .val (.int x1), .val (.long x2), .second, .val (.ref b2), .val (.int vf), .val (.int vl), .val (.int vt), .val (.int (0 : Int32)), .val (.int vn0), .val (.int vn1), .val (.int vn2), .val (.ref r59), .val (.ref b64), .unset, .unset] [(.int (own_is0 vt vf ))])) t → Steps p.tables e below (s₁.setTop (entryFrame m #[(.long x0), (.int x1), (.long x2)] maxLocals)) t := fun t k => p89 t (st90.trans k)
    have p92 : ∀ t, Steps p.tables e below (T90.setTop (mkF m 211 #[.val (.long x0), .second, .val (.int x1), .val (.long x2), .second, .val (.ref b2), .val (.int vf), .val (.int vl), .val (.int vt), .val (.int (0 : Int32)), .val (.int vn0), .val (.int vn1), .val (.int vn2), .val (.ref r59), .val (.ref b64), .val (.int (own_is0 vt vf )), .unset] [(.int (0 : Int32)), (.int vl)])) t → Steps p.tables e below (s₁.setTop (entryFrame m #[(.long x0), (.int x1), (.long x2)] maxLocals)) t := fun t k => p91 t (by
      show Steps p.tables e below (T90.setTop (mkF m 205 #[.val (.long x0), .second, .val (.int x1), .val (.long x2), .second, .val (.ref b2), .val (.int vf), .val (.int vl), .val (.int vt), .val (.int (0 : Int32)), .val (.int vn0), .val (.int vn1), .val (.int vn2), .val (.ref r59), .val (.ref b64), .unset, .unset] [(.int (own_is0 vt vf ))])) _
      refine XS.istore X90.here hx rfl (hb hby at_205) rfl (l' := #[.val (.long x0), .second, .val (.int x1), .val (.long x2), .second, .val (.ref b2), .val (.int vf), .val (.int vl), .val (.int vt), .val (.int (0 : Int32)), .val (.int vn0), .val (.int vn1), .val (.int vn2), .val (.ref r59), .val (.ref b64), .val (.int (own_is0 vt vf )), .unset]) rfl ?_
      show Steps p.tables e below (T90.setTop (mkF m 207 #[.val (.long x0), .second, .val (.int x1), .val (.long x2), .second, .val (.ref b2), .val (.int vf), .val (.int vl), .val (.int vt), .val (.int (0 : Int32)), .val (.int vn0), .val (.int vn1), .val (.int vn2), .val (.ref r59), .val (.ref b64), .val (.int (own_is0 vt vf )), .unset] [])) _
      refine XS.iload X90.here hx rfl (hb hby at_207) rfl ?_
      show Steps p.tables e below (T90.setTop (mkF m 209 #[.val (.long x0), .second, .val (.int x1), .val (.long x2), .second, .val (.ref b2), .val (.int vf), .val (.int vl), .val (.int vt), .val (.int (0 : Int32)), .val (.int vn0), .val (.int vn1), .val (.int vn2), .val (.ref r59), .val (.ref b64), .val (.int (own_is0 vt vf )), .unset] [(.int vl)])) _
      refine XS.iload X90.here hx rfl (hb hby at_209) rfl ?_
      exact k)
    by_cases hc211 : vl = (0 : Int32)
    · have p93 : ∀ t, Steps p.tables e below (T90.setTop (mkF m 282 #[.val (.long x0), .second, .val (.int x1), .val (.long x2), .second, .val (.ref b2), .val (.int vf), .val (.int vl), .val (.int vt), .val (.int (0 : Int32)), .val (.int vn0), .val (.int vn1), .val (.int vn2), .val (.ref r59), .val (.ref b64), .val (.int (own_is0 vt vf )), .val (.int (1 : Int32))] [(.ref b64)])) t → Steps p.tables e below (s₁.setTop (entryFrame m #[(.long x0), (.int x1), (.long x2)] maxLocals)) t := fun t k => p92 t (by
        show Steps p.tables e below (T90.setTop (mkF m 211 #[.val (.long x0), .second, .val (.int x1), .val (.long x2), .second, .val (.ref b2), .val (.int vf), .val (.int vl), .val (.int vt), .val (.int (0 : Int32)), .val (.int vn0), .val (.int vn1), .val (.int vn2), .val (.ref r59), .val (.ref b64), .val (.int (own_is0 vt vf )), .unset] [(.int (0 : Int32)), (.int vl)])) _
        refine XS.icmpNo X90.here hx rfl (hb hby at_211) rfl ((teq (hc211)).2) ?_
        show Steps p.tables e below (T90.setTop (mkF m 214 #[.val (.long x0), .second, .val (.int x1), .val (.long x2), .second, .val (.ref b2), .val (.int vf), .val (.int vl), .val (.int vt), .val (.int (0 : Int32)), .val (.int vn0), .val (.int vn1), .val (.int vn2), .val (.ref r59), .val (.ref b64), .val (.int (own_is0 vt vf )), .unset] [])) _
        refine XS.iload X90.here hx rfl (hb hby at_214) rfl ?_
        show Steps p.tables e below (T90.setTop (mkF m 216 #[.val (.long x0), .second, .val (.int x1), .val (.long x2), .second, .val (.ref b2), .val (.int vf), .val (.int vl), .val (.int vt), .val (.int (0 : Int32)), .val (.int vn0), .val (.int vn1), .val (.int vn2), .val (.ref r59), .val (.ref b64), .val (.int (own_is0 vt vf )), .unset] [(.int (0 : Int32))])) _
        refine XS.iconst X90.here hx rfl (hb hby at_216) ?_
        show Steps p.tables e below (T90.setTop (mkF m 217 #[.val (.long x0), .second, .val (.int x1), .val (.long x2), .second, .val (.ref b2), .val (.int vf), .val (.int vl), .val (.int vt), .val (.int (0 : Int32)), .val (.int vn0), .val (.int vn1), .val (.int vn2), .val (.ref r59), .val (.ref b64), .val (.int (own_is0 vt vf )), .unset] [(.int (1 : Int32)), (.int (0 : Int32))])) _
        refine XS.icmpYes X90.here hx rfl (pc0 := 217) (pc' := 230) rfl (hb hby at_217) rfl ((tlt (by decide)).1) (by decide) (by decide) ?_
        show Steps p.tables e below (T90.setTop (mkF m 230 #[.val (.long x0), .second, .val (.int x1), .val (.long x2), .second, .val (.ref b2), .val (.int vf), .val (.int vl), .val (.int vt), .val (.int (0 : Int32)), .val (.int vn0), .val (.int vn1), .val (.int vn2), .val (.ref r59), .val (.ref b64), .val (.int (own_is0 vt vf )), .unset] [])) _
        refine XS.iload X90.here hx rfl (hb hby at_230) rfl ?_
        show Steps p.tables e below (T90.setTop (mkF m 232 #[.val (.long x0), .second, .val (.int x1), .val (.long x2), .second, .val (.ref b2), .val (.int vf), .val (.int vl), .val (.int vt), .val (.int (0 : Int32)), .val (.int vn0), .val (.int vn1), .val (.int vn2), .val (.ref r59), .val (.ref b64), .val (.int (own_is0 vt vf )), .unset] [(.int (0 : Int32))])) _
        refine XS.iconst X90.here hx rfl (hb hby at_232) ?_
        show Steps p.tables e below (T90.setTop (mkF m 233 #[.val (.long x0), .second, .val (.int x1), .val (.long x2), .second, .val (.ref b2), .val (.int vf), .val (.int vl), .val (.int vt), .val (.int (0 : Int32)), .val (.int vn0), .val (.int vn1), .val (.int vn2), .val (.ref r59), .val (.ref b64), .val (.int (own_is0 vt vf )), .unset] [(.int (2 : Int32)), (.int (0 : Int32))])) _
        refine XS.icmpYes X90.here hx rfl (pc0 := 233) (pc' := 248) rfl (hb hby at_233) rfl ((tlt (by decide)).1) (by decide) (by decide) ?_
        show Steps p.tables e below (T90.setTop (mkF m 248 #[.val (.long x0), .second, .val (.int x1), .val (.long x2), .second, .val (.ref b2), .val (.int vf), .val (.int vl), .val (.int vt), .val (.int (0 : Int32)), .val (.int vn0), .val (.int vn1), .val (.int vn2), .val (.ref r59), .val (.ref b64), .val (.int (own_is0 vt vf )), .unset] [])) _
        refine XS.iload X90.here hx rfl (hb hby at_248) rfl ?_
        show Steps p.tables e below (T90.setTop (mkF m 250 #[.val (.long x0), .second, .val (.int x1), .val (.long x2), .second, .val (.ref b2), .val (.int vf), .val (.int vl), .val (.int vt), .val (.int (0 : Int32)), .val (.int vn0), .val (.int vn1), .val (.int vn2), .val (.ref r59), .val (.ref b64), .val (.int (own_is0 vt vf )), .unset] [(.int (0 : Int32))])) _
        refine XS.iconst X90.here hx rfl (hb hby at_250) ?_
        show Steps p.tables e below (T90.setTop (mkF m 251 #[.val (.long x0), .second, .val (.int x1), .val (.long x2), .second, .val (.ref b2), .val (.int vf), .val (.int vl), .val (.int vt), .val (.int (0 : Int32)), .val (.int vn0), .val (.int vn1), .val (.int vn2), .val (.ref r59), .val (.ref b64), .val (.int (own_is0 vt vf )), .unset] [(.int (3 : Int32)), (.int (0 : Int32))])) _
        refine XS.icmpYes X90.here hx rfl (pc0 := 251) (pc' := 266) rfl (hb hby at_251) rfl ((tlt (by decide)).1) (by decide) (by decide) ?_
        show Steps p.tables e below (T90.setTop (mkF m 266 #[.val (.long x0), .second, .val (.int x1), .val (.long x2), .second, .val (.ref b2), .val (.int vf), .val (.int vl), .val (.int vt), .val (.int (0 : Int32)), .val (.int vn0), .val (.int vn1), .val (.int vn2), .val (.ref r59), .val (.ref b64), .val (.int (own_is0 vt vf )), .unset] [])) _
        refine XS.iconst X90.here hx rfl (hb hby at_266) ?_
        show Steps p.tables e below (T90.setTop (mkF m 267 #[.val (.long x0), .second, .val (.int x1), .val (.long x2), .second, .val (.ref b2), .val (.int vf), .val (.int vl), .val (.int vt), .val (.int (0 : Int32)), .val (.int vn0), .val (.int vn1), .val (.int vn2), .val (.ref r59), .val (.ref b64), .val (.int (own_is0 vt vf )), .unset] [(.int (1 : Int32))])) _
        refine XS.goto X90.here hx rfl (pc0 := 267) (pc' := 271) rfl (hb hby at_267) (by decide) (by decide) ?_
        show Steps p.tables e below (T90.setTop (mkF m 271 #[.val (.long x0), .second, .val (.int x1), .val (.long x2), .second, .val (.ref b2), .val (.int vf), .val (.int vl), .val (.int vt), .val (.int (0 : Int32)), .val (.int vn0), .val (.int vn1), .val (.int vn2), .val (.ref r59), .val (.ref b64), .val (.int (own_is0 vt vf )), .unset] [(.int (1 : Int32))])) _
        refine XS.istore X90.here hx rfl (hb hby at_271) rfl (l' := #[.val (.long x0), .second, .val (.int x1), .val (.long x2), .second, .val (.ref b2), .val (.int vf), .val (.int vl), .val (.int vt), .val (.int (0 : Int32)), .val (.int vn0), .val (.int vn1), .val (.int vn2), .val (.ref r59), .val (.ref b64), .val (.int (own_is0 vt vf )), .val (.int (1 : Int32))]) rfl ?_
        show Steps p.tables e below (T90.setTop (mkF m 273 #[.val (.long x0), .second, .val (.int x1), .val (.long x2), .second, .val (.ref b2), .val (.int vf), .val (.int vl), .val (.int vt), .val (.int (0 : Int32)), .val (.int vn0), .val (.int vn1), .val (.int vn2), .val (.ref r59), .val (.ref b64), .val (.int (own_is0 vt vf )), .val (.int (1 : Int32))] [])) _
        refine XS.iload X90.here hx rfl (hb hby at_273) rfl ?_
        show Steps p.tables e below (T90.setTop (mkF m 275 #[.val (.long x0), .second, .val (.int x1), .val (.long x2), .second, .val (.ref b2), .val (.int vf), .val (.int vl), .val (.int vt), .val (.int (0 : Int32)), .val (.int vn0), .val (.int vn1), .val (.int vn2), .val (.ref r59), .val (.ref b64), .val (.int (own_is0 vt vf )), .val (.int (1 : Int32))] [(.int (own_is0 vt vf ))])) _
        refine XS.iload X90.here hx rfl (hb hby at_275) rfl ?_
        show Steps p.tables e below (T90.setTop (mkF m 277 #[.val (.long x0), .second, .val (.int x1), .val (.long x2), .second, .val (.ref b2), .val (.int vf), .val (.int vl), .val (.int vt), .val (.int (0 : Int32)), .val (.int vn0), .val (.int vn1), .val (.int vn2), .val (.ref r59), .val (.ref b64), .val (.int (own_is0 vt vf )), .val (.int (1 : Int32))] [(.int (1 : Int32)), (.int (own_is0 vt vf ))])) _
        refine XS.icmpNo X90.here hx rfl (hb hby at_277) rfl ((teq (by unfold own_is0; rw [if_pos ((own_sub hvt).trans hc211)])).2) ?_
        show Steps p.tables e below (T90.setTop (mkF m 280 #[.val (.long x0), .second, .val (.int x1), .val (.long x2), .second, .val (.ref b2), .val (.int vf), .val (.int vl), .val (.int vt), .val (.int (0 : Int32)), .val (.int vn0), .val (.int vn1), .val (.int vn2), .val (.ref r59), .val (.ref b64), .val (.int (own_is0 vt vf )), .val (.int (1 : Int32))] [])) _
        refine XS.aload X90.here hx rfl (hb hby at_280) rfl rfl ?_
        exact k)
      obtain ⟨cq94, kq94, qa94, qb94, qc94⟩ := isOf hZ e90 f87
      obtain ⟨_, _, ⟨T94, L94, k94, n94⟩, -, X94, ⟨Lc94, hQ94, l94, y94, z94⟩, st94⟩ := X90.virtualBack hx (y := (⟨"com/example/kinwarden/kinwarden/NameBytes", "from", "()I"⟩ : MethodName)) (z := (⟨"com/example/kinwarden/kinwarden/NameBytes", "from", "()I"⟩ : MethodName)) hown (mvT hZ (hw _ (List.mem_of_getElem? (i := 34) rfl))) (mvT hZ (hw _ (List.mem_of_getElem? (i := 35) rfl))) (notFace_of_selects (args := #[]) (mvT hZ (hw _ (List.mem_of_getElem? (i := 37) rfl)))) (mvT hZ (hw _ (List.mem_of_getElem? (i := 37) rfl))) (mvT hZ (hw _ (List.mem_of_getElem? (i := 36) rfl))) (by decide) (backOf (W := 0) (rmF l Z a0 hw [] b64 vf T83.heap n0 Z83 Fb83) hZ (hw _ (List.mem_of_getElem? (i := 38) rfl)) (hw _ (List.mem_of_getElem? (i := 7) rfl)) (by decide) (by decide)) qa94 qc94 (g := (mkF m 282 #[.val (.long x0), .second, .val (.int x1), .val (.long x2), .second, .val (.ref b2), .val (.int vf), .val (.int vl), .val (.int vt), .val (.int (0 : Int32)), .val (.int vn0), .val (.int vn1), .val (.int vn2), .val (.ref r59), .val (.ref b64), .val (.int (own_is0 vt vf )), .val (.int (1 : Int32))] [(.ref b64)])) rfl (by rw [hml]; rfl) (Steps.refl _) (argsL := []) (rest := []) (lenOf pd0_4 rfl) rfl (by show 2 * 0 + _ ≤ _; exact Nat.le_of_eq rfl) (hb hby at_282) (fun _ _ => ⟨rfl, e90, (by decide : 3 + 0 ≤ _), (by decide : 10 + 0 ≤ _)⟩)
      dsimp only [Pt.U, Pt.locs, Pt.cells, Pt.slots] at X94 l94 y94 z94 st94 hQ94
      subst l94 y94 z94
      obtain ⟨rfl, Nq94, e94⟩ := hQ94
      have N94 := Fr.app N90 Nq94
      have p95 : ∀ t, Steps p.tables e below (T94.setTop (mkF m 285 #[.val (.long x0), .second, .val (.int x1), .val (.long x2), .second, .val (.ref b2), .val (.int vf), .val (.int vl), .val (.int vt), .val (.int (0 : Int32)), .val (.int vn0), .val (.int vn1), .val (.int vn2), .val (.ref r59), .val (.ref b64), .val (.int (own_is0 vt vf )), .val (.int (1 : Int32))] [(.int vf)])) t → Steps p.tables e below (s₁.setTop (entryFrame m #[(.long x0), (.int x1), (.long x2)] maxLocals)) t := fun t k => p93 t (st94.trans k)
      have p96 : ∀ t, Steps p.tables e below (T94.setTop (mkF m 292 #[.val (.long x0), .second, .val (.int x1), .val (.long x2), .second, .val (.ref b2), .val (.int vf), .val (.int vl), .val (.int vt), .val (.int (0 : Int32)), .val (.int vn0), .val (.int vn1), .val (.int vn2), .val (.ref r59), .val (.ref b64), .val (.int (own_is0 vt vf )), .val (.int (1 : Int32))] [(.ref b64)])) t → Steps p.tables e below (s₁.setTop (entryFrame m #[(.long x0), (.int x1), (.long x2)] maxLocals)) t := fun t k => p95 t (by
        show Steps p.tables e below (T94.setTop (mkF m 285 #[.val (.long x0), .second, .val (.int x1), .val (.long x2), .second, .val (.ref b2), .val (.int vf), .val (.int vl), .val (.int vt), .val (.int (0 : Int32)), .val (.int vn0), .val (.int vn1), .val (.int vn2), .val (.ref r59), .val (.ref b64), .val (.int (own_is0 vt vf )), .val (.int (1 : Int32))] [(.int vf)])) _
        refine XS.iload X94.here hx rfl (hb hby at_285) rfl ?_
        show Steps p.tables e below (T94.setTop (mkF m 287 #[.val (.long x0), .second, .val (.int x1), .val (.long x2), .second, .val (.ref b2), .val (.int vf), .val (.int vl), .val (.int vt), .val (.int (0 : Int32)), .val (.int vn0), .val (.int vn1), .val (.int vn2), .val (.ref r59), .val (.ref b64), .val (.int (own_is0 vt vf )), .val (.int (1 : Int32))] [(.int vf), (.int vf)])) _
        refine XS.icmpNo X94.here hx rfl (hb hby at_287) rfl ((teq (rfl)).2) ?_
        show Steps p.tables e below (T94.setTop (mkF m 290 #[.val (.long x0), .second, .val (.int x1), .val (.long x2), .second, .val (.ref b2), .val (.int vf), .val (.int vl), .val (.int vt), .val (.int (0 : Int32)), .val (.int vn0), .val (.int vn1), .val (.int vn2), .val (.ref r59), .val (.ref b64), .val (.int (own_is0 vt vf )), .val (.int (1 : Int32))] [])) _
        refine XS.aload X94.here hx rfl (hb hby at_290) rfl rfl ?_
        exact k)
      obtain ⟨cq97, kq97, qa97, qb97, qc97⟩ := isOf hZ e94 f87
      obtain ⟨_, _, ⟨T97, L97, k97, n97⟩, -, X97, ⟨Lc97, hQ97, l97, y97, z97⟩, st97⟩ := X94.virtualBack hx (y := (⟨"com/example/kinwarden/kinwarden/NameBytes", "to", "()I"⟩ : MethodName)) (z := (⟨"com/example/kinwarden/kinwarden/NameBytes", "to", "()I"⟩ : MethodName)) hown (mvT hZ (hw _ (List.mem_of_getElem? (i := 39) rfl))) (mvT hZ (hw _ (List.mem_of_getElem? (i := 40) rfl))) (notFace_of_selects (args := #[]) (mvT hZ (hw _ (List.mem_of_getElem? (i := 42) rfl)))) (mvT hZ (hw _ (List.mem_of_getElem? (i := 42) rfl))) (mvT hZ (hw _ (List.mem_of_getElem? (i := 41) rfl))) (by decide) (backOf (W := 0) (rmT l Z a0 hw [] b64 vt T83.heap n0 Z83 Fc83) hZ (hw _ (List.mem_of_getElem? (i := 43) rfl)) (hw _ (List.mem_of_getElem? (i := 7) rfl)) (by decide) (by decide)) qa97 qc97 (g := (mkF m 292 #[.val (.long x0), .second, .val (.int x1), .val (.long x2), .second, .val (.ref b2), .val (.int vf), .val (.int vl), .val (.int vt), .val (.int (0 : Int32)), .val (.int vn0), .val (.int vn1), .val (.int vn2), .val (.ref r59), .val (.ref b64), .val (.int (own_is0 vt vf )), .val (.int (1 : Int32))] [(.ref b64)])) rfl (by rw [hml]; rfl) (Steps.refl _) (argsL := []) (rest := []) (lenOf pd0_4 rfl) rfl (by show 2 * 0 + _ ≤ _; exact Nat.le_of_eq rfl) (hb hby at_292) (fun _ _ => ⟨rfl, e94, (by decide : 3 + 0 ≤ _), (by decide : 10 + 0 ≤ _)⟩)
      dsimp only [Pt.U, Pt.locs, Pt.cells, Pt.slots] at X97 l97 y97 z97 st97 hQ97
      subst l97 y97 z97
      obtain ⟨rfl, Nq97, e97⟩ := hQ97
      have N97 := Fr.app N94 Nq97
      have p98 : ∀ t, Steps p.tables e below (T97.setTop (mkF m 295 #[.val (.long x0), .second, .val (.int x1), .val (.long x2), .second, .val (.ref b2), .val (.int vf), .val (.int vl), .val (.int vt), .val (.int (0 : Int32)), .val (.int vn0), .val (.int vn1), .val (.int vn2), .val (.ref r59), .val (.ref b64), .val (.int (own_is0 vt vf )), .val (.int (1 : Int32))] [(.int vt)])) t → Steps p.tables e below (s₁.setTop (entryFrame m #[(.long x0), (.int x1), (.long x2)] maxLocals)) t := fun t k => p96 t (st97.trans k)
      have p99 : ∀ t, Steps p.tables e below (T97.setTop (mkF m 305 #[.val (.long x0), .second, .val (.int x1), .val (.long x2), .second, .val (.ref b2), .val (.int vf), .val (.int vl), .val (.int vt), .val (.int (0 : Int32)), .val (.int vn0), .val (.int vn1), .val (.int vn2), .val (.ref r59), .val (.ref b64), .val (.int (own_is0 vt vf )), .val (.int (1 : Int32))] [(.int (1 : Int32))])) t → Steps p.tables e below (s₁.setTop (entryFrame m #[(.long x0), (.int x1), (.long x2)] maxLocals)) t := fun t k => p98 t (by
        show Steps p.tables e below (T97.setTop (mkF m 295 #[.val (.long x0), .second, .val (.int x1), .val (.long x2), .second, .val (.ref b2), .val (.int vf), .val (.int vl), .val (.int vt), .val (.int (0 : Int32)), .val (.int vn0), .val (.int vn1), .val (.int vn2), .val (.ref r59), .val (.ref b64), .val (.int (own_is0 vt vf )), .val (.int (1 : Int32))] [(.int vt)])) _
        refine XS.iload X97.here hx rfl (hb hby at_295) rfl ?_
        show Steps p.tables e below (T97.setTop (mkF m 297 #[.val (.long x0), .second, .val (.int x1), .val (.long x2), .second, .val (.ref b2), .val (.int vf), .val (.int vl), .val (.int vt), .val (.int (0 : Int32)), .val (.int vn0), .val (.int vn1), .val (.int vn2), .val (.ref r59), .val (.ref b64), .val (.int (own_is0 vt vf )), .val (.int (1 : Int32))] [(.int vt), (.int vt)])) _
        refine XS.icmpNo X97.here hx rfl (hb hby at_297) rfl ((teq (rfl)).2) ?_
        show Steps p.tables e below (T97.setTop (mkF m 300 #[.val (.long x0), .second, .val (.int x1), .val (.long x2), .second, .val (.ref b2), .val (.int vf), .val (.int vl), .val (.int vt), .val (.int (0 : Int32)), .val (.int vn0), .val (.int vn1), .val (.int vn2), .val (.ref r59), .val (.ref b64), .val (.int (own_is0 vt vf )), .val (.int (1 : Int32))] [])) _
        refine XS.iconst X97.here hx rfl (hb hby at_300) ?_
        show Steps p.tables e below (T97.setTop (mkF m 301 #[.val (.long x0), .second, .val (.int x1), .val (.long x2), .second, .val (.ref b2), .val (.int vf), .val (.int vl), .val (.int vt), .val (.int (0 : Int32)), .val (.int vn0), .val (.int vn1), .val (.int vn2), .val (.ref r59), .val (.ref b64), .val (.int (own_is0 vt vf )), .val (.int (1 : Int32))] [(.int (1 : Int32))])) _
        refine XS.goto X97.here hx rfl (pc0 := 301) (pc' := 305) rfl (hb hby at_301) (by decide) (by decide) ?_
        exact k)
      obtain ⟨fs, hr, hrun, hended, hW, hsame⟩ := X97.leave (v := some (.int (1 : Int32))) (fun h => by rw [Bd.returns] at h; cases h)
      refine ⟨_, _, p99 _ ?_, hrun, hended, _, _, rfl, ?_, ⟨_, rfl⟩, hW, hsame.mono (by decide) (by decide)⟩
      · show Steps p.tables e below (T97.setTop (mkF m 305 #[.val (.long x0), .second, .val (.int x1), .val (.long x2), .second, .val (.ref b2), .val (.int vf), .val (.int vl), .val (.int vt), .val (.int (0 : Int32)), .val (.int vn0), .val (.int vn1), .val (.int vn2), .val (.ref r59), .val (.ref b64), .val (.int (own_is0 vt vf )), .val (.int (1 : Int32))] [(.int (1 : Int32))])) _
        exact retN X97 hx (t := .boolean) Bd.returns (by simp) (hb hby at_305) hr
      · show Q0 Z x0 x1 x2 a_E h0 n0 _ T97.heap _
        rw [e97]
        exact ⟨rfl, N97⟩
    · have p100 : ∀ t, Steps p.tables e below (T90.setTop (mkF m 282 #[.val (.long x0), .second, .val (.int x1), .val (.long x2), .second, .val (.ref b2), .val (.int vf), .val (.int vl), .val (.int vt), .val (.int (0 : Int32)), .val (.int vn0), .val (.int vn1), .val (.int vn2), .val (.ref r59), .val (.ref b64), .val (.int (own_is0 vt vf )), .val (.int (0 : Int32))] [(.ref b64)])) t → Steps p.tables e below (s₁.setTop (entryFrame m #[(.long x0), (.int x1), (.long x2)] maxLocals)) t := fun t k => p92 t (by
        show Steps p.tables e below (T90.setTop (mkF m 211 #[.val (.long x0), .second, .val (.int x1), .val (.long x2), .second, .val (.ref b2), .val (.int vf), .val (.int vl), .val (.int vt), .val (.int (0 : Int32)), .val (.int vn0), .val (.int vn1), .val (.int vn2), .val (.ref r59), .val (.ref b64), .val (.int (own_is0 vt vf )), .unset] [(.int (0 : Int32)), (.int vl)])) _
        refine XS.icmpYes X90.here hx rfl (pc0 := 211) (pc' := 270) rfl (hb hby at_211) rfl ((feq (hc211)).2) (by decide) (by decide) ?_
        show Steps p.tables e below (T90.setTop (mkF m 270 #[.val (.long x0), .second, .val (.int x1), .val (.long x2), .second, .val (.ref b2), .val (.int vf), .val (.int vl), .val (.int vt), .val (.int (0 : Int32)), .val (.int vn0), .val (.int vn1), .val (.int vn2), .val (.ref r59), .val (.ref b64), .val (.int (own_is0 vt vf )), .unset] [])) _
        refine XS.iconst X90.here hx rfl (hb hby at_270) ?_
        show Steps p.tables e below (T90.setTop (mkF m 271 #[.val (.long x0), .second, .val (.int x1), .val (.long x2), .second, .val (.ref b2), .val (.int vf), .val (.int vl), .val (.int vt), .val (.int (0 : Int32)), .val (.int vn0), .val (.int vn1), .val (.int vn2), .val (.ref r59), .val (.ref b64), .val (.int (own_is0 vt vf )), .unset] [(.int (0 : Int32))])) _
        refine XS.istore X90.here hx rfl (hb hby at_271) rfl (l' := #[.val (.long x0), .second, .val (.int x1), .val (.long x2), .second, .val (.ref b2), .val (.int vf), .val (.int vl), .val (.int vt), .val (.int (0 : Int32)), .val (.int vn0), .val (.int vn1), .val (.int vn2), .val (.ref r59), .val (.ref b64), .val (.int (own_is0 vt vf )), .val (.int (0 : Int32))]) rfl ?_
        show Steps p.tables e below (T90.setTop (mkF m 273 #[.val (.long x0), .second, .val (.int x1), .val (.long x2), .second, .val (.ref b2), .val (.int vf), .val (.int vl), .val (.int vt), .val (.int (0 : Int32)), .val (.int vn0), .val (.int vn1), .val (.int vn2), .val (.ref r59), .val (.ref b64), .val (.int (own_is0 vt vf )), .val (.int (0 : Int32))] [])) _
        refine XS.iload X90.here hx rfl (hb hby at_273) rfl ?_
        show Steps p.tables e below (T90.setTop (mkF m 275 #[.val (.long x0), .second, .val (.int x1), .val (.long x2), .second, .val (.ref b2), .val (.int vf), .val (.int vl), .val (.int vt), .val (.int (0 : Int32)), .val (.int vn0), .val (.int vn1), .val (.int vn2), .val (.ref r59), .val (.ref b64), .val (.int (own_is0 vt vf )), .val (.int (0 : Int32))] [(.int (own_is0 vt vf ))])) _
        refine XS.iload X90.here hx rfl (hb hby at_275) rfl ?_
        show Steps p.tables e below (T90.setTop (mkF m 277 #[.val (.long x0), .second, .val (.int x1), .val (.long x2), .second, .val (.ref b2), .val (.int vf), .val (.int vl), .val (.int vt), .val (.int (0 : Int32)), .val (.int vn0), .val (.int vn1), .val (.int vn2), .val (.ref r59), .val (.ref b64), .val (.int (own_is0 vt vf )), .val (.int (0 : Int32))] [(.int (0 : Int32)), (.int (own_is0 vt vf ))])) _
        refine XS.icmpNo X90.here hx rfl (hb hby at_277) rfl ((teq (by unfold own_is0; rw [if_neg (fun q => hc211 ((own_sub hvt).symm.trans q))])).2) ?_
        show Steps p.tables e below (T90.setTop (mkF m 280 #[.val (.long x0), .second, .val (.int x1), .val (.long x2), .second, .val (.ref b2), .val (.int vf), .val (.int vl), .val (.int vt), .val (.int (0 : Int32)), .val (.int vn0), .val (.int vn1), .val (.int vn2), .val (.ref r59), .val (.ref b64), .val (.int (own_is0 vt vf )), .val (.int (0 : Int32))] [])) _
        refine XS.aload X90.here hx rfl (hb hby at_280) rfl rfl ?_
        exact k)
      obtain ⟨cq101, kq101, qa101, qb101, qc101⟩ := isOf hZ e90 f87
      obtain ⟨_, _, ⟨T101, L101, k101, n101⟩, -, X101, ⟨Lc101, hQ101, l101, y101, z101⟩, st101⟩ := X90.virtualBack hx (y := (⟨"com/example/kinwarden/kinwarden/NameBytes", "from", "()I"⟩ : MethodName)) (z := (⟨"com/example/kinwarden/kinwarden/NameBytes", "from", "()I"⟩ : MethodName)) hown (mvT hZ (hw _ (List.mem_of_getElem? (i := 34) rfl))) (mvT hZ (hw _ (List.mem_of_getElem? (i := 35) rfl))) (notFace_of_selects (args := #[]) (mvT hZ (hw _ (List.mem_of_getElem? (i := 37) rfl)))) (mvT hZ (hw _ (List.mem_of_getElem? (i := 37) rfl))) (mvT hZ (hw _ (List.mem_of_getElem? (i := 36) rfl))) (by decide) (backOf (W := 0) (rmF l Z a0 hw [] b64 vf T83.heap n0 Z83 Fb83) hZ (hw _ (List.mem_of_getElem? (i := 38) rfl)) (hw _ (List.mem_of_getElem? (i := 7) rfl)) (by decide) (by decide)) qa101 qc101 (g := (mkF m 282 #[.val (.long x0), .second, .val (.int x1), .val (.long x2), .second, .val (.ref b2), .val (.int vf), .val (.int vl), .val (.int vt), .val (.int (0 : Int32)), .val (.int vn0), .val (.int vn1), .val (.int vn2), .val (.ref r59), .val (.ref b64), .val (.int (own_is0 vt vf )), .val (.int (0 : Int32))] [(.ref b64)])) rfl (by rw [hml]; rfl) (Steps.refl _) (argsL := []) (rest := []) (lenOf pd0_4 rfl) rfl (by show 2 * 0 + _ ≤ _; exact Nat.le_of_eq rfl) (hb hby at_282) (fun _ _ => ⟨rfl, e90, (by decide : 3 + 0 ≤ _), (by decide : 10 + 0 ≤ _)⟩)
      dsimp only [Pt.U, Pt.locs, Pt.cells, Pt.slots] at X101 l101 y101 z101 st101 hQ101
      subst l101 y101 z101
      obtain ⟨rfl, Nq101, e101⟩ := hQ101
      have N101 := Fr.app N90 Nq101
      have p102 : ∀ t, Steps p.tables e below (T101.setTop (mkF m 285 #[.val (.long x0), .second, .val (.int x1), .val (.long x2), .second, .val (.ref b2), .val (.int vf), .val (.int vl), .val (.int vt), .val (.int (0 : Int32)), .val (.int vn0), .val (.int vn1), .val (.int vn2), .val (.ref r59), .val (.ref b64), .val (.int (own_is0 vt vf )), .val (.int (0 : Int32))] [(.int vf)])) t → Steps p.tables e below (s₁.setTop (entryFrame m #[(.long x0), (.int x1), (.long x2)] maxLocals)) t := fun t k => p100 t (st101.trans k)
      have p103 : ∀ t, Steps p.tables e below (T101.setTop (mkF m 292 #[.val (.long x0), .second, .val (.int x1), .val (.long x2), .second, .val (.ref b2), .val (.int vf), .val (.int vl), .val (.int vt), .val (.int (0 : Int32)), .val (.int vn0), .val (.int vn1), .val (.int vn2), .val (.ref r59), .val (.ref b64), .val (.int (own_is0 vt vf )), .val (.int (0 : Int32))] [(.ref b64)])) t → Steps p.tables e below (s₁.setTop (entryFrame m #[(.long x0), (.int x1), (.long x2)] maxLocals)) t := fun t k => p102 t (by
        show Steps p.tables e below (T101.setTop (mkF m 285 #[.val (.long x0), .second, .val (.int x1), .val (.long x2), .second, .val (.ref b2), .val (.int vf), .val (.int vl), .val (.int vt), .val (.int (0 : Int32)), .val (.int vn0), .val (.int vn1), .val (.int vn2), .val (.ref r59), .val (.ref b64), .val (.int (own_is0 vt vf )), .val (.int (0 : Int32))] [(.int vf)])) _
        refine XS.iload X101.here hx rfl (hb hby at_285) rfl ?_
        show Steps p.tables e below (T101.setTop (mkF m 287 #[.val (.long x0), .second, .val (.int x1), .val (.long x2), .second, .val (.ref b2), .val (.int vf), .val (.int vl), .val (.int vt), .val (.int (0 : Int32)), .val (.int vn0), .val (.int vn1), .val (.int vn2), .val (.ref r59), .val (.ref b64), .val (.int (own_is0 vt vf )), .val (.int (0 : Int32))] [(.int vf), (.int vf)])) _
        refine XS.icmpNo X101.here hx rfl (hb hby at_287) rfl ((teq (rfl)).2) ?_
        show Steps p.tables e below (T101.setTop (mkF m 290 #[.val (.long x0), .second, .val (.int x1), .val (.long x2), .second, .val (.ref b2), .val (.int vf), .val (.int vl), .val (.int vt), .val (.int (0 : Int32)), .val (.int vn0), .val (.int vn1), .val (.int vn2), .val (.ref r59), .val (.ref b64), .val (.int (own_is0 vt vf )), .val (.int (0 : Int32))] [])) _
        refine XS.aload X101.here hx rfl (hb hby at_290) rfl rfl ?_
        exact k)
      obtain ⟨cq104, kq104, qa104, qb104, qc104⟩ := isOf hZ e101 f87
      obtain ⟨_, _, ⟨T104, L104, k104, n104⟩, -, X104, ⟨Lc104, hQ104, l104, y104, z104⟩, st104⟩ := X101.virtualBack hx (y := (⟨"com/example/kinwarden/kinwarden/NameBytes", "to", "()I"⟩ : MethodName)) (z := (⟨"com/example/kinwarden/kinwarden/NameBytes", "to", "()I"⟩ : MethodName)) hown (mvT hZ (hw _ (List.mem_of_getElem? (i := 39) rfl))) (mvT hZ (hw _ (List.mem_of_getElem? (i := 40) rfl))) (notFace_of_selects (args := #[]) (mvT hZ (hw _ (List.mem_of_getElem? (i := 42) rfl)))) (mvT hZ (hw _ (List.mem_of_getElem? (i := 42) rfl))) (mvT hZ (hw _ (List.mem_of_getElem? (i := 41) rfl))) (by decide) (backOf (W := 0) (rmT l Z a0 hw [] b64 vt T83.heap n0 Z83 Fc83) hZ (hw _ (List.mem_of_getElem? (i := 43) rfl)) (hw _ (List.mem_of_getElem? (i := 7) rfl)) (by decide) (by decide)) qa104 qc104 (g := (mkF m 292 #[.val (.long x0), .second, .val (.int x1), .val (.long x2), .second, .val (.ref b2), .val (.int vf), .val (.int vl), .val (.int vt), .val (.int (0 : Int32)), .val (.int vn0), .val (.int vn1), .val (.int vn2), .val (.ref r59), .val (.ref b64), .val (.int (own_is0 vt vf )), .val (.int (0 : Int32))] [(.ref b64)])) rfl (by rw [hml]; rfl) (Steps.refl _) (argsL := []) (rest := []) (lenOf pd0_4 rfl) rfl (by show 2 * 0 + _ ≤ _; exact Nat.le_of_eq rfl) (hb hby at_292) (fun _ _ => ⟨rfl, e101, (by decide : 3 + 0 ≤ _), (by decide : 10 + 0 ≤ _)⟩)
      dsimp only [Pt.U, Pt.locs, Pt.cells, Pt.slots] at X104 l104 y104 z104 st104 hQ104
      subst l104 y104 z104
      obtain ⟨rfl, Nq104, e104⟩ := hQ104
      have N104 := Fr.app N101 Nq104
      have p105 : ∀ t, Steps p.tables e below (T104.setTop (mkF m 295 #[.val (.long x0), .second, .val (.int x1), .val (.long x2), .second, .val (.ref b2), .val (.int vf), .val (.int vl), .val (.int vt), .val (.int (0 : Int32)), .val (.int vn0), .val (.int vn1), .val (.int vn2), .val (.ref r59), .val (.ref b64), .val (.int (own_is0 vt vf )), .val (.int (0 : Int32))] [(.int vt)])) t → Steps p.tables e below (s₁.setTop (entryFrame m #[(.long x0), (.int x1), (.long x2)] maxLocals)) t := fun t k => p103 t (st104.trans k)
      have p106 : ∀ t, Steps p.tables e below (T104.setTop (mkF m 305 #[.val (.long x0), .second, .val (.int x1), .val (.long x2), .second, .val (.ref b2), .val (.int vf), .val (.int vl), .val (.int vt), .val (.int (0 : Int32)), .val (.int vn0), .val (.int vn1), .val (.int vn2), .val (.ref r59), .val (.ref b64), .val (.int (own_is0 vt vf )), .val (.int (0 : Int32))] [(.int (1 : Int32))])) t → Steps p.tables e below (s₁.setTop (entryFrame m #[(.long x0), (.int x1), (.long x2)] maxLocals)) t := fun t k => p105 t (by
        show Steps p.tables e below (T104.setTop (mkF m 295 #[.val (.long x0), .second, .val (.int x1), .val (.long x2), .second, .val (.ref b2), .val (.int vf), .val (.int vl), .val (.int vt), .val (.int (0 : Int32)), .val (.int vn0), .val (.int vn1), .val (.int vn2), .val (.ref r59), .val (.ref b64), .val (.int (own_is0 vt vf )), .val (.int (0 : Int32))] [(.int vt)])) _
        refine XS.iload X104.here hx rfl (hb hby at_295) rfl ?_
        show Steps p.tables e below (T104.setTop (mkF m 297 #[.val (.long x0), .second, .val (.int x1), .val (.long x2), .second, .val (.ref b2), .val (.int vf), .val (.int vl), .val (.int vt), .val (.int (0 : Int32)), .val (.int vn0), .val (.int vn1), .val (.int vn2), .val (.ref r59), .val (.ref b64), .val (.int (own_is0 vt vf )), .val (.int (0 : Int32))] [(.int vt), (.int vt)])) _
        refine XS.icmpNo X104.here hx rfl (hb hby at_297) rfl ((teq (rfl)).2) ?_
        show Steps p.tables e below (T104.setTop (mkF m 300 #[.val (.long x0), .second, .val (.int x1), .val (.long x2), .second, .val (.ref b2), .val (.int vf), .val (.int vl), .val (.int vt), .val (.int (0 : Int32)), .val (.int vn0), .val (.int vn1), .val (.int vn2), .val (.ref r59), .val (.ref b64), .val (.int (own_is0 vt vf )), .val (.int (0 : Int32))] [])) _
        refine XS.iconst X104.here hx rfl (hb hby at_300) ?_
        show Steps p.tables e below (T104.setTop (mkF m 301 #[.val (.long x0), .second, .val (.int x1), .val (.long x2), .second, .val (.ref b2), .val (.int vf), .val (.int vl), .val (.int vt), .val (.int (0 : Int32)), .val (.int vn0), .val (.int vn1), .val (.int vn2), .val (.ref r59), .val (.ref b64), .val (.int (own_is0 vt vf )), .val (.int (0 : Int32))] [(.int (1 : Int32))])) _
        refine XS.goto X104.here hx rfl (pc0 := 301) (pc' := 305) rfl (hb hby at_301) (by decide) (by decide) ?_
        exact k)
      obtain ⟨fs, hr, hrun, hended, hW, hsame⟩ := X104.leave (v := some (.int (1 : Int32))) (fun h => by rw [Bd.returns] at h; cases h)
      refine ⟨_, _, p106 _ ?_, hrun, hended, _, _, rfl, ?_, ⟨_, rfl⟩, hW, hsame.mono (by decide) (by decide)⟩
      · show Steps p.tables e below (T104.setTop (mkF m 305 #[.val (.long x0), .second, .val (.int x1), .val (.long x2), .second, .val (.ref b2), .val (.int vf), .val (.int vl), .val (.int vt), .val (.int (0 : Int32)), .val (.int vn0), .val (.int vn1), .val (.int vn2), .val (.ref r59), .val (.ref b64), .val (.int (own_is0 vt vf )), .val (.int (0 : Int32))] [(.int (1 : Int32))])) _
        exact retN X104 hx (t := .boolean) Bd.returns (by simp) (hb hby at_305) hr
      · show Q0 Z x0 x1 x2 a_E h0 n0 _ T104.heap _
        rw [e104]
        exact ⟨rfl, N104⟩
  · have p107 : ∀ t, Steps p.tables e below (T26.setTop (mkF m 173 #[.val (.long x0), .second, .val (.int x1), .val (.long x2), .second, .val (.ref b2), .val (.int vf), .val (.int vl), .val (.int vt), .val (.int (1 : Int32)), .val (.int vn0), .val (.int vn1), .val (.int vn2), .unset, .unset, .unset, .unset] [(.int vn2), (.int vn1), (.int vn0), (.int (1 : Int32))])) t → Steps p.tables e below (s₁.setTop (entryFrame m #[(.long x0), (.int x1), (.long x2)] maxLocals)) t := fun t k => p57 t (by
      show Steps p.tables e below (T26.setTop (mkF m 165 #[.val (.long x0), .second, .val (.int x1), .val (.long x2), .second, .val (.ref b2), .val (.int vf), .val (.int vl), .val (.int vt), .val (.int (1 : Int32)), .val (.int vn0), .val (.int vn1), .val (.int vn2), .unset, .unset, .unset, .unset] [])) _
      refine XS.iload X26.here hx rfl (hb hby at_165) rfl ?_
      show Steps p.tables e below (T26.setTop (mkF m 167 #[.val (.long x0), .second, .val (.int x1), .val (.long x2), .second, .val (.ref b2), .val (.int vf), .val (.int vl), .val (.int vt), .val (.int (1 : Int32)), .val (.int vn0), .val (.int vn1), .val (.int vn2), .unset, .unset, .unset, .unset] [(.int (1 : Int32))])) _
      refine XS.iload X26.here hx rfl (hb hby at_167) rfl ?_
      show Steps p.tables e below (T26.setTop (mkF m 169 #[.val (.long x0), .second, .val (.int x1), .val (.long x2), .second, .val (.ref b2), .val (.int vf), .val (.int vl), .val (.int vt), .val (.int (1 : Int32)), .val (.int vn0), .val (.int vn1), .val (.int vn2), .unset, .unset, .unset, .unset] [(.int vn0), (.int (1 : Int32))])) _
      refine XS.iload X26.here hx rfl (hb hby at_169) rfl ?_
      show Steps p.tables e below (T26.setTop (mkF m 171 #[.val (.long x0), .second, .val (.int x1), .val (.long x2), .second, .val (.ref b2), .val (.int vf), .val (.int vl), .val (.int vt), .val (.int (1 : Int32)), .val (.int vn0), .val (.int vn1), .val (.int vn2), .unset, .unset, .unset, .unset] [(.int vn1), (.int vn0), (.int (1 : Int32))])) _
      refine XS.iload X26.here hx rfl (hb hby at_171) rfl ?_
      exact k)
    obtain ⟨_, _, ⟨T108, L108, k108, n108⟩, -, X108, ⟨Lc108, hQ108, l108, y108, z108⟩, st108⟩ := Jvm.LawKit.callS X26 hx (y := (⟨"com/example/kinwarden/kinwarden/NameBytesIsPinLaw", "make", "(IBBB)[B"⟩ : MethodName)) hown (mvT hZ (hw _ (List.mem_of_getElem? (i := 1) rfl))) (mvT hZ (hw _ (List.mem_of_getElem? (i := 2) rfl))) (mvT hZ (hw _ (List.mem_of_getElem? (i := 3) rfl))) (mvT hZ (hw _ (List.mem_of_getElem? (i := 4) rfl))) (by decide) (backOf (W := 0) (rmm1 l Z a0 hw [] vn0 vn1 vn2  h26 n0 Z26 ) hZ (hw _ (List.mem_of_getElem? (i := 4) rfl)) (hw _ (List.mem_of_getElem? (i := 3) rfl)) (by decide) (by decide)) (g := (mkF m 173 #[.val (.long x0), .second, .val (.int x1), .val (.long x2), .second, .val (.ref b2), .val (.int vf), .val (.int vl), .val (.int vt), .val (.int (1 : Int32)), .val (.int vn0), .val (.int vn1), .val (.int vn2), .unset, .unset, .unset, .unset] [(.int vn2), (.int vn1), (.int vn0), (.int (1 : Int32))])) rfl (by rw [hml]; rfl) (argsL := [(.int (1 : Int32)), (.int vn0), (.int vn1), (.int vn2)]) (rest := []) (lenOf pd0_0 rfl) rfl (by show 2 * 0 + _ ≤ _; exact Nat.le_of_eq rfl) (hb hby at_173) (fun _ _ => ⟨rfl, e26, (by decide : 1 + 1 ≤ _), (by decide : 6 + 1 ≤ _)⟩)
    dsimp only [Pt.U, Pt.locs, Pt.cells, Pt.slots] at X108 l108 y108 z108 st108 hQ108
    subst l108 y108 z108
    obtain ⟨r108, kk108, rfl, Nq108, K108, gr108, VR108⟩ := hQ108
    have N108 := Fr.app N26 Nq108
    have f109 := f27.keep K108 (all0)
    have f110 := BB.keep K108 nin0
    have Z108 := Nat.le_trans Z26 K108.1
    have p111 : ∀ t, Steps p.tables e below (T108.setTop (mkF m 176 #[.val (.long x0), .second, .val (.int x1), .val (.long x2), .second, .val (.ref b2), .val (.int vf), .val (.int vl), .val (.int vt), .val (.int (1 : Int32)), .val (.int vn0), .val (.int vn1), .val (.int vn2), .unset, .unset, .unset, .unset] [(.ref r108)])) t → Steps p.tables e below (s₁.setTop (entryFrame m #[(.long x0), (.int x1), (.long x2)] maxLocals)) t := fun t k => p107 t (st108 _ k)
    have p112 : ∀ t, Steps p.tables e below (T108.setTop (mkF m 178 #[.val (.long x0), .second, .val (.int x1), .val (.long x2), .second, .val (.ref b2), .val (.int vf), .val (.int vl), .val (.int vt), .val (.int (1 : Int32)), .val (.int vn0), .val (.int vn1), .val (.int vn2), .val (.ref r108), .unset, .unset, .unset] [])) t → Steps p.tables e below (s₁.setTop (entryFrame m #[(.long x0), (.int x1), (.long x2)] maxLocals)) t := fun t k => p111 t (by
      show Steps p.tables e below (T108.setTop (mkF m 176 #[.val (.long x0), .second, .val (.int x1), .val (.long x2), .second, .val (.ref b2), .val (.int vf), .val (.int vl), .val (.int vt), .val (.int (1 : Int32)), .val (.int vn0), .val (.int vn1), .val (.int vn2), .unset, .unset, .unset, .unset] [(.ref r108)])) _
      refine XS.astore X108.here hx rfl (hb hby at_176) rfl rfl (l' := #[.val (.long x0), .second, .val (.int x1), .val (.long x2), .second, .val (.ref b2), .val (.int vf), .val (.int vl), .val (.int vt), .val (.int (1 : Int32)), .val (.int vn0), .val (.int vn1), .val (.int vn2), .val (.ref r108), .unset, .unset, .unset]) rfl ?_
      exact k)
    obtain ⟨T113, h113, X113, e113, E113, A113, D113, -, st113⟩ := newO X108 hx hZ hown (hw _ (List.mem_of_getElem? (i := 5) rfl)) (hw _ (List.mem_of_getElem? (i := 6) rfl)) (hw _ (List.mem_of_getElem? (i := 7) rfl)) rfl (g := (mkF m 178 #[.val (.long x0), .second, .val (.int x1), .val (.long x2), .second, .val (.ref b2), .val (.int vf), .val (.int vl), .val (.int vt), .val (.int (1 : Int32)), .val (.int vn0), .val (.int vn1), .val (.int vn2), .val (.ref r108), .unset, .unset, .unset] [])) rfl (hb hby at_178) (by decide) (by decide)
    obtain ⟨b113, g113⟩ : ∃ z, z = T108.heap.size := ⟨_, rfl⟩
    rw [← g113] at A113 D113 st113
    have gn_b113 : n0 ≤ b113 := Nat.le_trans Z108 (Nat.le_of_eq g113.symm)
    have ne114 : b2 ≠ b113 := Nat.ne_of_lt (Nat.lt_of_lt_of_le f110.lt (Nat.le_of_eq g113.symm))
    have ne115 : r108 ≠ b113 := Nat.ne_of_lt (Nat.lt_of_lt_of_le VR108.lt (Nat.le_of_eq g113.symm))
    have f116 := f109.ext E113
    have f117 := f110.ext E113
    have f118 := VR108.ext E113
    have Z113 := Nat.le_trans Z108 E113.1
    have f119 : Fld Z h113 b113 "com/example/kinwarden/kinwarden/NameBytes" "bytes" "[B" .null := D113 (Or.inl (hw _ (List.mem_of_getElem? (i := 17) rfl))) (ty := (.array .byte)) (by decide)
    have f120 : Fld Z h113 b113 "com/example/kinwarden/kinwarden/NameBytes" "room" "[B" .null := D113 (Or.inl (hw _ (List.mem_of_getElem? (i := 19) rfl))) (ty := (.array .byte)) (by decide)
    have f121 : Fld Z h113 b113 "com/example/kinwarden/kinwarden/NameBytes" "from" "I" (.int (0 : Int32)) := D113 (Or.inl (hw _ (List.mem_of_getElem? (i := 26) rfl))) (ty := .int) (by decide)
    have f122 : Fld Z h113 b113 "com/example/kinwarden/kinwarden/NameBytes" "to" "I" (.int (0 : Int32)) := D113 (Or.inl (hw _ (List.mem_of_getElem? (i := 28) rfl))) (ty := .int) (by decide)
    have p123 : ∀ t, Steps p.tables e below (T113.setTop (mkF m 181 #[.val (.long x0), .second, .val (.int x1), .val (.long x2), .second, .val (.ref b2), .val (.int vf), .val (.int vl), .val (.int vt), .val (.int (1 : Int32)), .val (.int vn0), .val (.int vn1), .val (.int vn2), .val (.ref r108), .unset, .unset, .unset] [(.ref b113)])) t → Steps p.tables e below (s₁.setTop (entryFrame m #[(.long x0), (.int x1), (.long x2)] maxLocals)) t := fun t k => p112 t (st113 t k)
    have S0h := S0.ext f116.2
    have p124 : ∀ t, Steps p.tables e below (T113.setTop (mkF m 182 #[.val (.long x0), .second, .val (.int x1), .val (.long x2), .second, .val (.ref b2), .val (.int vf), .val (.int vl), .val (.int vt), .val (.int (1 : Int32)), .val (.int vn0), .val (.int vn1), .val (.int vn2), .val (.ref r108), .unset, .unset, .unset] [(.ref b113), (.ref b113)])) t → Steps p.tables e below (s₁.setTop (entryFrame m #[(.long x0), (.int x1), (.long x2)] maxLocals)) t := fun t k => p123 t (by
      show Steps p.tables e below (T113.setTop (mkF m 181 #[.val (.long x0), .second, .val (.int x1), .val (.long x2), .second, .val (.ref b2), .val (.int vf), .val (.int vl), .val (.int vt), .val (.int (1 : Int32)), .val (.int vn0), .val (.int vn1), .val (.int vn2), .val (.ref r108), .unset, .unset, .unset] [(.ref b113)])) _
      refine XS.dup X113.here hx rfl (hb hby at_181) rfl rfl ?_
      exact k)
    obtain ⟨_, _, ⟨T125, L125, k125, n125⟩, -, X125, ⟨Lc125, hQ125, l125, y125, z125⟩, st125⟩ := X113.specialBack hx (y := (⟨"com/example/kinwarden/kinwarden/NameBytes", "<init>", "()V"⟩ : MethodName)) rfl hown (mvT hZ (hw _ (List.mem_of_getElem? (i := 8) rfl))) (mvT hZ (hw _ (List.mem_of_getElem? (i := 9) rfl))) (mvT hZ (hw _ (List.mem_of_getElem? (i := 10) rfl))) (by decide) (backOf (W := 1) (rmI l Z a0 hw [] b113 a_E h113 n0 Z113 A113 f119 f120 f121 f122 gn_b113 S0h) hZ (hw _ (List.mem_of_getElem? (i := 10) rfl)) (hw _ (List.mem_of_getElem? (i := 7) rfl)) (by decide) (by decide)) (g := (mkF m 182 #[.val (.long x0), .second, .val (.int x1), .val (.long x2), .second, .val (.ref b2), .val (.int vf), .val (.int vl), .val (.int vt), .val (.int (1 : Int32)), .val (.int vn0), .val (.int vn1), .val (.int vn2), .val (.ref r108), .unset, .unset, .unset] [(.ref b113), (.ref b113)])) rfl (by rw [hml]; rfl) (Steps.refl _) (a := b113) (argsL := []) (rest := [(.ref b113)]) (lenOf pd0_1 rfl) rfl (by show 2 * 0 + _ ≤ _; exact Nat.le_of_eq rfl) (hb hby at_182) (fun _ _ => ⟨rfl, e113, (by decide : 3 + 0 ≤ _), (by decide : 11 + 0 ≤ _)⟩)
    dsimp only [Pt.U, Pt.locs, Pt.cells, Pt.slots] at X125 l125 y125 z125 st125 hQ125
    subst l125 y125 z125
    obtain ⟨rfl, Nq125, K125, Fa125, Fb125, Fc125⟩ := hQ125
    have N125 := Fr.app N108 Nq125
    have f126 := f116.keep K125 (allS gn_b113 (all0))
    have f127 := f117.keep K125 (ninS ne114 nin0)
    have f128 := f118.keep K125 (ninS ne115 nin0)
    have f129 := A113.keep K125
    have Z125 := Nat.le_trans Z113 K125.1
    have p130 : ∀ t, Steps p.tables e below (T125.setTop (mkF m 185 #[.val (.long x0), .second, .val (.int x1), .val (.long x2), .second, .val (.ref b2), .val (.int vf), .val (.int vl), .val (.int vt), .val (.int (1 : Int32)), .val (.int vn0), .val (.int vn1), .val (.int vn2), .val (.ref r108), .unset, .unset, .unset] [(.ref b113)])) t → Steps p.tables e below (s₁.setTop (entryFrame m #[(.long x0), (.int x1), (.long x2)] maxLocals)) t := fun t k => p124 t (st125.trans k)
    have p131 : ∀ t, Steps p.tables e below (T125.setTop (mkF m 195 #[.val (.long x0), .second, .val (.int x1), .val (.long x2), .second, .val (.ref b2), .val (.int vf), .val (.int vl), .val (.int vt), .val (.int (1 : Int32)), .val (.int vn0), .val (.int vn1), .val (.int vn2), .val (.ref r108), .val (.ref b113), .unset, .unset] [(.int vt), (.int vf), (.ref b2), (.ref b113)])) t → Steps p.tables e below (s₁.setTop (entryFrame m #[(.long x0), (.int x1), (.long x2)] maxLocals)) t := fun t k => p130 t (by
      show Steps p.tables e below (T125.setTop (mkF m 185 #[.val (.long x0), .second, .val (.int x1), .val (.long x2), .second, .val (.ref b2), .val (.int vf), .val (.int vl), .val (.int vt), .val (.int (1 : Int32)), .val (.int vn0), .val (.int vn1), .val (.int vn2), .val (.ref r108), .unset, .unset, .unset] [(.ref b113)])) _
      refine XS.astore X125.here hx rfl (hb hby at_185) rfl rfl (l' := #[.val (.long x0), .second, .val (.int x1), .val (.long x2), .second, .val (.ref b2), .val (.int vf), .val (.int vl), .val (.int vt), .val (.int (1 : Int32)), .val (.int vn0), .val (.int vn1), .val (.int vn2), .val (.ref r108), .val (.ref b113), .unset, .unset]) rfl ?_
      show Steps p.tables e below (T125.setTop (mkF m 187 #[.val (.long x0), .second, .val (.int x1), .val (.long x2), .second, .val (.ref b2), .val (.int vf), .val (.int vl), .val (.int vt), .val (.int (1 : Int32)), .val (.int vn0), .val (.int vn1), .val (.int vn2), .val (.ref r108), .val (.ref b113), .unset, .unset] [])) _
      refine XS.aload X125.here hx rfl (hb hby at_187) rfl rfl ?_
      show Steps p.tables e below (T125.setTop (mkF m 189 #[.val (.long x0), .second, .val (.int x1), .val (.long x2), .second, .val (.ref b2), .val (.int vf), .val (.int vl), .val (.int vt), .val (.int (1 : Int32)), .val (.int vn0), .val (.int vn1), .val (.int vn2), .val (.ref r108), .val (.ref b113), .unset, .unset] [(.ref b113)])) _
      refine XS.aload X125.here hx rfl (hb hby at_189) rfl rfl ?_
      show Steps p.tables e below (T125.setTop (mkF m 191 #[.val (.long x0), .second, .val (.int x1), .val (.long x2), .second, .val (.ref b2), .val (.int vf), .val (.int vl), .val (.int vt), .val (.int (1 : Int32)), .val (.int vn0), .val (.int vn1), .val (.int vn2), .val (.ref r108), .val (.ref b113), .unset, .unset] [(.ref b2), (.ref b113)])) _
      refine XS.iload X125.here hx rfl (hb hby at_191) rfl ?_
      show Steps p.tables e below (T125.setTop (mkF m 193 #[.val (.long x0), .second, .val (.int x1), .val (.long x2), .second, .val (.ref b2), .val (.int vf), .val (.int vl), .val (.int vt), .val (.int (1 : Int32)), .val (.int vn0), .val (.int vn1), .val (.int vn2), .val (.ref r108), .val (.ref b113), .unset, .unset] [(.int vf), (.ref b2), (.ref b113)])) _
      refine XS.iload X125.here hx rfl (hb hby at_193) rfl ?_
      exact k)
    obtain ⟨cq132, kq132, qa132, qb132, qc132⟩ := isOf hZ rfl f129
    obtain ⟨_, _, ⟨T132, L132, k132, n132⟩, -, X132, ⟨Lc132, hQ132, l132, y132, z132⟩, st132⟩ := X125.virtualBack hx (y := (⟨"com/example/kinwarden/kinwarden/NameBytes", "hold", "([BII)V"⟩ : MethodName)) (z := (⟨"com/example/kinwarden/kinwarden/NameBytes", "hold", "([BII)V"⟩ : MethodName)) hown (mvT hZ (hw _ (List.mem_of_getElem? (i := 20) rfl))) (mvT hZ (hw _ (List.mem_of_getElem? (i := 21) rfl))) (notFace_of_selects (args := #[]) (mvT hZ (hw _ (List.mem_of_getElem? (i := 23) rfl)))) (mvT hZ (hw _ (List.mem_of_getElem? (i := 23) rfl))) (mvT hZ (hw _ (List.mem_of_getElem? (i := 22) rfl))) (by decide) (backOf (W := 0) (rmH l Z a0 hw [] b113 b2 vf vt a_E T125.heap n0 Z125 f129 Fa125 Fb125 Fc125 gn_b113) hZ (hw _ (List.mem_of_getElem? (i := 24) rfl)) (hw _ (List.mem_of_getElem? (i := 7) rfl)) (by decide) (by decide)) qa132 qc132 (g := (mkF m 195 #[.val (.long x0), .second, .val (.int x1), .val (.long x2), .second, .val (.ref b2), .val (.int vf), .val (.int vl), .val (.int vt), .val (.int (1 : Int32)), .val (.int vn0), .val (.int vn1), .val (.int vn2), .val (.ref r108), .val (.ref b113), .unset, .unset] [(.int vt), (.int vf), (.ref b2), (.ref b113)])) rfl (by rw [hml]; rfl) (Steps.refl _) (argsL := [(.ref b2), (.int vf), (.int vt)]) (rest := []) (lenOf pd0_2 rfl) rfl (by show 2 * 0 + _ ≤ _; exact Nat.le_of_eq rfl) (hb hby at_195) (fun _ _ => ⟨rfl, rfl, (by decide : 3 + 0 ≤ _), (by decide : 11 + 0 ≤ _)⟩)
    dsimp only [Pt.U, Pt.locs, Pt.cells, Pt.slots] at X132 l132 y132 z132 st132 hQ132
    subst l132 y132 z132
    obtain ⟨rfl, Nq132, K132, Fa132, Fb132, Fc132⟩ := hQ132
    have N132 := Fr.app N125 Nq132
    have f133 := f126.keep K132 (allS gn_b113 (all0))
    have f134 := f127.keep K132 (ninS ne114 nin0)
    have f135 := f128.keep K132 (ninS ne115 nin0)
    have f136 := f129.keep K132
    have Z132 := Nat.le_trans Z125 K132.1
    have p137 : ∀ t, Steps p.tables e below (T132.setTop (mkF m 198 #[.val (.long x0), .second, .val (.int x1), .val (.long x2), .second, .val (.ref b2), .val (.int vf), .val (.int vl), .val (.int vt), .val (.int (1 : Int32)), .val (.int vn0), .val (.int vn1), .val (.int vn2), .val (.ref r108), .val (.ref b113), .unset, .unset] [])) t → Steps p.tables e below (s₁.setTop (entryFrame m #[(.long x0), (.int x1), (.long x2)] maxLocals)) t := fun t k => p131 t (st132.trans k)
    have p138 : ∀ t, Steps p.tables e below (T132.setTop (mkF m 202 #[.val (.long x0), .second, .val (.int x1), .val (.long x2), .second, .val (.ref b2), .val (.int vf), .val (.int vl), .val (.int vt), .val (.int (1 : Int32)), .val (.int vn0), .val (.int vn1), .val (.int vn2), .val (.ref r108), .val (.ref b113), .unset, .unset] [(.ref r108), (.ref b113)])) t → Steps p.tables e below (s₁.setTop (entryFrame m #[(.long x0), (.int x1), (.long x2)] maxLocals)) t := fun t k => p137 t (by
      show Steps p.tables e below (T132.setTop (mkF m 198 #[.val (.long x0), .second, .val (.int x1), .val (.long x2), .second, .val (.ref b2), .val (.int vf), .val (.int vl), .val (.int vt), .val (.int (1 : Int32)), .val (.int vn0), .val (.int vn1), .val (.int vn2), .val (.ref r108), .val (.ref b113), .unset, .unset] [])) _
      refine XS.aload X132.here hx rfl (hb hby at_198) rfl rfl ?_
      show Steps p.tables e below (T132.setTop (mkF m 200 #[.val (.long x0), .second, .val (.int x1), .val (.long x2), .second, .val (.ref b2), .val (.int vf), .val (.int vl), .val (.int vt), .val (.int (1 : Int32)), .val (.int vn0), .val (.int vn1), .val (.int vn2), .val (.ref r108), .val (.ref b113), .unset, .unset] [(.ref b113)])) _
      refine XS.aload X132.here hx rfl (hb hby at_200) rfl rfl ?_
      exact k)
    obtain ⟨cq139, kq139, qa139, qb139, qc139⟩ := isOf hZ rfl f136
    obtain ⟨_, _, ⟨T139, L139, k139, n139⟩, -, X139, ⟨Lc139, hQ139, l139, y139, z139⟩, st139⟩ := X132.virtualBack hx (y := (⟨"com/example/kinwarden/kinwarden/NameBytes", "is", "([B)Z"⟩ : MethodName)) (z := (⟨"com/example/kinwarden/kinwarden/NameBytes", "is", "([B)Z"⟩ : MethodName)) hown (mvT hZ (hw _ (List.mem_of_getElem? (i := 29) rfl))) (mvT hZ (hw _ (List.mem_of_getElem? (i := 30) rfl))) (notFace_of_selects (args := #[]) (mvT hZ (hw _ (List.mem_of_getElem? (i := 32) rfl)))) (mvT hZ (hw _ (List.mem_of_getElem? (i := 32) rfl))) (mvT hZ (hw _ (List.mem_of_getElem? (i := 31) rfl))) (by decide) (backOf (W := 0) (rms1 l Z a0 hw [] b113 r108 b2 kk108 vt vf el0 el1 el2 (vn0.toInt8.toInt32) T132.heap n0 Z132 Fa132 Fb132 Fc132 f134 f135) hZ (hw _ (List.mem_of_getElem? (i := 33) rfl)) (hw _ (List.mem_of_getElem? (i := 7) rfl)) (by decide) (by decide)) qa139 qc139 (g := (mkF m 202 #[.val (.long x0), .second, .val (.int x1), .val (.long x2), .second, .val (.ref b2), .val (.int vf), .val (.int vl), .val (.int vt), .val (.int (1 : Int32)), .val (.int vn0), .val (.int vn1), .val (.int vn2), .val (.ref r108), .val (.ref b113), .unset, .unset] [(.ref r108), (.ref b113)])) rfl (by rw [hml]; rfl) (Steps.refl _) (argsL := [(.ref r108)]) (rest := []) (lenOf pd0_3 rfl) rfl (by show 2 * 0 + _ ≤ _; exact Nat.le_of_eq rfl) (hb hby at_202) (fun _ _ => ⟨rfl, rfl, (by decide : 3 + 0 ≤ _), (by decide : 11 + 0 ≤ _)⟩)
    dsimp only [Pt.U, Pt.locs, Pt.cells, Pt.slots] at X139 l139 y139 z139 st139 hQ139
    subst l139 y139 z139
    obtain ⟨rfl, Nq139, e139⟩ := hQ139
    have N139 := Fr.app N132 Nq139
    have p140 : ∀ t, Steps p.tables e below (T139.setTop (mkF m 205 #[.val (.long x0), .second, .val (.int x1), .val (.long x2), .second, .val (.ref b2), .val (.int vf), .val (.int vl), .val (.int vt), .val (.int (1 : Int32)), .val (.int vn0), .val (.int vn1), .val (.int vn2), .val (.ref r108), .val (.ref b113), .unset, .unset] [(.int (own_is1 vt vf el0 (vn0.toInt8.toInt32)))])) t → Steps p.tables e below (s₁.setTop (entryFrame m #[(.long x0), (.int x1), (.long x2)] maxLocals)) t := fun t k => p138 t (st139.trans k)
    have p141 : ∀ t, Steps p.tables e below (T139.setTop (mkF m 211 #[.val (.long x0), .second, .val (.int x1), .val (.long x2), .second, .val (.ref b2), .val (.int vf), .val (.int vl), .val (.int vt), .val (.int (1 : Int32)), .val (.int vn0), .val (.int vn1), .val (.int vn2), .val (.ref r108), .val (.ref b113), .val (.int (own_is1 vt vf el0 (vn0.toInt8.toInt32))), .unset] [(.int (1 : Int32)), (.int vl)])) t → Steps p.tables e below (s₁.setTop (entryFrame m #[(.long x0), (.int x1), (.long x2)] maxLocals)) t := fun t k => p140 t (by
      show Steps p.tables e below (T139.setTop (mkF m 205 #[.val (.long x0), .second, .val (.int x1), .val (.long x2), .second, .val (.ref b2), .val (.int vf), .val (.int vl), .val (.int vt), .val (.int (1 : Int32)), .val (.int vn0), .val (.int vn1), .val (.int vn2), .val (.ref r108), .val (.ref b113), .unset, .unset] [(.int (own_is1 vt vf el0 (vn0.toInt8.toInt32)))])) _
      refine XS.istore X139.here hx rfl (hb hby at_205) rfl (l' := #[.val (.long x0), .second, .val (.int x1), .val (.long x2), .second, .val (.ref b2), .val (.int vf), .val (.int vl), .val (.int vt), .val (.int (1 : Int32)), .val (.int vn0), .val (.int vn1), .val (.int vn2), .val (.ref r108), .val (.ref b113), .val (.int (own_is1 vt vf el0 (vn0.toInt8.toInt32))), .unset]) rfl ?_
      show Steps p.tables e below (T139.setTop (mkF m 207 #[.val (.long x0), .second, .val (.int x1), .val (.long x2), .second, .val (.ref b2), .val (.int vf), .val (.int vl), .val (.int vt), .val (.int (1 : Int32)), .val (.int vn0), .val (.int vn1), .val (.int vn2), .val (.ref r108), .val (.ref b113), .val (.int (own_is1 vt vf el0 (vn0.toInt8.toInt32))), .unset] [])) _
      refine XS.iload X139.here hx rfl (hb hby at_207) rfl ?_
      show Steps p.tables e below (T139.setTop (mkF m 209 #[.val (.long x0), .second, .val (.int x1), .val (.long x2), .second, .val (.ref b2), .val (.int vf), .val (.int vl), .val (.int vt), .val (.int (1 : Int32)), .val (.int vn0), .val (.int vn1), .val (.int vn2), .val (.ref r108), .val (.ref b113), .val (.int (own_is1 vt vf el0 (vn0.toInt8.toInt32))), .unset] [(.int vl)])) _
      refine XS.iload X139.here hx rfl (hb hby at_209) rfl ?_
      exact k)
    by_cases hc211 : vl = (1 : Int32)
    · have p142 : ∀ t, Steps p.tables e below (T139.setTop (mkF m 226 #[.val (.long x0), .second, .val (.int x1), .val (.long x2), .second, .val (.ref b2), .val (.int vf), .val (.int vl), .val (.int vt), .val (.int (1 : Int32)), .val (.int vn0), .val (.int vn1), .val (.int vn2), .val (.ref r108), .val (.ref b113), .val (.int (own_is1 vt vf el0 (vn0.toInt8.toInt32))), .unset] [(.int vf), (.ref b2), (.int vn0)])) t → Steps p.tables e below (s₁.setTop (entryFrame m #[(.long x0), (.int x1), (.long x2)] maxLocals)) t := fun t k => p141 t (by
        show Steps p.tables e below (T139.setTop (mkF m 211 #[.val (.long x0), .second, .val (.int x1), .val (.long x2), .second, .val (.ref b2), .val (.int vf), .val (.int vl), .val (.int vt), .val (.int (1 : Int32)), .val (.int vn0), .val (.int vn1), .val (.int vn2), .val (.ref r108), .val (.ref b113), .val (.int (own_is1 vt vf el0 (vn0.toInt8.toInt32))), .unset] [(.int (1 : Int32)), (.int vl)])) _
        refine XS.icmpNo X139.here hx rfl (hb hby at_211) rfl ((teq (hc211)).2) ?_
        show Steps p.tables e below (T139.setTop (mkF m 214 #[.val (.long x0), .second, .val (.int x1), .val (.long x2), .second, .val (.ref b2), .val (.int vf), .val (.int vl), .val (.int vt), .val (.int (1 : Int32)), .val (.int vn0), .val (.int vn1), .val (.int vn2), .val (.ref r108), .val (.ref b113), .val (.int (own_is1 vt vf el0 (vn0.toInt8.toInt32))), .unset] [])) _
        refine XS.iload X139.here hx rfl (hb hby at_214) rfl ?_
        show Steps p.tables e below (T139.setTop (mkF m 216 #[.val (.long x0), .second, .val (.int x1), .val (.long x2), .second, .val (.ref b2), .val (.int vf), .val (.int vl), .val (.int vt), .val (.int (1 : Int32)), .val (.int vn0), .val (.int vn1), .val (.int vn2), .val (.ref r108), .val (.ref b113), .val (.int (own_is1 vt vf el0 (vn0.toInt8.toInt32))), .unset] [(.int (1 : Int32))])) _
        refine XS.iconst X139.here hx rfl (hb hby at_216) ?_
        show Steps p.tables e below (T139.setTop (mkF m 217 #[.val (.long x0), .second, .val (.int x1), .val (.long x2), .second, .val (.ref b2), .val (.int vf), .val (.int vl), .val (.int vt), .val (.int (1 : Int32)), .val (.int vn0), .val (.int vn1), .val (.int vn2), .val (.ref r108), .val (.ref b113), .val (.int (own_is1 vt vf el0 (vn0.toInt8.toInt32))), .unset] [(.int (1 : Int32)), (.int (1 : Int32))])) _
        refine XS.icmpNo X139.here hx rfl (hb hby at_217) rfl ((flt (by decide)).1) ?_
        show Steps p.tables e below (T139.setTop (mkF m 220 #[.val (.long x0), .second, .val (.int x1), .val (.long x2), .second, .val (.ref b2), .val (.int vf), .val (.int vl), .val (.int vt), .val (.int (1 : Int32)), .val (.int vn0), .val (.int vn1), .val (.int vn2), .val (.ref r108), .val (.ref b113), .val (.int (own_is1 vt vf el0 (vn0.toInt8.toInt32))), .unset] [])) _
        refine XS.iload X139.here hx rfl (hb hby at_220) rfl ?_
        show Steps p.tables e below (T139.setTop (mkF m 222 #[.val (.long x0), .second, .val (.int x1), .val (.long x2), .second, .val (.ref b2), .val (.int vf), .val (.int vl), .val (.int vt), .val (.int (1 : Int32)), .val (.int vn0), .val (.int vn1), .val (.int vn2), .val (.ref r108), .val (.ref b113), .val (.int (own_is1 vt vf el0 (vn0.toInt8.toInt32))), .unset] [(.int vn0)])) _
        refine XS.aload X139.here hx rfl (hb hby at_222) rfl rfl ?_
        show Steps p.tables e below (T139.setTop (mkF m 224 #[.val (.long x0), .second, .val (.int x1), .val (.long x2), .second, .val (.ref b2), .val (.int vf), .val (.int vl), .val (.int vt), .val (.int (1 : Int32)), .val (.int vn0), .val (.int vn1), .val (.int vn2), .val (.ref r108), .val (.ref b113), .val (.int (own_is1 vt vf el0 (vn0.toInt8.toInt32))), .unset] [(.ref b2), (.int vn0)])) _
        refine XS.iload X139.here hx rfl (hb hby at_224) rfl ?_
        exact k)
      obtain ⟨cb143, Ab143, ⟨i0143, t0143⟩, ⟨i1143, t1143⟩, ⟨i2143, t2143⟩⟩ := id f134
      have p144 : ∀ t, Steps p.tables e below (T139.setTop (mkF m 227 #[.val (.long x0), .second, .val (.int x1), .val (.long x2), .second, .val (.ref b2), .val (.int vf), .val (.int vl), .val (.int vt), .val (.int (1 : Int32)), .val (.int vn0), .val (.int vn1), .val (.int vn2), .val (.ref r108), .val (.ref b113), .val (.int (own_is1 vt vf el0 (vn0.toInt8.toInt32))), .unset] [(.int el0), (.int vn0)])) t → Steps p.tables e below (s₁.setTop (entryFrame m #[(.long x0), (.int x1), (.long x2)] maxLocals)) t := fun t k => p142 t (by
        show Steps p.tables e below (T139.setTop (mkF m 226 #[.val (.long x0), .second, .val (.int x1), .val (.long x2), .second, .val (.ref b2), .val (.int vf), .val (.int vl), .val (.int vt), .val (.int (1 : Int32)), .val (.int vn0), .val (.int vn1), .val (.int vn2), .val (.ref r108), .val (.ref b113), .val (.int (own_is1 vt vf el0 (vn0.toInt8.toInt32))), .unset] [(.int vf), (.ref b2), (.int vn0)])) _
        refine X139.baloadBytes hx (j := vf) (v := (.int el0)) (by rw [e139]; exact Ab143.1) (State.isArrayOf_alike hZ.alike Ab143.2.1) Ab143.2.2 i0143 t0143 (g := (mkF m 226 #[.val (.long x0), .second, .val (.int x1), .val (.long x2), .second, .val (.ref b2), .val (.int vf), .val (.int vl), .val (.int vt), .val (.int (1 : Int32)), .val (.int vn0), .val (.int vn1), .val (.int vn2), .val (.ref r108), .val (.ref b113), .val (.int (own_is1 vt vf el0 (vn0.toInt8.toInt32))), .unset] [(.int vf), (.ref b2), (.int vn0)])) rfl rfl (hb hby at_226) _ ?_
        exact k)
      by_cases hc227 : vn0 = el0
      · have p145 : ∀ t, Steps p.tables e below (T139.setTop (mkF m 282 #[.val (.long x0), .second, .val (.int x1), .val (.long x2), .second, .val (.ref b2), .val (.int vf), .val (.int vl), .val (.int vt), .val (.int (1 : Int32)), .val (.int vn0), .val (.int vn1), .val (.int vn2), .val (.ref r108), .val (.ref b113), .val (.int (own_is1 vt vf el0 (vn0.toInt8.toInt32))), .val (.int (1 : Int32))] [(.ref b113)])) t → Steps p.tables e below (s₁.setTop (entryFrame m #[(.long x0), (.int x1), (.long x2)] maxLocals)) t := fun t k => p144 t (by
          show Steps p.tables e below (T139.setTop (mkF m 227 #[.val (.long x0), .second, .val (.int x1), .val (.long x2), .second, .val (.ref b2), .val (.int vf), .val (.int vl), .val (.int vt), .val (.int (1 : Int32)), .val (.int vn0), .val (.int vn1), .val (.int vn2), .val (.ref r108), .val (.ref b113), .val (.int (own_is1 vt vf el0 (vn0.toInt8.toInt32))), .unset] [(.int el0), (.int vn0)])) _
          refine XS.icmpNo X139.here hx rfl (hb hby at_227) rfl ((teq (hc227)).2) ?_
          show Steps p.tables e below (T139.setTop (mkF m 230 #[.val (.long x0), .second, .val (.int x1), .val (.long x2), .second, .val (.ref b2), .val (.int vf), .val (.int vl), .val (.int vt), .val (.int (1 : Int32)), .val (.int vn0), .val (.int vn1), .val (.int vn2), .val (.ref r108), .val (.ref b113), .val (.int (own_is1 vt vf el0 (vn0.toInt8.toInt32))), .unset] [])) _
          refine XS.iload X139.here hx rfl (hb hby at_230) rfl ?_
          show Steps p.tables e below (T139.setTop (mkF m 232 #[.val (.long x0), .second, .val (.int x1), .val (.long x2), .second, .val (.ref b2), .val (.int vf), .val (.int vl), .val (.int vt), .val (.int (1 : Int32)), .val (.int vn0), .val (.int vn1), .val (.int vn2), .val (.ref r108), .val (.ref b113), .val (.int (own_is1 vt vf el0 (vn0.toInt8.toInt32))), .unset] [(.int (1 : Int32))])) _
          refine XS.iconst X139.here hx rfl (hb hby at_232) ?_
          show Steps p.tables e below (T139.setTop (mkF m 233 #[.val (.long x0), .second, .val (.int x1), .val (.long x2), .second, .val (.ref b2), .val (.int vf), .val (.int vl), .val (.int vt), .val (.int (1 : Int32)), .val (.int vn0), .val (.int vn1), .val (.int vn2), .val (.ref r108), .val (.ref b113), .val (.int (own_is1 vt vf el0 (vn0.toInt8.toInt32))), .unset] [(.int (2 : Int32)), (.int (1 : Int32))])) _
          refine XS.icmpYes X139.here hx rfl (pc0 := 233) (pc' := 248) rfl (hb hby at_233) rfl ((tlt (by decide)).1) (by decide) (by decide) ?_
          show Steps p.tables e below (T139.setTop (mkF m 248 #[.val (.long x0), .second, .val (.int x1), .val (.long x2), .second, .val (.ref b2), .val (.int vf), .val (.int vl), .val (.int vt), .val (.int (1 : Int32)), .val (.int vn0), .val (.int vn1), .val (.int vn2), .val (.ref r108), .val (.ref b113), .val (.int (own_is1 vt vf el0 (vn0.toInt8.toInt32))), .unset] [])) _
          refine XS.iload X139.here hx rfl (hb hby at_248) rfl ?_
          show Steps p.tables e below (T139.setTop (mkF m 250 #[.val (.long x0), .second, .val (.int x1), .val (.long x2), .second, .val (.ref b2), .val (.int vf), .val (.int vl), .val (.int vt), .val (.int (1 : Int32)), .val (.int vn0), .val (.int vn1), .val (.int vn2), .val (.ref r108), .val (.ref b113), .val (.int (own_is1 vt vf el0 (vn0.toInt8.toInt32))), .unset] [(.int (1 : Int32))])) _
          refine XS.iconst X139.here hx rfl (hb hby at_250) ?_
          show Steps p.tables e below (T139.setTop (mkF m 251 #[.val (.long x0), .second, .val (.int x1), .val (.long x2), .second, .val (.ref b2), .val (.int vf), .val (.int vl), .val (.int vt), .val (.int (1 : Int32)), .val (.int vn0), .val (.int vn1), .val (.int vn2), .val (.ref r108), .val (.ref b113), .val (.int (own_is1 vt vf el0 (vn0.toInt8.toInt32))), .unset] [(.int (3 : Int32)), (.int (1 : Int32))])) _
          refine XS.icmpYes X139.here hx rfl (pc0 := 251) (pc' := 266) rfl (hb hby at_251) rfl ((tlt (by decide)).1) (by decide) (by decide) ?_
          show Steps p.tables e below (T139.setTop (mkF m 266 #[.val (.long x0), .second, .val (.int x1), .val (.long x2), .second, .val (.ref b2), .val (.int vf), .val (.int vl), .val (.int vt), .val (.int (1 : Int32)), .val (.int vn0), .val (.int vn1), .val (.int vn2), .val (.ref r108), .val (.ref b113), .val (.int (own_is1 vt vf el0 (vn0.toInt8.toInt32))), .unset] [])) _
          refine XS.iconst X139.here hx rfl (hb hby at_266) ?_
          show Steps p.tables e below (T139.setTop (mkF m 267 #[.val (.long x0), .second, .val (.int x1), .val (.long x2), .second, .val (.ref b2), .val (.int vf), .val (.int vl), .val (.int vt), .val (.int (1 : Int32)), .val (.int vn0), .val (.int vn1), .val (.int vn2), .val (.ref r108), .val (.ref b113), .val (.int (own_is1 vt vf el0 (vn0.toInt8.toInt32))), .unset] [(.int (1 : Int32))])) _
          refine XS.goto X139.here hx rfl (pc0 := 267) (pc' := 271) rfl (hb hby at_267) (by decide) (by decide) ?_
          show Steps p.tables e below (T139.setTop (mkF m 271 #[.val (.long x0), .second, .val (.int x1), .val (.long x2), .second, .val (.ref b2), .val (.int vf), .val (.int vl), .val (.int vt), .val (.int (1 : Int32)), .val (.int vn0), .val (.int vn1), .val (.int vn2), .val (.ref r108), .val (.ref b113), .val (.int (own_is1 vt vf el0 (vn0.toInt8.toInt32))), .unset] [(.int (1 : Int32))])) _
          refine XS.istore X139.here hx rfl (hb hby at_271) rfl (l' := #[.val (.long x0), .second, .val (.int x1), .val (.long x2), .second, .val (.ref b2), .val (.int vf), .val (.int vl), .val (.int vt), .val (.int (1 : Int32)), .val (.int vn0), .val (.int vn1), .val (.int vn2), .val (.ref r108), .val (.ref b113), .val (.int (own_is1 vt vf el0 (vn0.toInt8.toInt32))), .val (.int (1 : Int32))]) rfl ?_
          show Steps p.tables e below (T139.setTop (mkF m 273 #[.val (.long x0), .second, .val (.int x1), .val (.long x2), .second, .val (.ref b2), .val (.int vf), .val (.int vl), .val (.int vt), .val (.int (1 : Int32)), .val (.int vn0), .val (.int vn1), .val (.int vn2), .val (.ref r108), .val (.ref b113), .val (.int (own_is1 vt vf el0 (vn0.toInt8.toInt32))), .val (.int (1 : Int32))] [])) _
          refine XS.iload X139.here hx rfl (hb hby at_273) rfl ?_
          show Steps p.tables e below (T139.setTop (mkF m 275 #[.val (.long x0), .second, .val (.int x1), .val (.long x2), .second, .val (.ref b2), .val (.int vf), .val (.int vl), .val (.int vt), .val (.int (1 : Int32)), .val (.int vn0), .val (.int vn1), .val (.int vn2), .val (.ref r108), .val (.ref b113), .val (.int (own_is1 vt vf el0 (vn0.toInt8.toInt32))), .val (.int (1 : Int32))] [(.int (own_is1 vt vf el0 (vn0.toInt8.toInt32)))])) _
          refine XS.iload X139.here hx rfl (hb hby at_275) rfl ?_
          show Steps p.tables e below (T139.setTop (mkF m 277 #[.val (.long x0), .second, .val (.int x1), .val (.long x2), .second, .val (.ref b2), .val (.int vf), .val (.int vl), .val (.int vt), .val (.int (1 : Int32)), .val (.int vn0), .val (.int vn1), .val (.int vn2), .val (.ref r108), .val (.ref b113), .val (.int (own_is1 vt vf el0 (vn0.toInt8.toInt32))), .val (.int (1 : Int32))] [(.int (1 : Int32)), (.int (own_is1 vt vf el0 (vn0.toInt8.toInt32)))])) _
          refine XS.icmpNo X139.here hx rfl (hb hby at_277) rfl ((teq (by unfold own_is1; rw [if_pos ((own_sub hvt).trans hc211), if_pos ((Eq.symm hc227).trans hvn0.symm)])).2) ?_
          show Steps p.tables e below (T139.setTop (mkF m 280 #[.val (.long x0), .second, .val (.int x1), .val (.long x2), .second, .val (.ref b2), .val (.int vf), .val (.int vl), .val (.int vt), .val (.int (1 : Int32)), .val (.int vn0), .val (.int vn1), .val (.int vn2), .val (.ref r108), .val (.ref b113), .val (.int (own_is1 vt vf el0 (vn0.toInt8.toInt32))), .val (.int (1 : Int32))] [])) _
          refine XS.aload X139.here hx rfl (hb hby at_280) rfl rfl ?_
          exact k)
        obtain ⟨cq146, kq146, qa146, qb146, qc146⟩ := isOf hZ e139 f136
        obtain ⟨_, _, ⟨T146, L146, k146, n146⟩, -, X146, ⟨Lc146, hQ146, l146, y146, z146⟩, st146⟩ := X139.virtualBack hx (y := (⟨"com/example/kinwarden/kinwarden/NameBytes", "from", "()I"⟩ : MethodName)) (z := (⟨"com/example/kinwarden/kinwarden/NameBytes", "from", "()I"⟩ : MethodName)) hown (mvT hZ (hw _ (List.mem_of_getElem? (i := 34) rfl))) (mvT hZ (hw _ (List.mem_of_getElem? (i := 35) rfl))) (notFace_of_selects (args := #[]) (mvT hZ (hw _ (List.mem_of_getElem? (i := 37) rfl)))) (mvT hZ (hw _ (List.mem_of_getElem? (i := 37) rfl))) (mvT hZ (hw _ (List.mem_of_getElem? (i := 36) rfl))) (by decide) (backOf (W := 0) (rmF l Z a0 hw [] b113 vf T132.heap n0 Z132 Fb132) hZ (hw _ (List.mem_of_getElem? (i := 38) rfl)) (hw _ (List.mem_of_getElem? (i := 7) rfl)) (by decide) (by decide)) qa146 qc146 (g := (mkF m 282 #[.val (.long x0), .second, .val (.int x1), .val (.long x2), .second, .val (.ref b2), .val (.int vf), .val (.int vl), .val (.int vt), .val (.int (1 : Int32)), .val (.int vn0), .val (.int vn1), .val (.int vn2), .val (.ref r108), .val (.ref b113), .val (.int (own_is1 vt vf el0 (vn0.toInt8.toInt32))), .val (.int (1 : Int32))] [(.ref b113)])) rfl (by rw [hml]; rfl) (Steps.refl _) (argsL := []) (rest := []) (lenOf pd0_4 rfl) rfl (by show 2 * 0 + _ ≤ _; exact Nat.le_of_eq rfl) (hb hby at_282) (fun _ _ => ⟨rfl, e139, (by decide : 3 + 0 ≤ _), (by decide : 11 + 0 ≤ _)⟩)
        dsimp only [Pt.U, Pt.locs, Pt.cells, Pt.slots] at X146 l146 y146 z146 st146 hQ146
        subst l146 y146 z146
        obtain ⟨rfl, Nq146, e146⟩ := hQ146
        have N146 := Fr.app N139 Nq146
        have p147 : ∀ t, Steps p.tables e below (T146.setTop (mkF m 285 #[.val (.long x0), .second, .val (.int x1), .val (.long x2), .second, .val (.ref b2), .val (.int vf), .val (.int vl), .val (.int vt), .val (.int (1 : Int32)), .val (.int vn0), .val (.int vn1), .val (.int vn2), .val (.ref r108), .val (.ref b113), .val (.int (own_is1 vt vf el0 (vn0.toInt8.toInt32))), .val (.int (1 : Int32))] [(.int vf)])) t → Steps p.tables e below (s₁.setTop (entryFrame m #[(.long x0), (.int x1), (.long x2)] maxLocals)) t := fun t k => p145 t (st146.trans k)
        have p148 : ∀ t, Steps p.tables e below (T146.setTop (mkF m 292 #[.val (.long x0), .second, .val (.int x1), .val (.long x2), .second, .val (.ref b2), .val (.int vf), .val (.int vl), .val (.int vt), .val (.int (1 : Int32)), .val (.int vn0), .val (.int vn1), .val (.int vn2), .val (.ref r108), .val (.ref b113), .val (.int (own_is1 vt vf el0 (vn0.toInt8.toInt32))), .val (.int (1 : Int32))] [(.ref b113)])) t → Steps p.tables e below (s₁.setTop (entryFrame m #[(.long x0), (.int x1), (.long x2)] maxLocals)) t := fun t k => p147 t (by
          show Steps p.tables e below (T146.setTop (mkF m 285 #[.val (.long x0), .second, .val (.int x1), .val (.long x2), .second, .val (.ref b2), .val (.int vf), .val (.int vl), .val (.int vt), .val (.int (1 : Int32)), .val (.int vn0), .val (.int vn1), .val (.int vn2), .val (.ref r108), .val (.ref b113), .val (.int (own_is1 vt vf el0 (vn0.toInt8.toInt32))), .val (.int (1 : Int32))] [(.int vf)])) _
          refine XS.iload X146.here hx rfl (hb hby at_285) rfl ?_
          show Steps p.tables e below (T146.setTop (mkF m 287 #[.val (.long x0), .second, .val (.int x1), .val (.long x2), .second, .val (.ref b2), .val (.int vf), .val (.int vl), .val (.int vt), .val (.int (1 : Int32)), .val (.int vn0), .val (.int vn1), .val (.int vn2), .val (.ref r108), .val (.ref b113), .val (.int (own_is1 vt vf el0 (vn0.toInt8.toInt32))), .val (.int (1 : Int32))] [(.int vf), (.int vf)])) _
          refine XS.icmpNo X146.here hx rfl (hb hby at_287) rfl ((teq (rfl)).2) ?_
          show Steps p.tables e below (T146.setTop (mkF m 290 #[.val (.long x0), .second, .val (.int x1), .val (.long x2), .second, .val (.ref b2), .val (.int vf), .val (.int vl), .val (.int vt), .val (.int (1 : Int32)), .val (.int vn0), .val (.int vn1), .val (.int vn2), .val (.ref r108), .val (.ref b113), .val (.int (own_is1 vt vf el0 (vn0.toInt8.toInt32))), .val (.int (1 : Int32))] [])) _
          refine XS.aload X146.here hx rfl (hb hby at_290) rfl rfl ?_
          exact k)
        obtain ⟨cq149, kq149, qa149, qb149, qc149⟩ := isOf hZ e146 f136
        obtain ⟨_, _, ⟨T149, L149, k149, n149⟩, -, X149, ⟨Lc149, hQ149, l149, y149, z149⟩, st149⟩ := X146.virtualBack hx (y := (⟨"com/example/kinwarden/kinwarden/NameBytes", "to", "()I"⟩ : MethodName)) (z := (⟨"com/example/kinwarden/kinwarden/NameBytes", "to", "()I"⟩ : MethodName)) hown (mvT hZ (hw _ (List.mem_of_getElem? (i := 39) rfl))) (mvT hZ (hw _ (List.mem_of_getElem? (i := 40) rfl))) (notFace_of_selects (args := #[]) (mvT hZ (hw _ (List.mem_of_getElem? (i := 42) rfl)))) (mvT hZ (hw _ (List.mem_of_getElem? (i := 42) rfl))) (mvT hZ (hw _ (List.mem_of_getElem? (i := 41) rfl))) (by decide) (backOf (W := 0) (rmT l Z a0 hw [] b113 vt T132.heap n0 Z132 Fc132) hZ (hw _ (List.mem_of_getElem? (i := 43) rfl)) (hw _ (List.mem_of_getElem? (i := 7) rfl)) (by decide) (by decide)) qa149 qc149 (g := (mkF m 292 #[.val (.long x0), .second, .val (.int x1), .val (.long x2), .second, .val (.ref b2), .val (.int vf), .val (.int vl), .val (.int vt), .val (.int (1 : Int32)), .val (.int vn0), .val (.int vn1), .val (.int vn2), .val (.ref r108), .val (.ref b113), .val (.int (own_is1 vt vf el0 (vn0.toInt8.toInt32))), .val (.int (1 : Int32))] [(.ref b113)])) rfl (by rw [hml]; rfl) (Steps.refl _) (argsL := []) (rest := []) (lenOf pd0_4 rfl) rfl (by show 2 * 0 + _ ≤ _; exact Nat.le_of_eq rfl) (hb hby at_292) (fun _ _ => ⟨rfl, e146, (by decide : 3 + 0 ≤ _), (by decide : 11 + 0 ≤ _)⟩)
        dsimp only [Pt.U, Pt.locs, Pt.cells, Pt.slots] at X149 l149 y149 z149 st149 hQ149
        subst l149 y149 z149
        obtain ⟨rfl, Nq149, e149⟩ := hQ149
        have N149 := Fr.app N146 Nq149
        have p150 : ∀ t, Steps p.tables e below (T149.setTop (mkF m 295 #[.val (.long x0), .second, .val (.int x1), .val (.long x2), .second, .val (.ref b2), .val (.int vf), .val (.int vl), .val (.int vt), .val (.int (1 : Int32)), .val (.int vn0), .val (.int vn1), .val (.int vn2), .val (.ref r108), .val (.ref b113), .val (.int (own_is1 vt vf el0 (vn0.toInt8.toInt32))), .val (.int (1 : Int32))] [(.int vt)])) t → Steps p.tables e below (s₁.setTop (entryFrame m #[(.long x0), (.int x1), (.long x2)] maxLocals)) t := fun t k => p148 t (st149.trans k)
        have p151 : ∀ t, Steps p.tables e below (T149.setTop (mkF m 305 #[.val (.long x0), .second, .val (.int x1), .val (.long x2), .second, .val (.ref b2), .val (.int vf), .val (.int vl), .val (.int vt), .val (.int (1 : Int32)), .val (.int vn0), .val (.int vn1), .val (.int vn2), .val (.ref r108), .val (.ref b113), .val (.int (own_is1 vt vf el0 (vn0.toInt8.toInt32))), .val (.int (1 : Int32))] [(.int (1 : Int32))])) t → Steps p.tables e below (s₁.setTop (entryFrame m #[(.long x0), (.int x1), (.long x2)] maxLocals)) t := fun t k => p150 t (by
          show Steps p.tables e below (T149.setTop (mkF m 295 #[.val (.long x0), .second, .val (.int x1), .val (.long x2), .second, .val (.ref b2), .val (.int vf), .val (.int vl), .val (.int vt), .val (.int (1 : Int32)), .val (.int vn0), .val (.int vn1), .val (.int vn2), .val (.ref r108), .val (.ref b113), .val (.int (own_is1 vt vf el0 (vn0.toInt8.toInt32))), .val (.int (1 : Int32))] [(.int vt)])) _
          refine XS.iload X149.here hx rfl (hb hby at_295) rfl ?_
          show Steps p.tables e below (T149.setTop (mkF m 297 #[.val (.long x0), .second, .val (.int x1), .val (.long x2), .second, .val (.ref b2), .val (.int vf), .val (.int vl), .val (.int vt), .val (.int (1 : Int32)), .val (.int vn0), .val (.int vn1), .val (.int vn2), .val (.ref r108), .val (.ref b113), .val (.int (own_is1 vt vf el0 (vn0.toInt8.toInt32))), .val (.int (1 : Int32))] [(.int vt), (.int vt)])) _
          refine XS.icmpNo X149.here hx rfl (hb hby at_297) rfl ((teq (rfl)).2) ?_
          show Steps p.tables e below (T149.setTop (mkF m 300 #[.val (.long x0), .second, .val (.int x1), .val (.long x2), .second, .val (.ref b2), .val (.int vf), .val (.int vl), .val (.int vt), .val (.int (1 : Int32)), .val (.int vn0), .val (.int vn1), .val (.int vn2), .val (.ref r108), .val (.ref b113), .val (.int (own_is1 vt vf el0 (vn0.toInt8.toInt32))), .val (.int (1 : Int32))] [])) _
          refine XS.iconst X149.here hx rfl (hb hby at_300) ?_
          show Steps p.tables e below (T149.setTop (mkF m 301 #[.val (.long x0), .second, .val (.int x1), .val (.long x2), .second, .val (.ref b2), .val (.int vf), .val (.int vl), .val (.int vt), .val (.int (1 : Int32)), .val (.int vn0), .val (.int vn1), .val (.int vn2), .val (.ref r108), .val (.ref b113), .val (.int (own_is1 vt vf el0 (vn0.toInt8.toInt32))), .val (.int (1 : Int32))] [(.int (1 : Int32))])) _
          refine XS.goto X149.here hx rfl (pc0 := 301) (pc' := 305) rfl (hb hby at_301) (by decide) (by decide) ?_
          exact k)
        obtain ⟨fs, hr, hrun, hended, hW, hsame⟩ := X149.leave (v := some (.int (1 : Int32))) (fun h => by rw [Bd.returns] at h; cases h)
        refine ⟨_, _, p151 _ ?_, hrun, hended, _, _, rfl, ?_, ⟨_, rfl⟩, hW, hsame.mono (by decide) (by decide)⟩
        · show Steps p.tables e below (T149.setTop (mkF m 305 #[.val (.long x0), .second, .val (.int x1), .val (.long x2), .second, .val (.ref b2), .val (.int vf), .val (.int vl), .val (.int vt), .val (.int (1 : Int32)), .val (.int vn0), .val (.int vn1), .val (.int vn2), .val (.ref r108), .val (.ref b113), .val (.int (own_is1 vt vf el0 (vn0.toInt8.toInt32))), .val (.int (1 : Int32))] [(.int (1 : Int32))])) _
          exact retN X149 hx (t := .boolean) Bd.returns (by simp) (hb hby at_305) hr
        · show Q0 Z x0 x1 x2 a_E h0 n0 _ T149.heap _
          rw [e149]
          exact ⟨rfl, N149⟩
      · have p152 : ∀ t, Steps p.tables e below (T139.setTop (mkF m 282 #[.val (.long x0), .second, .val (.int x1), .val (.long x2), .second, .val (.ref b2), .val (.int vf), .val (.int vl), .val (.int vt), .val (.int (1 : Int32)), .val (.int vn0), .val (.int vn1), .val (.int vn2), .val (.ref r108), .val (.ref b113), .val (.int (own_is1 vt vf el0 (vn0.toInt8.toInt32))), .val (.int (0 : Int32))] [(.ref b113)])) t → Steps p.tables e below (s₁.setTop (entryFrame m #[(.long x0), (.int x1), (.long x2)] maxLocals)) t := fun t k => p144 t (by
          show Steps p.tables e below (T139.setTop (mkF m 227 #[.val (.long x0), .second, .val (.int x1), .val (.long x2), .second, .val (.ref b2), .val (.int vf), .val (.int vl), .val (.int vt), .val (.int (1 : Int32)), .val (.int vn0), .val (.int vn1), .val (.int vn2), .val (.ref r108), .val (.ref b113), .val (.int (own_is1 vt vf el0 (vn0.toInt8.toInt32))), .unset] [(.int el0), (.int vn0)])) _
          refine XS.icmpYes X139.here hx rfl (pc0 := 227) (pc' := 270) rfl (hb hby at_227) rfl ((feq (hc227)).2) (by decide) (by decide) ?_
          show Steps p.tables e below (T139.setTop (mkF m 270 #[.val (.long x0), .second, .val (.int x1), .val (.long x2), .second, .val (.ref b2), .val (.int vf), .val (.int vl), .val (.int vt), .val (.int (1 : Int32)), .val (.int vn0), .val (.int vn1), .val (.int vn2), .val (.ref r108), .val (.ref b113), .val (.int (own_is1 vt vf el0 (vn0.toInt8.toInt32))), .unset] [])) _
          refine XS.iconst X139.here hx rfl (hb hby at_270) ?_
          show Steps p.tables e below (T139.setTop (mkF m 271 #[.val (.long x0), .second, .val (.int x1), .val (.long x2), .second, .val (.ref b2), .val (.int vf), .val (.int vl), .val (.int vt), .val (.int (1 : Int32)), .val (.int vn0), .val (.int vn1), .val (.int vn2), .val (.ref r108), .val (.ref b113), .val (.int (own_is1 vt vf el0 (vn0.toInt8.toInt32))), .unset] [(.int (0 : Int32))])) _
          refine XS.istore X139.here hx rfl (hb hby at_271) rfl (l' := #[.val (.long x0), .second, .val (.int x1), .val (.long x2), .second, .val (.ref b2), .val (.int vf), .val (.int vl), .val (.int vt), .val (.int (1 : Int32)), .val (.int vn0), .val (.int vn1), .val (.int vn2), .val (.ref r108), .val (.ref b113), .val (.int (own_is1 vt vf el0 (vn0.toInt8.toInt32))), .val (.int (0 : Int32))]) rfl ?_
          show Steps p.tables e below (T139.setTop (mkF m 273 #[.val (.long x0), .second, .val (.int x1), .val (.long x2), .second, .val (.ref b2), .val (.int vf), .val (.int vl), .val (.int vt), .val (.int (1 : Int32)), .val (.int vn0), .val (.int vn1), .val (.int vn2), .val (.ref r108), .val (.ref b113), .val (.int (own_is1 vt vf el0 (vn0.toInt8.toInt32))), .val (.int (0 : Int32))] [])) _
          refine XS.iload X139.here hx rfl (hb hby at_273) rfl ?_
          show Steps p.tables e below (T139.setTop (mkF m 275 #[.val (.long x0), .second, .val (.int x1), .val (.long x2), .second, .val (.ref b2), .val (.int vf), .val (.int vl), .val (.int vt), .val (.int (1 : Int32)), .val (.int vn0), .val (.int vn1), .val (.int vn2), .val (.ref r108), .val (.ref b113), .val (.int (own_is1 vt vf el0 (vn0.toInt8.toInt32))), .val (.int (0 : Int32))] [(.int (own_is1 vt vf el0 (vn0.toInt8.toInt32)))])) _
          refine XS.iload X139.here hx rfl (hb hby at_275) rfl ?_
          show Steps p.tables e below (T139.setTop (mkF m 277 #[.val (.long x0), .second, .val (.int x1), .val (.long x2), .second, .val (.ref b2), .val (.int vf), .val (.int vl), .val (.int vt), .val (.int (1 : Int32)), .val (.int vn0), .val (.int vn1), .val (.int vn2), .val (.ref r108), .val (.ref b113), .val (.int (own_is1 vt vf el0 (vn0.toInt8.toInt32))), .val (.int (0 : Int32))] [(.int (0 : Int32)), (.int (own_is1 vt vf el0 (vn0.toInt8.toInt32)))])) _
          refine XS.icmpNo X139.here hx rfl (hb hby at_277) rfl ((teq (by unfold own_is1; rw [if_pos ((own_sub hvt).trans hc211), if_neg (fun q => hc227 ((q.trans hvn0).symm))])).2) ?_
          show Steps p.tables e below (T139.setTop (mkF m 280 #[.val (.long x0), .second, .val (.int x1), .val (.long x2), .second, .val (.ref b2), .val (.int vf), .val (.int vl), .val (.int vt), .val (.int (1 : Int32)), .val (.int vn0), .val (.int vn1), .val (.int vn2), .val (.ref r108), .val (.ref b113), .val (.int (own_is1 vt vf el0 (vn0.toInt8.toInt32))), .val (.int (0 : Int32))] [])) _
          refine XS.aload X139.here hx rfl (hb hby at_280) rfl rfl ?_
          exact k)
        obtain ⟨cq153, kq153, qa153, qb153, qc153⟩ := isOf hZ e139 f136
        obtain ⟨_, _, ⟨T153, L153, k153, n153⟩, -, X153, ⟨Lc153, hQ153, l153, y153, z153⟩, st153⟩ := X139.virtualBack hx (y := (⟨"com/example/kinwarden/kinwarden/NameBytes", "from", "()I"⟩ : MethodName)) (z := (⟨"com/example/kinwarden/kinwarden/NameBytes", "from", "()I"⟩ : MethodName)) hown (mvT hZ (hw _ (List.mem_of_getElem? (i := 34) rfl))) (mvT hZ (hw _ (List.mem_of_getElem? (i := 35) rfl))) (notFace_of_selects (args := #[]) (mvT hZ (hw _ (List.mem_of_getElem? (i := 37) rfl)))) (mvT hZ (hw _ (List.mem_of_getElem? (i := 37) rfl))) (mvT hZ (hw _ (List.mem_of_getElem? (i := 36) rfl))) (by decide) (backOf (W := 0) (rmF l Z a0 hw [] b113 vf T132.heap n0 Z132 Fb132) hZ (hw _ (List.mem_of_getElem? (i := 38) rfl)) (hw _ (List.mem_of_getElem? (i := 7) rfl)) (by decide) (by decide)) qa153 qc153 (g := (mkF m 282 #[.val (.long x0), .second, .val (.int x1), .val (.long x2), .second, .val (.ref b2), .val (.int vf), .val (.int vl), .val (.int vt), .val (.int (1 : Int32)), .val (.int vn0), .val (.int vn1), .val (.int vn2), .val (.ref r108), .val (.ref b113), .val (.int (own_is1 vt vf el0 (vn0.toInt8.toInt32))), .val (.int (0 : Int32))] [(.ref b113)])) rfl (by rw [hml]; rfl) (Steps.refl _) (argsL := []) (rest := []) (lenOf pd0_4 rfl) rfl (by show 2 * 0 + _ ≤ _; exact Nat.le_of_eq rfl) (hb hby at_282) (fun _ _ => ⟨rfl, e139, (by decide : 3 + 0 ≤ _), (by decide : 11 + 0 ≤ _)⟩)
        dsimp only [Pt.U, Pt.locs, Pt.cells, Pt.slots] at X153 l153 y153 z153 st153 hQ153
        subst l153 y153 z153
        obtain ⟨rfl, Nq153, e153⟩ := hQ153
        have N153 := Fr.app N139 Nq153
        have p154 : ∀ t, Steps p.tables e below (T153.setTop (mkF m 285 #[.val (.long x0), .second, .val (.int x1), .val (.long x2), .second, .val (.ref b2), .val (.int vf), .val (.int vl), .val (.int vt), .val (.int (1 : Int32)), .val (.int vn0), .val (.int vn1), .val (.int vn2), .val (.ref r108), .val (.ref b113), .val (.int (own_is1 vt vf el0 (vn0.toInt8.toInt32))), .val (.int (0 : Int32))] [(.int vf)])) t → Steps p.tables e below (s₁.setTop (entryFrame m #[(.long x0), (.int x1), (.long x2)] maxLocals)) t := fun t k => p152 t (st153.trans k)
        have p155 : ∀ t, Steps p.tables e below (T153.setTop (mkF m 292 #[.val (.long x0), .second, .val (.int x1), .val (.long x2), .second, .val (.ref b2), .val (.int vf), .val (.int vl), .val (.int vt), .val (.int (1 : Int32)), .val (.int vn0), .val (.int vn1), .val (.int vn2), .val (.ref r108), .val (.ref b113), .val (.int (own_is1 vt vf el0 (vn0.toInt8.toInt32))), .val (.int (0 : Int32))] [(.ref b113)])) t → Steps p.tables e below (s₁.setTop (entryFrame m #[(.long x0), (.int x1), (.long x2)] maxLocals)) t := fun t k => p154 t (by
          show Steps p.tables e below (T153.setTop (mkF m 285 #[.val (.long x0), .second, .val (.int x1), .val (.long x2), .second, .val (.ref b2), .val (.int vf), .val (.int vl), .val (.int vt), .val (.int (1 : Int32)), .val (.int vn0), .val (.int vn1), .val (.int vn2), .val (.ref r108), .val (.ref b113), .val (.int (own_is1 vt vf el0 (vn0.toInt8.toInt32))), .val (.int (0 : Int32))] [(.int vf)])) _
          refine XS.iload X153.here hx rfl (hb hby at_285) rfl ?_
          show Steps p.tables e below (T153.setTop (mkF m 287 #[.val (.long x0), .second, .val (.int x1), .val (.long x2), .second, .val (.ref b2), .val (.int vf), .val (.int vl), .val (.int vt), .val (.int (1 : Int32)), .val (.int vn0), .val (.int vn1), .val (.int vn2), .val (.ref r108), .val (.ref b113), .val (.int (own_is1 vt vf el0 (vn0.toInt8.toInt32))), .val (.int (0 : Int32))] [(.int vf), (.int vf)])) _
          refine XS.icmpNo X153.here hx rfl (hb hby at_287) rfl ((teq (rfl)).2) ?_
          show Steps p.tables e below (T153.setTop (mkF m 290 #[.val (.long x0), .second, .val (.int x1), .val (.long x2), .second, .val (.ref b2), .val (.int vf), .val (.int vl), .val (.int vt), .val (.int (1 : Int32)), .val (.int vn0), .val (.int vn1), .val (.int vn2), .val (.ref r108), .val (.ref b113), .val (.int (own_is1 vt vf el0 (vn0.toInt8.toInt32))), .val (.int (0 : Int32))] [])) _
          refine XS.aload X153.here hx rfl (hb hby at_290) rfl rfl ?_
          exact k)
        obtain ⟨cq156, kq156, qa156, qb156, qc156⟩ := isOf hZ e153 f136
        obtain ⟨_, _, ⟨T156, L156, k156, n156⟩, -, X156, ⟨Lc156, hQ156, l156, y156, z156⟩, st156⟩ := X153.virtualBack hx (y := (⟨"com/example/kinwarden/kinwarden/NameBytes", "to", "()I"⟩ : MethodName)) (z := (⟨"com/example/kinwarden/kinwarden/NameBytes", "to", "()I"⟩ : MethodName)) hown (mvT hZ (hw _ (List.mem_of_getElem? (i := 39) rfl))) (mvT hZ (hw _ (List.mem_of_getElem? (i := 40) rfl))) (notFace_of_selects (args := #[]) (mvT hZ (hw _ (List.mem_of_getElem? (i := 42) rfl)))) (mvT hZ (hw _ (List.mem_of_getElem? (i := 42) rfl))) (mvT hZ (hw _ (List.mem_of_getElem? (i := 41) rfl))) (by decide) (backOf (W := 0) (rmT l Z a0 hw [] b113 vt T132.heap n0 Z132 Fc132) hZ (hw _ (List.mem_of_getElem? (i := 43) rfl)) (hw _ (List.mem_of_getElem? (i := 7) rfl)) (by decide) (by decide)) qa156 qc156 (g := (mkF m 292 #[.val (.long x0), .second, .val (.int x1), .val (.long x2), .second, .val (.ref b2), .val (.int vf), .val (.int vl), .val (.int vt), .val (.int (1 : Int32)), .val (.int vn0), .val (.int vn1), .val (.int vn2), .val (.ref r108), .val (.ref b113), .val (.int (own_is1 vt vf el0 (vn0.toInt8.toInt32))), .val (.int (0 : Int32))] [(.ref b113)])) rfl (by rw [hml]; rfl) (Steps.refl _) (argsL := []) (rest := []) (lenOf pd0_4 rfl) rfl (by show 2 * 0 + _ ≤ _; exact Nat.le_of_eq rfl) (hb hby at_292) (fun _ _ => ⟨rfl, e153, (by decide : 3 + 0 ≤ _), (by decide : 11 + 0 ≤ _)⟩)
        dsimp only [Pt.U, Pt.locs, Pt.cells, Pt.slots] at X156 l156 y156 z156 st156 hQ156
        subst l156 y156 z156
        obtain ⟨rfl, Nq156, e156⟩ := hQ156
        have N156 := Fr.app N153 Nq156
        have p157 : ∀ t, Steps p.tables e below (T156.setTop (mkF m 295 #[.val (.long x0), .second, .val (.int x1), .val (.long x2), .second, .val (.ref b2), .val (.int vf), .val (.int vl), .val (.int vt), .val (.int (1 : Int32)), .val (.int vn0), .val (.int vn1), .val (.int vn2), .val (.ref r108), .val (.ref b113), .val (.int (own_is1 vt vf el0 (vn0.toInt8.toInt32))), .val (.int (0 : Int32))] [(.int vt)])) t → Steps p.tables e below (s₁.setTop (entryFrame m #[(.long x0), (.int x1), (.long x2)] maxLocals)) t := fun t k => p155 t (st156.trans k)
        have p158 : ∀ t, Steps p.tables e below (T156.setTop (mkF m 305 #[.val (.long x0), .second, .val (.int x1), .val (.long x2), .second, .val (.ref b2), .val (.int vf), .val (.int vl), .val (.int vt), .val (.int (1 : Int32)), .val (.int vn0), .val (.int vn1), .val (.int vn2), .val (.ref r108), .val (.ref b113), .val (.int (own_is1 vt vf el0 (vn0.toInt8.toInt32))), .val (.int (0 : Int32))] [(.int (1 : Int32))])) t → Steps p.tables e below (s₁.setTop (entryFrame m #[(.long x0), (.int x1), (.long x2)] maxLocals)) t := fun t k => p157 t (by
          show Steps p.tables e below (T156.setTop (mkF m 295 #[.val (.long x0), .second, .val (.int x1), .val (.long x2), .second, .val (.ref b2), .val (.int vf), .val (.int vl), .val (.int vt), .val (.int (1 : Int32)), .val (.int vn0), .val (.int vn1), .val (.int vn2), .val (.ref r108), .val (.ref b113), .val (.int (own_is1 vt vf el0 (vn0.toInt8.toInt32))), .val (.int (0 : Int32))] [(.int vt)])) _
          refine XS.iload X156.here hx rfl (hb hby at_295) rfl ?_
          show Steps p.tables e below (T156.setTop (mkF m 297 #[.val (.long x0), .second, .val (.int x1), .val (.long x2), .second, .val (.ref b2), .val (.int vf), .val (.int vl), .val (.int vt), .val (.int (1 : Int32)), .val (.int vn0), .val (.int vn1), .val (.int vn2), .val (.ref r108), .val (.ref b113), .val (.int (own_is1 vt vf el0 (vn0.toInt8.toInt32))), .val (.int (0 : Int32))] [(.int vt), (.int vt)])) _
          refine XS.icmpNo X156.here hx rfl (hb hby at_297) rfl ((teq (rfl)).2) ?_
          show Steps p.tables e below (T156.setTop (mkF m 300 #[.val (.long x0), .second, .val (.int x1), .val (.long x2), .second, .val (.ref b2), .val (.int vf), .val (.int vl), .val (.int vt), .val (.int (1 : Int32)), .val (.int vn0), .val (.int vn1), .val (.int vn2), .val (.ref r108), .val (.ref b113), .val (.int (own_is1 vt vf el0 (vn0.toInt8.toInt32))), .val (.int (0 : Int32))] [])) _
          refine XS.iconst X156.here hx rfl (hb hby at_300) ?_
          show Steps p.tables e below (T156.setTop (mkF m 301 #[.val (.long x0), .second, .val (.int x1), .val (.long x2), .second, .val (.ref b2), .val (.int vf), .val (.int vl), .val (.int vt), .val (.int (1 : Int32)), .val (.int vn0), .val (.int vn1), .val (.int vn2), .val (.ref r108), .val (.ref b113), .val (.int (own_is1 vt vf el0 (vn0.toInt8.toInt32))), .val (.int (0 : Int32))] [(.int (1 : Int32))])) _
          refine XS.goto X156.here hx rfl (pc0 := 301) (pc' := 305) rfl (hb hby at_301) (by decide) (by decide) ?_
          exact k)
        obtain ⟨fs, hr, hrun, hended, hW, hsame⟩ := X156.leave (v := some (.int (1 : Int32))) (fun h => by rw [Bd.returns] at h; cases h)
        refine ⟨_, _, p158 _ ?_, hrun, hended, _, _, rfl, ?_, ⟨_, rfl⟩, hW, hsame.mono (by decide) (by decide)⟩
        · show Steps p.tables e below (T156.setTop (mkF m 305 #[.val (.long x0), .second, .val (.int x1), .val (.long x2), .second, .val (.ref b2), .val (.int vf), .val (.int vl), .val (.int vt), .val (.int (1 : Int32)), .val (.int vn0), .val (.int vn1), .val (.int vn2), .val (.ref r108), .val (.ref b113), .val (.int (own_is1 vt vf el0 (vn0.toInt8.toInt32))), .val (.int (0 : Int32))] [(.int (1 : Int32))])) _
          exact retN X156 hx (t := .boolean) Bd.returns (by simp) (hb hby at_305) hr
        · show Q0 Z x0 x1 x2 a_E h0 n0 _ T156.heap _
          rw [e156]
          exact ⟨rfl, N156⟩
    · have p159 : ∀ t, Steps p.tables e below (T139.setTop (mkF m 282 #[.val (.long x0), .second, .val (.int x1), .val (.long x2), .second, .val (.ref b2), .val (.int vf), .val (.int vl), .val (.int vt), .val (.int (1 : Int32)), .val (.int vn0), .val (.int vn1), .val (.int vn2), .val (.ref r108), .val (.ref b113), .val (.int (own_is1 vt vf el0 (vn0.toInt8.toInt32))), .val (.int (0 : Int32))] [(.ref b113)])) t → Steps p.tables e below (s₁.setTop (entryFrame m #[(.long x0), (.int x1), (.long x2)] maxLocals)) t := fun t k => p141 t (by
        show Steps p.tables e below (T139.setTop (mkF m 211 #[.val (.long x0), .second, .val (.int x1), .val (.long x2), .second, .val (.ref b2), .val (.int vf), .val (.int vl), .val (.int vt), .val (.int (1 : Int32)), .val (.int vn0), .val (.int vn1), .val (.int vn2), .val (.ref r108), .val (.ref b113), .val (.int (own_is1 vt vf el0 (vn0.toInt8.toInt32))), .unset] [(.int (1 : Int32)), (.int vl)])) _
        refine XS.icmpYes X139.here hx rfl (pc0 := 211) (pc' := 270) rfl (hb hby at_211) rfl ((feq (hc211)).2) (by decide) (by decide) ?_
        show Steps p.tables e below (T139.setTop (mkF m 270 #[.val (.long x0), .second, .val (.int x1), .val (.long x2), .second, .val (.ref b2), .val (.int vf), .val (.int vl), .val (.int vt), .val (.int (1 : Int32)), .val (.int vn0), .val (.int vn1), .val (.int vn2), .val (.ref r108), .val (.ref b113), .val (.int (own_is1 vt vf el0 (vn0.toInt8.toInt32))), .unset] [])) _
        refine XS.iconst X139.here hx rfl (hb hby at_270) ?_
        show Steps p.tables e below (T139.setTop (mkF m 271 #[.val (.long x0), .second, .val (.int x1), .val (.long x2), .second, .val (.ref b2), .val (.int vf), .val (.int vl), .val (.int vt), .val (.int (1 : Int32)), .val (.int vn0), .val (.int vn1), .val (.int vn2), .val (.ref r108), .val (.ref b113), .val (.int (own_is1 vt vf el0 (vn0.toInt8.toInt32))), .unset] [(.int (0 : Int32))])) _
        refine XS.istore X139.here hx rfl (hb hby at_271) rfl (l' := #[.val (.long x0), .second, .val (.int x1), .val (.long x2), .second, .val (.ref b2), .val (.int vf), .val (.int vl), .val (.int vt), .val (.int (1 : Int32)), .val (.int vn0), .val (.int vn1), .val (.int vn2), .val (.ref r108), .val (.ref b113), .val (.int (own_is1 vt vf el0 (vn0.toInt8.toInt32))), .val (.int (0 : Int32))]) rfl ?_
        show Steps p.tables e below (T139.setTop (mkF m 273 #[.val (.long x0), .second, .val (.int x1), .val (.long x2), .second, .val (.ref b2), .val (.int vf), .val (.int vl), .val (.int vt), .val (.int (1 : Int32)), .val (.int vn0), .val (.int vn1), .val (.int vn2), .val (.ref r108), .val (.ref b113), .val (.int (own_is1 vt vf el0 (vn0.toInt8.toInt32))), .val (.int (0 : Int32))] [])) _
        refine XS.iload X139.here hx rfl (hb hby at_273) rfl ?_
        show Steps p.tables e below (T139.setTop (mkF m 275 #[.val (.long x0), .second, .val (.int x1), .val (.long x2), .second, .val (.ref b2), .val (.int vf), .val (.int vl), .val (.int vt), .val (.int (1 : Int32)), .val (.int vn0), .val (.int vn1), .val (.int vn2), .val (.ref r108), .val (.ref b113), .val (.int (own_is1 vt vf el0 (vn0.toInt8.toInt32))), .val (.int (0 : Int32))] [(.int (own_is1 vt vf el0 (vn0.toInt8.toInt32)))])) _
        refine XS.iload X139.here hx rfl (hb hby at_275) rfl ?_
        show Steps p.tables e below (T139.setTop (mkF m 277 #[.val (.long x0), .second, .val (.int x1), .val (.long x2), .second, .val (.ref b2), .val (.int vf), .val (.int vl), .val (.int vt), .val (.int (1 : Int32)), .val (.int vn0), .val (.int vn1), .val (.int vn2), .val (.ref r108), .val (.ref b113), .val (.int (own_is1 vt vf el0 (vn0.toInt8.toInt32))), .val (.int (0 : Int32))] [(.int (0 : Int32)), (.int (own_is1 vt vf el0 (vn0.toInt8.toInt32)))])) _
        refine XS.icmpNo X139.here hx rfl (hb hby at_277) rfl ((teq (by unfold own_is1; rw [if_neg (fun q => hc211 ((own_sub hvt).symm.trans q))])).2) ?_
        show Steps p.tables e below (T139.setTop (mkF m 280 #[.val (.long x0), .second, .val (.int x1), .val (.long x2), .second, .val (.ref b2), .val (.int vf), .val (.int vl), .val (.int vt), .val (.int (1 : Int32)), .val (.int vn0), .val (.int vn1), .val (.int vn2), .val (.ref r108), .val (.ref b113), .val (.int (own_is1 vt vf el0 (vn0.toInt8.toInt32))), .val (.int (0 : Int32))] [])) _
        refine XS.aload X139.here hx rfl (hb hby at_280) rfl rfl ?_
        exact k)
      obtain ⟨cq160, kq160, qa160, qb160, qc160⟩ := isOf hZ e139 f136
      obtain ⟨_, _, ⟨T160, L160, k160, n160⟩, -, X160, ⟨Lc160, hQ160, l160, y160, z160⟩, st160⟩ := X139.virtualBack hx (y := (⟨"com/example/kinwarden/kinwarden/NameBytes", "from", "()I"⟩ : MethodName)) (z := (⟨"com/example/kinwarden/kinwarden/NameBytes", "from", "()I"⟩ : MethodName)) hown (mvT hZ (hw _ (List.mem_of_getElem? (i := 34) rfl))) (mvT hZ (hw _ (List.mem_of_getElem? (i := 35) rfl))) (notFace_of_selects (args := #[]) (mvT hZ (hw _ (List.mem_of_getElem? (i := 37) rfl)))) (mvT hZ (hw _ (List.mem_of_getElem? (i := 37) rfl))) (mvT hZ (hw _ (List.mem_of_getElem? (i := 36) rfl))) (by decide) (backOf (W := 0) (rmF l Z a0 hw [] b113 vf T132.heap n0 Z132 Fb132) hZ (hw _ (List.mem_of_getElem? (i := 38) rfl)) (hw _ (List.mem_of_getElem? (i := 7) rfl)) (by decide) (by decide)) qa160 qc160 (g := (mkF m 282 #[.val (.long x0), .second, .val (.int x1), .val (.long x2), .second, .val (.ref b2), .val (.int vf), .val (.int vl), .val (.int vt), .val (.int (1 : Int32)), .val (.int vn0), .val (.int vn1), .val (.int vn2), .val (.ref r108), .val (.ref b113), .val (.int (own_is1 vt vf el0 (vn0.toInt8.toInt32))), .val (.int (0 : Int32))] [(.ref b113)])) rfl (by rw [hml]; rfl) (Steps.refl _) (argsL := []) (rest := []) (lenOf pd0_4 rfl) rfl (by show 2 * 0 + _ ≤ _; exact Nat.le_of_eq rfl) (hb hby at_282) (fun _ _ => ⟨rfl, e139, (by decide : 3 + 0 ≤ _), (by decide : 11 + 0 ≤ _)⟩)
      dsimp only [Pt.U, Pt.locs, Pt.cells, Pt.slots] at X160 l160 y160 z160 st160 hQ160
      subst l160 y160 z160
      obtain ⟨rfl, Nq160, e160⟩ := hQ160
      have N160 := Fr.app N139 Nq160
      have p161 : ∀ t, Steps p.tables e below (T160.setTop (mkF m 285 #[.val (.long x0), .second, .val (.int x1), .val (.long x2), .second, .val (.ref b2), .val (.int vf), .val (.int vl), .val (.int vt), .val (.int (1 : Int32)), .val (.int vn0), .val (.int vn1), .val (.int vn2), .val (.ref r108), .val (.ref b113), .val (.int (own_is1 vt vf el0 (vn0.toInt8.toInt32))), .val (.int (0 : Int32))] [(.int vf)])) t → Steps p.tables e below (s₁.setTop (entryFrame m #[(.long x0), (.int x1), (.long x2)] maxLocals)) t := fun t k => p159 t (st160.trans k)
      have p162 : ∀ t, Steps p.tables e below (T160.setTop (mkF m 292 #[.val (.long x0), .second, .val (.int x1), .val (.long x2), .second, .val (.ref b2), .val (.int vf), .val (.int vl), .val (.int vt), .val (.int (1 : Int32)), .val (.int vn0), .val (.int vn1), .val (.int vn2), .val (.ref r108), .val (.ref b113), .val (.int (own_is1 vt vf el0 (vn0.toInt8.toInt32))), .val (.int (0 : Int32))] [(.ref b113)])) t → Steps p.tables e below (s₁.setTop (entryFrame m #[(.long x0), (.int x1), (.long x2)] maxLocals)) t := fun t k => p161 t (by
        show Steps p.tables e below (T160.setTop (mkF m 285 #[.val (.long x0), .second, .val (.int x1), .val (.long x2), .second, .val (.ref b2), .val (.int vf), .val (.int vl), .val (.int vt), .val (.int (1 : Int32)), .val (.int vn0), .val (.int vn1), .val (.int vn2), .val (.ref r108), .val (.ref b113), .val (.int (own_is1 vt vf el0 (vn0.toInt8.toInt32))), .val (.int (0 : Int32))] [(.int vf)])) _
        refine XS.iload X160.here hx rfl (hb hby at_285) rfl ?_
        show Steps p.tables e below (T160.setTop (mkF m 287 #[.val (.long x0), .second, .val (.int x1), .val (.long x2), .second, .val (.ref b2), .val (.int vf), .val (.int vl), .val (.int vt), .val (.int (1 : Int32)), .val (.int vn0), .val (.int vn1), .val (.int vn2), .val (.ref r108), .val (.ref b113), .val (.int (own_is1 vt vf el0 (vn0.toInt8.toInt32))), .val (.int (0 : Int32))] [(.int vf), (.int vf)])) _
        refine XS.icmpNo X160.here hx rfl (hb hby at_287) rfl ((teq (rfl)).2) ?_
        show Steps p.tables e below (T160.setTop (mkF m 290 #[.val (.long x0), .second, .val (.int x1), .val (.long x2), .second, .val (.ref b2), .val (.int vf), .val (.int vl), .val (.int vt), .val (.int (1 : Int32)), .val (.int vn0), .val (.int vn1), .val (.int vn2), .val (.ref r108), .val (.ref b113), .val (.int (own_is1 vt vf el0 (vn0.toInt8.toInt32))), .val (.int (0 : Int32))] [])) _
        refine XS.aload X160.here hx rfl (hb hby at_290) rfl rfl ?_
        exact k)
      obtain ⟨cq163, kq163, qa163, qb163, qc163⟩ := isOf hZ e160 f136
      obtain ⟨_, _, ⟨T163, L163, k163, n163⟩, -, X163, ⟨Lc163, hQ163, l163, y163, z163⟩, st163⟩ := X160.virtualBack hx (y := (⟨"com/example/kinwarden/kinwarden/NameBytes", "to", "()I"⟩ : MethodName)) (z := (⟨"com/example/kinwarden/kinwarden/NameBytes", "to", "()I"⟩ : MethodName)) hown (mvT hZ (hw _ (List.mem_of_getElem? (i := 39) rfl))) (mvT hZ (hw _ (List.mem_of_getElem? (i := 40) rfl))) (notFace_of_selects (args := #[]) (mvT hZ (hw _ (List.mem_of_getElem? (i := 42) rfl)))) (mvT hZ (hw _ (List.mem_of_getElem? (i := 42) rfl))) (mvT hZ (hw _ (List.mem_of_getElem? (i := 41) rfl))) (by decide) (backOf (W := 0) (rmT l Z a0 hw [] b113 vt T132.heap n0 Z132 Fc132) hZ (hw _ (List.mem_of_getElem? (i := 43) rfl)) (hw _ (List.mem_of_getElem? (i := 7) rfl)) (by decide) (by decide)) qa163 qc163 (g := (mkF m 292 #[.val (.long x0), .second, .val (.int x1), .val (.long x2), .second, .val (.ref b2), .val (.int vf), .val (.int vl), .val (.int vt), .val (.int (1 : Int32)), .val (.int vn0), .val (.int vn1), .val (.int vn2), .val (.ref r108), .val (.ref b113), .val (.int (own_is1 vt vf el0 (vn0.toInt8.toInt32))), .val (.int (0 : Int32))] [(.ref b113)])) rfl (by rw [hml]; rfl) (Steps.refl _) (argsL := []) (rest := []) (lenOf pd0_4 rfl) rfl (by show 2 * 0 + _ ≤ _; exact Nat.le_of_eq rfl) (hb hby at_292) (fun _ _ => ⟨rfl, e160, (by decide : 3 + 0 ≤ _), (by decide : 11 + 0 ≤ _)⟩)
      dsimp only [Pt.U, Pt.locs, Pt.cells, Pt.slots] at X163 l163 y163 z163 st163 hQ163
      subst l163 y163 z163
      obtain ⟨rfl, Nq163, e163⟩ := hQ163
      have N163 := Fr.app N160 Nq163
      have p164 : ∀ t, Steps p.tables e below (T163.setTop (mkF m 295 #[.val (.long x0), .second, .val (.int x1), .val (.long x2), .second, .val (.ref b2), .val (.int vf), .val (.int vl), .val (.int vt), .val (.int (1 : Int32)), .val (.int vn0), .val (.int vn1), .val (.int vn2), .val (.ref r108), .val (.ref b113), .val (.int (own_is1 vt vf el0 (vn0.toInt8.toInt32))), .val (.int (0 : Int32))] [(.int vt)])) t → Steps p.tables e below (s₁.setTop (entryFrame m #[(.long x0), (.int x1), (.long x2)] maxLocals)) t := fun t k => p162 t (st163.trans k)
      have p165 : ∀ t, Steps p.tables e below (T163.setTop (mkF m 305 #[.val (.long x0), .second, .val (.int x1), .val (.long x2), .second, .val (.ref b2), .val (.int vf), .val (.int vl), .val (.int vt), .val (.int (1 : Int32)), .val (.int vn0), .val (.int vn1), .val (.int vn2), .val (.ref r108), .val (.ref b113), .val (.int (own_is1 vt vf el0 (vn0.toInt8.toInt32))), .val (.int (0 : Int32))] [(.int (1 : Int32))])) t → Steps p.tables e below (s₁.setTop (entryFrame m #[(.long x0), (.int x1), (.long x2)] maxLocals)) t := fun t k => p164 t (by
        show Steps p.tables e below (T163.setTop (mkF m 295 #[.val (.long x0), .second, .val (.int x1), .val (.long x2), .second, .val (.ref b2), .val (.int vf), .val (.int vl), .val (.int vt), .val (.int (1 : Int32)), .val (.int vn0), .val (.int vn1), .val (.int vn2), .val (.ref r108), .val (.ref b113), .val (.int (own_is1 vt vf el0 (vn0.toInt8.toInt32))), .val (.int (0 : Int32))] [(.int vt)])) _
        refine XS.iload X163.here hx rfl (hb hby at_295) rfl ?_
        show Steps p.tables e below (T163.setTop (mkF m 297 #[.val (.long x0), .second, .val (.int x1), .val (.long x2), .second, .val (.ref b2), .val (.int vf), .val (.int vl), .val (.int vt), .val (.int (1 : Int32)), .val (.int vn0), .val (.int vn1), .val (.int vn2), .val (.ref r108), .val (.ref b113), .val (.int (own_is1 vt vf el0 (vn0.toInt8.toInt32))), .val (.int (0 : Int32))] [(.int vt), (.int vt)])) _
        refine XS.icmpNo X163.here hx rfl (hb hby at_297) rfl ((teq (rfl)).2) ?_
        show Steps p.tables e below (T163.setTop (mkF m 300 #[.val (.long x0), .second, .val (.int x1), .val (.long x2), .second, .val (.ref b2), .val (.int vf), .val (.int vl), .val (.int vt), .val (.int (1 : Int32)), .val (.int vn0), .val (.int vn1), .val (.int vn2), .val (.ref r108), .val (.ref b113), .val (.int (own_is1 vt vf el0 (vn0.toInt8.toInt32))), .val (.int (0 : Int32))] [])) _
        refine XS.iconst X163.here hx rfl (hb hby at_300) ?_
        show Steps p.tables e below (T163.setTop (mkF m 301 #[.val (.long x0), .second, .val (.int x1), .val (.long x2), .second, .val (.ref b2), .val (.int vf), .val (.int vl), .val (.int vt), .val (.int (1 : Int32)), .val (.int vn0), .val (.int vn1), .val (.int vn2), .val (.ref r108), .val (.ref b113), .val (.int (own_is1 vt vf el0 (vn0.toInt8.toInt32))), .val (.int (0 : Int32))] [(.int (1 : Int32))])) _
        refine XS.goto X163.here hx rfl (pc0 := 301) (pc' := 305) rfl (hb hby at_301) (by decide) (by decide) ?_
        exact k)
      obtain ⟨fs, hr, hrun, hended, hW, hsame⟩ := X163.leave (v := some (.int (1 : Int32))) (fun h => by rw [Bd.returns] at h; cases h)
      refine ⟨_, _, p165 _ ?_, hrun, hended, _, _, rfl, ?_, ⟨_, rfl⟩, hW, hsame.mono (by decide) (by decide)⟩
      · show Steps p.tables e below (T163.setTop (mkF m 305 #[.val (.long x0), .second, .val (.int x1), .val (.long x2), .second, .val (.ref b2), .val (.int vf), .val (.int vl), .val (.int vt), .val (.int (1 : Int32)), .val (.int vn0), .val (.int vn1), .val (.int vn2), .val (.ref r108), .val (.ref b113), .val (.int (own_is1 vt vf el0 (vn0.toInt8.toInt32))), .val (.int (0 : Int32))] [(.int (1 : Int32))])) _
        exact retN X163 hx (t := .boolean) Bd.returns (by simp) (hb hby at_305) hr
      · show Q0 Z x0 x1 x2 a_E h0 n0 _ T163.heap _
        rw [e163]
        exact ⟨rfl, N163⟩
  · have p166 : ∀ t, Steps p.tables e below (T26.setTop (mkF m 173 #[.val (.long x0), .second, .val (.int x1), .val (.long x2), .second, .val (.ref b2), .val (.int vf), .val (.int vl), .val (.int vt), .val (.int (2 : Int32)), .val (.int vn0), .val (.int vn1), .val (.int vn2), .unset, .unset, .unset, .unset] [(.int vn2), (.int vn1), (.int vn0), (.int (2 : Int32))])) t → Steps p.tables e below (s₁.setTop (entryFrame m #[(.long x0), (.int x1), (.long x2)] maxLocals)) t := fun t k => p57 t (by
      show Steps p.tables e below (T26.setTop (mkF m 165 #[.val (.long x0), .second, .val (.int x1), .val (.long x2), .second, .val (.ref b2), .val (.int vf), .val (.int vl), .val (.int vt), .val (.int (2 : Int32)), .val (.int vn0), .val (.int vn1), .val (.int vn2), .unset, .unset, .unset, .unset] [])) _
      refine XS.iload X26.here hx rfl (hb hby at_165) rfl ?_
      show Steps p.tables e below (T26.setTop (mkF m 167 #[.val (.long x0), .second, .val (.int x1), .val (.long x2), .second, .val (.ref b2), .val (.int vf), .val (.int vl), .val (.int vt), .val (.int (2 : Int32)), .val (.int vn0), .val (.int vn1), .val (.int vn2), .unset, .unset, .unset, .unset] [(.int (2 : Int32))])) _
      refine XS.iload X26.here hx rfl (hb hby at_167) rfl ?_
      show Steps p.tables e below (T26.setTop (mkF m 169 #[.val (.long x0), .second, .val (.int x1), .val (.long x2), .second, .val (.ref b2), .val (.int vf), .val (.int vl), .val (.int vt), .val (.int (2 : Int32)), .val (.int vn0), .val (.int vn1), .val (.int vn2), .unset, .unset, .unset, .unset] [(.int vn0), (.int (2 : Int32))])) _
      refine XS.iload X26.here hx rfl (hb hby at_169) rfl ?_
      show Steps p.tables e below (T26.setTop (mkF m 171 #[.val (.long x0), .second, .val (.int x1), .val (.long x2), .second, .val (.ref b2), .val (.int vf), .val (.int vl), .val (.int vt), .val (.int (2 : Int32)), .val (.int vn0), .val (.int vn1), .val (.int vn2), .unset, .unset, .unset, .unset] [(.int vn1), (.int vn0), (.int (2 : Int32))])) _
      refine XS.iload X26.here hx rfl (hb hby at_171) rfl ?_
      exact k)
    obtain ⟨_, _, ⟨T167, L167, k167, n167⟩, -, X167, ⟨Lc167, hQ167, l167, y167, z167⟩, st167⟩ := Jvm.LawKit.callS X26 hx (y := (⟨"com/example/kinwarden/kinwarden/NameBytesIsPinLaw", "make", "(IBBB)[B"⟩ : MethodName)) hown (mvT hZ (hw _ (List.mem_of_getElem? (i := 1) rfl))) (mvT hZ (hw _ (List.mem_of_getElem? (i := 2) rfl))) (mvT hZ (hw _ (List.mem_of_getElem? (i := 3) rfl))) (mvT hZ (hw _ (List.mem_of_getElem? (i := 4) rfl))) (by decide) (backOf (W := 0) (rmm2 l Z a0 hw [] vn0 vn1 vn2  h26 n0 Z26 ) hZ (hw _ (List.mem_of_getElem? (i := 4) rfl)) (hw _ (List.mem_of_getElem? (i := 3) rfl)) (by decide) (by decide)) (g := (mkF m 173 #[.val (.long x0), .second, .val (.int x1), .val (.long x2), .second, .val (.ref b2), .val (.int vf), .val (.int vl), .val (.int vt), .val (.int (2 : Int32)), .val (.int vn0), .val (.int vn1), .val (.int vn2), .unset, .unset, .unset, .unset] [(.int vn2), (.int vn1), (.int vn0), (.int (2 : Int32))])) rfl (by rw [hml]; rfl) (argsL := [(.int (2 : Int32)), (.int vn0), (.int vn1), (.int vn2)]) (rest := []) (lenOf pd0_0 rfl) rfl (by show 2 * 0 + _ ≤ _; exact Nat.le_of_eq rfl) (hb hby at_173) (fun _ _ => ⟨rfl, e26, (by decide : 1 + 1 ≤ _), (by decide : 6 + 2 ≤ _)⟩)
    dsimp only [Pt.U, Pt.locs, Pt.cells, Pt.slots] at X167 l167 y167 z167 st167 hQ167
    subst l167 y167 z167
    obtain ⟨r167, kk167, rfl, Nq167, K167, gr167, VR167⟩ := hQ167
    have N167 := Fr.app N26 Nq167
    have f168 := f27.keep K167 (all0)
    have f169 := BB.keep K167 nin0
    have Z167 := Nat.le_trans Z26 K167.1
    have p170 : ∀ t, Steps p.tables e below (T167.setTop (mkF m 176 #[.val (.long x0), .second, .val (.int x1), .val (.long x2), .second, .val (.ref b2), .val (.int vf), .val (.int vl), .val (.int vt), .val (.int (2 : Int32)), .val (.int vn0), .val (.int vn1), .val (.int vn2), .unset, .unset, .unset, .unset] [(.ref r167)])) t → Steps p.tables e below (s₁.setTop (entryFrame m #[(.long x0), (.int x1), (.long x2)] maxLocals)) t := fun t k => p166 t (st167 _ k)
    have p171 : ∀ t, Steps p.tables e below (T167.setTop (mkF m 178 #[.val (.long x0), .second, .val (.int x1), .val (.long x2), .second, .val (.ref b2), .val (.int vf), .val (.int vl), .val (.int vt), .val (.int (2 : Int32)), .val (.int vn0), .val (.int vn1), .val (.int vn2), .val (.ref r167), .unset, .unset, .unset] [])) t → Steps p.tables e below (s₁.setTop (entryFrame m #[(.long x0), (.int x1), (.long x2)] maxLocals)) t := fun t k => p170 t (by
      show Steps p.tables e below (T167.setTop (mkF m 176 #[.val (.long x0), .second, .val (.int x1), .val (.long x2), .second, .val (.ref b2), .val (.int vf), .val (.int vl), .val (.int vt), .val (.int (2 : Int32)), .val (.int vn0), .val (.int vn1), .val (.int vn2), .unset, .unset, .unset, .unset] [(.ref r167)])) _
      refine XS.astore X167.here hx rfl (hb hby at_176) rfl rfl (l' := #[.val (.long x0), .second, .val (.int x1), .val (.long x2), .second, .val (.ref b2), .val (.int vf), .val (.int vl), .val (.int vt), .val (.int (2 : Int32)), .val (.int vn0), .val (.int vn1), .val (.int vn2), .val (.ref r167), .unset, .unset, .unset]) rfl ?_
      exact k)
    obtain ⟨T172, h172, X172, e172, E172, A172, D172, -, st172⟩ := newO X167 hx hZ hown (hw _ (List.mem_of_getElem? (i := 5) rfl)) (hw _ (List.mem_of_getElem? (i := 6) rfl)) (hw _ (List.mem_of_getElem? (i := 7) rfl)) rfl (g := (mkF m 178 #[.val (.long x0), .second, .val (.int x1), .val (.long x2), .second, .val (.ref b2), .val (.int vf), .val (.int vl), .val (.int vt), .val (.int (2 : Int32)), .val (.int vn0), .val (.int vn1), .val (.int vn2), .val (.ref r167), .unset, .unset, .unset] [])) rfl (hb hby at_178) (by decide) (by decide)
    obtain ⟨b172, g172⟩ : ∃ z, z = T167.heap.size := ⟨_, rfl⟩
    rw [← g172] at A172 D172 st172
    have gn_b172 : n0 ≤ b172 := Nat.le_trans Z167 (Nat.le_of_eq g172.symm)
    have ne173 : b2 ≠ b172 := Nat.ne_of_lt (Nat.lt_of_lt_of_le f169.lt (Nat.le_of_eq g172.symm))
    have ne174 : r167 ≠ b172 := Nat.ne_of_lt (Nat.lt_of_lt_of_le VR167.lt (Nat.le_of_eq g172.symm))
    have f175 := f168.ext E172
    have f176 := f169.ext E172
    have f177 := VR167.ext E172
    have Z172 := Nat.le_trans Z167 E172.1
    have f178 : Fld Z h172 b172 "com/example/kinwarden/kinwarden/NameBytes" "bytes" "[B" .null := D172 (Or.inl (hw _ (List.mem_of_getElem? (i := 17) rfl))) (ty := (.array .byte)) (by decide)
    have f179 : Fld Z h172 b172 "com/example/kinwarden/kinwarden/NameBytes" "room" "[B" .null := D172 (Or.inl (hw _ (List.mem_of_getElem? (i := 19) rfl))) (ty := (.array .byte)) (by decide)
    have f180 : Fld Z h172 b172 "com/example/kinwarden/kinwarden/NameBytes" "from" "I" (.int (0 : Int32)) := D172 (Or.inl (hw _ (List.mem_of_getElem? (i := 26) rfl))) (ty := .int) (by decide)
    have f181 : Fld Z h172 b172 "com/example/kinwarden/kinwarden/NameBytes" "to" "I" (.int (0 : Int32)) := D172 (Or.inl (hw _ (List.mem_of_getElem? (i := 28) rfl))) (ty := .int) (by decide)
    have p182 : ∀ t, Steps p.tables e below (T172.setTop (mkF m 181 #[.val (.long x0), .second, .val (.int x1), .val (.long x2), .second, .val (.ref b2), .val (.int vf), .val (.int vl), .val (.int vt), .val (.int (2 : Int32)), .val (.int vn0), .val (.int vn1), .val (.int vn2), .val (.ref r167), .unset, .unset, .unset] [(.ref b172)])) t → Steps p.tables e below (s₁.setTop (entryFrame m #[(.long x0), (.int x1), (.long x2)] maxLocals)) t := fun t k => p171 t (st172 t k)
    have S0h := S0.ext f175.2
    have p183 : ∀ t, Steps p.tables e below (T172.setTop (mkF m 182 #[.val (.long x0), .second, .val (.int x1), .val (.long x2), .second, .val (.ref b2), .val (.int vf), .val (.int vl), .val (.int vt), .val (.int (2 : Int32)), .val (.int vn0), .val (.int vn1), .val (.int vn2), .val (.ref r167), .unset, .unset, .unset] [(.ref b172), (.ref b172)])) t → Steps p.tables e below (s₁.setTop (entryFrame m #[(.long x0), (.int x1), (.long x2)] maxLocals)) t := fun t k => p182 t (by
      show Steps p.tables e below (T172.setTop (mkF m 181 #[.val (.long x0), .second, .val (.int x1), .val (.long x2), .second, .val (.ref b2), .val (.int vf), .val (.int vl), .val (.int vt), .val (.int (2 : Int32)), .val (.int vn0), .val (.int vn1), .val (.int vn2), .val (.ref r167), .unset, .unset, .unset] [(.ref b172)])) _
      refine XS.dup X172.here hx rfl (hb hby at_181) rfl rfl ?_
      exact k)
    obtain ⟨_, _, ⟨T184, L184, k184, n184⟩, -, X184, ⟨Lc184, hQ184, l184, y184, z184⟩, st184⟩ := X172.specialBack hx (y := (⟨"com/example/kinwarden/kinwarden/NameBytes", "<init>", "()V"⟩ : MethodName)) rfl hown (mvT hZ (hw _ (List.mem_of_getElem? (i := 8) rfl))) (mvT hZ (hw _ (List.mem_of_getElem? (i := 9) rfl))) (mvT hZ (hw _ (List.mem_of_getElem? (i := 10) rfl))) (by decide) (backOf (W := 1) (rmI l Z a0 hw [] b172 a_E h172 n0 Z172 A172 f178 f179 f180 f181 gn_b172 S0h) hZ (hw _ (List.mem_of_getElem? (i := 10) rfl)) (hw _ (List.mem_of_getElem? (i := 7) rfl)) (by decide) (by decide)) (g := (mkF m 182 #[.val (.long x0), .second, .val (.int x1), .val (.long x2), .second, .val (.ref b2), .val (.int vf), .val (.int vl), .val (.int vt), .val (.int (2 : Int32)), .val (.int vn0), .val (.int vn1), .val (.int vn2), .val (.ref r167), .unset, .unset, .unset] [(.ref b172), (.ref b172)])) rfl (by rw [hml]; rfl) (Steps.refl _) (a := b172) (argsL := []) (rest := [(.ref b172)]) (lenOf pd0_1 rfl) rfl (by show 2 * 0 + _ ≤ _; exact Nat.le_of_eq rfl) (hb hby at_182) (fun _ _ => ⟨rfl, e172, (by decide : 3 + 0 ≤ _), (by decide : 12 + 0 ≤ _)⟩)
    dsimp only [Pt.U, Pt.locs, Pt.cells, Pt.slots] at X184 l184 y184 z184 st184 hQ184
    subst l184 y184 z184
    obtain ⟨rfl, Nq184, K184, Fa184, Fb184, Fc184⟩ := hQ184
    have N184 := Fr.app N167 Nq184
    have f185 := f175.keep K184 (allS gn_b172 (all0))
    have f186 := f176.keep K184 (ninS ne173 nin0)
    have f187 := f177.keep K184 (ninS ne174 nin0)
    have f188 := A172.keep K184
    have Z184 := Nat.le_trans Z172 K184.1
    have p189 : ∀ t, Steps p.tables e below (T184.setTop (mkF m 185 #[.val (.long x0), .second, .val (.int x1), .val (.long x2), .second, .val (.ref b2), .val (.int vf), .val (.int vl), .val (.int vt), .val (.int (2 : Int32)), .val (.int vn0), .val (.int vn1), .val (.int vn2), .val (.ref r167), .unset, .unset, .unset] [(.ref b172)])) t → Steps p.tables e below (s₁.setTop (entryFrame m #[(.long x0), (.int x1), (.long x2)] maxLocals)) t := fun t k => p183 t (st184.trans k)
    have p190 : ∀ t, Steps p.tables e below (T184.setTop (mkF m 195 #[.val (.long x0), .second, .val (.int x1), .val (.long x2), .second, .val (.ref b2), .val (.int vf), .val (.int vl), .val (.int vt), .val (.int (2 : Int32)), .val (.int vn0), .val (.int vn1), .val (.int vn2), .val (.ref r167), .val (.ref b172), .unset, .unset] [(.int vt), (.int vf), (.ref b2), (.ref b172)])) t → Steps p.tables e below (s₁.setTop (entryFrame m #[(.long x0), (.int x1), (.long x2)] maxLocals)) t := fun t k => p189 t (by
      show Steps p.tables e below (T184.setTop (mkF m 185 #[.val (.long x0), .second, .val (.int x1), .val (.long x2), .second, .val (.ref b2), .val (.int vf), .val (.int vl), .val (.int vt), .val (.int (2 : Int32)), .val (.int vn0), .val (.int vn1), .val (.int vn2), .val (.ref r167), .unset, .unset, .unset] [(.ref b172)])) _
      refine XS.astore X184.here hx rfl (hb hby at_185) rfl rfl (l' := #[.val (.long x0), .second, .val (.int x1), .val (.long x2), .second, .val (.ref b2), .val (.int vf), .val (.int vl), .val (.int vt), .val (.int (2 : Int32)), .val (.int vn0), .val (.int vn1), .val (.int vn2), .val (.ref r167), .val (.ref b172), .unset, .unset]) rfl ?_
      show Steps p.tables e below (T184.setTop (mkF m 187 #[.val (.long x0), .second, .val (.int x1), .val (.long x2), .second, .val (.ref b2), .val (.int vf), .val (.int vl), .val (.int vt), .val (.int (2 : Int32)), .val (.int vn0), .val (.int vn1), .val (.int vn2), .val (.ref r167), .val (.ref b172), .unset, .unset] [])) _
      refine XS.aload X184.here hx rfl (hb hby at_187) rfl rfl ?_
      show Steps p.tables e below (T184.setTop (mkF m 189 #[.val (.long x0), .second, .val (.int x1), .val (.long x2), .second, .val (.ref b2), .val (.int vf), .val (.int vl), .val (.int vt), .val (.int (2 : Int32)), .val (.int vn0), .val (.int vn1), .val (.int vn2), .val (.ref r167), .val (.ref b172), .unset, .unset] [(.ref b172)])) _
      refine XS.aload X184.here hx rfl (hb hby at_189) rfl rfl ?_
      show Steps p.tables e below (T184.setTop (mkF m 191 #[.val (.long x0), .second, .val (.int x1), .val (.long x2), .second, .val (.ref b2), .val (.int vf), .val (.int vl), .val (.int vt), .val (.int (2 : Int32)), .val (.int vn0), .val (.int vn1), .val (.int vn2), .val (.ref r167), .val (.ref b172), .unset, .unset] [(.ref b2), (.ref b172)])) _
      refine XS.iload X184.here hx rfl (hb hby at_191) rfl ?_
      show Steps p.tables e below (T184.setTop (mkF m 193 #[.val (.long x0), .second, .val (.int x1), .val (.long x2), .second, .val (.ref b2), .val (.int vf), .val (.int vl), .val (.int vt), .val (.int (2 : Int32)), .val (.int vn0), .val (.int vn1), .val (.int vn2), .val (.ref r167), .val (.ref b172), .unset, .unset] [(.int vf), (.ref b2), (.ref b172)])) _
      refine XS.iload X184.here hx rfl (hb hby at_193) rfl ?_
      exact k)
    obtain ⟨cq191, kq191, qa191, qb191, qc191⟩ := isOf hZ rfl f188
    obtain ⟨_, _, ⟨T191, L191, k191, n191⟩, -, X191, ⟨Lc191, hQ191, l191, y191, z191⟩, st191⟩ := X184.virtualBack hx (y := (⟨"com/example/kinwarden/kinwarden/NameBytes", "hold", "([BII)V"⟩ : MethodName)) (z := (⟨"com/example/kinwarden/kinwarden/NameBytes", "hold", "([BII)V"⟩ : MethodName)) hown (mvT hZ (hw _ (List.mem_of_getElem? (i := 20) rfl))) (mvT hZ (hw _ (List.mem_of_getElem? (i := 21) rfl))) (notFace_of_selects (args := #[]) (mvT hZ (hw _ (List.mem_of_getElem? (i := 23) rfl)))) (mvT hZ (hw _ (List.mem_of_getElem? (i := 23) rfl))) (mvT hZ (hw _ (List.mem_of_getElem? (i := 22) rfl))) (by decide) (backOf (W := 0) (rmH l Z a0 hw [] b172 b2 vf vt a_E T184.heap n0 Z184 f188 Fa184 Fb184 Fc184 gn_b172) hZ (hw _ (List.mem_of_getElem? (i := 24) rfl)) (hw _ (List.mem_of_getElem? (i := 7) rfl)) (by decide) (by decide)) qa191 qc191 (g := (mkF m 195 #[.val (.long x0), .second, .val (.int x1), .val (.long x2), .second, .val (.ref b2), .val (.int vf), .val (.int vl), .val (.int vt), .val (.int (2 : Int32)), .val (.int vn0), .val (.int vn1), .val (.int vn2), .val (.ref r167), .val (.ref b172), .unset, .unset] [(.int vt), (.int vf), (.ref b2), (.ref b172)])) rfl (by rw [hml]; rfl) (Steps.refl _) (argsL := [(.ref b2), (.int vf), (.int vt)]) (rest := []) (lenOf pd0_2 rfl) rfl (by show 2 * 0 + _ ≤ _; exact Nat.le_of_eq rfl) (hb hby at_195) (fun _ _ => ⟨rfl, rfl, (by decide : 3 + 0 ≤ _), (by decide : 12 + 0 ≤ _)⟩)
    dsimp only [Pt.U, Pt.locs, Pt.cells, Pt.slots] at X191 l191 y191 z191 st191 hQ191
    subst l191 y191 z191
    obtain ⟨rfl, Nq191, K191, Fa191, Fb191, Fc191⟩ := hQ191
    have N191 := Fr.app N184 Nq191
    have f192 := f185.keep K191 (allS gn_b172 (all0))
    have f193 := f186.keep K191 (ninS ne173 nin0)
    have f194 := f187.keep K191 (ninS ne174 nin0)
    have f195 := f188.keep K191
    have Z191 := Nat.le_trans Z184 K191.1
    have p196 : ∀ t, Steps p.tables e below (T191.setTop (mkF m 198 #[.val (.long x0), .second, .val (.int x1), .val (.long x2), .second, .val (.ref b2), .val (.int vf), .val (.int vl), .val (.int vt), .val (.int (2 : Int32)), .val (.int vn0), .val (.int vn1), .val (.int vn2), .val (.ref r167), .val (.ref b172), .unset, .unset] [])) t → Steps p.tables e below (s₁.setTop (entryFrame m #[(.long x0), (.int x1), (.long x2)] maxLocals)) t := fun t k => p190 t (st191.trans k)
    have p197 : ∀ t, Steps p.tables e below (T191.setTop (mkF m 202 #[.val (.long x0), .second, .val (.int x1), .val (.long x2), .second, .val (.ref b2), .val (.int vf), .val (.int vl), .val (.int vt), .val (.int (2 : Int32)), .val (.int vn0), .val (.int vn1), .val (.int vn2), .val (.ref r167), .val (.ref b172), .unset, .unset] [(.ref r167), (.ref b172)])) t → Steps p.tables e below (s₁.setTop (entryFrame m #[(.long x0), (.int x1), (.long x2)] maxLocals)) t := fun t k => p196 t (by
      show Steps p.tables e below (T191.setTop (mkF m 198 #[.val (.long x0), .second, .val (.int x1), .val (.long x2), .second, .val (.ref b2), .val (.int vf), .val (.int vl), .val (.int vt), .val (.int (2 : Int32)), .val (.int vn0), .val (.int vn1), .val (.int vn2), .val (.ref r167), .val (.ref b172), .unset, .unset] [])) _
      refine XS.aload X191.here hx rfl (hb hby at_198) rfl rfl ?_
      show Steps p.tables e below (T191.setTop (mkF m 200 #[.val (.long x0), .second, .val (.int x1), .val (.long x2), .second, .val (.ref b2), .val (.int vf), .val (.int vl), .val (.int vt), .val (.int (2 : Int32)), .val (.int vn0), .val (.int vn1), .val (.int vn2), .val (.ref r167), .val (.ref b172), .unset, .unset] [(.ref b172)])) _
      refine XS.aload X191.here hx rfl (hb hby at_200) rfl rfl ?_
      exact k)
    obtain ⟨cq198, kq198, qa198, qb198, qc198⟩ := isOf hZ rfl f195
    obtain ⟨_, _, ⟨T198, L198, k198, n198⟩, -, X198, ⟨Lc198, hQ198, l198, y198, z198⟩, st198⟩ := X191.virtualBack hx (y := (⟨"com/example/kinwarden/kinwarden/NameBytes", "is", "([B)Z"⟩ : MethodName)) (z := (⟨"com/example/kinwarden/kinwarden/NameBytes", "is", "([B)Z"⟩ : MethodName)) hown (mvT hZ (hw _ (List.mem_of_getElem? (i := 29) rfl))) (mvT hZ (hw _ (List.mem_of_getElem? (i := 30) rfl))) (notFace_of_selects (args := #[]) (mvT hZ (hw _ (List.mem_of_getElem? (i := 32) rfl)))) (mvT hZ (hw _ (List.mem_of_getElem? (i := 32) rfl))) (mvT hZ (hw _ (List.mem_of_getElem? (i := 31) rfl))) (by decide) (backOf (W := 0) (rms2 l Z a0 hw [] b172 r167 b2 kk167 vt vf el0 el1 el2 (vn0.toInt8.toInt32) (vn1.toInt8.toInt32) T191.heap n0 Z191 Fa191 Fb191 Fc191 f193 f194) hZ (hw _ (List.mem_of_getElem? (i := 33) rfl)) (hw _ (List.mem_of_getElem? (i := 7) rfl)) (by decide) (by decide)) qa198 qc198 (g := (mkF m 202 #[.val (.long x0), .second, .val (.int x1), .val (.long x2), .second, .val (.ref b2), .val (.int vf), .val (.int vl), .val (.int vt), .val (.int (2 : Int32)), .val (.int vn0), .val (.int vn1), .val (.int vn2), .val (.ref r167), .val (.ref b172), .unset, .unset] [(.ref r167), (.ref b172)])) rfl (by rw [hml]; rfl) (Steps.refl _) (argsL := [(.ref r167)]) (rest := []) (lenOf pd0_3 rfl) rfl (by show 2 * 0 + _ ≤ _; exact Nat.le_of_eq rfl) (hb hby at_202) (fun _ _ => ⟨rfl, rfl, (by decide : 3 + 0 ≤ _), (by decide : 12 + 0 ≤ _)⟩)
    dsimp only [Pt.U, Pt.locs, Pt.cells, Pt.slots] at X198 l198 y198 z198 st198 hQ198
    subst l198 y198 z198
    obtain ⟨rfl, Nq198, e198⟩ := hQ198
    have N198 := Fr.app N191 Nq198
    have p199 : ∀ t, Steps p.tables e below (T198.setTop (mkF m 205 #[.val (.long x0), .second, .val (.int x1), .val (.long x2), .second, .val (.ref b2), .val (.int vf), .val (.int vl), .val (.int vt), .val (.int (2 : Int32)), .val (.int vn0), .val (.int vn1), .val (.int vn2), .val (.ref r167), .val (.ref b172), .unset, .unset] [(.int (own_is2 vt vf el0 (vn0.toInt8.toInt32) el1 (vn1.toInt8.toInt32)))])) t → Steps p.tables e below (s₁.setTop (entryFrame m #[(.long x0), (.int x1), (.long x2)] maxLocals)) t := fun t k => p197 t (st198.trans k)
    have p200 : ∀ t, Steps p.tables e below (T198.setTop (mkF m 211 #[.val (.long x0), .second, .val (.int x1), .val (.long x2), .second, .val (.ref b2), .val (.int vf), .val (.int vl), .val (.int vt), .val (.int (2 : Int32)), .val (.int vn0), .val (.int vn1), .val (.int vn2), .val (.ref r167), .val (.ref b172), .val (.int (own_is2 vt vf el0 (vn0.toInt8.toInt32) el1 (vn1.toInt8.toInt32))), .unset] [(.int (2 : Int32)), (.int vl)])) t → Steps p.tables e below (s₁.setTop (entryFrame m #[(.long x0), (.int x1), (.long x2)] maxLocals)) t := fun t k => p199 t (by
      show Steps p.tables e below (T198.setTop (mkF m 205 #[.val (.long x0), .second, .val (.int x1), .val (.long x2), .second, .val (.ref b2), .val (.int vf), .val (.int vl), .val (.int vt), .val (.int (2 : Int32)), .val (.int vn0), .val (.int vn1), .val (.int vn2), .val (.ref r167), .val (.ref b172), .unset, .unset] [(.int (own_is2 vt vf el0 (vn0.toInt8.toInt32) el1 (vn1.toInt8.toInt32)))])) _
      refine XS.istore X198.here hx rfl (hb hby at_205) rfl (l' := #[.val (.long x0), .second, .val (.int x1), .val (.long x2), .second, .val (.ref b2), .val (.int vf), .val (.int vl), .val (.int vt), .val (.int (2 : Int32)), .val (.int vn0), .val (.int vn1), .val (.int vn2), .val (.ref r167), .val (.ref b172), .val (.int (own_is2 vt vf el0 (vn0.toInt8.toInt32) el1 (vn1.toInt8.toInt32))), .unset]) rfl ?_
      show Steps p.tables e below (T198.setTop (mkF m 207 #[.val (.long x0), .second, .val (.int x1), .val (.long x2), .second, .val (.ref b2), .val (.int vf), .val (.int vl), .val (.int vt), .val (.int (2 : Int32)), .val (.int vn0), .val (.int vn1), .val (.int vn2), .val (.ref r167), .val (.ref b172), .val (.int (own_is2 vt vf el0 (vn0.toInt8.toInt32) el1 (vn1.toInt8.toInt32))), .unset] [])) _
      refine XS.iload X198.here hx rfl (hb hby at_207) rfl ?_
      show Steps p.tables e below (T198.setTop (mkF m 209 #[.val (.long x0), .second, .val (.int x1), .val (.long x2), .second, .val (.ref b2), .val (.int vf), .val (.int vl), .val (.int vt), .val (.int (2 : Int32)), .val (.int vn0), .val (.int vn1), .val (.int vn2), .val (.ref r167), .val (.ref b172), .val (.int (own_is2 vt vf el0 (vn0.toInt8.toInt32) el1 (vn1.toInt8.toInt32))), .unset] [(.int vl)])) _
      refine XS.iload X198.here hx rfl (hb hby at_209) rfl ?_
      exact k)
    by_cases hc211 : vl = (2 : Int32)
    · have p201 : ∀ t, Steps p.tables e below (T198.setTop (mkF m 226 #[.val (.long x0), .second, .val (.int x1), .val (.long x2), .second, .val (.ref b2), .val (.int vf), .val (.int vl), .val (.int vt), .val (.int (2 : Int32)), .val (.int vn0), .val (.int vn1), .val (.int vn2), .val (.ref r167), .val (.ref b172), .val (.int (own_is2 vt vf el0 (vn0.toInt8.toInt32) el1 (vn1.toInt8.toInt32))), .unset] [(.int vf), (.ref b2), (.int vn0)])) t → Steps p.tables e below (s₁.setTop (entryFrame m #[(.long x0), (.int x1), (.long x2)] maxLocals)) t := fun t k => p200 t (by
        show Steps p.tables e below (T198.setTop (mkF m 211 #[.val (.long x0), .second, .val (.int x1), .val (.long x2), .second, .val (.ref b2), .val (.int vf), .val (.int vl), .val (.int vt), .val (.int (2 : Int32)), .val (.int vn0), .val (.int vn1), .val (.int vn2), .val (.ref r167), .val (.ref b172), .val (.int (own_is2 vt vf el0 (vn0.toInt8.toInt32) el1 (vn1.toInt8.toInt32))), .unset] [(.int (2 : Int32)), (.int vl)])) _
        refine XS.icmpNo X198.here hx rfl (hb hby at_211) rfl ((teq (hc211)).2) ?_
        show Steps p.tables e below (T198.setTop (mkF m 214 #[.val (.long x0), .second, .val (.int x1), .val (.long x2), .second, .val (.ref b2), .val (.int vf), .val (.int vl), .val (.int vt), .val (.int (2 : Int32)), .val (.int vn0), .val (.int vn1), .val (.int vn2), .val (.ref r167), .val (.ref b172), .val (.int (own_is2 vt vf el0 (vn0.toInt8.toInt32) el1 (vn1.toInt8.toInt32))), .unset] [])) _
        refine XS.iload X198.here hx rfl (hb hby at_214) rfl ?_
        show Steps p.tables e below (T198.setTop (mkF m 216 #[.val (.long x0), .second, .val (.int x1), .val (.long x2), .second, .val (.ref b2), .val (.int vf), .val (.int vl), .val (.int vt), .val (.int (2 : Int32)), .val (.int vn0), .val (.int vn1), .val (.int vn2), .val (.ref r167), .val (.ref b172), .val (.int (own_is2 vt vf el0 (vn0.toInt8.toInt32) el1 (vn1.toInt8.toInt32))), .unset] [(.int (2 : Int32))])) _
        refine XS.iconst X198.here hx rfl (hb hby at_216) ?_
        show Steps p.tables e below (T198.setTop (mkF m 217 #[.val (.long x0), .second, .val (.int x1), .val (.long x2), .second, .val (.ref b2), .val (.int vf), .val (.int vl), .val (.int vt), .val (.int (2 : Int32)), .val (.int vn0), .val (.int vn1), .val (.int vn2), .val (.ref r167), .val (.ref b172), .val (.int (own_is2 vt vf el0 (vn0.toInt8.toInt32) el1 (vn1.toInt8.toInt32))), .unset] [(.int (1 : Int32)), (.int (2 : Int32))])) _
        refine XS.icmpNo X198.here hx rfl (hb hby at_217) rfl ((flt (by decide)).1) ?_
        show Steps p.tables e below (T198.setTop (mkF m 220 #[.val (.long x0), .second, .val (.int x1), .val (.long x2), .second, .val (.ref b2), .val (.int vf), .val (.int vl), .val (.int vt), .val (.int (2 : Int32)), .val (.int vn0), .val (.int vn1), .val (.int vn2), .val (.ref r167), .val (.ref b172), .val (.int (own_is2 vt vf el0 (vn0.toInt8.toInt32) el1 (vn1.toInt8.toInt32))), .unset] [])) _
        refine XS.iload X198.here hx rfl (hb hby at_220) rfl ?_
        show Steps p.tables e below (T198.setTop (mkF m 222 #[.val (.long x0), .second, .val (.int x1), .val (.long x2), .second, .val (.ref b2), .val (.int vf), .val (.int vl), .val (.int vt), .val (.int (2 : Int32)), .val (.int vn0), .val (.int vn1), .val (.int vn2), .val (.ref r167), .val (.ref b172), .val (.int (own_is2 vt vf el0 (vn0.toInt8.toInt32) el1 (vn1.toInt8.toInt32))), .unset] [(.int vn0)])) _
        refine XS.aload X198.here hx rfl (hb hby at_222) rfl rfl ?_
        show Steps p.tables e below (T198.setTop (mkF m 224 #[.val (.long x0), .second, .val (.int x1), .val (.long x2), .second, .val (.ref b2), .val (.int vf), .val (.int vl), .val (.int vt), .val (.int (2 : Int32)), .val (.int vn0), .val (.int vn1), .val (.int vn2), .val (.ref r167), .val (.ref b172), .val (.int (own_is2 vt vf el0 (vn0.toInt8.toInt32) el1 (vn1.toInt8.toInt32))), .unset] [(.ref b2), (.int vn0)])) _
        refine XS.iload X198.here hx rfl (hb hby at_224) rfl ?_
        exact k)
      obtain ⟨cb202, Ab202, ⟨i0202, t0202⟩, ⟨i1202, t1202⟩, ⟨i2202, t2202⟩⟩ := id f193
      have p203 : ∀ t, Steps p.tables e below (T198.setTop (mkF m 227 #[.val (.long x0), .second, .val (.int x1), .val (.long x2), .second, .val (.ref b2), .val (.int vf), .val (.int vl), .val (.int vt), .val (.int (2 : Int32)), .val (.int vn0), .val (.int vn1), .val (.int vn2), .val (.ref r167), .val (.ref b172), .val (.int (own_is2 vt vf el0 (vn0.toInt8.toInt32) el1 (vn1.toInt8.toInt32))), .unset] [(.int el0), (.int vn0)])) t → Steps p.tables e below (s₁.setTop (entryFrame m #[(.long x0), (.int x1), (.long x2)] maxLocals)) t := fun t k => p201 t (by
        show Steps p.tables e below (T198.setTop (mkF m 226 #[.val (.long x0), .second, .val (.int x1), .val (.long x2), .second, .val (.ref b2), .val (.int vf), .val (.int vl), .val (.int vt), .val (.int (2 : Int32)), .val (.int vn0), .val (.int vn1), .val (.int vn2), .val (.ref r167), .val (.ref b172), .val (.int (own_is2 vt vf el0 (vn0.toInt8.toInt32) el1 (vn1.toInt8.toInt32))), .unset] [(.int vf), (.ref b2), (.int vn0)])) _
        refine X198.baloadBytes hx (j := vf) (v := (.int el0)) (by rw [e198]; exact Ab202.1) (State.isArrayOf_alike hZ.alike Ab202.2.1) Ab202.2.2 i0202 t0202 (g := (mkF m 226 #[.val (.long x0), .second, .val (.int x1), .val (.long x2), .second, .val (.ref b2), .val (.int vf), .val (.int vl), .val (.int vt), .val (.int (2 : Int32)), .val (.int vn0), .val (.int vn1), .val (.int vn2), .val (.ref r167), .val (.ref b172), .val (.int (own_is2 vt vf el0 (vn0.toInt8.toInt32) el1 (vn1.toInt8.toInt32))), .unset] [(.int vf), (.ref b2), (.int vn0)])) rfl rfl (hb hby at_226) _ ?_
        exact k)
      by_cases hc227 : vn0 = el0
      · have p204 : ∀ t, Steps p.tables e below (T198.setTop (mkF m 244 #[.val (.long x0), .second, .val (.int x1), .val (.long x2), .second, .val (.ref b2), .val (.int vf), .val (.int vl), .val (.int vt), .val (.int (2 : Int32)), .val (.int vn0), .val (.int vn1), .val (.int vn2), .val (.ref r167), .val (.ref b172), .val (.int (own_is2 vt vf el0 (vn0.toInt8.toInt32) el1 (vn1.toInt8.toInt32))), .unset] [(.int (vf + (1 : Int32))), (.ref b2), (.int vn1)])) t → Steps p.tables e below (s₁.setTop (entryFrame m #[(.long x0), (.int x1), (.long x2)] maxLocals)) t := fun t k => p203 t (by
          show Steps p.tables e below (T198.setTop (mkF m 227 #[.val (.long x0), .second, .val (.int x1), .val (.long x2), .second, .val (.ref b2), .val (.int vf), .val (.int vl), .val (.int vt), .val (.int (2 : Int32)), .val (.int vn0), .val (.int vn1), .val (.int vn2), .val (.ref r167), .val (.ref b172), .val (.int (own_is2 vt vf el0 (vn0.toInt8.toInt32) el1 (vn1.toInt8.toInt32))), .unset] [(.int el0), (.int vn0)])) _
          refine XS.icmpNo X198.here hx rfl (hb hby at_227) rfl ((teq (hc227)).2) ?_
          show Steps p.tables e below (T198.setTop (mkF m 230 #[.val (.long x0), .second, .val (.int x1), .val (.long x2), .second, .val (.ref b2), .val (.int vf), .val (.int vl), .val (.int vt), .val (.int (2 : Int32)), .val (.int vn0), .val (.int vn1), .val (.int vn2), .val (.ref r167), .val (.ref b172), .val (.int (own_is2 vt vf el0 (vn0.toInt8.toInt32) el1 (vn1.toInt8.toInt32))), .unset] [])) _
          refine XS.iload X198.here hx rfl (hb hby at_230) rfl ?_
          show Steps p.tables e below (T198.setTop (mkF m 232 #[.val (.long x0), .second, .val (.int x1), .val (.long x2), .second, .val (.ref b2), .val (.int vf), .val (.int vl), .val (.int vt), .val (.int (2 : Int32)), .val (.int vn0), .val (.int vn1), .val (.int vn2), .val (.ref r167), .val (.ref b172), .val (.int (own_is2 vt vf el0 (vn0.toInt8.toInt32) el1 (vn1.toInt8.toInt32))), .unset] [(.int (2 : Int32))])) _
          refine XS.iconst X198.here hx rfl (hb hby at_232) ?_
          show Steps p.tables e below (T198.setTop (mkF m 233 #[.val (.long x0), .second, .val (.int x1), .val (.long x2), .second, .val (.ref b2), .val (.int vf), .val (.int vl), .val (.int vt), .val (.int (2 : Int32)), .val (.int vn0), .val (.int vn1), .val (.int vn2), .val (.ref r167), .val (.ref b172), .val (.int (own_is2 vt vf el0 (vn0.toInt8.toInt32) el1 (vn1.toInt8.toInt32))), .unset] [(.int (2 : Int32)), (.int (2 : Int32))])) _
          refine XS.icmpNo X198.here hx rfl (hb hby at_233) rfl ((flt (by decide)).1) ?_
          show Steps p.tables e below (T198.setTop (mkF m 236 #[.val (.long x0), .second, .val (.int x1), .val (.long x2), .second, .val (.ref b2), .val (.int vf), .val (.int vl), .val (.int vt), .val (.int (2 : Int32)), .val (.int vn0), .val (.int vn1), .val (.int vn2), .val (.ref r167), .val (.ref b172), .val (.int (own_is2 vt vf el0 (vn0.toInt8.toInt32) el1 (vn1.toInt8.toInt32))), .unset] [])) _
          refine XS.iload X198.here hx rfl (hb hby at_236) rfl ?_
          show Steps p.tables e below (T198.setTop (mkF m 238 #[.val (.long x0), .second, .val (.int x1), .val (.long x2), .second, .val (.ref b2), .val (.int vf), .val (.int vl), .val (.int vt), .val (.int (2 : Int32)), .val (.int vn0), .val (.int vn1), .val (.int vn2), .val (.ref r167), .val (.ref b172), .val (.int (own_is2 vt vf el0 (vn0.toInt8.toInt32) el1 (vn1.toInt8.toInt32))), .unset] [(.int vn1)])) _
          refine XS.aload X198.here hx rfl (hb hby at_238) rfl rfl ?_
          show Steps p.tables e below (T198.setTop (mkF m 240 #[.val (.long x0), .second, .val (.int x1), .val (.long x2), .second, .val (.ref b2), .val (.int vf), .val (.int vl), .val (.int vt), .val (.int (2 : Int32)), .val (.int vn0), .val (.int vn1), .val (.int vn2), .val (.ref r167), .val (.ref b172), .val (.int (own_is2 vt vf el0 (vn0.toInt8.toInt32) el1 (vn1.toInt8.toInt32))), .unset] [(.ref b2), (.int vn1)])) _
          refine XS.iload X198.here hx rfl (hb hby at_240) rfl ?_
          show Steps p.tables e below (T198.setTop (mkF m 242 #[.val (.long x0), .second, .val (.int x1), .val (.long x2), .second, .val (.ref b2), .val (.int vf), .val (.int vl), .val (.int vt), .val (.int (2 : Int32)), .val (.int vn0), .val (.int vn1), .val (.int vn2), .val (.ref r167), .val (.ref b172), .val (.int (own_is2 vt vf el0 (vn0.toInt8.toInt32) el1 (vn1.toInt8.toInt32))), .unset] [(.int vf), (.ref b2), (.int vn1)])) _
          refine XS.iconst X198.here hx rfl (hb hby at_242) ?_
          show Steps p.tables e below (T198.setTop (mkF m 243 #[.val (.long x0), .second, .val (.int x1), .val (.long x2), .second, .val (.ref b2), .val (.int vf), .val (.int vl), .val (.int vt), .val (.int (2 : Int32)), .val (.int vn0), .val (.int vn1), .val (.int vn2), .val (.ref r167), .val (.ref b172), .val (.int (own_is2 vt vf el0 (vn0.toInt8.toInt32) el1 (vn1.toInt8.toInt32))), .unset] [(.int (1 : Int32)), (.int vf), (.ref b2), (.int vn1)])) _
          refine XS.iadd X198.here hx rfl (hb hby at_243) rfl ?_
          exact k)
        obtain ⟨cb205, Ab205, ⟨i0205, t0205⟩, ⟨i1205, t1205⟩, ⟨i2205, t2205⟩⟩ := id f193
        have p206 : ∀ t, Steps p.tables e below (T198.setTop (mkF m 245 #[.val (.long x0), .second, .val (.int x1), .val (.long x2), .second, .val (.ref b2), .val (.int vf), .val (.int vl), .val (.int vt), .val (.int (2 : Int32)), .val (.int vn0), .val (.int vn1), .val (.int vn2), .val (.ref r167), .val (.ref b172), .val (.int (own_is2 vt vf el0 (vn0.toInt8.toInt32) el1 (vn1.toInt8.toInt32))), .unset] [(.int el1), (.int vn1)])) t → Steps p.tables e below (s₁.setTop (entryFrame m #[(.long x0), (.int x1), (.long x2)] maxLocals)) t := fun t k => p204 t (by
          show Steps p.tables e below (T198.setTop (mkF m 244 #[.val (.long x0), .second, .val (.int x1), .val (.long x2), .second, .val (.ref b2), .val (.int vf), .val (.int vl), .val (.int vt), .val (.int (2 : Int32)), .val (.int vn0), .val (.int vn1), .val (.int vn2), .val (.ref r167), .val (.ref b172), .val (.int (own_is2 vt vf el0 (vn0.toInt8.toInt32) el1 (vn1.toInt8.toInt32))), .unset] [(.int (vf + (1 : Int32))), (.ref b2), (.int vn1)])) _
          refine X198.baloadBytes hx (j := (vf + (1 : Int32))) (v := (.int el1)) (by rw [e198]; exact Ab205.1) (State.isArrayOf_alike hZ.alike Ab205.2.1) Ab205.2.2 i1205 t1205 (g := (mkF m 244 #[.val (.long x0), .second, .val (.int x1), .val (.long x2), .second, .val (.ref b2), .val (.int vf), .val (.int vl), .val (.int vt), .val (.int (2 : Int32)), .val (.int vn0), .val (.int vn1), .val (.int vn2), .val (.ref r167), .val (.ref b172), .val (.int (own_is2 vt vf el0 (vn0.toInt8.toInt32) el1 (vn1.toInt8.toInt32))), .unset] [(.int (vf + (1 : Int32))), (.ref b2), (.int vn1)])) rfl rfl (hb hby at_244) _ ?_
          exact k)
        by_cases hc245 : vn1 = el1
        · have p207 : ∀ t, Steps p.tables e below (T198.setTop (mkF m 282 #[.val (.long x0), .second, .val (.int x1), .val (.long x2), .second, .val (.ref b2), .val (.int vf), .val (.int vl), .val (.int vt), .val (.int (2 : Int32)), .val (.int vn0), .val (.int vn1), .val (.int vn2), .val (.ref r167), .val (.ref b172), .val (.int (own_is2 vt vf el0 (vn0.toInt8.toInt32) el1 (vn1.toInt8.toInt32))), .val (.int (1 : Int32))] [(.ref b172)])) t → Steps p.tables e below (s₁.setTop (entryFrame m #[(.long x0), (.int x1), (.long x2)] maxLocals)) t := fun t k => p206 t (by
            show Steps p.tables e below (T198.setTop (mkF m 245 #[.val (.long x0), .second, .val (.int x1), .val (.long x2), .second, .val (.ref b2), .val (.int vf), .val (.int vl), .val (.int vt), .val (.int (2 : Int32)), .val (.int vn0), .val (.int vn1), .val (.int vn2), .val (.ref r167), .val (.ref b172), .val (.int (own_is2 vt vf el0 (vn0.toInt8.toInt32) el1 (vn1.toInt8.toInt32))), .unset] [(.int el1), (.int vn1)])) _
            refine XS.icmpNo X198.here hx rfl (hb hby at_245) rfl ((teq (hc245)).2) ?_
            show Steps p.tables e below (T198.setTop (mkF m 248 #[.val (.long x0), .second, .val (.int x1), .val (.long x2), .second, .val (.ref b2), .val (.int vf), .val (.int vl), .val (.int vt), .val (.int (2 : Int32)), .val (.int vn0), .val (.int vn1), .val (.int vn2), .val (.ref r167), .val (.ref b172), .val (.int (own_is2 vt vf el0 (vn0.toInt8.toInt32) el1 (vn1.toInt8.toInt32))), .unset] [])) _
            refine XS.iload X198.here hx rfl (hb hby at_248) rfl ?_
            show Steps p.tables e below (T198.setTop (mkF m 250 #[.val (.long x0), .second, .val (.int x1), .val (.long x2), .second, .val (.ref b2), .val (.int vf), .val (.int vl), .val (.int vt), .val (.int (2 : Int32)), .val (.int vn0), .val (.int vn1), .val (.int vn2), .val (.ref r167), .val (.ref b172), .val (.int (own_is2 vt vf el0 (vn0.toInt8.toInt32) el1 (vn1.toInt8.toInt32))), .unset] [(.int (2 : Int32))])) _
            refine XS.iconst X198.here hx rfl (hb hby at_250) ?_
            show Steps p.tables e below (T198.setTop (mkF m 251 #[.val (.long x0), .second, .val (.int x1), .val (.long x2), .second, .val (.ref b2), .val (.int vf), .val (.int vl), .val (.int vt), .val (.int (2 : Int32)), .val (.int vn0), .val (.int vn1), .val (.int vn2), .val (.ref r167), .val (.ref b172), .val (.int (own_is2 vt vf el0 (vn0.toInt8.toInt32) el1 (vn1.toInt8.toInt32))), .unset] [(.int (3 : Int32)), (.int (2 : Int32))])) _
            refine XS.icmpYes X198.here hx rfl (pc0 := 251) (pc' := 266) rfl (hb hby at_251) rfl ((tlt (by decide)).1) (by decide) (by decide) ?_
            show Steps p.tables e below (T198.setTop (mkF m 266 #[.val (.long x0), .second, .val (.int x1), .val (.long x2), .second, .val (.ref b2), .val (.int vf), .val (.int vl), .val (.int vt), .val (.int (2 : Int32)), .val (.int vn0), .val (.int vn1), .val (.int vn2), .val (.ref r167), .val (.ref b172), .val (.int (own_is2 vt vf el0 (vn0.toInt8.toInt32) el1 (vn1.toInt8.toInt32))), .unset] [])) _
            refine XS.iconst X198.here hx rfl (hb hby at_266) ?_
            show Steps p.tables e below (T198.setTop (mkF m 267 #[.val (.long x0), .second, .val (.int x1), .val (.long x2), .second, .val (.ref b2), .val (.int vf), .val (.int vl), .val (.int vt), .val (.int (2 : Int32)), .val (.int vn0), .val (.int vn1), .val (.int vn2), .val (.ref r167), .val (.ref b172), .val (.int (own_is2 vt vf el0 (vn0.toInt8.toInt32) el1 (vn1.toInt8.toInt32))), .unset] [(.int (1 : Int32))])) _
            refine XS.goto X198.here hx rfl (pc0 := 267) (pc' := 271) rfl (hb hby at_267) (by decide) (by decide) ?_
            show Steps p.tables e below (T198.setTop (mkF m 271 #[.val (.long x0), .second, .val (.int x1), .val (.long x2), .second, .val (.ref b2), .val (.int vf), .val (.int vl), .val (.int vt), .val (.int (2 : Int32)), .val (.int vn0), .val (.int vn1), .val (.int vn2), .val (.ref r167), .val (.ref b172), .val (.int (own_is2 vt vf el0 (vn0.toInt8.toInt32) el1 (vn1.toInt8.toInt32))), .unset] [(.int (1 : Int32))])) _
            refine XS.istore X198.here hx rfl (hb hby at_271) rfl (l' := #[.val (.long x0), .second, .val (.int x1), .val (.long x2), .second, .val (.ref b2), .val (.int vf), .val (.int vl), .val (.int vt), .val (.int (2 : Int32)), .val (.int vn0), .val (.int vn1), .val (.int vn2), .val (.ref r167), .val (.ref b172), .val (.int (own_is2 vt vf el0 (vn0.toInt8.toInt32) el1 (vn1.toInt8.toInt32))), .val (.int (1 : Int32))]) rfl ?_
            show Steps p.tables e below (T198.setTop (mkF m 273 #[.val (.long x0), .second, .val (.int x1), .val (.long x2), .second, .val (.ref b2), .val (.int vf), .val (.int vl), .val (.int vt), .val (.int (2 : Int32)), .val (.int vn0), .val (.int vn1), .val (.int vn2), .val (.ref r167), .val (.ref b172), .val (.int (own_is2 vt vf el0 (vn0.toInt8.toInt32) el1 (vn1.toInt8.toInt32))), .val (.int (1 : Int32))] [])) _
            refine XS.iload X198.here hx rfl (hb hby at_273) rfl ?_
            show Steps p.tables e below (T198.setTop (mkF m 275 #[.val (.long x0), .second, .val (.int x1), .val (.long x2), .second, .val (.ref b2), .val (.int vf), .val (.int vl), .val (.int vt), .val (.int (2 : Int32)), .val (.int vn0), .val (.int vn1), .val (.int vn2), .val (.ref r167), .val (.ref b172), .val (.int (own_is2 vt vf el0 (vn0.toInt8.toInt32) el1 (vn1.toInt8.toInt32))), .val (.int (1 : Int32))] [(.int (own_is2 vt vf el0 (vn0.toInt8.toInt32) el1 (vn1.toInt8.toInt32)))])) _
            refine XS.iload X198.here hx rfl (hb hby at_275) rfl ?_
            show Steps p.tables e below (T198.setTop (mkF m 277 #[.val (.long x0), .second, .val (.int x1), .val (.long x2), .second, .val (.ref b2), .val (.int vf), .val (.int vl), .val (.int vt), .val (.int (2 : Int32)), .val (.int vn0), .val (.int vn1), .val (.int vn2), .val (.ref r167), .val (.ref b172), .val (.int (own_is2 vt vf el0 (vn0.toInt8.toInt32) el1 (vn1.toInt8.toInt32))), .val (.int (1 : Int32))] [(.int (1 : Int32)), (.int (own_is2 vt vf el0 (vn0.toInt8.toInt32) el1 (vn1.toInt8.toInt32)))])) _
            refine XS.icmpNo X198.here hx rfl (hb hby at_277) rfl ((teq (by unfold own_is2; rw [if_pos ((own_sub hvt).trans hc211), if_pos ((Eq.symm hc227).trans hvn0.symm), if_pos ((Eq.symm hc245).trans hvn1.symm)])).2) ?_
            show Steps p.tables e below (T198.setTop (mkF m 280 #[.val (.long x0), .second, .val (.int x1), .val (.long x2), .second, .val (.ref b2), .val (.int vf), .val (.int vl), .val (.int vt), .val (.int (2 : Int32)), .val (.int vn0), .val (.int vn1), .val (.int vn2), .val (.ref r167), .val (.ref b172), .val (.int (own_is2 vt vf el0 (vn0.toInt8.toInt32) el1 (vn1.toInt8.toInt32))), .val (.int (1 : Int32))] [])) _
            refine XS.aload X198.here hx rfl (hb hby at_280) rfl rfl ?_
            exact k)
          obtain ⟨cq208, kq208, qa208, qb208, qc208⟩ := isOf hZ e198 f195
          obtain ⟨_, _, ⟨T208, L208, k208, n208⟩, -, X208, ⟨Lc208, hQ208, l208, y208, z208⟩, st208⟩ := X198.virtualBack hx (y := (⟨"com/example/kinwarden/kinwarden/NameBytes", "from", "()I"⟩ : MethodName)) (z := (⟨"com/example/kinwarden/kinwarden/NameBytes", "from", "()I"⟩ : MethodName)) hown (mvT hZ (hw _ (List.mem_of_getElem? (i := 34) rfl))) (mvT hZ (hw _ (List.mem_of_getElem? (i := 35) rfl))) (notFace_of_selects (args := #[]) (mvT hZ (hw _ (List.mem_of_getElem? (i := 37) rfl)))) (mvT hZ (hw _ (List.mem_of_getElem? (i := 37) rfl))) (mvT hZ (hw _ (List.mem_of_getElem? (i := 36) rfl))) (by decide) (backOf (W := 0) (rmF l Z a0 hw [] b172 vf T191.heap n0 Z191 Fb191) hZ (hw _ (List.mem_of_getElem? (i := 38) rfl)) (hw _ (List.mem_of_getElem? (i := 7) rfl)) (by decide) (by decide)) qa208 qc208 (g := (mkF m 282 #[.val (.long x0), .second, .val (.int x1), .val (.long x2), .second, .val (.ref b2), .val (.int vf), .val (.int vl), .val (.int vt), .val (.int (2 : Int32)), .val (.int vn0), .val (.int vn1), .val (.int vn2), .val (.ref r167), .val (.ref b172), .val (.int (own_is2 vt vf el0 (vn0.toInt8.toInt32) el1 (vn1.toInt8.toInt32))), .val (.int (1 : Int32))] [(.ref b172)])) rfl (by rw [hml]; rfl) (Steps.refl _) (argsL := []) (rest := []) (lenOf pd0_4 rfl) rfl (by show 2 * 0 + _ ≤ _; exact Nat.le_of_eq rfl) (hb hby at_282) (fun _ _ => ⟨rfl, e198, (by decide : 3 + 0 ≤ _), (by decide : 12 + 0 ≤ _)⟩)
          dsimp only [Pt.U, Pt.locs, Pt.cells, Pt.slots] at X208 l208 y208 z208 st208 hQ208
          subst l208 y208 z208
          obtain ⟨rfl, Nq208, e208⟩ := hQ208
          have N208 := Fr.app N198 Nq208
          have p209 : ∀ t, Steps p.tables e below (T208.setTop (mkF m 285 #[.val (.long x0), .second, .val (.int x1), .val (.long x2), .second, .val (.ref b2), .val (.int vf), .val (.int vl), .val (.int vt), .val (.int (2 : Int32)), .val (.int vn0), .val (.int vn1), .val (.int vn2), .val (.ref r167), .val (.ref b172), .val (.int (own_is2 vt vf el0 (vn0.toInt8.toInt32) el1 (vn1.toInt8.toInt32))), .val (.int (1 : Int32))] [(.int vf)])) t → Steps p.tables e below (s₁.setTop (entryFrame m #[(.long x0), (.int x1), (.long x2)] maxLocals)) t := fun t k => p207 t (st208.trans k)
          have p210 : ∀ t, Steps p.tables e below (T208.setTop (mkF m 292 #[.val (.long x0), .second, .val (.int x1), .val (.long x2), .second, .val (.ref b2), .val (.int vf), .val (.int vl), .val (.int vt), .val (.int (2 : Int32)), .val (.int vn0), .val (.int vn1), .val (.int vn2), .val (.ref r167), .val (.ref b172), .val (.int (own_is2 vt vf el0 (vn0.toInt8.toInt32) el1 (vn1.toInt8.toInt32))), .val (.int (1 : Int32))] [(.ref b172)])) t → Steps p.tables e below (s₁.setTop (entryFrame m #[(.long x0), (.int x1), (.long x2)] maxLocals)) t := fun t k => p209 t (by
            show Steps p.tables e below (T208.setTop (mkF m 285 #[.val (.long x0), .second, .val (.int x1), .val (.long x2), .second, .val (.ref b2), .val (.int vf), .val (.int vl), .val (.int vt), .val (.int (2 : Int32)), .val (.int vn0), .val (.int vn1), .val (.int vn2), .val (.ref r167), .val (.ref b172), .val (.int (own_is2 vt vf el0 (vn0.toInt8.toInt32) el1 (vn1.toInt8.toInt32))), .val (.int (1 : Int32))] [(.int vf)])) _
            refine XS.iload X208.here hx rfl (hb hby at_285) rfl ?_
            show Steps p.tables e below (T208.setTop (mkF m 287 #[.val (.long x0), .second, .val (.int x1), .val (.long x2), .second, .val (.ref b2), .val (.int vf), .val (.int vl), .val (.int vt), .val (.int (2 : Int32)), .val (.int vn0), .val (.int vn1), .val (.int vn2), .val (.ref r167), .val (.ref b172), .val (.int (own_is2 vt vf el0 (vn0.toInt8.toInt32) el1 (vn1.toInt8.toInt32))), .val (.int (1 : Int32))] [(.int vf), (.int vf)])) _
            refine XS.icmpNo X208.here hx rfl (hb hby at_287) rfl ((teq (rfl)).2) ?_
            show Steps p.tables e below (T208.setTop (mkF m 290 #[.val (.long x0), .second, .val (.int x1), .val (.long x2), .second, .val (.ref b2), .val (.int vf), .val (.int vl), .val (.int vt), .val (.int (2 : Int32)), .val (.int vn0), .val (.int vn1), .val (.int vn2), .val (.ref r167), .val (.ref b172), .val (.int (own_is2 vt vf el0 (vn0.toInt8.toInt32) el1 (vn1.toInt8.toInt32))), .val (.int (1 : Int32))] [])) _
            refine XS.aload X208.here hx rfl (hb hby at_290) rfl rfl ?_
            exact k)
          obtain ⟨cq211, kq211, qa211, qb211, qc211⟩ := isOf hZ e208 f195
          obtain ⟨_, _, ⟨T211, L211, k211, n211⟩, -, X211, ⟨Lc211, hQ211, l211, y211, z211⟩, st211⟩ := X208.virtualBack hx (y := (⟨"com/example/kinwarden/kinwarden/NameBytes", "to", "()I"⟩ : MethodName)) (z := (⟨"com/example/kinwarden/kinwarden/NameBytes", "to", "()I"⟩ : MethodName)) hown (mvT hZ (hw _ (List.mem_of_getElem? (i := 39) rfl))) (mvT hZ (hw _ (List.mem_of_getElem? (i := 40) rfl))) (notFace_of_selects (args := #[]) (mvT hZ (hw _ (List.mem_of_getElem? (i := 42) rfl)))) (mvT hZ (hw _ (List.mem_of_getElem? (i := 42) rfl))) (mvT hZ (hw _ (List.mem_of_getElem? (i := 41) rfl))) (by decide) (backOf (W := 0) (rmT l Z a0 hw [] b172 vt T191.heap n0 Z191 Fc191) hZ (hw _ (List.mem_of_getElem? (i := 43) rfl)) (hw _ (List.mem_of_getElem? (i := 7) rfl)) (by decide) (by decide)) qa211 qc211 (g := (mkF m 292 #[.val (.long x0), .second, .val (.int x1), .val (.long x2), .second, .val (.ref b2), .val (.int vf), .val (.int vl), .val (.int vt), .val (.int (2 : Int32)), .val (.int vn0), .val (.int vn1), .val (.int vn2), .val (.ref r167), .val (.ref b172), .val (.int (own_is2 vt vf el0 (vn0.toInt8.toInt32) el1 (vn1.toInt8.toInt32))), .val (.int (1 : Int32))] [(.ref b172)])) rfl (by rw [hml]; rfl) (Steps.refl _) (argsL := []) (rest := []) (lenOf pd0_4 rfl) rfl (by show 2 * 0 + _ ≤ _; exact Nat.le_of_eq rfl) (hb hby at_292) (fun _ _ => ⟨rfl, e208, (by decide : 3 + 0 ≤ _), (by decide : 12 + 0 ≤ _)⟩)
          dsimp only [Pt.U, Pt.locs, Pt.cells, Pt.slots] at X211 l211 y211 z211 st211 hQ211
          subst l211 y211 z211
          obtain ⟨rfl, Nq211, e211⟩ := hQ211
          have N211 := Fr.app N208 Nq211
          have p212 : ∀ t, Steps p.tables e below (T211.setTop (mkF m 295 #[.val (.long x0), .second, .val (.int x1), .val (.long x2), .second, .val (.ref b2), .val (.int vf), .val (.int vl), .val (.int vt), .val (.int (2 : Int32)), .val (.int vn0), .val (.int vn1), .val (.int vn2), .val (.ref r167), .val (.ref b172), .val (.int (own_is2 vt vf el0 (vn0.toInt8.toInt32) el1 (vn1.toInt8.toInt32))), .val (.int (1 : Int32))] [(.int vt)])) t → Steps p.tables e below (s₁.setTop (entryFrame m #[(.long x0), (.int x1), (.long x2)] maxLocals)) t := fun t k => p210 t (st211.trans k)
          have p213 : ∀ t, Steps p.tables e below (T211.setTop (mkF m 305 #[.val (.long x0), .second, .val (.int x1), .val (.long x2), .second, .val (.ref b2), .val (.int vf), .val (.int vl), .val (.int vt), .val (.int (2 : Int32)), .val (.int vn0), .val (.int vn1), .val (.int vn2), .val (.ref r167), .val (.ref b172), .val (.int (own_is2 vt vf el0 (vn0.toInt8.toInt32) el1 (vn1.toInt8.toInt32))), .val (.int (1 : Int32))] [(.int (1 : Int32))])) t → Steps p.tables e below (s₁.setTop (entryFrame m #[(.long x0), (.int x1), (.long x2)] maxLocals)) t := fun t k => p212 t (by
            show Steps p.tables e below (T211.setTop (mkF m 295 #[.val (.long x0), .second, .val (.int x1), .val (.long x2), .second, .val (.ref b2), .val (.int vf), .val (.int vl), .val (.int vt), .val (.int (2 : Int32)), .val (.int vn0), .val (.int vn1), .val (.int vn2), .val (.ref r167), .val (.ref b172), .val (.int (own_is2 vt vf el0 (vn0.toInt8.toInt32) el1 (vn1.toInt8.toInt32))), .val (.int (1 : Int32))] [(.int vt)])) _
            refine XS.iload X211.here hx rfl (hb hby at_295) rfl ?_
            show Steps p.tables e below (T211.setTop (mkF m 297 #[.val (.long x0), .second, .val (.int x1), .val (.long x2), .second, .val (.ref b2), .val (.int vf), .val (.int vl), .val (.int vt), .val (.int (2 : Int32)), .val (.int vn0), .val (.int vn1), .val (.int vn2), .val (.ref r167), .val (.ref b172), .val (.int (own_is2 vt vf el0 (vn0.toInt8.toInt32) el1 (vn1.toInt8.toInt32))), .val (.int (1 : Int32))] [(.int vt), (.int vt)])) _
            refine XS.icmpNo X211.here hx rfl (hb hby at_297) rfl ((teq (rfl)).2) ?_
            show Steps p.tables e below (T211.setTop (mkF m 300 #[.val (.long x0), .second, .val (.int x1), .val (.long x2), .second, .val (.ref b2), .val (.int vf), .val (.int vl), .val (.int vt), .val (.int (2 : Int32)), .val (.int vn0), .val (.int vn1), .val (.int vn2), .val (.ref r167), .val (.ref b172), .val (.int (own_is2 vt vf el0 (vn0.toInt8.toInt32) el1 (vn1.toInt8.toInt32))), .val (.int (1 : Int32))] [])) _
            refine XS.iconst X211.here hx rfl (hb hby at_300) ?_
            show Steps p.tables e below (T211.setTop (mkF m 301 #[.val (.long x0), .second, .val (.int x1), .val (.long x2), .second, .val (.ref b2), .val (.int vf), .val (.int vl), .val (.int vt), .val (.int (2 : Int32)), .val (.int vn0), .val (.int vn1), .val (.int vn2), .val (.ref r167), .val (.ref b172), .val (.int (own_is2 vt vf el0 (vn0.toInt8.toInt32) el1 (vn1.toInt8.toInt32))), .val (.int (1 : Int32))] [(.int (1 : Int32))])) _
            refine XS.goto X211.here hx rfl (pc0 := 301) (pc' := 305) rfl (hb hby at_301) (by decide) (by decide) ?_
            exact k)
          obtain ⟨fs, hr, hrun, hended, hW, hsame⟩ := X211.leave (v := some (.int (1 : Int32))) (fun h => by rw [Bd.returns] at h; cases h)
          refine ⟨_, _, p213 _ ?_, hrun, hended, _, _, rfl, ?_, ⟨_, rfl⟩, hW, hsame.mono (by decide) (by decide)⟩
          · show Steps p.tables e below (T211.setTop (mkF m 305 #[.val (.long x0), .second, .val (.int x1), .val (.long x2), .second, .val (.ref b2), .val (.int vf), .val (.int vl), .val (.int vt), .val (.int (2 : Int32)), .val (.int vn0), .val (.int vn1), .val (.int vn2), .val (.ref r167), .val (.ref b172), .val (.int (own_is2 vt vf el0 (vn0.toInt8.toInt32) el1 (vn1.toInt8.toInt32))), .val (.int (1 : Int32))] [(.int (1 : Int32))])) _
            exact retN X211 hx (t := .boolean) Bd.returns (by simp) (hb hby at_305) hr
          · show Q0 Z x0 x1 x2 a_E h0 n0 _ T211.heap _
            rw [e211]
            exact ⟨rfl, N211⟩
        · have p214 : ∀ t, Steps p.tables e below (T198.setTop (mkF m 282 #[.val (.long x0), .second, .val (.int x1), .val (.long x2), .second, .val (.ref b2), .val (.int vf), .val (.int vl), .val (.int vt), .val (.int (2 : Int32)), .val (.int vn0), .val (.int vn1), .val (.int vn2), .val (.ref r167), .val (.ref b172), .val (.int (own_is2 vt vf el0 (vn0.toInt8.toInt32) el1 (vn1.toInt8.toInt32))), .val (.int (0 : Int32))] [(.ref b172)])) t → Steps p.tables e below (s₁.setTop (entryFrame m #[(.long x0), (.int x1), (.long x2)] maxLocals)) t := fun t k => p206 t (by
            show Steps p.tables e below (T198.setTop (mkF m 245 #[.val (.long x0), .second, .val (.int x1), .val (.long x2), .second, .val (.ref b2), .val (.int vf), .val (.int vl), .val (.int vt), .val (.int (2 : Int32)), .val (.int vn0), .val (.int vn1), .val (.int vn2), .val (.ref r167), .val (.ref b172), .val (.int (own_is2 vt vf el0 (vn0.toInt8.toInt32) el1 (vn1.toInt8.toInt32))), .unset] [(.int el1), (.int vn1)])) _
            refine XS.icmpYes X198.here hx rfl (pc0 := 245) (pc' := 270) rfl (hb hby at_245) rfl ((feq (hc245)).2) (by decide) (by decide) ?_
            show Steps p.tables e below (T198.setTop (mkF m 270 #[.val (.long x0), .second, .val (.int x1), .val (.long x2), .second, .val (.ref b2), .val (.int vf), .val (.int vl), .val (.int vt), .val (.int (2 : Int32)), .val (.int vn0), .val (.int vn1), .val (.int vn2), .val (.ref r167), .val (.ref b172), .val (.int (own_is2 vt vf el0 (vn0.toInt8.toInt32) el1 (vn1.toInt8.toInt32))), .unset] [])) _
            refine XS.iconst X198.here hx rfl (hb hby at_270) ?_
            show Steps p.tables e below (T198.setTop (mkF m 271 #[.val (.long x0), .second, .val (.int x1), .val (.long x2), .second, .val (.ref b2), .val (.int vf), .val (.int vl), .val (.int vt), .val (.int (2 : Int32)), .val (.int vn0), .val (.int vn1), .val (.int vn2), .val (.ref r167), .val (.ref b172), .val (.int (own_is2 vt vf el0 (vn0.toInt8.toInt32) el1 (vn1.toInt8.toInt32))), .unset] [(.int (0 : Int32))])) _
            refine XS.istore X198.here hx rfl (hb hby at_271) rfl (l' := #[.val (.long x0), .second, .val (.int x1), .val (.long x2), .second, .val (.ref b2), .val (.int vf), .val (.int vl), .val (.int vt), .val (.int (2 : Int32)), .val (.int vn0), .val (.int vn1), .val (.int vn2), .val (.ref r167), .val (.ref b172), .val (.int (own_is2 vt vf el0 (vn0.toInt8.toInt32) el1 (vn1.toInt8.toInt32))), .val (.int (0 : Int32))]) rfl ?_
            show Steps p.tables e below (T198.setTop (mkF m 273 #[.val (.long x0), .second, .val (.int x1), .val (.long x2), .second, .val (.ref b2), .val (.int vf), .val (.int vl), .val (.int vt), .val (.int (2 : Int32)), .val (.int vn0), .val (.int vn1), .val (.int vn2), .val (.ref r167), .val (.ref b172), .val (.int (own_is2 vt vf el0 (vn0.toInt8.toInt32) el1 (vn1.toInt8.toInt32))), .val (.int (0 : Int32))] [])) _
            refine XS.iload X198.here hx rfl (hb hby at_273) rfl ?_
            show Steps p.tables e below (T198.setTop (mkF m 275 #[.val (.long x0), .second, .val (.int x1), .val (.long x2), .second, .val (.ref b2), .val (.int vf), .val (.int vl), .val (.int vt), .val (.int (2 : Int32)), .val (.int vn0), .val (.int vn1), .val (.int vn2), .val (.ref r167), .val (.ref b172), .val (.int (own_is2 vt vf el0 (vn0.toInt8.toInt32) el1 (vn1.toInt8.toInt32))), .val (.int (0 : Int32))] [(.int (own_is2 vt vf el0 (vn0.toInt8.toInt32) el1 (vn1.toInt8.toInt32)))])) _
            refine XS.iload X198.here hx rfl (hb hby at_275) rfl ?_
            show Steps p.tables e below (T198.setTop (mkF m 277 #[.val (.long x0), .second, .val (.int x1), .val (.long x2), .second, .val (.ref b2), .val (.int vf), .val (.int vl), .val (.int vt), .val (.int (2 : Int32)), .val (.int vn0), .val (.int vn1), .val (.int vn2), .val (.ref r167), .val (.ref b172), .val (.int (own_is2 vt vf el0 (vn0.toInt8.toInt32) el1 (vn1.toInt8.toInt32))), .val (.int (0 : Int32))] [(.int (0 : Int32)), (.int (own_is2 vt vf el0 (vn0.toInt8.toInt32) el1 (vn1.toInt8.toInt32)))])) _
            refine XS.icmpNo X198.here hx rfl (hb hby at_277) rfl ((teq (by unfold own_is2; rw [if_pos ((own_sub hvt).trans hc211), if_pos ((Eq.symm hc227).trans hvn0.symm), if_neg (fun q => hc245 ((q.trans hvn1).symm))])).2) ?_
            show Steps p.tables e below (T198.setTop (mkF m 280 #[.val (.long x0), .second, .val (.int x1), .val (.long x2), .second, .val (.ref b2), .val (.int vf), .val (.int vl), .val (.int vt), .val (.int (2 : Int32)), .val (.int vn0), .val (.int vn1), .val (.int vn2), .val (.ref r167), .val (.ref b172), .val (.int (own_is2 vt vf el0 (vn0.toInt8.toInt32) el1 (vn1.toInt8.toInt32))), .val (.int (0 : Int32))] [])) _
            refine XS.aload X198.here hx rfl (hb hby at_280) rfl rfl ?_
            exact k)
          obtain ⟨cq215, kq215, qa215, qb215, qc215⟩ := isOf hZ e198 f195
          obtain ⟨_, _, ⟨T215, L215, k215, n215⟩, -, X215, ⟨Lc215, hQ215, l215, y215, z215⟩, st215⟩ := X198.virtualBack hx (y := (⟨"com/example/kinwarden/kinwarden/NameBytes", "from", "()I"⟩ : MethodName)) (z := (⟨"com/example/kinwarden/kinwarden/NameBytes", "from", "()I"⟩ : MethodName)) hown (mvT hZ (hw _ (List.mem_of_getElem? (i := 34) rfl))) (mvT hZ (hw _ (List.mem_of_getElem? (i := 35) rfl))) (notFace_of_selects (args := #[]) (mvT hZ (hw _ (List.mem_of_getElem? (i := 37) rfl)))) (mvT hZ (hw _ (List.mem_of_getElem? (i := 37) rfl))) (mvT hZ (hw _ (List.mem_of_getElem? (i := 36) rfl))) (by decide) (backOf (W := 0) (rmF l Z a0 hw [] b172 vf T191.heap n0 Z191 Fb191) hZ (hw _ (List.mem_of_getElem? (i := 38) rfl)) (hw _ (List.mem_of_getElem? (i := 7) rfl)) (by decide) (by decide)) qa215 qc215 (g := (mkF m 282 #[.val (.long x0), .second, .val (.int x1), .val (.long x2), .second, .val (.ref b2), .val (.int vf), .val (.int vl), .val (.int vt), .val (.int (2 : Int32)), .val (.int vn0), .val (.int vn1), .val (.int vn2), .val (.ref r167), .val (.ref b172), .val (.int (own_is2 vt vf el0 (vn0.toInt8.toInt32) el1 (vn1.toInt8.toInt32))), .val (.int (0 : Int32))] [(.ref b172)])) rfl (by rw [hml]; rfl) (Steps.refl _) (argsL := []) (rest := []) (lenOf pd0_4 rfl) rfl (by show 2 * 0 + _ ≤ _; exact Nat.le_of_eq rfl) (hb hby at_282) (fun _ _ => ⟨rfl, e198, (by decide : 3 + 0 ≤ _), (by decide : 12 + 0 ≤ _)⟩)
          dsimp only [Pt.U, Pt.locs, Pt.cells, Pt.slots] at X215 l215 y215 z215 st215 hQ215
          subst l215 y215 z215
          obtain ⟨rfl, Nq215, e215⟩ := hQ215
          have N215 := Fr.app N198 Nq215
          have p216 : ∀ t, Steps p.tables e below (T215.setTop (mkF m 285 #[.val (.long x0), .second, .val (.int x1), .val (.long x2), .second, .val (.ref b2), .val (.int vf), .val (.int vl), .val (.int vt), .val (.int (2 : Int32)), .val (.int vn0), .val (.int vn1), .val (.int vn2), .val (.ref r167), .val (.ref b172), .val (.int (own_is2 vt vf el0 (vn0.toInt8.toInt32) el1 (vn1.toInt8.toInt32))), .val (.int (0 : Int32))] [(.int vf)])) t → Steps p.tables e below (s₁.setTop (entryFrame m #[(.long x0), (.int x1), (.long x2)] maxLocals)) t := fun t k => p214 t (st215.trans k)
          have p217 : ∀ t, Steps p.tables e below (T215.setTop (mkF m 292 #[.val (.long x0), .second, .val (.int x1), .val (.long x2), .second, .val (.ref b2), .val (.int vf), .val (.int vl), .val (.int vt), .val (.int (2 : Int32)), .val (.int vn0), .val (.int vn1), .val (.int vn2), .val (.ref r167), .val (.ref b172), .val (.int (own_is2 vt vf el0 (vn0.toInt8.toInt32) el1 (vn1.toInt8.toInt32))), .val (.int (0 : Int32))] [(.ref b172)])) t → Steps p.tables e below (s₁.setTop (entryFrame m #[(.long x0), (.int x1), (.long x2)] maxLocals)) t := fun t k => p216 t (by
            show Steps p.tables e below (T215.setTop (mkF m 285 #[.val (.long x0), .second, .val (.int x1), .val (.long x2), .second, .val (.ref b2), .val (.int vf), .val (.int vl), .val (.int vt), .val (.int (2 : Int32)), .val (.int vn0), .val (.int vn1), .val (.int vn2), .val (.ref r167), .val (.ref b172), .val (.int (own_is2 vt vf el0 (vn0.toInt8.toInt32) el1 (vn1.toInt8.toInt32))), .val (.int (0 : Int32))] [(.int vf)])) _
            refine XS.iload X215.here hx rfl (hb hby at_285) rfl ?_
            show Steps p.tables e below (T215.setTop (mkF m 287 #[.val (.long x0), .second, .val (.int x1), .val (.long x2), .second, .val (.ref b2), .val (.int vf), .val (.int vl), .val (.int vt), .val (.int (2 : Int32)), .val (.int vn0), .val (.int vn1), .val (.int vn2), .val (.ref r167), .val (.ref b172), .val (.int (own_is2 vt vf el0 (vn0.toInt8.toInt32) el1 (vn1.toInt8.toInt32))), .val (.int (0 : Int32))] [(.int vf), (.int vf)])) _
            refine XS.icmpNo X215.here hx rfl (hb hby at_287) rfl ((teq (rfl)).2) ?_
            show Steps p.tables e below (T215.setTop (mkF m 290 #[.val (.long x0), .second, .val (.int x1), .val (.long x2), .second, .val (.ref b2), .val (.int vf), .val (.int vl), .val (.int vt), .val (.int (2 : Int32)), .val (.int vn0), .val (.int vn1), .val (.int vn2), .val (.ref r167), .val (.ref b172), .val (.int (own_is2 vt vf el0 (vn0.toInt8.toInt32) el1 (vn1.toInt8.toInt32))), .val (.int (0 : Int32))] [])) _
            refine XS.aload X215.here hx rfl (hb hby at_290) rfl rfl ?_
            exact k)
          obtain ⟨cq218, kq218, qa218, qb218, qc218⟩ := isOf hZ e215 f195
          obtain ⟨_, _, ⟨T218, L218, k218, n218⟩, -, X218, ⟨Lc218, hQ218, l218, y218, z218⟩, st218⟩ := X215.virtualBack hx (y := (⟨"com/example/kinwarden/kinwarden/NameBytes", "to", "()I"⟩ : MethodName)) (z := (⟨"com/example/kinwarden/kinwarden/NameBytes", "to", "()I"⟩ : MethodName)) hown (mvT hZ (hw _ (List.mem_of_getElem? (i := 39) rfl))) (mvT hZ (hw _ (List.mem_of_getElem? (i := 40) rfl))) (notFace_of_selects (args := #[]) (mvT hZ (hw _ (List.mem_of_getElem? (i := 42) rfl)))) (mvT hZ (hw _ (List.mem_of_getElem? (i := 42) rfl))) (mvT hZ (hw _ (List.mem_of_getElem? (i := 41) rfl))) (by decide) (backOf (W := 0) (rmT l Z a0 hw [] b172 vt T191.heap n0 Z191 Fc191) hZ (hw _ (List.mem_of_getElem? (i := 43) rfl)) (hw _ (List.mem_of_getElem? (i := 7) rfl)) (by decide) (by decide)) qa218 qc218 (g := (mkF m 292 #[.val (.long x0), .second, .val (.int x1), .val (.long x2), .second, .val (.ref b2), .val (.int vf), .val (.int vl), .val (.int vt), .val (.int (2 : Int32)), .val (.int vn0), .val (.int vn1), .val (.int vn2), .val (.ref r167), .val (.ref b172), .val (.int (own_is2 vt vf el0 (vn0.toInt8.toInt32) el1 (vn1.toInt8.toInt32))), .val (.int (0 : Int32))] [(.ref b172)])) rfl (by rw [hml]; rfl) (Steps.refl _) (argsL := []) (rest := []) (lenOf pd0_4 rfl) rfl (by show 2 * 0 + _ ≤ _; exact Nat.le_of_eq rfl) (hb hby at_292) (fun _ _ => ⟨rfl, e215, (by decide : 3 + 0 ≤ _), (by decide : 12 + 0 ≤ _)⟩)
          dsimp only [Pt.U, Pt.locs, Pt.cells, Pt.slots] at X218 l218 y218 z218 st218 hQ218
          subst l218 y218 z218
          obtain ⟨rfl, Nq218, e218⟩ := hQ218
          have N218 := Fr.app N215 Nq218
          have p219 : ∀ t, Steps p.tables e below (T218.setTop (mkF m 295 #[.val (.long x0), .second, .val (.int x1), .val (.long x2), .second, .val (.ref b2), .val (.int vf), .val (.int vl), .val (.int vt), .val (.int (2 : Int32)), .val (.int vn0), .val (.int vn1), .val (.int vn2), .val (.ref r167), .val (.ref b172), .val (.int (own_is2 vt vf el0 (vn0.toInt8.toInt32) el1 (vn1.toInt8.toInt32))), .val (.int (0 : Int32))] [(.int vt)])) t → Steps p.tables e below (s₁.setTop (entryFrame m #[(.long x0), (.int x1), (.long x2)] maxLocals)) t := fun t k => p217 t (st218.trans k)
          have p220 : ∀ t, Steps p.tables e below (T218.setTop (mkF m 305 #[.val (.long x0), .second, .val (.int x1), .val (.long x2), .second, .val (.ref b2), .val (.int vf), .val (.int vl), .val (.int vt), .val (.int (2 : Int32)), .val (.int vn0), .val (.int vn1), .val (.int vn2), .val (.ref r167), .val (.ref b172), .val (.int (own_is2 vt vf el0 (vn0.toInt8.toInt32) el1 (vn1.toInt8.toInt32))), .val (.int (0 : Int32))] [(.int (1 : Int32))])) t → Steps p.tables e below (s₁.setTop (entryFrame m #[(.long x0), (.int x1), (.long x2)] maxLocals)) t := fun t k => p219 t (by
            show Steps p.tables e below (T218.setTop (mkF m 295 #[.val (.long x0), .second, .val (.int x1), .val (.long x2), .second, .val (.ref b2), .val (.int vf), .val (.int vl), .val (.int vt), .val (.int (2 : Int32)), .val (.int vn0), .val (.int vn1), .val (.int vn2), .val (.ref r167), .val (.ref b172), .val (.int (own_is2 vt vf el0 (vn0.toInt8.toInt32) el1 (vn1.toInt8.toInt32))), .val (.int (0 : Int32))] [(.int vt)])) _
            refine XS.iload X218.here hx rfl (hb hby at_295) rfl ?_
            show Steps p.tables e below (T218.setTop (mkF m 297 #[.val (.long x0), .second, .val (.int x1), .val (.long x2), .second, .val (.ref b2), .val (.int vf), .val (.int vl), .val (.int vt), .val (.int (2 : Int32)), .val (.int vn0), .val (.int vn1), .val (.int vn2), .val (.ref r167), .val (.ref b172), .val (.int (own_is2 vt vf el0 (vn0.toInt8.toInt32) el1 (vn1.toInt8.toInt32))), .val (.int (0 : Int32))] [(.int vt), (.int vt)])) _
            refine XS.icmpNo X218.here hx rfl (hb hby at_297) rfl ((teq (rfl)).2) ?_
            show Steps p.tables e below (T218.setTop (mkF m 300 #[.val (.long x0), .second, .val (.int x1), .val (.long x2), .second, .val (.ref b2), .val (.int vf), .val (.int vl), .val (.int vt), .val (.int (2 : Int32)), .val (.int vn0), .val (.int vn1), .val (.int vn2), .val (.ref r167), .val (.ref b172), .val (.int (own_is2 vt vf el0 (vn0.toInt8.toInt32) el1 (vn1.toInt8.toInt32))), .val (.int (0 : Int32))] [])) _
            refine XS.iconst X218.here hx rfl (hb hby at_300) ?_
            show Steps p.tables e below (T218.setTop (mkF m 301 #[.val (.long x0), .second, .val (.int x1), .val (.long x2), .second, .val (.ref b2), .val (.int vf), .val (.int vl), .val (.int vt), .val (.int (2 : Int32)), .val (.int vn0), .val (.int vn1), .val (.int vn2), .val (.ref r167), .val (.ref b172), .val (.int (own_is2 vt vf el0 (vn0.toInt8.toInt32) el1 (vn1.toInt8.toInt32))), .val (.int (0 : Int32))] [(.int (1 : Int32))])) _
            refine XS.goto X218.here hx rfl (pc0 := 301) (pc' := 305) rfl (hb hby at_301) (by decide) (by decide) ?_
            exact k)
          obtain ⟨fs, hr, hrun, hended, hW, hsame⟩ := X218.leave (v := some (.int (1 : Int32))) (fun h => by rw [Bd.returns] at h; cases h)
          refine ⟨_, _, p220 _ ?_, hrun, hended, _, _, rfl, ?_, ⟨_, rfl⟩, hW, hsame.mono (by decide) (by decide)⟩
          · show Steps p.tables e below (T218.setTop (mkF m 305 #[.val (.long x0), .second, .val (.int x1), .val (.long x2), .second, .val (.ref b2), .val (.int vf), .val (.int vl), .val (.int vt), .val (.int (2 : Int32)), .val (.int vn0), .val (.int vn1), .val (.int vn2), .val (.ref r167), .val (.ref b172), .val (.int (own_is2 vt vf el0 (vn0.toInt8.toInt32) el1 (vn1.toInt8.toInt32))), .val (.int (0 : Int32))] [(.int (1 : Int32))])) _
            exact retN X218 hx (t := .boolean) Bd.returns (by simp) (hb hby at_305) hr
          · show Q0 Z x0 x1 x2 a_E h0 n0 _ T218.heap _
            rw [e218]
            exact ⟨rfl, N218⟩
      · have p221 : ∀ t, Steps p.tables e below (T198.setTop (mkF m 282 #[.val (.long x0), .second, .val (.int x1), .val (.long x2), .second, .val (.ref b2), .val (.int vf), .val (.int vl), .val (.int vt), .val (.int (2 : Int32)), .val (.int vn0), .val (.int vn1), .val (.int vn2), .val (.ref r167), .val (.ref b172), .val (.int (own_is2 vt vf el0 (vn0.toInt8.toInt32) el1 (vn1.toInt8.toInt32))), .val (.int (0 : Int32))] [(.ref b172)])) t → Steps p.tables e below (s₁.setTop (entryFrame m #[(.long x0), (.int x1), (.long x2)] maxLocals)) t := fun t k => p203 t (by
          show Steps p.tables e below (T198.setTop (mkF m 227 #[.val (.long x0), .second, .val (.int x1), .val (.long x2), .second, .val (.ref b2), .val (.int vf), .val (.int vl), .val (.int vt), .val (.int (2 : Int32)), .val (.int vn0), .val (.int vn1), .val (.int vn2), .val (.ref r167), .val (.ref b172), .val (.int (own_is2 vt vf el0 (vn0.toInt8.toInt32) el1 (vn1.toInt8.toInt32))), .unset] [(.int el0), (.int vn0)])) _
          refine XS.icmpYes X198.here hx rfl (pc0 := 227) (pc' := 270) rfl (hb hby at_227) rfl ((feq (hc227)).2) (by decide) (by decide) ?_
          show Steps p.tables e below (T198.setTop (mkF m 270 #[.val (.long x0), .second, .val (.int x1), .val (.long x2), .second, .val (.ref b2), .val (.int vf), .val (.int vl), .val (.int vt), .val (.int (2 : Int32)), .val (.int vn0), .val (.int vn1), .val (.int vn2), .val (.ref r167), .val (.ref b172), .val (.int (own_is2 vt vf el0 (vn0.toInt8.toInt32) el1 (vn1.toInt8.toInt32))), .unset] [])) _
          refine XS.iconst X198.here hx rfl (hb hby at_270) ?_
          show Steps p.tables e below (T198.setTop (mkF m 271 #[.val (.long x0), .second, .val (.int x1), .val (.long x2), .second, .val (.ref b2), .val (.int vf), .val (.int vl), .val (.int vt), .val (.int (2 : Int32)), .val (.int vn0), .val (.int vn1), .val (.int vn2), .val (.ref r167), .val (.ref b172), .val (.int (own_is2 vt vf el0 (vn0.toInt8.toInt32) el1 (vn1.toInt8.toInt32))), .unset] [(.int (0 : Int32))])) _
          refine XS.istore X198.here hx rfl (hb hby at_271) rfl (l' := #[.val (.long x0), .second, .val (.int x1), .val (.long x2), .second, .val (.ref b2), .val (.int vf), .val (.int vl), .val (.int vt), .val (.int (2 : Int32)), .val (.int vn0), .val (.int vn1), .val (.int vn2), .val (.ref r167), .val (.ref b172), .val (.int (own_is2 vt vf el0 (vn0.toInt8.toInt32) el1 (vn1.toInt8.toInt32))), .val (.int (0 : Int32))]) rfl ?_
          show Steps p.tables e below (T198.setTop (mkF m 273 #[.val (.long x0), .second, .val (.int x1), .val (.long x2), .second, .val (.ref b2), .val (.int vf), .val (.int vl), .val (.int vt), .val (.int (2 : Int32)), .val (.int vn0), .val (.int vn1), .val (.int vn2), .val (.ref r167), .val (.ref b172), .val (.int (own_is2 vt vf el0 (vn0.toInt8.toInt32) el1 (vn1.toInt8.toInt32))), .val (.int (0 : Int32))] [])) _
          refine XS.iload X198.here hx rfl (hb hby at_273) rfl ?_
          show Steps p.tables e below (T198.setTop (mkF m 275 #[.val (.long x0), .second, .val (.int x1), .val (.long x2), .second, .val (.ref b2), .val (.int vf), .val (.int vl), .val (.int vt), .val (.int (2 : Int32)), .val (.int vn0), .val (.int vn1), .val (.int vn2), .val (.ref r167), .val (.ref b172), .val (.int (own_is2 vt vf el0 (vn0.toInt8.toInt32) el1 (vn1.toInt8.toInt32))), .val (.int (0 : Int32))] [(.int (own_is2 vt vf el0 (vn0.toInt8.toInt32) el1 (vn1.toInt8.toInt32)))])) _
          refine XS.iload X198.here hx rfl (hb hby at_275) rfl ?_
          show Steps p.tables e below (T198.setTop (mkF m 277 #[.val (.long x0), .second, .val (.int x1), .val (.long x2), .second, .val (.ref b2), .val (.int vf), .val (.int vl), .val (.int vt), .val (.int (2 : Int32)), .val (.int vn0), .val (.int vn1), .val (.int vn2), .val (.ref r167), .val (.ref b172), .val (.int (own_is2 vt vf el0 (vn0.toInt8.toInt32) el1 (vn1.toInt8.toInt32))), .val (.int (0 : Int32))] [(.int (0 : Int32)), (.int (own_is2 vt vf el0 (vn0.toInt8.toInt32) el1 (vn1.toInt8.toInt32)))])) _
          refine XS.icmpNo X198.here hx rfl (hb hby at_277) rfl ((teq (by unfold own_is2; rw [if_pos ((own_sub hvt).trans hc211), if_neg (fun q => hc227 ((q.trans hvn0).symm))])).2) ?_
          show Steps p.tables e below (T198.setTop (mkF m 280 #[.val (.long x0), .second, .val (.int x1), .val (.long x2), .second, .val (.ref b2), .val (.int vf), .val (.int vl), .val (.int vt), .val (.int (2 : Int32)), .val (.int vn0), .val (.int vn1), .val (.int vn2), .val (.ref r167), .val (.ref b172), .val (.int (own_is2 vt vf el0 (vn0.toInt8.toInt32) el1 (vn1.toInt8.toInt32))), .val (.int (0 : Int32))] [])) _
          refine XS.aload X198.here hx rfl (hb hby at_280) rfl rfl ?_
          exact k)
        obtain ⟨cq222, kq222, qa222, qb222, qc222⟩ := isOf hZ e198 f195
        obtain ⟨_, _, ⟨T222, L222, k222, n222⟩, -, X222, ⟨Lc222, hQ222, l222, y222, z222⟩, st222⟩ := X198.virtualBack hx (y := (⟨"com/example/kinwarden/kinwarden/NameBytes", "from", "()I"⟩ : MethodName)) (z := (⟨"com/example/kinwarden/kinwarden/NameBytes", "from", "()I"⟩ : MethodName)) hown (mvT hZ (hw _ (List.mem_of_getElem? (i := 34) rfl))) (mvT hZ (hw _ (List.mem_of_getElem? (i := 35) rfl))) (notFace_of_selects (args := #[]) (mvT hZ (hw _ (List.mem_of_getElem? (i := 37) rfl)))) (mvT hZ (hw _ (List.mem_of_getElem? (i := 37) rfl))) (mvT hZ (hw _ (List.mem_of_getElem? (i := 36) rfl))) (by decide) (backOf (W := 0) (rmF l Z a0 hw [] b172 vf T191.heap n0 Z191 Fb191) hZ (hw _ (List.mem_of_getElem? (i := 38) rfl)) (hw _ (List.mem_of_getElem? (i := 7) rfl)) (by decide) (by decide)) qa222 qc222 (g := (mkF m 282 #[.val (.long x0), .second, .val (.int x1), .val (.long x2), .second, .val (.ref b2), .val (.int vf), .val (.int vl), .val (.int vt), .val (.int (2 : Int32)), .val (.int vn0), .val (.int vn1), .val (.int vn2), .val (.ref r167), .val (.ref b172), .val (.int (own_is2 vt vf el0 (vn0.toInt8.toInt32) el1 (vn1.toInt8.toInt32))), .val (.int (0 : Int32))] [(.ref b172)])) rfl (by rw [hml]; rfl) (Steps.refl _) (argsL := []) (rest := []) (lenOf pd0_4 rfl) rfl (by show 2 * 0 + _ ≤ _; exact Nat.le_of_eq rfl) (hb hby at_282) (fun _ _ => ⟨rfl, e198, (by decide : 3 + 0 ≤ _), (by decide : 12 + 0 ≤ _)⟩)
        dsimp only [Pt.U, Pt.locs, Pt.cells, Pt.slots] at X222 l222 y222 z222 st222 hQ222
        subst l222 y222 z222
        obtain ⟨rfl, Nq222, e222⟩ := hQ222
        have N222 := Fr.app N198 Nq222
        have p223 : ∀ t, Steps p.tables e below (T222.setTop (mkF m 285 #[.val (.long x0), .second, .val (.int x1), .val (.long x2), .second, .val (.ref b2), .val (.int vf), .val (.int vl), .val (.int vt), .val (.int (2 : Int32)), .val (.int vn0), .val (.int vn1), .val (.int vn2), .val (.ref r167), .val (.ref b172), .val (.int (own_is2 vt vf el0 (vn0.toInt8.toInt32) el1 (vn1.toInt8.toInt32))), .val (.int (0 : Int32))] [(.int vf)])) t → Steps p.tables e below (s₁.setTop (entryFrame m #[(.long x0), (.int x1), (.long x2)] maxLocals)) t := fun t k => p221 t (st222.trans k)
        have p224 : ∀ t, Steps p.tables e below (T222.setTop (mkF m 292 #[.val (.long x0), .second, .val (.int x1), .val (.long x2), .second, .val (.ref b2), .val (.int vf), .val (.int vl), .val (.int vt), .val (.int (2 : Int32)), .val (.int vn0), .val (.int vn1), .val (.int vn2), .val (.ref r167), .val (.ref b172), .val (.int (own_is2 vt vf el0 (vn0.toInt8.toInt32) el1 (vn1.toInt8.toInt32))), .val (.int (0 : Int32))] [(.ref b172)])) t → Steps p.tables e below (s₁.setTop (entryFrame m #[(.long x0), (.int x1), (.long x2)] maxLocals)) t := fun t k => p223 t (by
          show Steps p.tables e below (T222.setTop (mkF m 285 #[.val (.long x0), .second, .val (.int x1), .val (.long x2), .second, .val (.ref b2), .val (.int vf), .val (.int vl), .val (.int vt), .val (.int (2 : Int32)), .val (.int vn0), .val (.int vn1), .val (.int vn2), .val (.ref r167), .val (.ref b172), .val (.int (own_is2 vt vf el0 (vn0.toInt8.toInt32) el1 (vn1.toInt8.toInt32))), .val (.int (0 : Int32))] [(.int vf)])) _
          refine XS.iload X222.here hx rfl (hb hby at_285) rfl ?_
          show Steps p.tables e below (T222.setTop (mkF m 287 #[.val (.long x0), .second, .val (.int x1), .val (.long x2), .second, .val (.ref b2), .val (.int vf), .val (.int vl), .val (.int vt), .val (.int (2 : Int32)), .val (.int vn0), .val (.int vn1), .val (.int vn2), .val (.ref r167), .val (.ref b172), .val (.int (own_is2 vt vf el0 (vn0.toInt8.toInt32) el1 (vn1.toInt8.toInt32))), .val (.int (0 : Int32))] [(.int vf), (.int vf)])) _
          refine XS.icmpNo X222.here hx rfl (hb hby at_287) rfl ((teq (rfl)).2) ?_
          show Steps p.tables e below (T222.setTop (mkF m 290 #[.val (.long x0), .second, .val (.int x1), .val (.long x2), .second, .val (.ref b2), .val (.int vf), .val (.int vl), .val (.int vt), .val (.int (2 : Int32)), .val (.int vn0), .val (.int vn1), .val (.int vn2), .val (.ref r167), .val (.ref b172), .val (.int (own_is2 vt vf el0 (vn0.toInt8.toInt32) el1 (vn1.toInt8.toInt32))), .val (.int (0 : Int32))] [])) _
          refine XS.aload X222.here hx rfl (hb hby at_290) rfl rfl ?_
          exact k)
        obtain ⟨cq225, kq225, qa225, qb225, qc225⟩ := isOf hZ e222 f195
        obtain ⟨_, _, ⟨T225, L225, k225, n225⟩, -, X225, ⟨Lc225, hQ225, l225, y225, z225⟩, st225⟩ := X222.virtualBack hx (y := (⟨"com/example/kinwarden/kinwarden/NameBytes", "to", "()I"⟩ : MethodName)) (z := (⟨"com/example/kinwarden/kinwarden/NameBytes", "to", "()I"⟩ : MethodName)) hown (mvT hZ (hw _ (List.mem_of_getElem? (i := 39) rfl))) (mvT hZ (hw _ (List.mem_of_getElem? (i := 40) rfl))) (notFace_of_selects (args := #[]) (mvT hZ (hw _ (List.mem_of_getElem? (i := 42) rfl)))) (mvT hZ (hw _ (List.mem_of_getElem? (i := 42) rfl))) (mvT hZ (hw _ (List.mem_of_getElem? (i := 41) rfl))) (by decide) (backOf (W := 0) (rmT l Z a0 hw [] b172 vt T191.heap n0 Z191 Fc191) hZ (hw _ (List.mem_of_getElem? (i := 43) rfl)) (hw _ (List.mem_of_getElem? (i := 7) rfl)) (by decide) (by decide)) qa225 qc225 (g := (mkF m 292 #[.val (.long x0), .second, .val (.int x1), .val (.long x2), .second, .val (.ref b2), .val (.int vf), .val (.int vl), .val (.int vt), .val (.int (2 : Int32)), .val (.int vn0), .val (.int vn1), .val (.int vn2), .val (.ref r167), .val (.ref b172), .val (.int (own_is2 vt vf el0 (vn0.toInt8.toInt32) el1 (vn1.toInt8.toInt32))), .val (.int (0 : Int32))] [(.ref b172)])) rfl (by rw [hml]; rfl) (Steps.refl _) (argsL := []) (rest := []) (lenOf pd0_4 rfl) rfl (by show 2 * 0 + _ ≤ _; exact Nat.le_of_eq rfl) (hb hby at_292) (fun _ _ => ⟨rfl, e222, (by decide : 3 + 0 ≤ _), (by decide : 12 + 0 ≤ _)⟩)
        dsimp only [Pt.U, Pt.locs, Pt.cells, Pt.slots] at X225 l225 y225 z225 st225 hQ225
        subst l225 y225 z225
        obtain ⟨rfl, Nq225, e225⟩ := hQ225
        have N225 := Fr.app N222 Nq225
        have p226 : ∀ t, Steps p.tables e below (T225.setTop (mkF m 295 #[.val (.long x0), .second, .val (.int x1), .val (.long x2), .second, .val (.ref b2), .val (.int vf), .val (.int vl), .val (.int vt), .val (.int (2 : Int32)), .val (.int vn0), .val (.int vn1), .val (.int vn2), .val (.ref r167), .val (.ref b172), .val (.int (own_is2 vt vf el0 (vn0.toInt8.toInt32) el1 (vn1.toInt8.toInt32))), .val (.int (0 : Int32))] [(.int vt)])) t → Steps p.tables e below (s₁.setTop (entryFrame m #[(.long x0), (.int x1), (.long x2)] maxLocals)) t := fun t k => p224 t (st225.trans k)
        have p227 : ∀ t, Steps p.tables e below (T225.setTop (mkF m 305 #[.val (.long x0), .second, .val (.int x1), .val (.long x2), .second, .val (.ref b2), .val (.int vf), .val (.int vl), .val (.int vt), .val (.int (2 : Int32)), .val (.int vn0), .val (.int vn1), .val (.int vn2), .val (.ref r167), .val (.ref b172), .val (.int (own_is2 vt vf el0 (vn0.toInt8.toInt32) el1 (vn1.toInt8.toInt32))), .val (.int (0 : Int32))] [(.int (1 : Int32))])) t → Steps p.tables e below (s₁.setTop (entryFrame m #[(.long x0), (.int x1), (.long x2)] maxLocals)) t := fun t k => p226 t (by
          show Steps p.tables e below (T225.setTop (mkF m 295 #[.val (.long x0), .second, .val (.int x1), .val (.long x2), .second, .val (.ref b2), .val (.int vf), .val (.int vl), .val (.int vt), .val (.int (2 : Int32)), .val (.int vn0), .val (.int vn1), .val (.int vn2), .val (.ref r167), .val (.ref b172), .val (.int (own_is2 vt vf el0 (vn0.toInt8.toInt32) el1 (vn1.toInt8.toInt32))), .val (.int (0 : Int32))] [(.int vt)])) _
          refine XS.iload X225.here hx rfl (hb hby at_295) rfl ?_
          show Steps p.tables e below (T225.setTop (mkF m 297 #[.val (.long x0), .second, .val (.int x1), .val (.long x2), .second, .val (.ref b2), .val (.int vf), .val (.int vl), .val (.int vt), .val (.int (2 : Int32)), .val (.int vn0), .val (.int vn1), .val (.int vn2), .val (.ref r167), .val (.ref b172), .val (.int (own_is2 vt vf el0 (vn0.toInt8.toInt32) el1 (vn1.toInt8.toInt32))), .val (.int (0 : Int32))] [(.int vt), (.int vt)])) _
          refine XS.icmpNo X225.here hx rfl (hb hby at_297) rfl ((teq (rfl)).2) ?_
          show Steps p.tables e below (T225.setTop (mkF m 300 #[.val (.long x0), .second, .val (.int x1), .val (.long x2), .second, .val (.ref b2), .val (.int vf), .val (.int vl), .val (.int vt), .val (.int (2 : Int32)), .val (.int vn0), .val (.int vn1), .val (.int vn2), .val (.ref r167), .val (.ref b172), .val (.int (own_is2 vt vf el0 (vn0.toInt8.toInt32) el1 (vn1.toInt8.toInt32))), .val (.int (0 : Int32))] [])) _
          refine XS.iconst X225.here hx rfl (hb hby at_300) ?_
          show Steps p.tables e below (T225.setTop (mkF m 301 #[.val (.long x0), .second, .val (.int x1), .val (.long x2), .second, .val (.ref b2), .val (.int vf), .val (.int vl), .val (.int vt), .val (.int (2 : Int32)), .val (.int vn0), .val (.int vn1), .val (.int vn2), .val (.ref r167), .val (.ref b172), .val (.int (own_is2 vt vf el0 (vn0.toInt8.toInt32) el1 (vn1.toInt8.toInt32))), .val (.int (0 : Int32))] [(.int (1 : Int32))])) _
          refine XS.goto X225.here hx rfl (pc0 := 301) (pc' := 305) rfl (hb hby at_301) (by decide) (by decide) ?_
          exact k)
        obtain ⟨fs, hr, hrun, hended, hW, hsame⟩ := X225.leave (v := some (.int (1 : Int32))) (fun h => by rw [Bd.returns] at h; cases h)
        refine ⟨_, _, p227 _ ?_, hrun, hended, _, _, rfl, ?_, ⟨_, rfl⟩, hW, hsame.mono (by decide) (by decide)⟩
        · show Steps p.tables e below (T225.setTop (mkF m 305 #[.val (.long x0), .second, .val (.int x1), .val (.long x2), .second, .val (.ref b2), .val (.int vf), .val (.int vl), .val (.int vt), .val (.int (2 : Int32)), .val (.int vn0), .val (.int vn1), .val (.int vn2), .val (.ref r167), .val (.ref b172), .val (.int (own_is2 vt vf el0 (vn0.toInt8.toInt32) el1 (vn1.toInt8.toInt32))), .val (.int (0 : Int32))] [(.int (1 : Int32))])) _
          exact retN X225 hx (t := .boolean) Bd.returns (by simp) (hb hby at_305) hr
        · show Q0 Z x0 x1 x2 a_E h0 n0 _ T225.heap _
          rw [e225]
          exact ⟨rfl, N225⟩
    · have p228 : ∀ t, Steps p.tables e below (T198.setTop (mkF m 282 #[.val (.long x0), .second, .val (.int x1), .val (.long x2), .second, .val (.ref b2), .val (.int vf), .val (.int vl), .val (.int vt), .val (.int (2 : Int32)), .val (.int vn0), .val (.int vn1), .val (.int vn2), .val (.ref r167), .val (.ref b172), .val (.int (own_is2 vt vf el0 (vn0.toInt8.toInt32) el1 (vn1.toInt8.toInt32))), .val (.int (0 : Int32))] [(.ref b172)])) t → Steps p.tables e below (s₁.setTop (entryFrame m #[(.long x0), (.int x1), (.long x2)] maxLocals)) t := fun t k => p200 t (by
        show Steps p.tables e below (T198.setTop (mkF m 211 #[.val (.long x0), .second, .val (.int x1), .val (.long x2), .second, .val (.ref b2), .val (.int vf), .val (.int vl), .val (.int vt), .val (.int (2 : Int32)), .val (.int vn0), .val (.int vn1), .val (.int vn2), .val (.ref r167), .val (.ref b172), .val (.int (own_is2 vt vf el0 (vn0.toInt8.toInt32) el1 (vn1.toInt8.toInt32))), .unset] [(.int (2 : Int32)), (.int vl)])) _
        refine XS.icmpYes X198.here hx rfl (pc0 := 211) (pc' := 270) rfl (hb hby at_211) rfl ((feq (hc211)).2) (by decide) (by decide) ?_
        show Steps p.tables e below (T198.setTop (mkF m 270 #[.val (.long x0), .second, .val (.int x1), .val (.long x2), .second, .val (.ref b2), .val (.int vf), .val (.int vl), .val (.int vt), .val (.int (2 : Int32)), .val (.int vn0), .val (.int vn1), .val (.int vn2), .val (.ref r167), .val (.ref b172), .val (.int (own_is2 vt vf el0 (vn0.toInt8.toInt32) el1 (vn1.toInt8.toInt32))), .unset] [])) _
        refine XS.iconst X198.here hx rfl (hb hby at_270) ?_
        show Steps p.tables e below (T198.setTop (mkF m 271 #[.val (.long x0), .second, .val (.int x1), .val (.long x2), .second, .val (.ref b2), .val (.int vf), .val (.int vl), .val (.int vt), .val (.int (2 : Int32)), .val (.int vn0), .val (.int vn1), .val (.int vn2), .val (.ref r167), .val (.ref b172), .val (.int (own_is2 vt vf el0 (vn0.toInt8.toInt32) el1 (vn1.toInt8.toInt32))), .unset] [(.int (0 : Int32))])) _
        refine XS.istore X198.here hx rfl (hb hby at_271) rfl (l' := #[.val (.long x0), .second, .val (.int x1), .val (.long x2), .second, .val (.ref b2), .val (.int vf), .val (.int vl), .val (.int vt), .val (.int (2 : Int32)), .val (.int vn0), .val (.int vn1), .val (.int vn2), .val (.ref r167), .val (.ref b172), .val (.int (own_is2 vt vf el0 (vn0.toInt8.toInt32) el1 (vn1.toInt8.toInt32))), .val (.int (0 : Int32))]) rfl ?_
        show Steps p.tables e below (T198.setTop (mkF m 273 #[.val (.long x0), .second, .val (.int x1), .val (.long x2), .second, .val (.ref b2), .val (.int vf), .val (.int vl), .val (.int vt), .val (.int (2 : Int32)), .val (.int vn0), .val (.int vn1), .val (.int vn2), .val (.ref r167), .val (.ref b172), .val (.int (own_is2 vt vf el0 (vn0.toInt8.toInt32) el1 (vn1.toInt8.toInt32))), .val (.int (0 : Int32))] [])) _
        refine XS.iload X198.here hx rfl (hb hby at_273) rfl ?_
        show Steps p.tables e below (T198.setTop (mkF m 275 #[.val (.long x0), .second, .val (.int x1), .val (.long x2), .second, .val (.ref b2), .val (.int vf), .val (.int vl), .val (.int vt), .val (.int (2 : Int32)), .val (.int vn0), .val (.int vn1), .val (.int vn2), .val (.ref r167), .val (.ref b172), .val (.int (own_is2 vt vf el0 (vn0.toInt8.toInt32) el1 (vn1.toInt8.toInt32))), .val (.int (0 : Int32))] [(.int (own_is2 vt vf el0 (vn0.toInt8.toInt32) el1 (vn1.toInt8.toInt32)))])) _
        refine XS.iload X198.here hx rfl (hb hby at_275) rfl ?_
        show Steps p.tables e below (T198.setTop (mkF m 277 #[.val (.long x0), .second, .val (.int x1), .val (.long x2), .second, .val (.ref b2), .val (.int vf), .val (.int vl), .val (.int vt), .val (.int (2 : Int32)), .val (.int vn0), .val (.int vn1), .val (.int vn2), .val (.ref r167), .val (.ref b172), .val (.int (own_is2 vt vf el0 (vn0.toInt8.toInt32) el1 (vn1.toInt8.toInt32))), .val (.int (0 : Int32))] [(.int (0 : Int32)), (.int (own_is2 vt vf el0 (vn0.toInt8.toInt32) el1 (vn1.toInt8.toInt32)))])) _
        refine XS.icmpNo X198.here hx rfl (hb hby at_277) rfl ((teq (by unfold own_is2; rw [if_neg (fun q => hc211 ((own_sub hvt).symm.trans q))])).2) ?_
        show Steps p.tables e below (T198.setTop (mkF m 280 #[.val (.long x0), .second, .val (.int x1), .val (.long x2), .second, .val (.ref b2), .val (.int vf), .val (.int vl), .val (.int vt), .val (.int (2 : Int32)), .val (.int vn0), .val (.int vn1), .val (.int vn2), .val (.ref r167), .val (.ref b172), .val (.int (own_is2 vt vf el0 (vn0.toInt8.toInt32) el1 (vn1.toInt8.toInt32))), .val (.int (0 : Int32))] [])) _
        refine XS.aload X198.here hx rfl (hb hby at_280) rfl rfl ?_
        exact k)
      obtain ⟨cq229, kq229, qa229, qb229, qc229⟩ := isOf hZ e198 f195
      obtain ⟨_, _, ⟨T229, L229, k229, n229⟩, -, X229, ⟨Lc229, hQ229, l229, y229, z229⟩, st229⟩ := X198.virtualBack hx (y := (⟨"com/example/kinwarden/kinwarden/NameBytes", "from", "()I"⟩ : MethodName)) (z := (⟨"com/example/kinwarden/kinwarden/NameBytes", "from", "()I"⟩ : MethodName)) hown (mvT hZ (hw _ (List.mem_of_getElem? (i := 34) rfl))) (mvT hZ (hw _ (List.mem_of_getElem? (i := 35) rfl))) (notFace_of_selects (args := #[]) (mvT hZ (hw _ (List.mem_of_getElem? (i := 37) rfl)))) (mvT hZ (hw _ (List.mem_of_getElem? (i := 37) rfl))) (mvT hZ (hw _ (List.mem_of_getElem? (i := 36) rfl))) (by decide) (backOf (W := 0) (rmF l Z a0 hw [] b172 vf T191.heap n0 Z191 Fb191) hZ (hw _ (List.mem_of_getElem? (i := 38) rfl)) (hw _ (List.mem_of_getElem? (i := 7) rfl)) (by decide) (by decide)) qa229 qc229 (g := (mkF m 282 #[.val (.long x0), .second, .val (.int x1), .val (.long x2), .second, .val (.ref b2), .val (.int vf), .val (.int vl), .val (.int vt), .val (.int (2 : Int32)), .val (.int vn0), .val (.int vn1), .val (.int vn2), .val (.ref r167), .val (.ref b172), .val (.int (own_is2 vt vf el0 (vn0.toInt8.toInt32) el1 (vn1.toInt8.toInt32))), .val (.int (0 : Int32))] [(.ref b172)])) rfl (by rw [hml]; rfl) (Steps.refl _) (argsL := []) (rest := []) (lenOf pd0_4 rfl) rfl (by show 2 * 0 + _ ≤ _; exact Nat.le_of_eq rfl) (hb hby at_282) (fun _ _ => ⟨rfl, e198, (by decide : 3 + 0 ≤ _), (by decide : 12 + 0 ≤ _)⟩)
      dsimp only [Pt.U, Pt.locs, Pt.cells, Pt.slots] at X229 l229 y229 z229 st229 hQ229
      subst l229 y229 z229
      obtain ⟨rfl, Nq229, e229⟩ := hQ229
      have N229 := Fr.app N198 Nq229
      have p230 : ∀ t, Steps p.tables e below (T229.setTop (mkF m 285 #[.val (.long x0), .second, .val (.int x1), .val (.long x2), .second, .val (.ref b2), .val (.int vf), .val (.int vl), .val (.int vt), .val (.int (2 : Int32)), .val (.int vn0), .val (.int vn1), .val (.int vn2), .val (.ref r167), .val (.ref b172), .val (.int (own_is2 vt vf el0 (vn0.toInt8.toInt32) el1 (vn1.toInt8.toInt32))), .val (.int (0 : Int32))] [(.int vf)])) t → Steps p.tables e below (s₁.setTop (entryFrame m #[(.long x0), (.int x1), (.long x2)] maxLocals)) t := fun t k => p228 t (st229.trans k)
      have p231 : ∀ t, Steps p.tables e below (T229.setTop (mkF m 292 #[.val (.long x0), .second, .val (.int x1), .val (.long x2), .second, .val (.ref b2), .val (.int vf), .val (.int vl), .val (.int vt), .val (.int (2 : Int32)), .val (.int vn0), .val (.int vn1), .val (.int vn2), .val (.ref r167), .val (.ref b172), .val (.int (own_is2 vt vf el0 (vn0.toInt8.toInt32) el1 (vn1.toInt8.toInt32))), .val (.int (0 : Int32))] [(.ref b172)])) t → Steps p.tables e below (s₁.setTop (entryFrame m #[(.long x0), (.int x1), (.long x2)] maxLocals)) t := fun t k => p230 t (by
        show Steps p.tables e below (T229.setTop (mkF m 285 #[.val (.long x0), .second, .val (.int x1), .val (.long x2), .second, .val (.ref b2), .val (.int vf), .val (.int vl), .val (.int vt), .val (.int (2 : Int32)), .val (.int vn0), .val (.int vn1), .val (.int vn2), .val (.ref r167), .val (.ref b172), .val (.int (own_is2 vt vf el0 (vn0.toInt8.toInt32) el1 (vn1.toInt8.toInt32))), .val (.int (0 : Int32))] [(.int vf)])) _
        refine XS.iload X229.here hx rfl (hb hby at_285) rfl ?_
        show Steps p.tables e below (T229.setTop (mkF m 287 #[.val (.long x0), .second, .val (.int x1), .val (.long x2), .second, .val (.ref b2), .val (.int vf), .val (.int vl), .val (.int vt), .val (.int (2 : Int32)), .val (.int vn0), .val (.int vn1), .val (.int vn2), .val (.ref r167), .val (.ref b172), .val (.int (own_is2 vt vf el0 (vn0.toInt8.toInt32) el1 (vn1.toInt8.toInt32))), .val (.int (0 : Int32))] [(.int vf), (.int vf)])) _
        refine XS.icmpNo X229.here hx rfl (hb hby at_287) rfl ((teq (rfl)).2) ?_
        show Steps p.tables e below (T229.setTop (mkF m 290 #[.val (.long x0), .second, .val (.int x1), .val (.long x2), .second, .val (.ref b2), .val (.int vf), .val (.int vl), .val (.int vt), .val (.int (2 : Int32)), .val (.int vn0), .val (.int vn1), .val (.int vn2), .val (.ref r167), .val (.ref b172), .val (.int (own_is2 vt vf el0 (vn0.toInt8.toInt32) el1 (vn1.toInt8.toInt32))), .val (.int (0 : Int32))] [])) _
        refine XS.aload X229.here hx rfl (hb hby at_290) rfl rfl ?_
        exact k)
      obtain ⟨cq232, kq232, qa232, qb232, qc232⟩ := isOf hZ e229 f195
      obtain ⟨_, _, ⟨T232, L232, k232, n232⟩, -, X232, ⟨Lc232, hQ232, l232, y232, z232⟩, st232⟩ := X229.virtualBack hx (y := (⟨"com/example/kinwarden/kinwarden/NameBytes", "to", "()I"⟩ : MethodName)) (z := (⟨"com/example/kinwarden/kinwarden/NameBytes", "to", "()I"⟩ : MethodName)) hown (mvT hZ (hw _ (List.mem_of_getElem? (i := 39) rfl))) (mvT hZ (hw _ (List.mem_of_getElem? (i := 40) rfl))) (notFace_of_selects (args := #[]) (mvT hZ (hw _ (List.mem_of_getElem? (i := 42) rfl)))) (mvT hZ (hw _ (List.mem_of_getElem? (i := 42) rfl))) (mvT hZ (hw _ (List.mem_of_getElem? (i := 41) rfl))) (by decide) (backOf (W := 0) (rmT l Z a0 hw [] b172 vt T191.heap n0 Z191 Fc191) hZ (hw _ (List.mem_of_getElem? (i := 43) rfl)) (hw _ (List.mem_of_getElem? (i := 7) rfl)) (by decide) (by decide)) qa232 qc232 (g := (mkF m 292 #[.val (.long x0), .second, .val (.int x1), .val (.long x2), .second, .val (.ref b2), .val (.int vf), .val (.int vl), .val (.int vt), .val (.int (2 : Int32)), .val (.int vn0), .val (.int vn1), .val (.int vn2), .val (.ref r167), .val (.ref b172), .val (.int (own_is2 vt vf el0 (vn0.toInt8.toInt32) el1 (vn1.toInt8.toInt32))), .val (.int (0 : Int32))] [(.ref b172)])) rfl (by rw [hml]; rfl) (Steps.refl _) (argsL := []) (rest := []) (lenOf pd0_4 rfl) rfl (by show 2 * 0 + _ ≤ _; exact Nat.le_of_eq rfl) (hb hby at_292) (fun _ _ => ⟨rfl, e229, (by decide : 3 + 0 ≤ _), (by decide : 12 + 0 ≤ _)⟩)
      dsimp only [Pt.U, Pt.locs, Pt.cells, Pt.slots] at X232 l232 y232 z232 st232 hQ232
      subst l232 y232 z232
      obtain ⟨rfl, Nq232, e232⟩ := hQ232
      have N232 := Fr.app N229 Nq232
      have p233 : ∀ t, Steps p.tables e below (T232.setTop (mkF m 295 #[.val (.long x0), .second, .val (.int x1), .val (.long x2), .second, .val (.ref b2), .val (.int vf), .val (.int vl), .val (.int vt), .val (.int (2 : Int32)), .val (.int vn0), .val (.int vn1), .val (.int vn2), .val (.ref r167), .val (.ref b172), .val (.int (own_is2 vt vf el0 (vn0.toInt8.toInt32) el1 (vn1.toInt8.toInt32))), .val (.int (0 : Int32))] [(.int vt)])) t → Steps p.tables e below (s₁.setTop (entryFrame m #[(.long x0), (.int x1), (.long x2)] maxLocals)) t := fun t k => p231 t (st232.trans k)
      have p234 : ∀ t, Steps p.tables e below (T232.setTop (mkF m 305 #[.val (.long x0), .second, .val (.int x1), .val (.long x2), .second, .val (.ref b2), .val (.int vf), .val (.int vl), .val (.int vt), .val (.int (2 : Int32)), .val (.int vn0), .val (.int vn1), .val (.int vn2), .val (.ref r167), .val (.ref b172), .val (.int (own_is2 vt vf el0 (vn0.toInt8.toInt32) el1 (vn1.toInt8.toInt32))), .val (.int (0 : Int32))] [(.int (1 : Int32))])) t → Steps p.tables e below (s₁.setTop (entryFrame m #[(.long x0), (.int x1), (.long x2)] maxLocals)) t := fun t k => p233 t (by
        show Steps p.tables e below (T232.setTop (mkF m 295 #[.val (.long x0), .second, .val (.int x1), .val (.long x2), .second, .val (.ref b2), .val (.int vf), .val (.int vl), .val (.int vt), .val (.int (2 : Int32)), .val (.int vn0), .val (.int vn1), .val (.int vn2), .val (.ref r167), .val (.ref b172), .val (.int (own_is2 vt vf el0 (vn0.toInt8.toInt32) el1 (vn1.toInt8.toInt32))), .val (.int (0 : Int32))] [(.int vt)])) _
        refine XS.iload X232.here hx rfl (hb hby at_295) rfl ?_
        show Steps p.tables e below (T232.setTop (mkF m 297 #[.val (.long x0), .second, .val (.int x1), .val (.long x2), .second, .val (.ref b2), .val (.int vf), .val (.int vl), .val (.int vt), .val (.int (2 : Int32)), .val (.int vn0), .val (.int vn1), .val (.int vn2), .val (.ref r167), .val (.ref b172), .val (.int (own_is2 vt vf el0 (vn0.toInt8.toInt32) el1 (vn1.toInt8.toInt32))), .val (.int (0 : Int32))] [(.int vt), (.int vt)])) _
        refine XS.icmpNo X232.here hx rfl (hb hby at_297) rfl ((teq (rfl)).2) ?_
        show Steps p.tables e below (T232.setTop (mkF m 300 #[.val (.long x0), .second, .val (.int x1), .val (.long x2), .second, .val (.ref b2), .val (.int vf), .val (.int vl), .val (.int vt), .val (.int (2 : Int32)), .val (.int vn0), .val (.int vn1), .val (.int vn2), .val (.ref r167), .val (.ref b172), .val (.int (own_is2 vt vf el0 (vn0.toInt8.toInt32) el1 (vn1.toInt8.toInt32))), .val (.int (0 : Int32))] [])) _
        refine XS.iconst X232.here hx rfl (hb hby at_300) ?_
        show Steps p.tables e below (T232.setTop (mkF m 301 #[.val (.long x0), .second, .val (.int x1), .val (.long x2), .second, .val (.ref b2), .val (.int vf), .val (.int vl), .val (.int vt), .val (.int (2 : Int32)), .val (.int vn0), .val (.int vn1), .val (.int vn2), .val (.ref r167), .val (.ref b172), .val (.int (own_is2 vt vf el0 (vn0.toInt8.toInt32) el1 (vn1.toInt8.toInt32))), .val (.int (0 : Int32))] [(.int (1 : Int32))])) _
        refine XS.goto X232.here hx rfl (pc0 := 301) (pc' := 305) rfl (hb hby at_301) (by decide) (by decide) ?_
        exact k)
      obtain ⟨fs, hr, hrun, hended, hW, hsame⟩ := X232.leave (v := some (.int (1 : Int32))) (fun h => by rw [Bd.returns] at h; cases h)
      refine ⟨_, _, p234 _ ?_, hrun, hended, _, _, rfl, ?_, ⟨_, rfl⟩, hW, hsame.mono (by decide) (by decide)⟩
      · show Steps p.tables e below (T232.setTop (mkF m 305 #[.val (.long x0), .second, .val (.int x1), .val (.long x2), .second, .val (.ref b2), .val (.int vf), .val (.int vl), .val (.int vt), .val (.int (2 : Int32)), .val (.int vn0), .val (.int vn1), .val (.int vn2), .val (.ref r167), .val (.ref b172), .val (.int (own_is2 vt vf el0 (vn0.toInt8.toInt32) el1 (vn1.toInt8.toInt32))), .val (.int (0 : Int32))] [(.int (1 : Int32))])) _
        exact retN X232 hx (t := .boolean) Bd.returns (by simp) (hb hby at_305) hr
      · show Q0 Z x0 x1 x2 a_E h0 n0 _ T232.heap _
        rw [e232]
        exact ⟨rfl, N232⟩
  · have p235 : ∀ t, Steps p.tables e below (T26.setTop (mkF m 173 #[.val (.long x0), .second, .val (.int x1), .val (.long x2), .second, .val (.ref b2), .val (.int vf), .val (.int vl), .val (.int vt), .val (.int (3 : Int32)), .val (.int vn0), .val (.int vn1), .val (.int vn2), .unset, .unset, .unset, .unset] [(.int vn2), (.int vn1), (.int vn0), (.int (3 : Int32))])) t → Steps p.tables e below (s₁.setTop (entryFrame m #[(.long x0), (.int x1), (.long x2)] maxLocals)) t := fun t k => p57 t (by
      show Steps p.tables e below (T26.setTop (mkF m 165 #[.val (.long x0), .second, .val (.int x1), .val (.long x2), .second, .val (.ref b2), .val (.int vf), .val (.int vl), .val (.int vt), .val (.int (3 : Int32)), .val (.int vn0), .val (.int vn1), .val (.int vn2), .unset, .unset, .unset, .unset] [])) _
      refine XS.iload X26.here hx rfl (hb hby at_165) rfl ?_
      show Steps p.tables e below (T26.setTop (mkF m 167 #[.val (.long x0), .second, .val (.int x1), .val (.long x2), .second, .val (.ref b2), .val (.int vf), .val (.int vl), .val (.int vt), .val (.int (3 : Int32)), .val (.int vn0), .val (.int vn1), .val (.int vn2), .unset, .unset, .unset, .unset] [(.int (3 : Int32))])) _
      refine XS.iload X26.here hx rfl (hb hby at_167) rfl ?_
      show Steps p.tables e below (T26.setTop (mkF m 169 #[.val (.long x0), .second, .val (.int x1), .val (.long x2), .second, .val (.ref b2), .val (.int vf), .val (.int vl), .val (.int vt), .val (.int (3 : Int32)), .val (.int vn0), .val (.int vn1), .val (.int vn2), .unset, .unset, .unset, .unset] [(.int vn0), (.int (3 : Int32))])) _
      refine XS.iload X26.here hx rfl (hb hby at_169) rfl ?_
      show Steps p.tables e below (T26.setTop (mkF m 171 #[.val (.long x0), .second, .val (.int x1), .val (.long x2), .second, .val (.ref b2), .val (.int vf), .val (.int vl), .val (.int vt), .val (.int (3 : Int32)), .val (.int vn0), .val (.int vn1), .val (.int vn2), .unset, .unset, .unset, .unset] [(.int vn1), (.int vn0), (.int (3 : Int32))])) _
      refine XS.iload X26.here hx rfl (hb hby at_171) rfl ?_
      exact k)
    obtain ⟨_, _, ⟨T236, L236, k236, n236⟩, -, X236, ⟨Lc236, hQ236, l236, y236, z236⟩, st236⟩ := Jvm.LawKit.callS X26 hx (y := (⟨"com/example/kinwarden/kinwarden/NameBytesIsPinLaw", "make", "(IBBB)[B"⟩ : MethodName)) hown (mvT hZ (hw _ (List.mem_of_getElem? (i := 1) rfl))) (mvT hZ (hw _ (List.mem_of_getElem? (i := 2) rfl))) (mvT hZ (hw _ (List.mem_of_getElem? (i := 3) rfl))) (mvT hZ (hw _ (List.mem_of_getElem? (i := 4) rfl))) (by decide) (backOf (W := 0) (rmm3 l Z a0 hw [] vn0 vn1 vn2  h26 n0 Z26 ) hZ (hw _ (List.mem_of_getElem? (i := 4) rfl)) (hw _ (List.mem_of_getElem? (i := 3) rfl)) (by decide) (by decide)) (g := (mkF m 173 #[.val (.long x0), .second, .val (.int x1), .val (.long x2), .second, .val (.ref b2), .val (.int vf), .val (.int vl), .val (.int vt), .val (.int (3 : Int32)), .val (.int vn0), .val (.int vn1), .val (.int vn2), .unset, .unset, .unset, .unset] [(.int vn2), (.int vn1), (.int vn0), (.int (3 : Int32))])) rfl (by rw [hml]; rfl) (argsL := [(.int (3 : Int32)), (.int vn0), (.int vn1), (.int vn2)]) (rest := []) (lenOf pd0_0 rfl) rfl (by show 2 * 0 + _ ≤ _; exact Nat.le_of_eq rfl) (hb hby at_173) (fun _ _ => ⟨rfl, e26, (by decide : 1 + 1 ≤ _), (by decide : 6 + 3 ≤ _)⟩)
    dsimp only [Pt.U, Pt.locs, Pt.cells, Pt.slots] at X236 l236 y236 z236 st236 hQ236
    subst l236 y236 z236
    obtain ⟨r236, kk236, rfl, Nq236, K236, gr236, VR236⟩ := hQ236
    have N236 := Fr.app N26 Nq236
    have f237 := f27.keep K236 (all0)
    have f238 := BB.keep K236 nin0
    have Z236 := Nat.le_trans Z26 K236.1
    have p239 : ∀ t, Steps p.tables e below (T236.setTop (mkF m 176 #[.val (.long x0), .second, .val (.int x1), .val (.long x2), .second, .val (.ref b2), .val (.int vf), .val (.int vl), .val (.int vt), .val (.int (3 : Int32)), .val (.int vn0), .val (.int vn1), .val (.int vn2), .unset, .unset, .unset, .unset] [(.ref r236)])) t → Steps p.tables e below (s₁.setTop (entryFrame m #[(.long x0), (.int x1), (.long x2)] maxLocals)) t := fun t k => p235 t (st236 _ k)
    have p240 : ∀ t, Steps p.tables e below (T236.setTop (mkF m 178 #[.val (.long x0), .second, .val (.int x1), .val (.long x2), .second, .val (.ref b2), .val (.int vf), .val (.int vl), .val (.int vt), .val (.int (3 : Int32)), .val (.int vn0), .val (.int vn1), .val (.int vn2), .val (.ref r236), .unset, .unset, .unset] [])) t → Steps p.tables e below (s₁.setTop (entryFrame m #[(.long x0), (.int x1), (.long x2)] maxLocals)) t := fun t k => p239 t (by
      show Steps p.tables e below (T236.setTop (mkF m 176 #[.val (.long x0), .second, .val (.int x1), .val (.long x2), .second, .val (.ref b2), .val (.int vf), .val (.int vl), .val (.int vt), .val (.int (3 : Int32)), .val (.int vn0), .val (.int vn1), .val (.int vn2), .unset, .unset, .unset, .unset] [(.ref r236)])) _
      refine XS.astore X236.here hx rfl (hb hby at_176) rfl rfl (l' := #[.val (.long x0), .second, .val (.int x1), .val (.long x2), .second, .val (.ref b2), .val (.int vf), .val (.int vl), .val (.int vt), .val (.int (3 : Int32)), .val (.int vn0), .val (.int vn1), .val (.int vn2), .val (.ref r236), .unset, .unset, .unset]) rfl ?_
      exact k)
    obtain ⟨T241, h241, X241, e241, E241, A241, D241, -, st241⟩ := newO X236 hx hZ hown (hw _ (List.mem_of_getElem? (i := 5) rfl)) (hw _ (List.mem_of_getElem? (i := 6) rfl)) (hw _ (List.mem_of_getElem? (i := 7) rfl)) rfl (g := (mkF m 178 #[.val (.long x0), .second, .val (.int x1), .val (.long x2), .second, .val (.ref b2), .val (.int vf), .val (.int vl), .val (.int vt), .val (.int (3 : Int32)), .val (.int vn0), .val (.int vn1), .val (.int vn2), .val (.ref r236), .unset, .unset, .unset] [])) rfl (hb hby at_178) (by decide) (by decide)
    obtain ⟨b241, g241⟩ : ∃ z, z = T236.heap.size := ⟨_, rfl⟩
    rw [← g241] at A241 D241 st241
    have gn_b241 : n0 ≤ b241 := Nat.le_trans Z236 (Nat.le_of_eq g241.symm)
    have ne242 : b2 ≠ b241 := Nat.ne_of_lt (Nat.lt_of_lt_of_le f238.lt (Nat.le_of_eq g241.symm))
    have ne243 : r236 ≠ b241 := Nat.ne_of_lt (Nat.lt_of_lt_of_le VR236.lt (Nat.le_of_eq g241.symm))
    have f244 := f237.ext E241
    have f245 := f238.ext E241
    have f246 := VR236.ext E241
    have Z241 := Nat.le_trans Z236 E241.1
    have f247 : Fld Z h241 b241 "com/example/kinwarden/kinwarden/NameBytes" "bytes" "[B" .null := D241 (Or.inl (hw _ (List.mem_of_getElem? (i := 17) rfl))) (ty := (.array .byte)) (by decide)
    have f248 : Fld Z h241 b241 "com/example/kinwarden/kinwarden/NameBytes" "room" "[B" .null := D241 (Or.inl (hw _ (List.mem_of_getElem? (i := 19) rfl))) (ty := (.array .byte)) (by decide)
    have f249 : Fld Z h241 b241 "com/example/kinwarden/kinwarden/NameBytes" "from" "I" (.int (0 : Int32)) := D241 (Or.inl (hw _ (List.mem_of_getElem? (i := 26) rfl))) (ty := .int) (by decide)
    have f250 : Fld Z h241 b241 "com/example/kinwarden/kinwarden/NameBytes" "to" "I" (.int (0 : Int32)) := D241 (Or.inl (hw _ (List.mem_of_getElem? (i := 28) rfl))) (ty := .int) (by decide)
    have p251 : ∀ t, Steps p.tables e below (T241.setTop (mkF m 181 #[.val (.long x0), .second, .val (.int x1), .val (.long x2), .second, .val (.ref b2), .val (.int vf), .val (.int vl), .val (.int vt), .val (.int (3 : Int32)), .val (.int vn0), .val (.int vn1), .val (.int vn2), .val (.ref r236), .unset, .unset, .unset] [(.ref b241)])) t → Steps p.tables e below (s₁.setTop (entryFrame m #[(.long x0), (.int x1), (.long x2)] maxLocals)) t := fun t k => p240 t (st241 t k)
    have S0h := S0.ext f244.2
    have p252 : ∀ t, Steps p.tables e below (T241.setTop (mkF m 182 #[.val (.long x0), .second, .val (.int x1), .val (.long x2), .second, .val (.ref b2), .val (.int vf), .val (.int vl), .val (.int vt), .val (.int (3 : Int32)), .val (.int vn0), .val (.int vn1), .val (.int vn2), .val (.ref r236), .unset, .unset, .unset] [(.ref b241), (.ref b241)])) t → Steps p.tables e below (s₁.setTop (entryFrame m #[(.long x0), (.int x1), (.long x2)] maxLocals)) t := fun t k => p251 t (by
      show Steps p.tables e below (T241.setTop (mkF m 181 #[.val (.long x0), .second, .val (.int x1), .val (.long x2), .second, .val (.ref b2), .val (.int vf), .val (.int vl), .val (.int vt), .val (.int (3 : Int32)), .val (.int vn0), .val (.int vn1), .val (.int vn2), .val (.ref r236), .unset, .unset, .unset] [(.ref b241)])) _
      refine XS.dup X241.here hx rfl (hb hby at_181) rfl rfl ?_
      exact k)
    obtain ⟨_, _, ⟨T253, L253, k253, n253⟩, -, X253, ⟨Lc253, hQ253, l253, y253, z253⟩, st253⟩ := X241.specialBack hx (y := (⟨"com/example/kinwarden/kinwarden/NameBytes", "<init>", "()V"⟩ : MethodName)) rfl hown (mvT hZ (hw _ (List.mem_of_getElem? (i := 8) rfl))) (mvT hZ (hw _ (List.mem_of_getElem? (i := 9) rfl))) (mvT hZ (hw _ (List.mem_of_getElem? (i := 10) rfl))) (by decide) (backOf (W := 1) (rmI l Z a0 hw [] b241 a_E h241 n0 Z241 A241 f247 f248 f249 f250 gn_b241 S0h) hZ (hw _ (List.mem_of_getElem? (i := 10) rfl)) (hw _ (List.mem_of_getElem? (i := 7) rfl)) (by decide) (by decide)) (g := (mkF m 182 #[.val (.long x0), .second, .val (.int x1), .val (.long x2), .second, .val (.ref b2), .val (.int vf), .val (.int vl), .val (.int vt), .val (.int (3 : Int32)), .val (.int vn0), .val (.int vn1), .val (.int vn2), .val (.ref r236), .unset, .unset, .unset] [(.ref b241), (.ref b241)])) rfl (by rw [hml]; rfl) (Steps.refl _) (a := b241) (argsL := []) (rest := [(.ref b241)]) (lenOf pd0_1 rfl) rfl (by show 2 * 0 + _ ≤ _; exact Nat.le_of_eq rfl) (hb hby at_182) (fun _ _ => ⟨rfl, e241, (by decide : 3 + 0 ≤ _), (by decide : 13 + 0 ≤ _)⟩)
    dsimp only [Pt.U, Pt.locs, Pt.cells, Pt.slots] at X253 l253 y253 z253 st253 hQ253
    subst l253 y253 z253
    obtain ⟨rfl, Nq253, K253, Fa253, Fb253, Fc253⟩ := hQ253
    have N253 := Fr.app N236 Nq253
    have f254 := f244.keep K253 (allS gn_b241 (all0))
    have f255 := f245.keep K253 (ninS ne242 nin0)
    have f256 := f246.keep K253 (ninS ne243 nin0)
    have f257 := A241.keep K253
    have Z253 := Nat.le_trans Z241 K253.1
    have p258 : ∀ t, Steps p.tables e below (T253.setTop (mkF m 185 #[.val (.long x0), .second, .val (.int x1), .val (.long x2), .second, .val (.ref b2), .val (.int vf), .val (.int vl), .val (.int vt), .val (.int (3 : Int32)), .val (.int vn0), .val (.int vn1), .val (.int vn2), .val (.ref r236), .unset, .unset, .unset] [(.ref b241)])) t → Steps p.tables e below (s₁.setTop (entryFrame m #[(.long x0), (.int x1), (.long x2)] maxLocals)) t := fun t k => p252 t (st253.trans k)
    have p259 : ∀ t, Steps p.tables e below (T253.setTop (mkF m 195 #[.val (.long x0), .second, .val (.int x1), .val (.long x2), .second, .val (.ref b2), .val (.int vf), .val (.int vl), .val (.int vt), .val (.int (3 : Int32)), .val (.int vn0), .val (.int vn1), .val (.int vn2), .val (.ref r236), .val (.ref b241), .unset, .unset] [(.int vt), (.int vf), (.ref b2), (.ref b241)])) t → Steps p.tables e below (s₁.setTop (entryFrame m #[(.long x0), (.int x1), (.long x2)] maxLocals)) t := fun t k => p258 t (by
      show Steps p.tables e below (T253.setTop (mkF m 185 #[.val (.long x0), .second, .val (.int x1), .val (.long x2), .second, .val (.ref b2), .val (.int vf), .val (.int vl), .val (.int vt), .val (.int (3 : Int32)), .val (.int vn0), .val (.int vn1), .val (.int vn2), .val (.ref r236), .unset, .unset, .unset] [(.ref b241)])) _
      refine XS.astore X253.here hx rfl (hb hby at_185) rfl rfl (l' := #[.val (.long x0), .second, .val (.int x1), .val (.long x2), .second, .val (.ref b2), .val (.int vf), .val (.int vl), .val (.int vt), .val (.int (3 : Int32)), .val (.int vn0), .val (.int vn1), .val (.int vn2), .val (.ref r236), .val (.ref b241), .unset, .unset]) rfl ?_
      show Steps p.tables e below (T253.setTop (mkF m 187 #[.val (.long x0), .second, .val (.int x1), .val (.long x2), .second, .val (.ref b2), .val (.int vf), .val (.int vl), .val (.int vt), .val (.int (3 : Int32)), .val (.int vn0), .val (.int vn1), .val (.int vn2), .val (.ref r236), .val (.ref b241), .unset, .unset] [])) _
      refine XS.aload X253.here hx rfl (hb hby at_187) rfl rfl ?_
      show Steps p.tables e below (T253.setTop (mkF m 189 #[.val (.long x0), .second, .val (.int x1), .val (.long x2), .second, .val (.ref b2), .val (.int vf), .val (.int vl), .val (.int vt), .val (.int (3 : Int32)), .val (.int vn0), .val (.int vn1), .val (.int vn2), .val (.ref r236), .val (.ref b241), .unset, .unset] [(.ref b241)])) _
      refine XS.aload X253.here hx rfl (hb hby at_189) rfl rfl ?_
      show Steps p.tables e below (T253.setTop (mkF m 191 #[.val (.long x0), .second, .val (.int x1), .val (.long x2), .second, .val (.ref b2), .val (.int vf), .val (.int vl), .val (.int vt), .val (.int (3 : Int32)), .val (.int vn0), .val (.int vn1), .val (.int vn2), .val (.ref r236), .val (.ref b241), .unset, .unset] [(.ref b2), (.ref b241)])) _
      refine XS.iload X253.here hx rfl (hb hby at_191) rfl ?_
      show Steps p.tables e below (T253.setTop (mkF m 193 #[.val (.long x0), .second, .val (.int x1), .val (.long x2), .second, .val (.ref b2), .val (.int vf), .val (.int vl), .val (.int vt), .val (.int (3 : Int32)), .val (.int vn0), .val (.int vn1), .val (.int vn2), .val (.ref r236), .val (.ref b241), .unset, .unset] [(.int vf), (.ref b2), (.ref b241)])) _
      refine XS.iload X253.here hx rfl (hb hby at_193) rfl ?_
      exact k)
    obtain ⟨cq260, kq260, qa260, qb260, qc260⟩ := isOf hZ rfl f257
    obtain ⟨_, _, ⟨T260, L260, k260, n260⟩, -, X260, ⟨Lc260, hQ260, l260, y260, z260⟩, st260⟩ := X253.virtualBack hx (y := (⟨"com/example/kinwarden/kinwarden/NameBytes", "hold", "([BII)V"⟩ : MethodName)) (z := (⟨"com/example/kinwarden/kinwarden/NameBytes", "hold", "([BII)V"⟩ : MethodName)) hown (mvT hZ (hw _ (List.mem_of_getElem? (i := 20) rfl))) (mvT hZ (hw _ (List.mem_of_getElem? (i := 21) rfl))) (notFace_of_selects (args := #[]) (mvT hZ (hw _ (List.mem_of_getElem? (i := 23) rfl)))) (mvT hZ (hw _ (List.mem_of_getElem? (i := 23) rfl))) (mvT hZ (hw _ (List.mem_of_getElem? (i := 22) rfl))) (by decide) (backOf (W := 0) (rmH l Z a0 hw [] b241 b2 vf vt a_E T253.heap n0 Z253 f257 Fa253 Fb253 Fc253 gn_b241) hZ (hw _ (List.mem_of_getElem? (i := 24) rfl)) (hw _ (List.mem_of_getElem? (i := 7) rfl)) (by decide) (by decide)) qa260 qc260 (g := (mkF m 195 #[.val (.long x0), .second, .val (.int x1), .val (.long x2), .second, .val (.ref b2), .val (.int vf), .val (.int vl), .val (.int vt), .val (.int (3 : Int32)), .val (.int vn0), .val (.int vn1), .val (.int vn2), .val (.ref r236), .val (.ref b241), .unset, .unset] [(.int vt), (.int vf), (.ref b2), (.ref b241)])) rfl (by rw [hml]; rfl) (Steps.refl _) (argsL := [(.ref b2), (.int vf), (.int vt)]) (rest := []) (lenOf pd0_2 rfl) rfl (by show 2 * 0 + _ ≤ _; exact Nat.le_of_eq rfl) (hb hby at_195) (fun _ _ => ⟨rfl, rfl, (by decide : 3 + 0 ≤ _), (by decide : 13 + 0 ≤ _)⟩)
    dsimp only [Pt.U, Pt.locs, Pt.cells, Pt.slots] at X260 l260 y260 z260 st260 hQ260
    subst l260 y260 z260
    obtain ⟨rfl, Nq260, K260, Fa260, Fb260, Fc260⟩ := hQ260
    have N260 := Fr.app N253 Nq260
    have f261 := f254.keep K260 (allS gn_b241 (all0))
    have f262 := f255.keep K260 (ninS ne242 nin0)
    have f263 := f256.keep K260 (ninS ne243 nin0)
    have f264 := f257.keep K260
    have Z260 := Nat.le_trans Z253 K260.1
    have p265 : ∀ t, Steps p.tables e below (T260.setTop (mkF m 198 #[.val (.long x0), .second, .val (.int x1), .val (.long x2), .second, .val (.ref b2), .val (.int vf), .val (.int vl), .val (.int vt), .val (.int (3 : Int32)), .val (.int vn0), .val (.int vn1), .val (.int vn2), .val (.ref r236), .val (.ref b241), .unset, .unset] [])) t → Steps p.tables e below (s₁.setTop (entryFrame m #[(.long x0), (.int x1), (.long x2)] maxLocals)) t := fun t k => p259 t (st260.trans k)
    have p266 : ∀ t, Steps p.tables e below (T260.setTop (mkF m 202 #[.val (.long x0), .second, .val (.int x1), .val (.long x2), .second, .val (.ref b2), .val (.int vf), .val (.int vl), .val (.int vt), .val (.int (3 : Int32)), .val (.int vn0), .val (.int vn1), .val (.int vn2), .val (.ref r236), .val (.ref b241), .unset, .unset] [(.ref r236), (.ref b241)])) t → Steps p.tables e below (s₁.setTop (entryFrame m #[(.long x0), (.int x1), (.long x2)] maxLocals)) t := fun t k => p265 t (by
      show Steps p.tables e below (T260.setTop (mkF m 198 #[.val (.long x0), .second, .val (.int x1), .val (.long x2), .second, .val (.ref b2), .val (.int vf), .val (.int vl), .val (.int vt), .val (.int (3 : Int32)), .val (.int vn0), .val (.int vn1), .val (.int vn2), .val (.ref r236), .val (.ref b241), .unset, .unset] [])) _
      refine XS.aload X260.here hx rfl (hb hby at_198) rfl rfl ?_
      show Steps p.tables e below (T260.setTop (mkF m 200 #[.val (.long x0), .second, .val (.int x1), .val (.long x2), .second, .val (.ref b2), .val (.int vf), .val (.int vl), .val (.int vt), .val (.int (3 : Int32)), .val (.int vn0), .val (.int vn1), .val (.int vn2), .val (.ref r236), .val (.ref b241), .unset, .unset] [(.ref b241)])) _
      refine XS.aload X260.here hx rfl (hb hby at_200) rfl rfl ?_
      exact k)
    obtain ⟨cq267, kq267, qa267, qb267, qc267⟩ := isOf hZ rfl f264
    obtain ⟨_, _, ⟨T267, L267, k267, n267⟩, -, X267, ⟨Lc267, hQ267, l267, y267, z267⟩, st267⟩ := X260.virtualBack hx (y := (⟨"com/example/kinwarden/kinwarden/NameBytes", "is", "([B)Z"⟩ : MethodName)) (z := (⟨"com/example/kinwarden/kinwarden/NameBytes", "is", "([B)Z"⟩ : MethodName)) hown (mvT hZ (hw _ (List.mem_of_getElem? (i := 29) rfl))) (mvT hZ (hw _ (List.mem_of_getElem? (i := 30) rfl))) (notFace_of_selects (args := #[]) (mvT hZ (hw _ (List.mem_of_getElem? (i := 32) rfl)))) (mvT hZ (hw _ (List.mem_of_getElem? (i := 32) rfl))) (mvT hZ (hw _ (List.mem_of_getElem? (i := 31) rfl))) (by decide) (backOf (W := 0) (rms3 l Z a0 hw [] b241 r236 b2 kk236 vt vf el0 el1 el2 (vn0.toInt8.toInt32) (vn1.toInt8.toInt32) (vn2.toInt8.toInt32) T260.heap n0 Z260 Fa260 Fb260 Fc260 f262 f263) hZ (hw _ (List.mem_of_getElem? (i := 33) rfl)) (hw _ (List.mem_of_getElem? (i := 7) rfl)) (by decide) (by decide)) qa267 qc267 (g := (mkF m 202 #[.val (.long x0), .second, .val (.int x1), .val (.long x2), .second, .val (.ref b2), .val (.int vf), .val (.int vl), .val (.int vt), .val (.int (3 : Int32)), .val (.int vn0), .val (.int vn1), .val (.int vn2), .val (.ref r236), .val (.ref b241), .unset, .unset] [(.ref r236), (.ref b241)])) rfl (by rw [hml]; rfl) (Steps.refl _) (argsL := [(.ref r236)]) (rest := []) (lenOf pd0_3 rfl) rfl (by show 2 * 0 + _ ≤ _; exact Nat.le_of_eq rfl) (hb hby at_202) (fun _ _ => ⟨rfl, rfl, (by decide : 3 + 0 ≤ _), (by decide : 13 + 0 ≤ _)⟩)
    dsimp only [Pt.U, Pt.locs, Pt.cells, Pt.slots] at X267 l267 y267 z267 st267 hQ267
    subst l267 y267 z267
    obtain ⟨rfl, Nq267, e267⟩ := hQ267
    have N267 := Fr.app N260 Nq267
    have p268 : ∀ t, Steps p.tables e below (T267.setTop (mkF m 205 #[.val (.long x0), .second, .val (.int x1), .val (.long x2), .second, .val (.ref b2), .val (.int vf), .val (.int vl), .val (.int vt), .val (.int (3 : Int32)), .val (.int vn0), .val (.int vn1), .val (.int vn2), .val (.ref r236), .val (.ref b241), .unset, .unset] [(.int (own_is3 vt vf el0 (vn0.toInt8.toInt32) el1 (vn1.toInt8.toInt32) el2 (vn2.toInt8.toInt32)))])) t → Steps p.tables e below (s₁.setTop (entryFrame m #[(.long x0), (.int x1), (.long x2)] maxLocals)) t := fun t k => p266 t (st267.trans k)
    have p269 : ∀ t, Steps p.tables e below (T267.setTop (mkF m 211 #[.val (.long x0), .second, .val (.int x1), .val (.long x2), .second, .val (.ref b2), .val (.int vf), .val (.int vl), .val (.int vt), .val (.int (3 : Int32)), .val (.int vn0), .val (.int vn1), .val (.int vn2), .val (.ref r236), .val (.ref b241), .val (.int (own_is3 vt vf el0 (vn0.toInt8.toInt32) el1 (vn1.toInt8.toInt32) el2 (vn2.toInt8.toInt32))), .unset] [(.int (3 : Int32)), (.int vl)])) t → Steps p.tables e below (s₁.setTop (entryFrame m #[(.long x0), (.int x1), (.long x2)] maxLocals)) t := fun t k => p268 t (by
      show Steps p.tables e below (T267.setTop (mkF m 205 #[.val (.long x0), .second, .val (.int x1), .val (.long x2), .second, .val (.ref b2), .val (.int vf), .val (.int vl), .val (.int vt), .val (.int (3 : Int32)), .val (.int vn0), .val (.int vn1), .val (.int vn2), .val (.ref r236), .val (.ref b241), .unset, .unset] [(.int (own_is3 vt vf el0 (vn0.toInt8.toInt32) el1 (vn1.toInt8.toInt32) el2 (vn2.toInt8.toInt32)))])) _
      refine XS.istore X267.here hx rfl (hb hby at_205) rfl (l' := #[.val (.long x0), .second, .val (.int x1), .val (.long x2), .second, .val (.ref b2), .val (.int vf), .val (.int vl), .val (.int vt), .val (.int (3 : Int32)), .val (.int vn0), .val (.int vn1), .val (.int vn2), .val (.ref r236), .val (.ref b241), .val (.int (own_is3 vt vf el0 (vn0.toInt8.toInt32) el1 (vn1.toInt8.toInt32) el2 (vn2.toInt8.toInt32))), .unset]) rfl ?_
      show Steps p.tables e below (T267.setTop (mkF m 207 #[.val (.long x0), .second, .val (.int x1), .val (.long x2), .second, .val (.ref b2), .val (.int vf), .val (.int vl), .val (.int vt), .val (.int (3 : Int32)), .val (.int vn0), .val (.int vn1), .val (.int vn2), .val (.ref r236), .val (.ref b241), .val (.int (own_is3 vt vf el0 (vn0.toInt8.toInt32) el1 (vn1.toInt8.toInt32) el2 (vn2.toInt8.toInt32))), .unset] [])) _
      refine XS.iload X267.here hx rfl (hb hby at_207) rfl ?_
      show Steps p.tables e below (T267.setTop (mkF m 209 #[.val (.long x0), .second, .val (.int x1), .val (.long x2), .second, .val (.ref b2), .val (.int vf), .val (.int vl), .val (.int vt), .val (.int (3 : Int32)), .val (.int vn0), .val (.int vn1), .val (.int vn2), .val (.ref r236), .val (.ref b241), .val (.int (own_is3 vt vf el0 (vn0.toInt8.toInt32) el1 (vn1.toInt8.toInt32) el2 (vn2.toInt8.toInt32))), .unset] [(.int vl)])) _
      refine XS.iload X267.here hx rfl (hb hby at_209) rfl ?_
      exact k)
    by_cases hc211 : vl = (3 : Int32)
    · have p270 : ∀ t, Steps p.tables e below (T267.setTop (mkF m 226 #[.val (.long x0), .second, .val (.int x1), .val (.long x2), .second, .val (.ref b2), .val (.int vf), .val (.int vl), .val (.int vt), .val (.int (3 : Int32)), .val (.int vn0), .val (.int vn1), .val (.int vn2), .val (.ref r236), .val (.ref b241), .val (.int (own_is3 vt vf el0 (vn0.toInt8.toInt32) el1 (vn1.toInt8.toInt32) el2 (vn2.toInt8.toInt32))), .unset] [(.int vf), (.ref b2), (.int vn0)])) t → Steps p.tables e below (s₁.setTop (entryFrame m #[(.long x0), (.int x1), (.long x2)] maxLocals)) t := fun t k => p269 t (by
        show Steps p.tables e below (T267.setTop (mkF m 211 #[.val (.long x0), .second, .val (.int x1), .val (.long x2), .second, .val (.ref b2), .val (.int vf), .val (.int vl), .val (.int vt), .val (.int (3 : Int32)), .val (.int vn0), .val (.int vn1), .val (.int vn2), .val (.ref r236), .val (.ref b241), .val (.int (own_is3 vt vf el0 (vn0.toInt8.toInt32) el1 (vn1.toInt8.toInt32) el2 (vn2.toInt8.toInt32))), .unset] [(.int (3 : Int32)), (.int vl)])) _
        refine XS.icmpNo X267.here hx rfl (hb hby at_211) rfl ((teq (hc211)).2) ?_
        show Steps p.tables e below (T267.setTop (mkF m 214 #[.val (.long x0), .second, .val (.int x1), .val (.long x2), .second, .val (.ref b2), .val (.int vf), .val (.int vl), .val (.int vt), .val (.int (3 : Int32)), .val (.int vn0), .val (.int vn1), .val (.int vn2), .val (.ref r236), .val (.ref b241), .val (.int (own_is3 vt vf el0 (vn0.toInt8.toInt32) el1 (vn1.toInt8.toInt32) el2 (vn2.toInt8.toInt32))), .unset] [])) _
        refine XS.iload X267.here hx rfl (hb hby at_214) rfl ?_
        show Steps p.tables e below (T267.setTop (mkF m 216 #[.val (.long x0), .second, .val (.int x1), .val (.long x2), .second, .val (.ref b2), .val (.int vf), .val (.int vl), .val (.int vt), .val (.int (3 : Int32)), .val (.int vn0), .val (.int vn1), .val (.int vn2), .val (.ref r236), .val (.ref b241), .val (.int (own_is3 vt vf el0 (vn0.toInt8.toInt32) el1 (vn1.toInt8.toInt32) el2 (vn2.toInt8.toInt32))), .unset] [(.int (3 : Int32))])) _
        refine XS.iconst X267.here hx rfl (hb hby at_216) ?_
        show Steps p.tables e below (T267.setTop (mkF m 217 #[.val (.long x0), .second, .val (.int x1), .val (.long x2), .second, .val (.ref b2), .val (.int vf), .val (.int vl), .val (.int vt), .val (.int (3 : Int32)), .val (.int vn0), .val (.int vn1), .val (.int vn2), .val (.ref r236), .val (.ref b241), .val (.int (own_is3 vt vf el0 (vn0.toInt8.toInt32) el1 (vn1.toInt8.toInt32) el2 (vn2.toInt8.toInt32))), .unset] [(.int (1 : Int32)), (.int (3 : Int32))])) _
        refine XS.icmpNo X267.here hx rfl (hb hby at_217) rfl ((flt (by decide)).1) ?_
        show Steps p.tables e below (T267.setTop (mkF m 220 #[.val (.long x0), .second, .val (.int x1), .val (.long x2), .second, .val (.ref b2), .val (.int vf), .val (.int vl), .val (.int vt), .val (.int (3 : Int32)), .val (.int vn0), .val (.int vn1), .val (.int vn2), .val (.ref r236), .val (.ref b241), .val (.int (own_is3 vt vf el0 (vn0.toInt8.toInt32) el1 (vn1.toInt8.toInt32) el2 (vn2.toInt8.toInt32))), .unset] [])) _
        refine XS.iload X267.here hx rfl (hb hby at_220) rfl ?_
        show Steps p.tables e below (T267.setTop (mkF m 222 #[.val (.long x0), .second, .val (.int x1), .val (.long x2), .second, .val (.ref b2), .val (.int vf), .val (.int vl), .val (.int vt), .val (.int (3 : Int32)), .val (.int vn0), .val (.int vn1), .val (.int vn2), .val (.ref r236), .val (.ref b241), .val (.int (own_is3 vt vf el0 (vn0.toInt8.toInt32) el1 (vn1.toInt8.toInt32) el2 (vn2.toInt8.toInt32))), .unset] [(.int vn0)])) _
        refine XS.aload X267.here hx rfl (hb hby at_222) rfl rfl ?_
        show Steps p.tables e below (T267.setTop (mkF m 224 #[.val (.long x0), .second, .val (.int x1), .val (.long x2), .second, .val (.ref b2), .val (.int vf), .val (.int vl), .val (.int vt), .val (.int (3 : Int32)), .val (.int vn0), .val (.int vn1), .val (.int vn2), .val (.ref r236), .val (.ref b241), .val (.int (own_is3 vt vf el0 (vn0.toInt8.toInt32) el1 (vn1.toInt8.toInt32) el2 (vn2.toInt8.toInt32))), .unset] [(.ref b2), (.int vn0)])) _
        refine XS.iload X267.here hx rfl (hb hby at_224) rfl ?_
        exact k)
      obtain ⟨cb271, Ab271, ⟨i0271, t0271⟩, ⟨i1271, t1271⟩, ⟨i2271, t2271⟩⟩ := id f262
      have p272 : ∀ t, Steps p.tables e below (T267.setTop (mkF m 227 #[.val (.long x0), .second, .val (.int x1), .val (.long x2), .second, .val (.ref b2), .val (.int vf), .val (.int vl), .val (.int vt), .val (.int (3 : Int32)), .val (.int vn0), .val (.int vn1), .val (.int vn2), .val (.ref r236), .val (.ref b241), .val (.int (own_is3 vt vf el0 (vn0.toInt8.toInt32) el1 (vn1.toInt8.toInt32) el2 (vn2.toInt8.toInt32))), .unset] [(.int el0), (.int vn0)])) t → Steps p.tables e below (s₁.setTop (entryFrame m #[(.long x0), (.int x1), (.long x2)] maxLocals)) t := fun t k => p270 t (by
        show Steps p.tables e below (T267.setTop (mkF m 226 #[.val (.long x0), .second, .val (.int x1), .val (.long x2), .second, .val (.ref b2), .val (.int vf), .val (.int vl), .val (.int vt), .val (.int (3 : Int32)), .val (.int vn0), .val (.int vn1), .val (.int vn2), .val (.ref r236), .val (.ref b241), .val (.int (own_is3 vt vf el0 (vn0.toInt8.toInt32) el1 (vn1.toInt8.toInt32) el2 (vn2.toInt8.toInt32))), .unset] [(.int vf), (.ref b2), (.int vn0)])) _
        refine X267.baloadBytes hx (j := vf) (v := (.int el0)) (by rw [e267]; exact Ab271.1) (State.isArrayOf_alike hZ.alike Ab271.2.1) Ab271.2.2 i0271 t0271 (g := (mkF m 226 #[.val (.long x0), .second, .val (.int x1), .val (.long x2), .second, .val (.ref b2), .val (.int vf), .val (.int vl), .val (.int vt), .val (.int (3 : Int32)), .val (.int vn0), .val (.int vn1), .val (.int vn2), .val (.ref r236), .val (.ref b241), .val (.int (own_is3 vt vf el0 (vn0.toInt8.toInt32) el1 (vn1.toInt8.toInt32) el2 (vn2.toInt8.toInt32))), .unset] [(.int vf), (.ref b2), (.int vn0)])) rfl rfl (hb hby at_226) _ ?_
        exact k)
      by_cases hc227 : vn0 = el0
      · have p273 : ∀ t, Steps p.tables e below (T267.setTop (mkF m 244 #[.val (.long x0), .second, .val (.int x1), .val (.long x2), .second, .val (.ref b2), .val (.int vf), .val (.int vl), .val (.int vt), .val (.int (3 : Int32)), .val (.int vn0), .val (.int vn1), .val (.int vn2), .val (.ref r236), .val (.ref b241), .val (.int (own_is3 vt vf el0 (vn0.toInt8.toInt32) el1 (vn1.toInt8.toInt32) el2 (vn2.toInt8.toInt32))), .unset] [(.int (vf + (1 : Int32))), (.ref b2), (.int vn1)])) t → Steps p.tables e below (s₁.setTop (entryFrame m #[(.long x0), (.int x1), (.long x2)] maxLocals)) t := fun t k => p272 t (by
          show Steps p.tables e below (T267.setTop (mkF m 227 #[.val (.long x0), .second, .val (.int x1), .val (.long x2), .second, .val (.ref b2), .val (.int vf), .val (.int vl), .val (.int vt), .val (.int (3 : Int32)), .val (.int vn0), .val (.int vn1), .val (.int vn2), .val (.ref r236), .val (.ref b241), .val (.int (own_is3 vt vf el0 (vn0.toInt8.toInt32) el1 (vn1.toInt8.toInt32) el2 (vn2.toInt8.toInt32))), .unset] [(.int el0), (.int vn0)])) _
          refine XS.icmpNo X267.here hx rfl (hb hby at_227) rfl ((teq (hc227)).2) ?_
          show Steps p.tables e below (T267.setTop (mkF m 230 #[.val (.long x0), .second, .val (.int x1), .val (.long x2), .second, .val (.ref b2), .val (.int vf), .val (.int vl), .val (.int vt), .val (.int (3 : Int32)), .val (.int vn0), .val (.int vn1), .val (.int vn2), .val (.ref r236), .val (.ref b241), .val (.int (own_is3 vt vf el0 (vn0.toInt8.toInt32) el1 (vn1.toInt8.toInt32) el2 (vn2.toInt8.toInt32))), .unset] [])) _
          refine XS.iload X267.here hx rfl (hb hby at_230) rfl ?_
          show Steps p.tables e below (T267.setTop (mkF m 232 #[.val (.long x0), .second, .val (.int x1), .val (.long x2), .second, .val (.ref b2), .val (.int vf), .val (.int vl), .val (.int vt), .val (.int (3 : Int32)), .val (.int vn0), .val (.int vn1), .val (.int vn2), .val (.ref r236), .val (.ref b241), .val (.int (own_is3 vt vf el0 (vn0.toInt8.toInt32) el1 (vn1.toInt8.toInt32) el2 (vn2.toInt8.toInt32))), .unset] [(.int (3 : Int32))])) _
          refine XS.iconst X267.here hx rfl (hb hby at_232) ?_
          show Steps p.tables e below (T267.setTop (mkF m 233 #[.val (.long x0), .second, .val (.int x1), .val (.long x2), .second, .val (.ref b2), .val (.int vf), .val (.int vl), .val (.int vt), .val (.int (3 : Int32)), .val (.int vn0), .val (.int vn1), .val (.int vn2), .val (.ref r236), .val (.ref b241), .val (.int (own_is3 vt vf el0 (vn0.toInt8.toInt32) el1 (vn1.toInt8.toInt32) el2 (vn2.toInt8.toInt32))), .unset] [(.int (2 : Int32)), (.int (3 : Int32))])) _
          refine XS.icmpNo X267.here hx rfl (hb hby at_233) rfl ((flt (by decide)).1) ?_
          show Steps p.tables e below (T267.setTop (mkF m 236 #[.val (.long x0), .second, .val (.int x1), .val (.long x2), .second, .val (.ref b2), .val (.int vf), .val (.int vl), .val (.int vt), .val (.int (3 : Int32)), .val (.int vn0), .val (.int vn1), .val (.int vn2), .val (.ref r236), .val (.ref b241), .val (.int (own_is3 vt vf el0 (vn0.toInt8.toInt32) el1 (vn1.toInt8.toInt32) el2 (vn2.toInt8.toInt32))), .unset] [])) _
          refine XS.iload X267.here hx rfl (hb hby at_236) rfl ?_
          show Steps p.tables e below (T267.setTop (mkF m 238 #[.val (.long x0), .second, .val (.int x1), .val (.long x2), .second, .val (.ref b2), .val (.int vf), .val (.int vl), .val (.int vt), .val (.int (3 : Int32)), .val (.int vn0), .val (.int vn1), .val (.int vn2), .val (.ref r236), .val (.ref b241), .val (.int (own_is3 vt vf el0 (vn0.toInt8.toInt32) el1 (vn1.toInt8.toInt32) el2 (vn2.toInt8.toInt32))), .unset] [(.int vn1)])) _
          refine XS.aload X267.here hx rfl (hb hby at_238) rfl rfl ?_
          show Steps p.tables e below (T267.setTop (mkF m 240 #[.val (.long x0), .second, .val (.int x1), .val (.long x2), .second, .val (.ref b2), .val (.int vf), .val (.int vl), .val (.int vt), .val (.int (3 : Int32)), .val (.int vn0), .val (.int vn1), .val (.int vn2), .val (.ref r236), .val (.ref b241), .val (.int (own_is3 vt vf el0 (vn0.toInt8.toInt32) el1 (vn1.toInt8.toInt32) el2 (vn2.toInt8.toInt32))), .unset] [(.ref b2), (.int vn1)])) _
          refine XS.iload X267.here hx rfl (hb hby at_240) rfl ?_
          show Steps p.tables e below (T267.setTop (mkF m 242 #[.val (.long x0), .second, .val (.int x1), .val (.long x2), .second, .val (.ref b2), .val (.int vf), .val (.int vl), .val (.int vt), .val (.int (3 : Int32)), .val (.int vn0), .val (.int vn1), .val (.int vn2), .val (.ref r236), .val (.ref b241), .val (.int (own_is3 vt vf el0 (vn0.toInt8.toInt32) el1 (vn1.toInt8.toInt32) el2 (vn2.toInt8.toInt32))), .unset] [(.int vf), (.ref b2), (.int vn1)])) _
          refine XS.iconst X267.here hx rfl (hb hby at_242) ?_
          show Steps p.tables e below (T267.setTop (mkF m 243 #[.val (.long x0), .second, .val (.int x1), .val (.long x2), .second, .val (.ref b2), .val (.int vf), .val (.int vl), .val (.int vt), .val (.int (3 : Int32)), .val (.int vn0), .val (.int vn1), .val (.int vn2), .val (.ref r236), .val (.ref b241), .val (.int (own_is3 vt vf el0 (vn0.toInt8.toInt32) el1 (vn1.toInt8.toInt32) el2 (vn2.toInt8.toInt32))), .unset] [(.int (1 : Int32)), (.int vf), (.ref b2), (.int vn1)])) _
          refine XS.iadd X267.here hx rfl (hb hby at_243) rfl ?_
          exact k)
        obtain ⟨cb274, Ab274, ⟨i0274, t0274⟩, ⟨i1274, t1274⟩, ⟨i2274, t2274⟩⟩ := id f262
        have p275 : ∀ t, Steps p.tables e below (T267.setTop (mkF m 245 #[.val (.long x0), .second, .val (.int x1), .val (.long x2), .second, .val (.ref b2), .val (.int vf), .val (.int vl), .val (.int vt), .val (.int (3 : Int32)), .val (.int vn0), .val (.int vn1), .val (.int vn2), .val (.ref r236), .val (.ref b241), .val (.int (own_is3 vt vf el0 (vn0.toInt8.toInt32) el1 (vn1.toInt8.toInt32) el2 (vn2.toInt8.toInt32))), .unset] [(.int el1), (.int vn1)])) t → Steps p.tables e below (s₁.setTop (entryFrame m #[(.long x0), (.int x1), (.long x2)] maxLocals)) t := fun t k => p273 t (by
          show Steps p.tables e below (T267.setTop (mkF m 244 #[.val (.long x0), .second, .val (.int x1), .val (.long x2), .second, .val (.ref b2), .val (.int vf), .val (.int vl), .val (.int vt), .val (.int (3 : Int32)), .val (.int vn0), .val (.int vn1), .val (.int vn2), .val (.ref r236), .val (.ref b241), .val (.int (own_is3 vt vf el0 (vn0.toInt8.toInt32) el1 (vn1.toInt8.toInt32) el2 (vn2.toInt8.toInt32))), .unset] [(.int (vf + (1 : Int32))), (.ref b2), (.int vn1)])) _
          refine X267.baloadBytes hx (j := (vf + (1 : Int32))) (v := (.int el1)) (by rw [e267]; exact Ab274.1) (State.isArrayOf_alike hZ.alike Ab274.2.1) Ab274.2.2 i1274 t1274 (g := (mkF m 244 #[.val (.long x0), .second, .val (.int x1), .val (.long x2), .second, .val (.ref b2), .val (.int vf), .val (.int vl), .val (.int vt), .val (.int (3 : Int32)), .val (.int vn0), .val (.int vn1), .val (.int vn2), .val (.ref r236), .val (.ref b241), .val (.int (own_is3 vt vf el0 (vn0.toInt8.toInt32) el1 (vn1.toInt8.toInt32) el2 (vn2.toInt8.toInt32))), .unset] [(.int (vf + (1 : Int32))), (.ref b2), (.int vn1)])) rfl rfl (hb hby at_244) _ ?_
          exact k)
        by_cases hc245 : vn1 = el1
        · have p276 : ∀ t, Steps p.tables e below (T267.setTop (mkF m 262 #[.val (.long x0), .second, .val (.int x1), .val (.long x2), .second, .val (.ref b2), .val (.int vf), .val (.int vl), .val (.int vt), .val (.int (3 : Int32)), .val (.int vn0), .val (.int vn1), .val (.int vn2), .val (.ref r236), .val (.ref b241), .val (.int (own_is3 vt vf el0 (vn0.toInt8.toInt32) el1 (vn1.toInt8.toInt32) el2 (vn2.toInt8.toInt32))), .unset] [(.int (vf + (2 : Int32))), (.ref b2), (.int vn2)])) t → Steps p.tables e below (s₁.setTop (entryFrame m #[(.long x0), (.int x1), (.long x2)] maxLocals)) t := fun t k => p275 t (by
            show Steps p.tables e below (T267.setTop (mkF m 245 #[.val (.long x0), .second, .val (.int x1), .val (.long x2), .second, .val (.ref b2), .val (.int vf), .val (.int vl), .val (.int vt), .val (.int (3 : Int32)), .val (.int vn0), .val (.int vn1), .val (.int vn2), .val (.ref r236), .val (.ref b241), .val (.int (own_is3 vt vf el0 (vn0.toInt8.toInt32) el1 (vn1.toInt8.toInt32) el2 (vn2.toInt8.toInt32))), .unset] [(.int el1), (.int vn1)])) _
            refine XS.icmpNo X267.here hx rfl (hb hby at_245) rfl ((teq (hc245)).2) ?_
            show Steps p.tables e below (T267.setTop (mkF m 248 #[.val (.long x0), .second, .val (.int x1), .val (.long x2), .second, .val (.ref b2), .val (.int vf), .val (.int vl), .val (.int vt), .val (.int (3 : Int32)), .val (.int vn0), .val (.int vn1), .val (.int vn2), .val (.ref r236), .val (.ref b241), .val (.int (own_is3 vt vf el0 (vn0.toInt8.toInt32) el1 (vn1.toInt8.toInt32) el2 (vn2.toInt8.toInt32))), .unset] [])) _
            refine XS.iload X267.here hx rfl (hb hby at_248) rfl ?_
            show Steps p.tables e below (T267.setTop (mkF m 250 #[.val (.long x0), .second, .val (.int x1), .val (.long x2), .second, .val (.ref b2), .val (.int vf), .val (.int vl), .val (.int vt), .val (.int (3 : Int32)), .val (.int vn0), .val (.int vn1), .val (.int vn2), .val (.ref r236), .val (.ref b241), .val (.int (own_is3 vt vf el0 (vn0.toInt8.toInt32) el1 (vn1.toInt8.toInt32) el2 (vn2.toInt8.toInt32))), .unset] [(.int (3 : Int32))])) _
            refine XS.iconst X267.here hx rfl (hb hby at_250) ?_
            show Steps p.tables e below (T267.setTop (mkF m 251 #[.val (.long x0), .second, .val (.int x1), .val (.long x2), .second, .val (.ref b2), .val (.int vf), .val (.int vl), .val (.int vt), .val (.int (3 : Int32)), .val (.int vn0), .val (.int vn1), .val (.int vn2), .val (.ref r236), .val (.ref b241), .val (.int (own_is3 vt vf el0 (vn0.toInt8.toInt32) el1 (vn1.toInt8.toInt32) el2 (vn2.toInt8.toInt32))), .unset] [(.int (3 : Int32)), (.int (3 : Int32))])) _
            refine XS.icmpNo X267.here hx rfl (hb hby at_251) rfl ((flt (by decide)).1) ?_
            show Steps p.tables e below (T267.setTop (mkF m 254 #[.val (.long x0), .second, .val (.int x1), .val (.long x2), .second, .val (.ref b2), .val (.int vf), .val (.int vl), .val (.int vt), .val (.int (3 : Int32)), .val (.int vn0), .val (.int vn1), .val (.int vn2), .val (.ref r236), .val (.ref b241), .val (.int (own_is3 vt vf el0 (vn0.toInt8.toInt32) el1 (vn1.toInt8.toInt32) el2 (vn2.toInt8.toInt32))), .unset] [])) _
            refine XS.iload X267.here hx rfl (hb hby at_254) rfl ?_
            show Steps p.tables e below (T267.setTop (mkF m 256 #[.val (.long x0), .second, .val (.int x1), .val (.long x2), .second, .val (.ref b2), .val (.int vf), .val (.int vl), .val (.int vt), .val (.int (3 : Int32)), .val (.int vn0), .val (.int vn1), .val (.int vn2), .val (.ref r236), .val (.ref b241), .val (.int (own_is3 vt vf el0 (vn0.toInt8.toInt32) el1 (vn1.toInt8.toInt32) el2 (vn2.toInt8.toInt32))), .unset] [(.int vn2)])) _
            refine XS.aload X267.here hx rfl (hb hby at_256) rfl rfl ?_
            show Steps p.tables e below (T267.setTop (mkF m 258 #[.val (.long x0), .second, .val (.int x1), .val (.long x2), .second, .val (.ref b2), .val (.int vf), .val (.int vl), .val (.int vt), .val (.int (3 : Int32)), .val (.int vn0), .val (.int vn1), .val (.int vn2), .val (.ref r236), .val (.ref b241), .val (.int (own_is3 vt vf el0 (vn0.toInt8.toInt32) el1 (vn1.toInt8.toInt32) el2 (vn2.toInt8.toInt32))), .unset] [(.ref b2), (.int vn2)])) _
            refine XS.iload X267.here hx rfl (hb hby at_258) rfl ?_
            show Steps p.tables e below (T267.setTop (mkF m 260 #[.val (.long x0), .second, .val (.int x1), .val (.long x2), .second, .val (.ref b2), .val (.int vf), .val (.int vl), .val (.int vt), .val (.int (3 : Int32)), .val (.int vn0), .val (.int vn1), .val (.int vn2), .val (.ref r236), .val (.ref b241), .val (.int (own_is3 vt vf el0 (vn0.toInt8.toInt32) el1 (vn1.toInt8.toInt32) el2 (vn2.toInt8.toInt32))), .unset] [(.int vf), (.ref b2), (.int vn2)])) _
            refine XS.iconst X267.here hx rfl (hb hby at_260) ?_
            show Steps p.tables e below (T267.setTop (mkF m 261 #[.val (.long x0), .second, .val (.int x1), .val (.long x2), .second, .val (.ref b2), .val (.int vf), .val (.int vl), .val (.int vt), .val (.int (3 : Int32)), .val (.int vn0), .val (.int vn1), .val (.int vn2), .val (.ref r236), .val (.ref b241), .val (.int (own_is3 vt vf el0 (vn0.toInt8.toInt32) el1 (vn1.toInt8.toInt32) el2 (vn2.toInt8.toInt32))), .unset] [(.int (2 : Int32)), (.int vf), (.ref b2), (.int vn2)])) _
            refine XS.iadd X267.here hx rfl (hb hby at_261) rfl ?_
            exact k)
          obtain ⟨cb277, Ab277, ⟨i0277, t0277⟩, ⟨i1277, t1277⟩, ⟨i2277, t2277⟩⟩ := id f262
          have p278 : ∀ t, Steps p.tables e below (T267.setTop (mkF m 263 #[.val (.long x0), .second, .val (.int x1), .val (.long x2), .second, .val (.ref b2), .val (.int vf), .val (.int vl), .val (.int vt), .val (.int (3 : Int32)), .val (.int vn0), .val (.int vn1), .val (.int vn2), .val (.ref r236), .val (.ref b241), .val (.int (own_is3 vt vf el0 (vn0.toInt8.toInt32) el1 (vn1.toInt8.toInt32) el2 (vn2.toInt8.toInt32))), .unset] [(.int el2), (.int vn2)])) t → Steps p.tables e below (s₁.setTop (entryFrame m #[(.long x0), (.int x1), (.long x2)] maxLocals)) t := fun t k => p276 t (by
            show Steps p.tables e below (T267.setTop (mkF m 262 #[.val (.long x0), .second, .val (.int x1), .val (.long x2), .second, .val (.ref b2), .val (.int vf), .val (.int vl), .val (.int vt), .val (.int (3 : Int32)), .val (.int vn0), .val (.int vn1), .val (.int vn2), .val (.ref r236), .val (.ref b241), .val (.int (own_is3 vt vf el0 (vn0.toInt8.toInt32) el1 (vn1.toInt8.toInt32) el2 (vn2.toInt8.toInt32))), .unset] [(.int (vf + (2 : Int32))), (.ref b2), (.int vn2)])) _
            refine X267.baloadBytes hx (j := (vf + (2 : Int32))) (v := (.int el2)) (by rw [e267]; exact Ab277.1) (State.isArrayOf_alike hZ.alike Ab277.2.1) Ab277.2.2 i2277 t2277 (g := (mkF m 262 #[.val (.long x0), .second, .val (.int x1), .val (.long x2), .second, .val (.ref b2), .val (.int vf), .val (.int vl), .val (.int vt), .val (.int (3 : Int32)), .val (.int vn0), .val (.int vn1), .val (.int vn2), .val (.ref r236), .val (.ref b241), .val (.int (own_is3 vt vf el0 (vn0.toInt8.toInt32) el1 (vn1.toInt8.toInt32) el2 (vn2.toInt8.toInt32))), .unset] [(.int (vf + (2 : Int32))), (.ref b2), (.int vn2)])) rfl rfl (hb hby at_262) _ ?_
            exact k)
          by_cases hc263 : vn2 = el2
          · have p279 : ∀ t, Steps p.tables e below (T267.setTop (mkF m 282 #[.val (.long x0), .second, .val (.int x1), .val (.long x2), .second, .val (.ref b2), .val (.int vf), .val (.int vl), .val (.int vt), .val (.int (3 : Int32)), .val (.int vn0), .val (.int vn1), .val (.int vn2), .val (.ref r236), .val (.ref b241), .val (.int (own_is3 vt vf el0 (vn0.toInt8.toInt32) el1 (vn1.toInt8.toInt32) el2 (vn2.toInt8.toInt32))), .val (.int (1 : Int32))] [(.ref b241)])) t → Steps p.tables e below (s₁.setTop (entryFrame m #[(.long x0), (.int x1), (.long x2)] maxLocals)) t := fun t k => p278 t (by
              show Steps p.tables e below (T267.setTop (mkF m 263 #[.val (.long x0), .second, .val (.int x1), .val (.long x2), .second, .val (.ref b2), .val (.int vf), .val (.int vl), .val (.int vt), .val (.int (3 : Int32)), .val (.int vn0), .val (.int vn1), .val (.int vn2), .val (.ref r236), .val (.ref b241), .val (.int (own_is3 vt vf el0 (vn0.toInt8.toInt32) el1 (vn1.toInt8.toInt32) el2 (vn2.toInt8.toInt32))), .unset] [(.int el2), (.int vn2)])) _
              refine XS.icmpNo X267.here hx rfl (hb hby at_263) rfl ((teq (hc263)).2) ?_
              show Steps p.tables e below (T267.setTop (mkF m 266 #[.val (.long x0), .second, .val (.int x1), .val (.long x2), .second, .val (.ref b2), .val (.int vf), .val (.int vl), .val (.int vt), .val (.int (3 : Int32)), .val (.int vn0), .val (.int vn1), .val (.int vn2), .val (.ref r236), .val (.ref b241), .val (.int (own_is3 vt vf el0 (vn0.toInt8.toInt32) el1 (vn1.toInt8.toInt32) el2 (vn2.toInt8.toInt32))), .unset] [])) _
              refine XS.iconst X267.here hx rfl (hb hby at_266) ?_
              show Steps p.tables e below (T267.setTop (mkF m 267 #[.val (.long x0), .second, .val (.int x1), .val (.long x2), .second, .val (.ref b2), .val (.int vf), .val (.int vl), .val (.int vt), .val (.int (3 : Int32)), .val (.int vn0), .val (.int vn1), .val (.int vn2), .val (.ref r236), .val (.ref b241), .val (.int (own_is3 vt vf el0 (vn0.toInt8.toInt32) el1 (vn1.toInt8.toInt32) el2 (vn2.toInt8.toInt32))), .unset] [(.int (1 : Int32))])) _
              refine XS.goto X267.here hx rfl (pc0 := 267) (pc' := 271) rfl (hb hby at_267) (by decide) (by decide) ?_
              show Steps p.tables e below (T267.setTop (mkF m 271 #[.val (.long x0), .second, .val (.int x1), .val (.long x2), .second, .val (.ref b2), .val (.int vf), .val (.int vl), .val (.int vt), .val (.int (3 : Int32)), .val (.int vn0), .val (.int vn1), .val (.int vn2), .val (.ref r236), .val (.ref b241), .val (.int (own_is3 vt vf el0 (vn0.toInt8.toInt32) el1 (vn1.toInt8.toInt32) el2 (vn2.toInt8.toInt32))), .unset] [(.int (1 : Int32))])) _
              refine XS.istore X267.here hx rfl (hb hby at_271) rfl (l' := #[.val (.long x0), .second, .val (.int x1), .val (.long x2), .second, .val (.ref b2), .val (.int vf), .val (.int vl), .val (.int vt), .val (.int (3 : Int32)), .val (.int vn0), .val (.int vn1), .val (.int vn2), .val (.ref r236), .val (.ref b241), .val (.int (own_is3 vt vf el0 (vn0.toInt8.toInt32) el1 (vn1.toInt8.toInt32) el2 (vn2.toInt8.toInt32))), .val (.int (1 : Int32))]) rfl ?_
              show Steps p.tables e below (T267.setTop (mkF m 273 #[.val (.long x0), .second, .val (.int x1), .val (.long x2), .second, .val (.ref b2), .val (.int vf), .val (.int vl), .val (.int vt), .val (.int (3 : Int32)), .val (.int vn0), .val (.int vn1), .val (.int vn2), .val (.ref r236), .val (.ref b241), .val (.int (own_is3 vt vf el0 (vn0.toInt8.toInt32) el1 (vn1.toInt8.toInt32) el2 (vn2.toInt8.toInt32))), .val (.int (1 : Int32))] [])) _
              refine XS.iload X267.here hx rfl (hb hby at_273) rfl ?_
              show Steps p.tables e below (T267.setTop (mkF m 275 #[.val (.long x0), .second, .val (.int x1), .val (.long x2), .second, .val (.ref b2), .val (.int vf), .val (.int vl), .val (.int vt), .val (.int (3 : Int32)), .val (.int vn0), .val (.int vn1), .val (.int vn2), .val (.ref r236), .val (.ref b241), .val (.int (own_is3 vt vf el0 (vn0.toInt8.toInt32) el1 (vn1.toInt8.toInt32) el2 (vn2.toInt8.toInt32))), .val (.int (1 : Int32))] [(.int (own_is3 vt vf el0 (vn0.toInt8.toInt32) el1 (vn1.toInt8.toInt32) el2 (vn2.toInt8.toInt32)))])) _
              refine XS.iload X267.here hx rfl (hb hby at_275) rfl ?_
              show Steps p.tables e below (T267.setTop (mkF m 277 #[.val (.long x0), .second, .val (.int x1), .val (.long x2), .second, .val (.ref b2), .val (.int vf), .val (.int vl), .val (.int vt), .val (.int (3 : Int32)), .val (.int vn0), .val (.int vn1), .val (.int vn2), .val (.ref r236), .val (.ref b241), .val (.int (own_is3 vt vf el0 (vn0.toInt8.toInt32) el1 (vn1.toInt8.toInt32) el2 (vn2.toInt8.toInt32))), .val (.int (1 : Int32))] [(.int (1 : Int32)), (.int (own_is3 vt vf el0 (vn0.toInt8.toInt32) el1 (vn1.toInt8.toInt32) el2 (vn2.toInt8.toInt32)))])) _
              refine XS.icmpNo X267.here hx rfl (hb hby at_277) rfl ((teq (by unfold own_is3; rw [if_pos ((own_sub hvt).trans hc211), if_pos ((Eq.symm hc227).trans hvn0.symm), if_pos ((Eq.symm hc245).trans hvn1.symm), if_pos ((Eq.symm hc263).trans hvn2.symm)])).2) ?_
              show Steps p.tables e below (T267.setTop (mkF m 280 #[.val (.long x0), .second, .val (.int x1), .val (.long x2), .second, .val (.ref b2), .val (.int vf), .val (.int vl), .val (.int vt), .val (.int (3 : Int32)), .val (.int vn0), .val (.int vn1), .val (.int vn2), .val (.ref r236), .val (.ref b241), .val (.int (own_is3 vt vf el0 (vn0.toInt8.toInt32) el1 (vn1.toInt8.toInt32) el2 (vn2.toInt8.toInt32))), .val (.int (1 : Int32))] [])) _
              refine XS.aload X267.here hx rfl (hb hby at_280) rfl rfl ?_
              exact k)
            obtain ⟨cq280, kq280, qa280, qb280, qc280⟩ := isOf hZ e267 f264
            obtain ⟨_, _, ⟨T280, L280, k280, n280⟩, -, X280, ⟨Lc280, hQ280, l280, y280, z280⟩, st280⟩ := X267.virtualBack hx (y := (⟨"com/example/kinwarden/kinwarden/NameBytes", "from", "()I"⟩ : MethodName)) (z := (⟨"com/example/kinwarden/kinwarden/NameBytes", "from", "()I"⟩ : MethodName)) hown (mvT hZ (hw _ (List.mem_of_getElem? (i := 34) rfl))) (mvT hZ (hw _ (List.mem_of_getElem? (i := 35) rfl))) (notFace_of_selects (args := #[]) (mvT hZ (hw _ (List.mem_of_getElem? (i := 37) rfl)))) (mvT hZ (hw _ (List.mem_of_getElem? (i := 37) rfl))) (mvT hZ (hw _ (List.mem_of_getElem? (i := 36) rfl))) (by decide) (backOf (W := 0) (rmF l Z a0 hw [] b241 vf T260.heap n0 Z260 Fb260) hZ (hw _ (List.mem_of_getElem? (i := 38) rfl)) (hw _ (List.mem_of_getElem? (i := 7) rfl)) (by decide) (by decide)) qa280 qc280 (g := (mkF m 282 #[.val (.long x0), .second, .val (.int x1), .val (.long x2), .second, .val (.ref b2), .val (.int vf), .val (.int vl), .val (.int vt), .val (.int (3 : Int32)), .val (.int vn0), .val (.int vn1), .val (.int vn2), .val (.ref r236), .val (.ref b241), .val (.int (own_is3 vt vf el0 (vn0.toInt8.toInt32) el1 (vn1.toInt8.toInt32) el2 (vn2.toInt8.toInt32))), .val (.int (1 : Int32))] [(.ref b241)])) rfl (by rw [hml]; rfl) (Steps.refl _) (argsL := []) (rest := []) (lenOf pd0_4 rfl) rfl (by show 2 * 0 + _ ≤ _; exact Nat.le_of_eq rfl) (hb hby at_282) (fun _ _ => ⟨rfl, e267, (by decide : 3 + 0 ≤ _), (by decide : 13 + 0 ≤ _)⟩)
            dsimp only [Pt.U, Pt.locs, Pt.cells, Pt.slots] at X280 l280 y280 z280 st280 hQ280
            subst l280 y280 z280
            obtain ⟨rfl, Nq280, e280⟩ := hQ280
            have N280 := Fr.app N267 Nq280
            have p281 : ∀ t, Steps p.tables e below (T280.setTop (mkF m 285 #[.val (.long x0), .second, .val (.int x1), .val (.long x2), .second, .val (.ref b2), .val (.int vf), .val (.int vl), .val (.int vt), .val (.int (3 : Int32)), .val (.int vn0), .val (.int vn1), .val (.int vn2), .val (.ref r236), .val (.ref b241), .val (.int (own_is3 vt vf el0 (vn0.toInt8.toInt32) el1 (vn1.toInt8.toInt32) el2 (vn2.toInt8.toInt32))), .val (.int (1 : Int32))] [(.int vf)])) t → Steps p.tables e below (s₁.setTop (entryFrame m #[(.long x0), (.int x1), (.long x2)] maxLocals)) t := fun t k => p279 t (st280.trans k)
            have p282 : ∀ t, Steps p.tables e below (T280.setTop (mkF m 292 #[.val (.long x0), .second, .val (.int x1), .val (.long x2), .second, .val (.ref b2), .val (.int vf), .val (.int vl), .val (.int vt), .val (.int (3 : Int32)), .val (.int vn0), .val (.int vn1), .val (.int vn2), .val (.ref r236), .val (.ref b241), .val (.int (own_is3 vt vf el0 (vn0.toInt8.toInt32) el1 (vn1.toInt8.toInt32) el2 (vn2.toInt8.toInt32))), .val (.int (1 : Int32))] [(.ref b241)])) t → Steps p.tables e below (s₁.setTop (entryFrame m #[(.long x0), (.int x1), (.long x2)] maxLocals)) t := fun t k => p281 t (by
              show Steps p.tables e below (T280.setTop (mkF m 285 #[.val (.long x0), .second, .val (.int x1), .val (.long x2), .second, .val (.ref b2), .val (.int vf), .val (.int vl), .val (.int vt), .val (.int (3 : Int32)), .val (.int vn0), .val (.int vn1), .val (.int vn2), .val (.ref r236), .val (.ref b241), .val (.int (own_is3 vt vf el0 (vn0.toInt8.toInt32) el1 (vn1.toInt8.toInt32) el2 (vn2.toInt8.toInt32))), .val (.int (1 : Int32))] [(.int vf)])) _
              refine XS.iload X280.here hx rfl (hb hby at_285) rfl ?_
              show Steps p.tables e below (T280.setTop (mkF m 287 #[.val (.long x0), .second, .val (.int x1), .val (.long x2), .second, .val (.ref b2), .val (.int vf), .val (.int vl), .val (.int vt), .val (.int (3 : Int32)), .val (.int vn0), .val (.int vn1), .val (.int vn2), .val (.ref r236), .val (.ref b241), .val (.int (own_is3 vt vf el0 (vn0.toInt8.toInt32) el1 (vn1.toInt8.toInt32) el2 (vn2.toInt8.toInt32))), .val (.int (1 : Int32))] [(.int vf), (.int vf)])) _
              refine XS.icmpNo X280.here hx rfl (hb hby at_287) rfl ((teq (rfl)).2) ?_
              show Steps p.tables e below (T280.setTop (mkF m 290 #[.val (.long x0), .second, .val (.int x1), .val (.long x2), .second, .val (.ref b2), .val (.int vf), .val (.int vl), .val (.int vt), .val (.int (3 : Int32)), .val (.int vn0), .val (.int vn1), .val (.int vn2), .val (.ref r236), .val (.ref b241), .val (.int (own_is3 vt vf el0 (vn0.toInt8.toInt32) el1 (vn1.toInt8.toInt32) el2 (vn2.toInt8.toInt32))), .val (.int (1 : Int32))] [])) _
              refine XS.aload X280.here hx rfl (hb hby at_290) rfl rfl ?_
              exact k)
            obtain ⟨cq283, kq283, qa283, qb283, qc283⟩ := isOf hZ e280 f264
            obtain ⟨_, _, ⟨T283, L283, k283, n283⟩, -, X283, ⟨Lc283, hQ283, l283, y283, z283⟩, st283⟩ := X280.virtualBack hx (y := (⟨"com/example/kinwarden/kinwarden/NameBytes", "to", "()I"⟩ : MethodName)) (z := (⟨"com/example/kinwarden/kinwarden/NameBytes", "to", "()I"⟩ : MethodName)) hown (mvT hZ (hw _ (List.mem_of_getElem? (i := 39) rfl))) (mvT hZ (hw _ (List.mem_of_getElem? (i := 40) rfl))) (notFace_of_selects (args := #[]) (mvT hZ (hw _ (List.mem_of_getElem? (i := 42) rfl)))) (mvT hZ (hw _ (List.mem_of_getElem? (i := 42) rfl))) (mvT hZ (hw _ (List.mem_of_getElem? (i := 41) rfl))) (by decide) (backOf (W := 0) (rmT l Z a0 hw [] b241 vt T260.heap n0 Z260 Fc260) hZ (hw _ (List.mem_of_getElem? (i := 43) rfl)) (hw _ (List.mem_of_getElem? (i := 7) rfl)) (by decide) (by decide)) qa283 qc283 (g := (mkF m 292 #[.val (.long x0), .second, .val (.int x1), .val (.long x2), .second, .val (.ref b2), .val (.int vf), .val (.int vl), .val (.int vt), .val (.int (3 : Int32)), .val (.int vn0), .val (.int vn1), .val (.int vn2), .val (.ref r236), .val (.ref b241), .val (.int (own_is3 vt vf el0 (vn0.toInt8.toInt32) el1 (vn1.toInt8.toInt32) el2 (vn2.toInt8.toInt32))), .val (.int (1 : Int32))] [(.ref b241)])) rfl (by rw [hml]; rfl) (Steps.refl _) (argsL := []) (rest := []) (lenOf pd0_4 rfl) rfl (by show 2 * 0 + _ ≤ _; exact Nat.le_of_eq rfl) (hb hby at_292) (fun _ _ => ⟨rfl, e280, (by decide : 3 + 0 ≤ _), (by decide : 13 + 0 ≤ _)⟩)
            dsimp only [Pt.U, Pt.locs, Pt.cells, Pt.slots] at X283 l283 y283 z283 st283 hQ283
            subst l283 y283 z283
            obtain ⟨rfl, Nq283, e283⟩ := hQ283
            have N283 := Fr.app N280 Nq283
            have p284 : ∀ t, Steps p.tables e below (T283.setTop (mkF m 295 #[.val (.long x0), .second, .val (.int x1), .val (.long x2), .second, .val (.ref b2), .val (.int vf), .val (.int vl), .val (.int vt), .val (.int (3 : Int32)), .val (.int vn0), .val (.int vn1), .val (.int vn2), .val (.ref r236), .val (.ref b241), .val (.int (own_is3 vt vf el0 (vn0.toInt8.toInt32) el1 (vn1.toInt8.toInt32) el2 (vn2.toInt8.toInt32))), .val (.int (1 : Int32))] [(.int vt)])) t → Steps p.tables e below (s₁.setTop (entryFrame m #[(.long x0), (.int x1), (.long x2)] maxLocals)) t := fun t k => p282 t (st283.trans k)
            have p285 : ∀ t, Steps p.tables e below (T283.setTop (mkF m 305 #[.val (.long x0), .second, .val (.int x1), .val (.long x2), .second, .val (.ref b2), .val (.int vf), .val (.int vl), .val (.int vt), .val (.int (3 : Int32)), .val (.int vn0), .val (.int vn1), .val (.int vn2), .val (.ref r236), .val (.ref b241), .val (.int (own_is3 vt vf el0 (vn0.toInt8.toInt32) el1 (vn1.toInt8.toInt32) el2 (vn2.toInt8.toInt32))), .val (.int (1 : Int32))] [(.int (1 : Int32))])) t → Steps p.tables e below (s₁.setTop (entryFrame m #[(.long x0), (.int x1), (.long x2)] maxLocals)) t := fun t k => p284 t (by
              show Steps p.tables e below (T283.setTop (mkF m 295 #[.val (.long x0), .second, .val (.int x1), .val (.long x2), .second, .val (.ref b2), .val (.int vf), .val (.int vl), .val (.int vt), .val (.int (3 : Int32)), .val (.int vn0), .val (.int vn1), .val (.int vn2), .val (.ref r236), .val (.ref b241), .val (.int (own_is3 vt vf el0 (vn0.toInt8.toInt32) el1 (vn1.toInt8.toInt32) el2 (vn2.toInt8.toInt32))), .val (.int (1 : Int32))] [(.int vt)])) _
              refine XS.iload X283.here hx rfl (hb hby at_295) rfl ?_
              show Steps p.tables e below (T283.setTop (mkF m 297 #[.val (.long x0), .second, .val (.int x1), .val (.long x2), .second, .val (.ref b2), .val (.int vf), .val (.int vl), .val (.int vt), .val (.int (3 : Int32)), .val (.int vn0), .val (.int vn1), .val (.int vn2), .val (.ref r236), .val (.ref b241), .val (.int (own_is3 vt vf el0 (vn0.toInt8.toInt32) el1 (vn1.toInt8.toInt32) el2 (vn2.toInt8.toInt32))), .val (.int (1 : Int32))] [(.int vt), (.int vt)])) _
              refine XS.icmpNo X283.here hx rfl (hb hby at_297) rfl ((teq (rfl)).2) ?_
              show Steps p.tables e below (T283.setTop (mkF m 300 #[.val (.long x0), .second, .val (.int x1), .val (.long x2), .second, .val (.ref b2), .val (.int vf), .val (.int vl), .val (.int vt), .val (.int (3 : Int32)), .val (.int vn0), .val (.int vn1), .val (.int vn2), .val (.ref r236), .val (.ref b241), .val (.int (own_is3 vt vf el0 (vn0.toInt8.toInt32) el1 (vn1.toInt8.toInt32) el2 (vn2.toInt8.toInt32))), .val (.int (1 : Int32))] [])) _
              refine XS.iconst X283.here hx rfl (hb hby at_300) ?_
              show Steps p.tables e below (T283.setTop (mkF m 301 #[.val (.long x0), .second, .val (.int x1), .val (.long x2), .second, .val (.ref b2), .val (.int vf), .val (.int vl), .val (.int vt), .val (.int (3 : Int32)), .val (.int vn0), .val (.int vn1), .val (.int vn2), .val (.ref r236), .val (.ref b241), .val (.int (own_is3 vt vf el0 (vn0.toInt8.toInt32) el1 (vn1.toInt8.toInt32) el2 (vn2.toInt8.toInt32))), .val (.int (1 : Int32))] [(.int (1 : Int32))])) _
              refine XS.goto X283.here hx rfl (pc0 := 301) (pc' := 305) rfl (hb hby at_301) (by decide) (by decide) ?_
              exact k)
            obtain ⟨fs, hr, hrun, hended, hW, hsame⟩ := X283.leave (v := some (.int (1 : Int32))) (fun h => by rw [Bd.returns] at h; cases h)
            refine ⟨_, _, p285 _ ?_, hrun, hended, _, _, rfl, ?_, ⟨_, rfl⟩, hW, hsame.mono (by decide) (by decide)⟩
            · show Steps p.tables e below (T283.setTop (mkF m 305 #[.val (.long x0), .second, .val (.int x1), .val (.long x2), .second, .val (.ref b2), .val (.int vf), .val (.int vl), .val (.int vt), .val (.int (3 : Int32)), .val (.int vn0), .val (.int vn1), .val (.int vn2), .val (.ref r236), .val (.ref b241), .val (.int (own_is3 vt vf el0 (vn0.toInt8.toInt32) el1 (vn1.toInt8.toInt32) el2 (vn2.toInt8.toInt32))), .val (.int (1 : Int32))] [(.int (1 : Int32))])) _
              exact retN X283 hx (t := .boolean) Bd.returns (by simp) (hb hby at_305) hr
            · show Q0 Z x0 x1 x2 a_E h0 n0 _ T283.heap _
              rw [e283]
              exact ⟨rfl, N283⟩
          · have p286 : ∀ t, Steps p.tables e below (T267.setTop (mkF m 282 #[.val (.long x0), .second, .val (.int x1), .val (.long x2), .second, .val (.ref b2), .val (.int vf), .val (.int vl), .val (.int vt), .val (.int (3 : Int32)), .val (.int vn0), .val (.int vn1), .val (.int vn2), .val (.ref r236), .val (.ref b241), .val (.int (own_is3 vt vf el0 (vn0.toInt8.toInt32) el1 (vn1.toInt8.toInt32) el2 (vn2.toInt8.toInt32))), .val (.int (0 : Int32))] [(.ref b241)])) t → Steps p.tables e below (s₁.setTop (entryFrame m #[(.long x0), (.int x1), (.long x2)] maxLocals)) t := fun t k => p278 t (by
              show Steps p.tables e below (T267.setTop (mkF m 263 #[.val (.long x0), .second, .val (.int x1), .val (.long x2), .second, .val (.ref b2), .val (.int vf), .val (.int vl), .val (.int vt), .val (.int (3 : Int32)), .val (.int vn0), .val (.int vn1), .val (.int vn2), .val (.ref r236), .val (.ref b241), .val (.int (own_is3 vt vf el0 (vn0.toInt8.toInt32) el1 (vn1.toInt8.toInt32) el2 (vn2.toInt8.toInt32))), .unset] [(.int el2), (.int vn2)])) _
              refine XS.icmpYes X267.here hx rfl (pc0 := 263) (pc' := 270) rfl (hb hby at_263) rfl ((feq (hc263)).2) (by decide) (by decide) ?_
              show Steps p.tables e below (T267.setTop (mkF m 270 #[.val (.long x0), .second, .val (.int x1), .val (.long x2), .second, .val (.ref b2), .val (.int vf), .val (.int vl), .val (.int vt), .val (.int (3 : Int32)), .val (.int vn0), .val (.int vn1), .val (.int vn2), .val (.ref r236), .val (.ref b241), .val (.int (own_is3 vt vf el0 (vn0.toInt8.toInt32) el1 (vn1.toInt8.toInt32) el2 (vn2.toInt8.toInt32))), .unset] [])) _
              refine XS.iconst X267.here hx rfl (hb hby at_270) ?_
              show Steps p.tables e below (T267.setTop (mkF m 271 #[.val (.long x0), .second, .val (.int x1), .val (.long x2), .second, .val (.ref b2), .val (.int vf), .val (.int vl), .val (.int vt), .val (.int (3 : Int32)), .val (.int vn0), .val (.int vn1), .val (.int vn2), .val (.ref r236), .val (.ref b241), .val (.int (own_is3 vt vf el0 (vn0.toInt8.toInt32) el1 (vn1.toInt8.toInt32) el2 (vn2.toInt8.toInt32))), .unset] [(.int (0 : Int32))])) _
              refine XS.istore X267.here hx rfl (hb hby at_271) rfl (l' := #[.val (.long x0), .second, .val (.int x1), .val (.long x2), .second, .val (.ref b2), .val (.int vf), .val (.int vl), .val (.int vt), .val (.int (3 : Int32)), .val (.int vn0), .val (.int vn1), .val (.int vn2), .val (.ref r236), .val (.ref b241), .val (.int (own_is3 vt vf el0 (vn0.toInt8.toInt32) el1 (vn1.toInt8.toInt32) el2 (vn2.toInt8.toInt32))), .val (.int (0 : Int32))]) rfl ?_
              show Steps p.tables e below (T267.setTop (mkF m 273 #[.val (.long x0), .second, .val (.int x1), .val (.long x2), .second, .val (.ref b2), .val (.int vf), .val (.int vl), .val (.int vt), .val (.int (3 : Int32)), .val (.int vn0), .val (.int vn1), .val (.int vn2), .val (.ref r236), .val (.ref b241), .val (.int (own_is3 vt vf el0 (vn0.toInt8.toInt32) el1 (vn1.toInt8.toInt32) el2 (vn2.toInt8.toInt32))), .val (.int (0 : Int32))] [])) _
              refine XS.iload X267.here hx rfl (hb hby at_273) rfl ?_
              show Steps p.tables e below (T267.setTop (mkF m 275 #[.val (.long x0), .second, .val (.int x1), .val (.long x2), .second, .val (.ref b2), .val (.int vf), .val (.int vl), .val (.int vt), .val (.int (3 : Int32)), .val (.int vn0), .val (.int vn1), .val (.int vn2), .val (.ref r236), .val (.ref b241), .val (.int (own_is3 vt vf el0 (vn0.toInt8.toInt32) el1 (vn1.toInt8.toInt32) el2 (vn2.toInt8.toInt32))), .val (.int (0 : Int32))] [(.int (own_is3 vt vf el0 (vn0.toInt8.toInt32) el1 (vn1.toInt8.toInt32) el2 (vn2.toInt8.toInt32)))])) _
              refine XS.iload X267.here hx rfl (hb hby at_275) rfl ?_
              show Steps p.tables e below (T267.setTop (mkF m 277 #[.val (.long x0), .second, .val (.int x1), .val (.long x2), .second, .val (.ref b2), .val (.int vf), .val (.int vl), .val (.int vt), .val (.int (3 : Int32)), .val (.int vn0), .val (.int vn1), .val (.int vn2), .val (.ref r236), .val (.ref b241), .val (.int (own_is3 vt vf el0 (vn0.toInt8.toInt32) el1 (vn1.toInt8.toInt32) el2 (vn2.toInt8.toInt32))), .val (.int (0 : Int32))] [(.int (0 : Int32)), (.int (own_is3 vt vf el0 (vn0.toInt8.toInt32) el1 (vn1.toInt8.toInt32) el2 (vn2.toInt8.toInt32)))])) _
              refine XS.icmpNo X267.here hx rfl (hb hby at_277) rfl ((teq (by unfold own_is3; rw [if_pos ((own_sub hvt).trans hc211), if_pos ((Eq.symm hc227).trans hvn0.symm), if_pos ((Eq.symm hc245).trans hvn1.symm), if_neg (fun q => hc263 ((q.trans hvn2).symm))])).2) ?_
              show Steps p.tables e below (T267.setTop (mkF m 280 #[.val (.long x0), .second, .val (.int x1), .val (.long x2), .second, .val (.ref b2), .val (.int vf), .val (.int vl), .val (.int vt), .val (.int (3 : Int32)), .val (.int vn0), .val (.int vn1), .val (.int vn2), .val (.ref r236), .val (.ref b241), .val (.int (own_is3 vt vf el0 (vn0.toInt8.toInt32) el1 (vn1.toInt8.toInt32) el2 (vn2.toInt8.toInt32))), .val (.int (0 : Int32))] [])) _
              refine XS.aload X267.here hx rfl (hb hby at_280) rfl rfl ?_
              exact k)
            obtain ⟨cq287, kq287, qa287, qb287, qc287⟩ := isOf hZ e267 f264
            obtain ⟨_, _, ⟨T287, L287, k287, n287⟩, -, X287, ⟨Lc287, hQ287, l287, y287, z287⟩, st287⟩ := X267.virtualBack hx (y := (⟨"com/example/kinwarden/kinwarden/NameBytes", "from", "()I"⟩ : MethodName)) (z := (⟨"com/example/kinwarden/kinwarden/NameBytes", "from", "()I"⟩ : MethodName)) hown (mvT hZ (hw _ (List.mem_of_getElem? (i := 34) rfl))) (mvT hZ (hw _ (List.mem_of_getElem? (i := 35) rfl))) (notFace_of_selects (args := #[]) (mvT hZ (hw _ (List.mem_of_getElem? (i := 37) rfl)))) (mvT hZ (hw _ (List.mem_of_getElem? (i := 37) rfl))) (mvT hZ (hw _ (List.mem_of_getElem? (i := 36) rfl))) (by decide) (backOf (W := 0) (rmF l Z a0 hw [] b241 vf T260.heap n0 Z260 Fb260) hZ (hw _ (List.mem_of_getElem? (i := 38) rfl)) (hw _ (List.mem_of_getElem? (i := 7) rfl)) (by decide) (by decide)) qa287 qc287 (g := (mkF m 282 #[.val (.long x0), .second, .val (.int x1), .val (.long x2), .second, .val (.ref b2), .val (.int vf), .val (.int vl), .val (.int vt), .val (.int (3 : Int32)), .val (.int vn0), .val (.int vn1), .val (.int vn2), .val (.ref r236), .val (.ref b241), .val (.int (own_is3 vt vf el0 (vn0.toInt8.toInt32) el1 (vn1.toInt8.toInt32) el2 (vn2.toInt8.toInt32))), .val (.int (0 : Int32))] [(.ref b241)])) rfl (by rw [hml]; rfl) (Steps.refl _) (argsL := []) (rest := []) (lenOf pd0_4 rfl) rfl (by show 2 * 0 + _ ≤ _; exact Nat.le_of_eq rfl) (hb hby at_282) (fun _ _ => ⟨rfl, e267, (by decide : 3 + 0 ≤ _), (by decide : 13 + 0 ≤ _)⟩)
            dsimp only [Pt.U, Pt.locs, Pt.cells, Pt.slots] at X287 l287 y287 z287 st287 hQ287
            subst l287 y287 z287
            obtain ⟨rfl, Nq287, e287⟩ := hQ287
            have N287 := Fr.app N267 Nq287
            have p288 : ∀ t, Steps p.tables e below (T287.setTop (mkF m 285 #[.val (.long x0), .second, .val (.int x1), .val (.long x2), .second, .val (.ref b2), .val (.int vf), .val (.int vl), .val (.int vt), .val (.int (3 : Int32)), .val (.int vn0), .val (.int vn1), .val (.int vn2), .val (.ref r236), .val (.ref b241), .val (.int (own_is3 vt vf el0 (vn0.toInt8.toInt32) el1 (vn1.toInt8.toInt32) el2 (vn2.toInt8.toInt32))), .val (.int (0 : Int32))] [(.int vf)])) t → Steps p.tables e below (s₁.setTop (entryFrame m #[(.long x0), (.int x1), (.long x2)] maxLocals)) t := fun t k => p286 t (st287.trans k)
            have p289 : ∀ t, Steps p.tables e below (T287.setTop (mkF m 292 #[.val (.long x0), .second, .val (.int x1), .val (.long x2), .second, .val (.ref b2), .val (.int vf), .val (.int vl), .val (.int vt), .val (.int (3 : Int32)), .val (.int vn0), .val (.int vn1), .val (.int vn2), .val (.ref r236), .val (.ref b241), .val (.int (own_is3 vt vf el0 (vn0.toInt8.toInt32) el1 (vn1.toInt8.toInt32) el2 (vn2.toInt8.toInt32))), .val (.int (0 : Int32))] [(.ref b241)])) t → Steps p.tables e below (s₁.setTop (entryFrame m #[(.long x0), (.int x1), (.long x2)] maxLocals)) t := fun t k => p288 t (by
              show Steps p.tables e below (T287.setTop (mkF m 285 #[.val (.long x0), .second, .val (.int x1), .val (.long x2), .second, .val (.ref b2), .val (.int vf), .val (.int vl), .val (.int vt), .val (.int (3 : Int32)), .val (.int vn0), .val (.int vn1), .val (.int vn2), .val (.ref r236), .val (.ref b241), .val (.int (own_is3 vt vf el0 (vn0.toInt8.toInt32) el1 (vn1.toInt8.toInt32) el2 (vn2.toInt8.toInt32))), .val (.int (0 : Int32))] [(.int vf)])) _
              refine XS.iload X287.here hx rfl (hb hby at_285) rfl ?_
              show Steps p.tables e below (T287.setTop (mkF m 287 #[.val (.long x0), .second, .val (.int x1), .val (.long x2), .second, .val (.ref b2), .val (.int vf), .val (.int vl), .val (.int vt), .val (.int (3 : Int32)), .val (.int vn0), .val (.int vn1), .val (.int vn2), .val (.ref r236), .val (.ref b241), .val (.int (own_is3 vt vf el0 (vn0.toInt8.toInt32) el1 (vn1.toInt8.toInt32) el2 (vn2.toInt8.toInt32))), .val (.int (0 : Int32))] [(.int vf), (.int vf)])) _
              refine XS.icmpNo X287.here hx rfl (hb hby at_287) rfl ((teq (rfl)).2) ?_
              show Steps p.tables e below (T287.setTop (mkF m 290 #[.val (.long x0), .second, .val (.int x1), .val (.long x2), .second, .val (.ref b2), .val (.int vf), .val (.int vl), .val (.int vt), .val (.int (3 : Int32)), .val (.int vn0), .val (.int vn1), .val (.int vn2), .val (.ref r236), .val (.ref b241), .val (.int (own_is3 vt vf el0 (vn0.toInt8.toInt32) el1 (vn1.toInt8.toInt32) el2 (vn2.toInt8.toInt32))), .val (.int (0 : Int32))] [])) _
              refine XS.aload X287.here hx rfl (hb hby at_290) rfl rfl ?_
              exact k)
            obtain ⟨cq290, kq290, qa290, qb290, qc290⟩ := isOf hZ e287 f264
            obtain ⟨_, _, ⟨T290, L290, k290, n290⟩, -, X290, ⟨Lc290, hQ290, l290, y290, z290⟩, st290⟩ := X287.virtualBack hx (y := (⟨"com/example/kinwarden/kinwarden/NameBytes", "to", "()I"⟩ : MethodName)) (z := (⟨"com/example/kinwarden/kinwarden/NameBytes", "to", "()I"⟩ : MethodName)) hown (mvT hZ (hw _ (List.mem_of_getElem? (i := 39) rfl))) (mvT hZ (hw _ (List.mem_of_getElem? (i := 40) rfl))) (notFace_of_selects (args := #[]) (mvT hZ (hw _ (List.mem_of_getElem? (i := 42) rfl)))) (mvT hZ (hw _ (List.mem_of_getElem? (i := 42) rfl))) (mvT hZ (hw _ (List.mem_of_getElem? (i := 41) rfl))) (by decide) (backOf (W := 0) (rmT l Z a0 hw [] b241 vt T260.heap n0 Z260 Fc260) hZ (hw _ (List.mem_of_getElem? (i := 43) rfl)) (hw _ (List.mem_of_getElem? (i := 7) rfl)) (by decide) (by decide)) qa290 qc290 (g := (mkF m 292 #[.val (.long x0), .second, .val (.int x1), .val (.long x2), .second, .val (.ref b2), .val (.int vf), .val (.int vl), .val (.int vt), .val (.int (3 : Int32)), .val (.int vn0), .val (.int vn1), .val (.int vn2), .val (.ref r236), .val (.ref b241), .val (.int (own_is3 vt vf el0 (vn0.toInt8.toInt32) el1 (vn1.toInt8.toInt32) el2 (vn2.toInt8.toInt32))), .val (.int (0 : Int32))] [(.ref b241)])) rfl (by rw [hml]; rfl) (Steps.refl _) (argsL := []) (rest := []) (lenOf pd0_4 rfl) rfl (by show 2 * 0 + _ ≤ _; exact Nat.le_of_eq rfl) (hb hby at_292) (fun _ _ => ⟨rfl, e287, (by decide : 3 + 0 ≤ _), (by decide : 13 + 0 ≤ _)⟩)
            dsimp only [Pt.U, Pt.locs, Pt.cells, Pt.slots] at X290 l290 y290 z290 st290 hQ290
            subst l290 y290 z290
            obtain ⟨rfl, Nq290, e290⟩ := hQ290
            have N290 := Fr.app N287 Nq290
            have p291 : ∀ t, Steps p.tables e below (T290.setTop (mkF m 295 #[.val (.long x0), .second, .val (.int x1), .val (.long x2), .second, .val (.ref b2), .val (.int vf), .val (.int vl), .val (.int vt), .val (.int (3 : Int32)), .val (.int vn0), .val (.int vn1), .val (.int vn2), .val (.ref r236), .val (.ref b241), .val (.int (own_is3 vt vf el0 (vn0.toInt8.toInt32) el1 (vn1.toInt8.toInt32) el2 (vn2.toInt8.toInt32))), .val (.int (0 : Int32))] [(.int vt)])) t → Steps p.tables e below (s₁.setTop (entryFrame m #[(.long x0), (.int x1), (.long x2)] maxLocals)) t := fun t k => p289 t (st290.trans k)
            have p292 : ∀ t, Steps p.tables e below (T290.setTop (mkF m 305 #[.val (.long x0), .second, .val (.int x1), .val (.long x2), .second, .val (.ref b2), .val (.int vf), .val (.int vl), .val (.int vt), .val (.int (3 : Int32)), .val (.int vn0), .val (.int vn1), .val (.int vn2), .val (.ref r236), .val (.ref b241), .val (.int (own_is3 vt vf el0 (vn0.toInt8.toInt32) el1 (vn1.toInt8.toInt32) el2 (vn2.toInt8.toInt32))), .val (.int (0 : Int32))] [(.int (1 : Int32))])) t → Steps p.tables e below (s₁.setTop (entryFrame m #[(.long x0), (.int x1), (.long x2)] maxLocals)) t := fun t k => p291 t (by
              show Steps p.tables e below (T290.setTop (mkF m 295 #[.val (.long x0), .second, .val (.int x1), .val (.long x2), .second, .val (.ref b2), .val (.int vf), .val (.int vl), .val (.int vt), .val (.int (3 : Int32)), .val (.int vn0), .val (.int vn1), .val (.int vn2), .val (.ref r236), .val (.ref b241), .val (.int (own_is3 vt vf el0 (vn0.toInt8.toInt32) el1 (vn1.toInt8.toInt32) el2 (vn2.toInt8.toInt32))), .val (.int (0 : Int32))] [(.int vt)])) _
              refine XS.iload X290.here hx rfl (hb hby at_295) rfl ?_
              show Steps p.tables e below (T290.setTop (mkF m 297 #[.val (.long x0), .second, .val (.int x1), .val (.long x2), .second, .val (.ref b2), .val (.int vf), .val (.int vl), .val (.int vt), .val (.int (3 : Int32)), .val (.int vn0), .val (.int vn1), .val (.int vn2), .val (.ref r236), .val (.ref b241), .val (.int (own_is3 vt vf el0 (vn0.toInt8.toInt32) el1 (vn1.toInt8.toInt32) el2 (vn2.toInt8.toInt32))), .val (.int (0 : Int32))] [(.int vt), (.int vt)])) _
              refine XS.icmpNo X290.here hx rfl (hb hby at_297) rfl ((teq (rfl)).2) ?_
              show Steps p.tables e below (T290.setTop (mkF m 300 #[.val (.long x0), .second, .val (.int x1), .val (.long x2), .second, .val (.ref b2), .val (.int vf), .val (.int vl), .val (.int vt), .val (.int (3 : Int32)), .val (.int vn0), .val (.int vn1), .val (.int vn2), .val (.ref r236), .val (.ref b241), .val (.int (own_is3 vt vf el0 (vn0.toInt8.toInt32) el1 (vn1.toInt8.toInt32) el2 (vn2.toInt8.toInt32))), .val (.int (0 : Int32))] [])) _
              refine XS.iconst X290.here hx rfl (hb hby at_300) ?_
              show Steps p.tables e below (T290.setTop (mkF m 301 #[.val (.long x0), .second, .val (.int x1), .val (.long x2), .second, .val (.ref b2), .val (.int vf), .val (.int vl), .val (.int vt), .val (.int (3 : Int32)), .val (.int vn0), .val (.int vn1), .val (.int vn2), .val (.ref r236), .val (.ref b241), .val (.int (own_is3 vt vf el0 (vn0.toInt8.toInt32) el1 (vn1.toInt8.toInt32) el2 (vn2.toInt8.toInt32))), .val (.int (0 : Int32))] [(.int (1 : Int32))])) _
              refine XS.goto X290.here hx rfl (pc0 := 301) (pc' := 305) rfl (hb hby at_301) (by decide) (by decide) ?_
              exact k)
            obtain ⟨fs, hr, hrun, hended, hW, hsame⟩ := X290.leave (v := some (.int (1 : Int32))) (fun h => by rw [Bd.returns] at h; cases h)
            refine ⟨_, _, p292 _ ?_, hrun, hended, _, _, rfl, ?_, ⟨_, rfl⟩, hW, hsame.mono (by decide) (by decide)⟩
            · show Steps p.tables e below (T290.setTop (mkF m 305 #[.val (.long x0), .second, .val (.int x1), .val (.long x2), .second, .val (.ref b2), .val (.int vf), .val (.int vl), .val (.int vt), .val (.int (3 : Int32)), .val (.int vn0), .val (.int vn1), .val (.int vn2), .val (.ref r236), .val (.ref b241), .val (.int (own_is3 vt vf el0 (vn0.toInt8.toInt32) el1 (vn1.toInt8.toInt32) el2 (vn2.toInt8.toInt32))), .val (.int (0 : Int32))] [(.int (1 : Int32))])) _
              exact retN X290 hx (t := .boolean) Bd.returns (by simp) (hb hby at_305) hr
            · show Q0 Z x0 x1 x2 a_E h0 n0 _ T290.heap _
              rw [e290]
              exact ⟨rfl, N290⟩
        · have p293 : ∀ t, Steps p.tables e below (T267.setTop (mkF m 282 #[.val (.long x0), .second, .val (.int x1), .val (.long x2), .second, .val (.ref b2), .val (.int vf), .val (.int vl), .val (.int vt), .val (.int (3 : Int32)), .val (.int vn0), .val (.int vn1), .val (.int vn2), .val (.ref r236), .val (.ref b241), .val (.int (own_is3 vt vf el0 (vn0.toInt8.toInt32) el1 (vn1.toInt8.toInt32) el2 (vn2.toInt8.toInt32))), .val (.int (0 : Int32))] [(.ref b241)])) t → Steps p.tables e below (s₁.setTop (entryFrame m #[(.long x0), (.int x1), (.long x2)] maxLocals)) t := fun t k => p275 t (by
            show Steps p.tables e below (T267.setTop (mkF m 245 #[.val (.long x0), .second, .val (.int x1), .val (.long x2), .second, .val (.ref b2), .val (.int vf), .val (.int vl), .val (.int vt), .val (.int (3 : Int32)), .val (.int vn0), .val (.int vn1), .val (.int vn2), .val (.ref r236), .val (.ref b241), .val (.int (own_is3 vt vf el0 (vn0.toInt8.toInt32) el1 (vn1.toInt8.toInt32) el2 (vn2.toInt8.toInt32))), .unset] [(.int el1), (.int vn1)])) _
            refine XS.icmpYes X267.here hx rfl (pc0 := 245) (pc' := 270) rfl (hb hby at_245) rfl ((feq (hc245)).2) (by decide) (by decide) ?_
            show Steps p.tables e below (T267.setTop (mkF m 270 #[.val (.long x0), .second, .val (.int x1), .val (.long x2), .second, .val (.ref b2), .val (.int vf), .val (.int vl), .val (.int vt), .val (.int (3 : Int32)), .val (.int vn0), .val (.int vn1), .val (.int vn2), .val (.ref r236), .val (.ref b241), .val (.int (own_is3 vt vf el0 (vn0.toInt8.toInt32) el1 (vn1.toInt8.toInt32) el2 (vn2.toInt8.toInt32))), .unset] [])) _
            refine XS.iconst X267.here hx rfl (hb hby at_270) ?_
            show Steps p.tables e below (T267.setTop (mkF m 271 #[.val (.long x0), .second, .val (.int x1), .val (.long x2), .second, .val (.ref b2), .val (.int vf), .val (.int vl), .val (.int vt), .val (.int (3 : Int32)), .val (.int vn0), .val (.int vn1), .val (.int vn2), .val (.ref r236), .val (.ref b241), .val (.int (own_is3 vt vf el0 (vn0.toInt8.toInt32) el1 (vn1.toInt8.toInt32) el2 (vn2.toInt8.toInt32))), .unset] [(.int (0 : Int32))])) _
            refine XS.istore X267.here hx rfl (hb hby at_271) rfl (l' := #[.val (.long x0), .second, .val (.int x1), .val (.long x2), .second, .val (.ref b2), .val (.int vf), .val (.int vl), .val (.int vt), .val (.int (3 : Int32)), .val (.int vn0), .val (.int vn1), .val (.int vn2), .val (.ref r236), .val (.ref b241), .val (.int (own_is3 vt vf el0 (vn0.toInt8.toInt32) el1 (vn1.toInt8.toInt32) el2 (vn2.toInt8.toInt32))), .val (.int (0 : Int32))]) rfl ?_
            show Steps p.tables e below (T267.setTop (mkF m 273 #[.val (.long x0), .second, .val (.int x1), .val (.long x2), .second, .val (.ref b2), .val (.int vf), .val (.int vl), .val (.int vt), .val (.int (3 : Int32)), .val (.int vn0), .val (.int vn1), .val (.int vn2), .val (.ref r236), .val (.ref b241), .val (.int (own_is3 vt vf el0 (vn0.toInt8.toInt32) el1 (vn1.toInt8.toInt32) el2 (vn2.toInt8.toInt32))), .val (.int (0 : Int32))] [])) _
            refine XS.iload X267.here hx rfl (hb hby at_273) rfl ?_
            show Steps p.tables e below (T267.setTop (mkF m 275 #[.val (.long x0), .second, .val (.int x1), .val (.long x2), .second, .val (.ref b2), .val (.int vf), .val (.int vl), .val (.int vt), .val (.int (3 : Int32)), .val (.int vn0), .val (.int vn1), .val (.int vn2), .val (.ref r236), .val (.ref b241), .val (.int (own_is3 vt vf el0 (vn0.toInt8.toInt32) el1 (vn1.toInt8.toInt32) el2 (vn2.toInt8.toInt32))), .val (.int (0 : Int32))] [(.int (own_is3 vt vf el0 (vn0.toInt8.toInt32) el1 (vn1.toInt8.toInt32) el2 (vn2.toInt8.toInt32)))])) _
            refine XS.iload X267.here hx rfl (hb hby at_275) rfl ?_
            show Steps p.tables e below (T267.setTop (mkF m 277 #[.val (.long x0), .second, .val (.int x1), .val (.long x2), .second, .val (.ref b2), .val (.int vf), .val (.int vl), .val (.int vt), .val (.int (3 : Int32)), .val (.int vn0), .val (.int vn1), .val (.int vn2), .val (.ref r236), .val (.ref b241), .val (.int (own_is3 vt vf el0 (vn0.toInt8.toInt32) el1 (vn1.toInt8.toInt32) el2 (vn2.toInt8.toInt32))), .val (.int (0 : Int32))] [(.int (0 : Int32)), (.int (own_is3 vt vf el0 (vn0.toInt8.toInt32) el1 (vn1.toInt8.toInt32) el2 (vn2.toInt8.toInt32)))])) _
            refine XS.icmpNo X267.here hx rfl (hb hby at_277) rfl ((teq (by unfold own_is3; rw [if_pos ((own_sub hvt).trans hc211), if_pos ((Eq.symm hc227).trans hvn0.symm), if_neg (fun q => hc245 ((q.trans hvn1).symm))])).2) ?_
            show Steps p.tables e below (T267.setTop (mkF m 280 #[.val (.long x0), .second, .val (.int x1), .val (.long x2), .second, .val (.ref b2), .val (.int vf), .val (.int vl), .val (.int vt), .val (.int (3 : Int32)), .val (.int vn0), .val (.int vn1), .val (.int vn2), .val (.ref r236), .val (.ref b241), .val (.int (own_is3 vt vf el0 (vn0.toInt8.toInt32) el1 (vn1.toInt8.toInt32) el2 (vn2.toInt8.toInt32))), .val (.int (0 : Int32))] [])) _
            refine XS.aload X267.here hx rfl (hb hby at_280) rfl rfl ?_
            exact k)
          obtain ⟨cq294, kq294, qa294, qb294, qc294⟩ := isOf hZ e267 f264
          obtain ⟨_, _, ⟨T294, L294, k294, n294⟩, -, X294, ⟨Lc294, hQ294, l294, y294, z294⟩, st294⟩ := X267.virtualBack hx (y := (⟨"com/example/kinwarden/kinwarden/NameBytes", "from", "()I"⟩ : MethodName)) (z := (⟨"com/example/kinwarden/kinwarden/NameBytes", "from", "()I"⟩ : MethodName)) hown (mvT hZ (hw _ (List.mem_of_getElem? (i := 34) rfl))) (mvT hZ (hw _ (List.mem_of_getElem? (i := 35) rfl))) (notFace_of_selects (args := #[]) (mvT hZ (hw _ (List.mem_of_getElem? (i := 37) rfl)))) (mvT hZ (hw _ (List.mem_of_getElem? (i := 37) rfl))) (mvT hZ (hw _ (List.mem_of_getElem? (i := 36) rfl))) (by decide) (backOf (W := 0) (rmF l Z a0 hw [] b241 vf T260.heap n0 Z260 Fb260) hZ (hw _ (List.mem_of_getElem? (i := 38) rfl)) (hw _ (List.mem_of_getElem? (i := 7) rfl)) (by decide) (by decide)) qa294 qc294 (g := (mkF m 282 #[.val (.long x0), .second, .val (.int x1), .val (.long x2), .second, .val (.ref b2), .val (.int vf), .val (.int vl), .val (.int vt), .val (.int (3 : Int32)), .val (.int vn0), .val (.int vn1), .val (.int vn2), .val (.ref r236), .val (.ref b241), .val (.int (own_is3 vt vf el0 (vn0.toInt8.toInt32) el1 (vn1.toInt8.toInt32) el2 (vn2.toInt8.toInt32))), .val (.int (0 : Int32))] [(.ref b241)])) rfl (by rw [hml]; rfl) (Steps.refl _) (argsL := []) (rest := []) (lenOf pd0_4 rfl) rfl (by show 2 * 0 + _ ≤ _; exact Nat.le_of_eq rfl) (hb hby at_282) (fun _ _ => ⟨rfl, e267, (by decide : 3 + 0 ≤ _), (by decide : 13 + 0 ≤ _)⟩)
          dsimp only [Pt.U, Pt.locs, Pt.cells, Pt.slots] at X294 l294 y294 z294 st294 hQ294
          subst l294 y294 z294
          obtain ⟨rfl, Nq294, e294⟩ := hQ294
          have N294 := Fr.app N267 Nq294
          have p295 : ∀ t, Steps p.tables e below (T294.setTop (mkF m 285 #[.val (.long x0), .second, .val (.int x1), .val (.long x2), .second, .val (.ref b2), .val (.int vf), .val (.int vl), .val (.int vt), .val (.int (3 : Int32)), .val (.int vn0), .val (.int vn1), .val (.int vn2), .val (.ref r236), .val (.ref b241), .val (.int (own_is3 vt vf el0 (vn0.toInt8.toInt32) el1 (vn1.toInt8.toInt32) el2 (vn2.toInt8.toInt32))), .val (.int (0 : Int32))] [(.int vf)])) t → Steps p.tables e below (s₁.setTop (entryFrame m #[(.long x0), (.int x1), (.long x2)] maxLocals)) t := fun t k => p293 t (st294.trans k)
          have p296 : ∀ t, Steps p.tables e below (T294.setTop (mkF m 292 #[.val (.long x0), .second, .val (.int x1), .val (.long x2), .second, .val (.ref b2), .val (.int vf), .val (.int vl), .val (.int vt), .val (.int (3 : Int32)), .val (.int vn0), .val (.int vn1), .val (.int vn2), .val (.ref r236), .val (.ref b241), .val (.int (own_is3 vt vf el0 (vn0.toInt8.toInt32) el1 (vn1.toInt8.toInt32) el2 (vn2.toInt8.toInt32))), .val (.int (0 : Int32))] [(.ref b241)])) t → Steps p.tables e below (s₁.setTop (entryFrame m #[(.long x0), (.int x1), (.long x2)] maxLocals)) t := fun t k => p295 t (by
            show Steps p.tables e below (T294.setTop (mkF m 285 #[.val (.long x0), .second, .val (.int x1), .val (.long x2), .second, .val (.ref b2), .val (.int vf), .val (.int vl), .val (.int vt), .val (.int (3 : Int32)), .val (.int vn0), .val (.int vn1), .val (.int vn2), .val (.ref r236), .val (.ref b241), .val (.int (own_is3 vt vf el0 (vn0.toInt8.toInt32) el1 (vn1.toInt8.toInt32) el2 (vn2.toInt8.toInt32))), .val (.int (0 : Int32))] [(.int vf)])) _
            refine XS.iload X294.here hx rfl (hb hby at_285) rfl ?_
            show Steps p.tables e below (T294.setTop (mkF m 287 #[.val (.long x0), .second, .val (.int x1), .val (.long x2), .second, .val (.ref b2), .val (.int vf), .val (.int vl), .val (.int vt), .val (.int (3 : Int32)), .val (.int vn0), .val (.int vn1), .val (.int vn2), .val (.ref r236), .val (.ref b241), .val (.int (own_is3 vt vf el0 (vn0.toInt8.toInt32) el1 (vn1.toInt8.toInt32) el2 (vn2.toInt8.toInt32))), .val (.int (0 : Int32))] [(.int vf), (.int vf)])) _
            refine XS.icmpNo X294.here hx rfl (hb hby at_287) rfl ((teq (rfl)).2) ?_
            show Steps p.tables e below (T294.setTop (mkF m 290 #[.val (.long x0), .second, .val (.int x1), .val (.long x2), .second, .val (.ref b2), .val (.int vf), .val (.int vl), .val (.int vt), .val (.int (3 : Int32)), .val (.int vn0), .val (.int vn1), .val (.int vn2), .val (.ref r236), .val (.ref b241), .val (.int (own_is3 vt vf el0 (vn0.toInt8.toInt32) el1 (vn1.toInt8.toInt32) el2 (vn2.toInt8.toInt32))), .val (.int (0 : Int32))] [])) _
            refine XS.aload X294.here hx rfl (hb hby at_290) rfl rfl ?_
            exact k)
          obtain ⟨cq297, kq297, qa297, qb297, qc297⟩ := isOf hZ e294 f264
          obtain ⟨_, _, ⟨T297, L297, k297, n297⟩, -, X297, ⟨Lc297, hQ297, l297, y297, z297⟩, st297⟩ := X294.virtualBack hx (y := (⟨"com/example/kinwarden/kinwarden/NameBytes", "to", "()I"⟩ : MethodName)) (z := (⟨"com/example/kinwarden/kinwarden/NameBytes", "to", "()I"⟩ : MethodName)) hown (mvT hZ (hw _ (List.mem_of_getElem? (i := 39) rfl))) (mvT hZ (hw _ (List.mem_of_getElem? (i := 40) rfl))) (notFace_of_selects (args := #[]) (mvT hZ (hw _ (List.mem_of_getElem? (i := 42) rfl)))) (mvT hZ (hw _ (List.mem_of_getElem? (i := 42) rfl))) (mvT hZ (hw _ (List.mem_of_getElem? (i := 41) rfl))) (by decide) (backOf (W := 0) (rmT l Z a0 hw [] b241 vt T260.heap n0 Z260 Fc260) hZ (hw _ (List.mem_of_getElem? (i := 43) rfl)) (hw _ (List.mem_of_getElem? (i := 7) rfl)) (by decide) (by decide)) qa297 qc297 (g := (mkF m 292 #[.val (.long x0), .second, .val (.int x1), .val (.long x2), .second, .val (.ref b2), .val (.int vf), .val (.int vl), .val (.int vt), .val (.int (3 : Int32)), .val (.int vn0), .val (.int vn1), .val (.int vn2), .val (.ref r236), .val (.ref b241), .val (.int (own_is3 vt vf el0 (vn0.toInt8.toInt32) el1 (vn1.toInt8.toInt32) el2 (vn2.toInt8.toInt32))), .val (.int (0 : Int32))] [(.ref b241)])) rfl (by rw [hml]; rfl) (Steps.refl _) (argsL := []) (rest := []) (lenOf pd0_4 rfl) rfl (by show 2 * 0 + _ ≤ _; exact Nat.le_of_eq rfl) (hb hby at_292) (fun _ _ => ⟨rfl, e294, (by decide : 3 + 0 ≤ _), (by decide : 13 + 0 ≤ _)⟩)
          dsimp only [Pt.U, Pt.locs, Pt.cells, Pt.slots] at X297 l297 y297 z297 st297 hQ297
          subst l297 y297 z297
          obtain ⟨rfl, Nq297, e297⟩ := hQ297
          have N297 := Fr.app N294 Nq297
          have p298 : ∀ t, Steps p.tables e below (T297.setTop (mkF m 295 #[.val (.long x0), .second, .val (.int x1), .val (.long x2), .second, .val (.ref b2), .val (.int vf), .val (.int vl), .val (.int vt), .val (.int (3 : Int32)), .val (.int vn0), .val (.int vn1), .val (.int vn2), .val (.ref r236), .val (.ref b241), .val (.int (own_is3 vt vf el0 (vn0.toInt8.toInt32) el1 (vn1.toInt8.toInt32) el2 (vn2.toInt8.toInt32))), .val (.int (0 : Int32))] [(.int vt)])) t → Steps p.tables e below (s₁.setTop (entryFrame m #[(.long x0), (.int x1), (.long x2)] maxLocals)) t := fun t k => p296 t (st297.trans k)
          have p299 : ∀ t, Steps p.tables e below (T297.setTop (mkF m 305 #[.val (.long x0), .second, .val (.int x1), .val (.long x2), .second, .val (.ref b2), .val (.int vf), .val (.int vl), .val (.int vt), .val (.int (3 : Int32)), .val (.int vn0), .val (.int vn1), .val (.int vn2), .val (.ref r236), .val (.ref b241), .val (.int (own_is3 vt vf el0 (vn0.toInt8.toInt32) el1 (vn1.toInt8.toInt32) el2 (vn2.toInt8.toInt32))), .val (.int (0 : Int32))] [(.int (1 : Int32))])) t → Steps p.tables e below (s₁.setTop (entryFrame m #[(.long x0), (.int x1), (.long x2)] maxLocals)) t := fun t k => p298 t (by
            show Steps p.tables e below (T297.setTop (mkF m 295 #[.val (.long x0), .second, .val (.int x1), .val (.long x2), .second, .val (.ref b2), .val (.int vf), .val (.int vl), .val (.int vt), .val (.int (3 : Int32)), .val (.int vn0), .val (.int vn1), .val (.int vn2), .val (.ref r236), .val (.ref b241), .val (.int (own_is3 vt vf el0 (vn0.toInt8.toInt32) el1 (vn1.toInt8.toInt32) el2 (vn2.toInt8.toInt32))), .val (.int (0 : Int32))] [(.int vt)])) _
            refine XS.iload X297.here hx rfl (hb hby at_295) rfl ?_
            show Steps p.tables e below (T297.setTop (mkF m 297 #[.val (.long x0), .second, .val (.int x1), .val (.long x2), .second, .val (.ref b2), .val (.int vf), .val (.int vl), .val (.int vt), .val (.int (3 : Int32)), .val (.int vn0), .val (.int vn1), .val (.int vn2), .val (.ref r236), .val (.ref b241), .val (.int (own_is3 vt vf el0 (vn0.toInt8.toInt32) el1 (vn1.toInt8.toInt32) el2 (vn2.toInt8.toInt32))), .val (.int (0 : Int32))] [(.int vt), (.int vt)])) _
            refine XS.icmpNo X297.here hx rfl (hb hby at_297) rfl ((teq (rfl)).2) ?_
            show Steps p.tables e below (T297.setTop (mkF m 300 #[.val (.long x0), .second, .val (.int x1), .val (.long x2), .second, .val (.ref b2), .val (.int vf), .val (.int vl), .val (.int vt), .val (.int (3 : Int32)), .val (.int vn0), .val (.int vn1), .val (.int vn2), .val (.ref r236), .val (.ref b241), .val (.int (own_is3 vt vf el0 (vn0.toInt8.toInt32) el1 (vn1.toInt8.toInt32) el2 (vn2.toInt8.toInt32))), .val (.int (0 : Int32))] [])) _
            refine XS.iconst X297.here hx rfl (hb hby at_300) ?_
            show Steps p.tables e below (T297.setTop (mkF m 301 #[.val (.long x0), .second, .val (.int x1), .val (.long x2), .second, .val (.ref b2), .val (.int vf), .val (.int vl), .val (.int vt), .val (.int (3 : Int32)), .val (.int vn0), .val (.int vn1), .val (.int vn2), .val (.ref r236), .val (.ref b241), .val (.int (own_is3 vt vf el0 (vn0.toInt8.toInt32) el1 (vn1.toInt8.toInt32) el2 (vn2.toInt8.toInt32))), .val (.int (0 : Int32))] [(.int (1 : Int32))])) _
            refine XS.goto X297.here hx rfl (pc0 := 301) (pc' := 305) rfl (hb hby at_301) (by decide) (by decide) ?_
            exact k)
          obtain ⟨fs, hr, hrun, hended, hW, hsame⟩ := X297.leave (v := some (.int (1 : Int32))) (fun h => by rw [Bd.returns] at h; cases h)
          refine ⟨_, _, p299 _ ?_, hrun, hended, _, _, rfl, ?_, ⟨_, rfl⟩, hW, hsame.mono (by decide) (by decide)⟩
          · show Steps p.tables e below (T297.setTop (mkF m 305 #[.val (.long x0), .second, .val (.int x1), .val (.long x2), .second, .val (.ref b2), .val (.int vf), .val (.int vl), .val (.int vt), .val (.int (3 : Int32)), .val (.int vn0), .val (.int vn1), .val (.int vn2), .val (.ref r236), .val (.ref b241), .val (.int (own_is3 vt vf el0 (vn0.toInt8.toInt32) el1 (vn1.toInt8.toInt32) el2 (vn2.toInt8.toInt32))), .val (.int (0 : Int32))] [(.int (1 : Int32))])) _
            exact retN X297 hx (t := .boolean) Bd.returns (by simp) (hb hby at_305) hr
          · show Q0 Z x0 x1 x2 a_E h0 n0 _ T297.heap _
            rw [e297]
            exact ⟨rfl, N297⟩
      · have p300 : ∀ t, Steps p.tables e below (T267.setTop (mkF m 282 #[.val (.long x0), .second, .val (.int x1), .val (.long x2), .second, .val (.ref b2), .val (.int vf), .val (.int vl), .val (.int vt), .val (.int (3 : Int32)), .val (.int vn0), .val (.int vn1), .val (.int vn2), .val (.ref r236), .val (.ref b241), .val (.int (own_is3 vt vf el0 (vn0.toInt8.toInt32) el1 (vn1.toInt8.toInt32) el2 (vn2.toInt8.toInt32))), .val (.int (0 : Int32))] [(.ref b241)])) t → Steps p.tables e below (s₁.setTop (entryFrame m #[(.long x0), (.int x1), (.long x2)] maxLocals)) t := fun t k => p272 t (by
          show Steps p.tables e below (T267.setTop (mkF m 227 #[.val (.long x0), .second, .val (.int x1), .val (.long x2), .second, .val (.ref b2), .val (.int vf), .val (.int vl), .val (.int vt), .val (.int (3 : Int32)), .val (.int vn0), .val (.int vn1), .val (.int vn2), .val (.ref r236), .val (.ref b241), .val (.int (own_is3 vt vf el0 (vn0.toInt8.toInt32) el1 (vn1.toInt8.toInt32) el2 (vn2.toInt8.toInt32))), .unset] [(.int el0), (.int vn0)])) _
          refine XS.icmpYes X267.here hx rfl (pc0 := 227) (pc' := 270) rfl (hb hby at_227) rfl ((feq (hc227)).2) (by decide) (by decide) ?_
          show Steps p.tables e below (T267.setTop (mkF m 270 #[.val (.long x0), .second, .val (.int x1), .val (.long x2), .second, .val (.ref b2), .val (.int vf), .val (.int vl), .val (.int vt), .val (.int (3 : Int32)), .val (.int vn0), .val (.int vn1), .val (.int vn2), .val (.ref r236), .val (.ref b241), .val (.int (own_is3 vt vf el0 (vn0.toInt8.toInt32) el1 (vn1.toInt8.toInt32) el2 (vn2.toInt8.toInt32))), .unset] [])) _
          refine XS.iconst X267.here hx rfl (hb hby at_270) ?_
          show Steps p.tables e below (T267.setTop (mkF m 271 #[.val (.long x0), .second, .val (.int x1), .val (.long x2), .second, .val (.ref b2), .val (.int vf), .val (.int vl), .val (.int vt), .val (.int (3 : Int32)), .val (.int vn0), .val (.int vn1), .val (.int vn2), .val (.ref r236), .val (.ref b241), .val (.int (own_is3 vt vf el0 (vn0.toInt8.toInt32) el1 (vn1.toInt8.toInt32) el2 (vn2.toInt8.toInt32))), .unset] [(.int (0 : Int32))])) _
          refine XS.istore X267.here hx rfl (hb hby at_271) rfl (l' := #[.val (.long x0), .second, .val (.int x1), .val (.long x2), .second, .val (.ref b2), .val (.int vf), .val (.int vl), .val (.int vt), .val (.int (3 : Int32)), .val (.int vn0), .val (.int vn1), .val (.int vn2), .val (.ref r236), .val (.ref b241), .val (.int (own_is3 vt vf el0 (vn0.toInt8.toInt32) el1 (vn1.toInt8.toInt32) el2 (vn2.toInt8.toInt32))), .val (.int (0 : Int32))]) rfl ?_
          show Steps p.tables e below (T267.setTop (mkF m 273 #[.val (.long x0), .second, .val (.int x1), .val (.long x2), .second, .val (.ref b2), .val (.int vf), .val (.int vl), .val (.int vt), .val (.int (3 : Int32)), .val (.int vn0), .val (.int vn1), .val (.int vn2), .val (.ref r236), .val (.ref b241), .val (.int (own_is3 vt vf el0 (vn0.toInt8.toInt32) el1 (vn1.toInt8.toInt32) el2 (vn2.toInt8.toInt32))), .val (.int (0 : Int32))] [])) _
          refine XS.iload X267.here hx rfl (hb hby at_273) rfl ?_
          show Steps p.tables e below (T267.setTop (mkF m 275 #[.val (.long x0), .second, .val (.int x1), .val (.long x2), .second, .val (.ref b2), .val (.int vf), .val (.int vl), .val (.int vt), .val (.int (3 : Int32)), .val (.int vn0), .val (.int vn1), .val (.int vn2), .val (.ref r236), .val (.ref b241), .val (.int (own_is3 vt vf el0 (vn0.toInt8.toInt32) el1 (vn1.toInt8.toInt32) el2 (vn2.toInt8.toInt32))), .val (.int (0 : Int32))] [(.int (own_is3 vt vf el0 (vn0.toInt8.toInt32) el1 (vn1.toInt8.toInt32) el2 (vn2.toInt8.toInt32)))])) _
          refine XS.iload X267.here hx rfl (hb hby at_275) rfl ?_
          show Steps p.tables e below (T267.setTop (mkF m 277 #[.val (.long x0), .second, .val (.int x1), .val (.long x2), .second, .val (.ref b2), .val (.int vf), .val (.int vl), .val (.int vt), .val (.int (3 : Int32)), .val (.int vn0), .val (.int vn1), .val (.int vn2), .val (.ref r236), .val (.ref b241), .val (.int (own_is3 vt vf el0 (vn0.toInt8.toInt32) el1 (vn1.toInt8.toInt32) el2 (vn2.toInt8.toInt32))), .val (.int (0 : Int32))] [(.int (0 : Int32)), (.int (own_is3 vt vf el0 (vn0.toInt8.toInt32) el1 (vn1.toInt8.toInt32) el2 (vn2.toInt8.toInt32)))])) _
          refine XS.icmpNo X267.here hx rfl (hb hby at_277) rfl ((teq (by unfold own_is3; rw [if_pos ((own_sub hvt).trans hc211), if_neg (fun q => hc227 ((q.trans hvn0).symm))])).2) ?_
          show Steps p.tables e below (T267.setTop (mkF m 280 #[.val (.long x0), .second, .val (.int x1), .val (.long x2), .second, .val (.ref b2), .val (.int vf), .val (.int vl), .val (.int vt), .val (.int (3 : Int32)), .val (.int vn0), .val (.int vn1), .val (.int vn2), .val (.ref r236), .val (.ref b241), .val (.int (own_is3 vt vf el0 (vn0.toInt8.toInt32) el1 (vn1.toInt8.toInt32) el2 (vn2.toInt8.toInt32))), .val (.int (0 : Int32))] [])) _
          refine XS.aload X267.here hx rfl (hb hby at_280) rfl rfl ?_
          exact k)
        obtain ⟨cq301, kq301, qa301, qb301, qc301⟩ := isOf hZ e267 f264
        obtain ⟨_, _, ⟨T301, L301, k301, n301⟩, -, X301, ⟨Lc301, hQ301, l301, y301, z301⟩, st301⟩ := X267.virtualBack hx (y := (⟨"com/example/kinwarden/kinwarden/NameBytes", "from", "()I"⟩ : MethodName)) (z := (⟨"com/example/kinwarden/kinwarden/NameBytes", "from", "()I"⟩ : MethodName)) hown (mvT hZ (hw _ (List.mem_of_getElem? (i := 34) rfl))) (mvT hZ (hw _ (List.mem_of_getElem? (i := 35) rfl))) (notFace_of_selects (args := #[]) (mvT hZ (hw _ (List.mem_of_getElem? (i := 37) rfl)))) (mvT hZ (hw _ (List.mem_of_getElem? (i := 37) rfl))) (mvT hZ (hw _ (List.mem_of_getElem? (i := 36) rfl))) (by decide) (backOf (W := 0) (rmF l Z a0 hw [] b241 vf T260.heap n0 Z260 Fb260) hZ (hw _ (List.mem_of_getElem? (i := 38) rfl)) (hw _ (List.mem_of_getElem? (i := 7) rfl)) (by decide) (by decide)) qa301 qc301 (g := (mkF m 282 #[.val (.long x0), .second, .val (.int x1), .val (.long x2), .second, .val (.ref b2), .val (.int vf), .val (.int vl), .val (.int vt), .val (.int (3 : Int32)), .val (.int vn0), .val (.int vn1), .val (.int vn2), .val (.ref r236), .val (.ref b241), .val (.int (own_is3 vt vf el0 (vn0.toInt8.toInt32) el1 (vn1.toInt8.toInt32) el2 (vn2.toInt8.toInt32))), .val (.int (0 : Int32))] [(.ref b241)])) rfl (by rw [hml]; rfl) (Steps.refl _) (argsL := []) (rest := []) (lenOf pd0_4 rfl) rfl (by show 2 * 0 + _ ≤ _; exact Nat.le_of_eq rfl) (hb hby at_282) (fun _ _ => ⟨rfl, e267, (by decide : 3 + 0 ≤ _), (by decide : 13 + 0 ≤ _)⟩)
        dsimp only [Pt.U, Pt.locs, Pt.cells, Pt.slots] at X301 l301 y301 z301 st301 hQ301
        subst l301 y301 z301
        obtain ⟨rfl, Nq301, e301⟩ := hQ301
        have N301 := Fr.app N267 Nq301
        have p302 : ∀ t, Steps p.tables e below (T301.setTop (mkF m 285 #[.val (.long x0), .second, .val (.int x1), .val (.long x2), .second, .val (.ref b2), .val (.int vf), .val (.int vl), .val (.int vt), .val (.int (3 : Int32)), .val (.int vn0), .val (.int vn1), .val (.int vn2), .val (.ref r236), .val (.ref b241), .val (.int (own_is3 vt vf el0 (vn0.toInt8.toInt32) el1 (vn1.toInt8.toInt32) el2 (vn2.toInt8.toInt32))), .val (.int (0 : Int32))] [(.int vf)])) t → Steps p.tables e below (s₁.setTop (entryFrame m #[(.long x0), (.int x1), (.long x2)] maxLocals)) t := fun t k => p300 t (st301.trans k)
        have p303 : ∀ t, Steps p.tables e below (T301.setTop (mkF m 292 #[.val (.long x0), .second, .val (.int x1), .val (.long x2), .second, .val (.ref b2), .val (.int vf), .val (.int vl), .val (.int vt), .val (.int (3 : Int32)), .val (.int vn0), .val (.int vn1), .val (.int vn2), .val (.ref r236), .val (.ref b241), .val (.int (own_is3 vt vf el0 (vn0.toInt8.toInt32) el1 (vn1.toInt8.toInt32) el2 (vn2.toInt8.toInt32))), .val (.int (0 : Int32))] [(.ref b241)])) t → Steps p.tables e below (s₁.setTop (entryFrame m #[(.long x0), (.int x1), (.long x2)] maxLocals)) t := fun t k => p302 t (by
          show Steps p.tables e below (T301.setTop (mkF m 285 #[.val (.long x0), .second, .val (.int x1), .val (.long x2), .second, .val (.ref b2), .val (.int vf), .val (.int vl), .val (.int vt), .val (.int (3 : Int32)), .val (.int vn0), .val (.int vn1), .val (.int vn2), .val (.ref r236), .val (.ref b241), .val (.int (own_is3 vt vf el0 (vn0.toInt8.toInt32) el1 (vn1.toInt8.toInt32) el2 (vn2.toInt8.toInt32))), .val (.int (0 : Int32))] [(.int vf)])) _
          refine XS.iload X301.here hx rfl (hb hby at_285) rfl ?_
          show Steps p.tables e below (T301.setTop (mkF m 287 #[.val (.long x0), .second, .val (.int x1), .val (.long x2), .second, .val (.ref b2), .val (.int vf), .val (.int vl), .val (.int vt), .val (.int (3 : Int32)), .val (.int vn0), .val (.int vn1), .val (.int vn2), .val (.ref r236), .val (.ref b241), .val (.int (own_is3 vt vf el0 (vn0.toInt8.toInt32) el1 (vn1.toInt8.toInt32) el2 (vn2.toInt8.toInt32))), .val (.int (0 : Int32))] [(.int vf), (.int vf)])) _
          refine XS.icmpNo X301.here hx rfl (hb hby at_287) rfl ((teq (rfl)).2) ?_
          show Steps p.tables e below (T301.setTop (mkF m 290 #[.val (.long x0), .second, .val (.int x1), .val (.long x2), .second, .val (.ref b2), .val (.int vf), .val (.int vl), .val (.int vt), .val (.int (3 : Int32)), .val (.int vn0), .val (.int vn1), .val (.int vn2), .val (.ref r236), .val (.ref b241), .val (.int (own_is3 vt vf el0 (vn0.toInt8.toInt32) el1 (vn1.toInt8.toInt32) el2 (vn2.toInt8.toInt32))), .val (.int (0 : Int32))] [])) _
          refine XS.aload X301.here hx rfl (hb hby at_290) rfl rfl ?_
          exact k)
        obtain ⟨cq304, kq304, qa304, qb304, qc304⟩ := isOf hZ e301 f264
        obtain ⟨_, _, ⟨T304, L304, k304, n304⟩, -, X304, ⟨Lc304, hQ304, l304, y304, z304⟩, st304⟩ := X301.virtualBack hx (y := (⟨"com/example/kinwarden/kinwarden/NameBytes", "to", "()I"⟩ : MethodName)) (z := (⟨"com/example/kinwarden/kinwarden/NameBytes", "to", "()I"⟩ : MethodName)) hown (mvT hZ (hw _ (List.mem_of_getElem? (i := 39) rfl))) (mvT hZ (hw _ (List.mem_of_getElem? (i := 40) rfl))) (notFace_of_selects (args := #[]) (mvT hZ (hw _ (List.mem_of_getElem? (i := 42) rfl)))) (mvT hZ (hw _ (List.mem_of_getElem? (i := 42) rfl))) (mvT hZ (hw _ (List.mem_of_getElem? (i := 41) rfl))) (by decide) (backOf (W := 0) (rmT l Z a0 hw [] b241 vt T260.heap n0 Z260 Fc260) hZ (hw _ (List.mem_of_getElem? (i := 43) rfl)) (hw _ (List.mem_of_getElem? (i := 7) rfl)) (by decide) (by decide)) qa304 qc304 (g := (mkF m 292 #[.val (.long x0), .second, .val (.int x1), .val (.long x2), .second, .val (.ref b2), .val (.int vf), .val (.int vl), .val (.int vt), .val (.int (3 : Int32)), .val (.int vn0), .val (.int vn1), .val (.int vn2), .val (.ref r236), .val (.ref b241), .val (.int (own_is3 vt vf el0 (vn0.toInt8.toInt32) el1 (vn1.toInt8.toInt32) el2 (vn2.toInt8.toInt32))), .val (.int (0 : Int32))] [(.ref b241)])) rfl (by rw [hml]; rfl) (Steps.refl _) (argsL := []) (rest := []) (lenOf pd0_4 rfl) rfl (by show 2 * 0 + _ ≤ _; exact Nat.le_of_eq rfl) (hb hby at_292) (fun _ _ => ⟨rfl, e301, (by decide : 3 + 0 ≤ _), (by decide : 13 + 0 ≤ _)⟩)
        dsimp only [Pt.U, Pt.locs, Pt.cells, Pt.slots] at X304 l304 y304 z304 st304 hQ304
        subst l304 y304 z304
        obtain ⟨rfl, Nq304, e304⟩ := hQ304
        have N304 := Fr.app N301 Nq304
        have p305 : ∀ t, Steps p.tables e below (T304.setTop (mkF m 295 #[.val (.long x0), .second, .val (.int x1), .val (.long x2), .second, .val (.ref b2), .val (.int vf), .val (.int vl), .val (.int vt), .val (.int (3 : Int32)), .val (.int vn0), .val (.int vn1), .val (.int vn2), .val (.ref r236), .val (.ref b241), .val (.int (own_is3 vt vf el0 (vn0.toInt8.toInt32) el1 (vn1.toInt8.toInt32) el2 (vn2.toInt8.toInt32))), .val (.int (0 : Int32))] [(.int vt)])) t → Steps p.tables e below (s₁.setTop (entryFrame m #[(.long x0), (.int x1), (.long x2)] maxLocals)) t := fun t k => p303 t (st304.trans k)
        have p306 : ∀ t, Steps p.tables e below (T304.setTop (mkF m 305 #[.val (.long x0), .second, .val (.int x1), .val (.long x2), .second, .val (.ref b2), .val (.int vf), .val (.int vl), .val (.int vt), .val (.int (3 : Int32)), .val (.int vn0), .val (.int vn1), .val (.int vn2), .val (.ref r236), .val (.ref b241), .val (.int (own_is3 vt vf el0 (vn0.toInt8.toInt32) el1 (vn1.toInt8.toInt32) el2 (vn2.toInt8.toInt32))), .val (.int (0 : Int32))] [(.int (1 : Int32))])) t → Steps p.tables e below (s₁.setTop (entryFrame m #[(.long x0), (.int x1), (.long x2)] maxLocals)) t := fun t k => p305 t (by
          show Steps p.tables e below (T304.setTop (mkF m 295 #[.val (.long x0), .second, .val (.int x1), .val (.long x2), .second, .val (.ref b2), .val (.int vf), .val (.int vl), .val (.int vt), .val (.int (3 : Int32)), .val (.int vn0), .val (.int vn1), .val (.int vn2), .val (.ref r236), .val (.ref b241), .val (.int (own_is3 vt vf el0 (vn0.toInt8.toInt32) el1 (vn1.toInt8.toInt32) el2 (vn2.toInt8.toInt32))), .val (.int (0 : Int32))] [(.int vt)])) _
          refine XS.iload X304.here hx rfl (hb hby at_295) rfl ?_
          show Steps p.tables e below (T304.setTop (mkF m 297 #[.val (.long x0), .second, .val (.int x1), .val (.long x2), .second, .val (.ref b2), .val (.int vf), .val (.int vl), .val (.int vt), .val (.int (3 : Int32)), .val (.int vn0), .val (.int vn1), .val (.int vn2), .val (.ref r236), .val (.ref b241), .val (.int (own_is3 vt vf el0 (vn0.toInt8.toInt32) el1 (vn1.toInt8.toInt32) el2 (vn2.toInt8.toInt32))), .val (.int (0 : Int32))] [(.int vt), (.int vt)])) _
          refine XS.icmpNo X304.here hx rfl (hb hby at_297) rfl ((teq (rfl)).2) ?_
          show Steps p.tables e below (T304.setTop (mkF m 300 #[.val (.long x0), .second, .val (.int x1), .val (.long x2), .second, .val (.ref b2), .val (.int vf), .val (.int vl), .val (.int vt), .val (.int (3 : Int32)), .val (.int vn0), .val (.int vn1), .val (.int vn2), .val (.ref r236), .val (.ref b241), .val (.int (own_is3 vt vf el0 (vn0.toInt8.toInt32) el1 (vn1.toInt8.toInt32) el2 (vn2.toInt8.toInt32))), .val (.int (0 : Int32))] [])) _
          refine XS.iconst X304.here hx rfl (hb hby at_300) ?_
          show Steps p.tables e below (T304.setTop (mkF m 301 #[.val (.long x0), .second, .val (.int x1), .val (.long x2), .second, .val (.ref b2), .val (.int vf), .val (.int vl), .val (.int vt), .val (.int (3 : Int32)), .val (.int vn0), .val (.int vn1), .val (.int vn2), .val (.ref r236), .val (.ref b241), .val (.int (own_is3 vt vf el0 (vn0.toInt8.toInt32) el1 (vn1.toInt8.toInt32) el2 (vn2.toInt8.toInt32))), .val (.int (0 : Int32))] [(.int (1 : Int32))])) _
          refine XS.goto X304.here hx rfl (pc0 := 301) (pc' := 305) rfl (hb hby at_301) (by decide) (by decide) ?_
          exact k)
        obtain ⟨fs, hr, hrun, hended, hW, hsame⟩ := X304.leave (v := some (.int (1 : Int32))) (fun h => by rw [Bd.returns] at h; cases h)
        refine ⟨_, _, p306 _ ?_, hrun, hended, _, _, rfl, ?_, ⟨_, rfl⟩, hW, hsame.mono (by decide) (by decide)⟩
        · show Steps p.tables e below (T304.setTop (mkF m 305 #[.val (.long x0), .second, .val (.int x1), .val (.long x2), .second, .val (.ref b2), .val (.int vf), .val (.int vl), .val (.int vt), .val (.int (3 : Int32)), .val (.int vn0), .val (.int vn1), .val (.int vn2), .val (.ref r236), .val (.ref b241), .val (.int (own_is3 vt vf el0 (vn0.toInt8.toInt32) el1 (vn1.toInt8.toInt32) el2 (vn2.toInt8.toInt32))), .val (.int (0 : Int32))] [(.int (1 : Int32))])) _
          exact retN X304 hx (t := .boolean) Bd.returns (by simp) (hb hby at_305) hr
        · show Q0 Z x0 x1 x2 a_E h0 n0 _ T304.heap _
          rw [e304]
          exact ⟨rfl, N304⟩
    · have p307 : ∀ t, Steps p.tables e below (T267.setTop (mkF m 282 #[.val (.long x0), .second, .val (.int x1), .val (.long x2), .second, .val (.ref b2), .val (.int vf), .val (.int vl), .val (.int vt), .val (.int (3 : Int32)), .val (.int vn0), .val (.int vn1), .val (.int vn2), .val (.ref r236), .val (.ref b241), .val (.int (own_is3 vt vf el0 (vn0.toInt8.toInt32) el1 (vn1.toInt8.toInt32) el2 (vn2.toInt8.toInt32))), .val (.int (0 : Int32))] [(.ref b241)])) t → Steps p.tables e below (s₁.setTop (entryFrame m #[(.long x0), (.int x1), (.long x2)] maxLocals)) t := fun t k => p269 t (by
        show Steps p.tables e below (T267.setTop (mkF m 211 #[.val (.long x0), .second, .val (.int x1), .val (.long x2), .second, .val (.ref b2), .val (.int vf), .val (.int vl), .val (.int vt), .val (.int (3 : Int32)), .val (.int vn0), .val (.int vn1), .val (.int vn2), .val (.ref r236), .val (.ref b241), .val (.int (own_is3 vt vf el0 (vn0.toInt8.toInt32) el1 (vn1.toInt8.toInt32) el2 (vn2.toInt8.toInt32))), .unset] [(.int (3 : Int32)), (.int vl)])) _
        refine XS.icmpYes X267.here hx rfl (pc0 := 211) (pc' := 270) rfl (hb hby at_211) rfl ((feq (hc211)).2) (by decide) (by decide) ?_
        show Steps p.tables e below (T267.setTop (mkF m 270 #[.val (.long x0), .second, .val (.int x1), .val (.long x2), .second, .val (.ref b2), .val (.int vf), .val (.int vl), .val (.int vt), .val (.int (3 : Int32)), .val (.int vn0), .val (.int vn1), .val (.int vn2), .val (.ref r236), .val (.ref b241), .val (.int (own_is3 vt vf el0 (vn0.toInt8.toInt32) el1 (vn1.toInt8.toInt32) el2 (vn2.toInt8.toInt32))), .unset] [])) _
        refine XS.iconst X267.here hx rfl (hb hby at_270) ?_
        show Steps p.tables e below (T267.setTop (mkF m 271 #[.val (.long x0), .second, .val (.int x1), .val (.long x2), .second, .val (.ref b2), .val (.int vf), .val (.int vl), .val (.int vt), .val (.int (3 : Int32)), .val (.int vn0), .val (.int vn1), .val (.int vn2), .val (.ref r236), .val (.ref b241), .val (.int (own_is3 vt vf el0 (vn0.toInt8.toInt32) el1 (vn1.toInt8.toInt32) el2 (vn2.toInt8.toInt32))), .unset] [(.int (0 : Int32))])) _
        refine XS.istore X267.here hx rfl (hb hby at_271) rfl (l' := #[.val (.long x0), .second, .val (.int x1), .val (.long x2), .second, .val (.ref b2), .val (.int vf), .val (.int vl), .val (.int vt), .val (.int (3 : Int32)), .val (.int vn0), .val (.int vn1), .val (.int vn2), .val (.ref r236), .val (.ref b241), .val (.int (own_is3 vt vf el0 (vn0.toInt8.toInt32) el1 (vn1.toInt8.toInt32) el2 (vn2.toInt8.toInt32))), .val (.int (0 : Int32))]) rfl ?_
        show Steps p.tables e below (T267.setTop (mkF m 273 #[.val (.long x0), .second, .val (.int x1), .val (.long x2), .second, .val (.ref b2), .val (.int vf), .val (.int vl), .val (.int vt), .val (.int (3 : Int32)), .val (.int vn0), .val (.int vn1), .val (.int vn2), .val (.ref r236), .val (.ref b241), .val (.int (own_is3 vt vf el0 (vn0.toInt8.toInt32) el1 (vn1.toInt8.toInt32) el2 (vn2.toInt8.toInt32))), .val (.int (0 : Int32))] [])) _
        refine XS.iload X267.here hx rfl (hb hby at_273) rfl ?_
        show Steps p.tables e below (T267.setTop (mkF m 275 #[.val (.long x0), .second, .val (.int x1), .val (.long x2), .second, .val (.ref b2), .val (.int vf), .val (.int vl), .val (.int vt), .val (.int (3 : Int32)), .val (.int vn0), .val (.int vn1), .val (.int vn2), .val (.ref r236), .val (.ref b241), .val (.int (own_is3 vt vf el0 (vn0.toInt8.toInt32) el1 (vn1.toInt8.toInt32) el2 (vn2.toInt8.toInt32))), .val (.int (0 : Int32))] [(.int (own_is3 vt vf el0 (vn0.toInt8.toInt32) el1 (vn1.toInt8.toInt32) el2 (vn2.toInt8.toInt32)))])) _
        refine XS.iload X267.here hx rfl (hb hby at_275) rfl ?_
        show Steps p.tables e below (T267.setTop (mkF m 277 #[.val (.long x0), .second, .val (.int x1), .val (.long x2), .second, .val (.ref b2), .val (.int vf), .val (.int vl), .val (.int vt), .val (.int (3 : Int32)), .val (.int vn0), .val (.int vn1), .val (.int vn2), .val (.ref r236), .val (.ref b241), .val (.int (own_is3 vt vf el0 (vn0.toInt8.toInt32) el1 (vn1.toInt8.toInt32) el2 (vn2.toInt8.toInt32))), .val (.int (0 : Int32))] [(.int (0 : Int32)), (.int (own_is3 vt vf el0 (vn0.toInt8.toInt32) el1 (vn1.toInt8.toInt32) el2 (vn2.toInt8.toInt32)))])) _
        refine XS.icmpNo X267.here hx rfl (hb hby at_277) rfl ((teq (by unfold own_is3; rw [if_neg (fun q => hc211 ((own_sub hvt).symm.trans q))])).2) ?_
        show Steps p.tables e below (T267.setTop (mkF m 280 #[.val (.long x0), .second, .val (.int x1), .val (.long x2), .second, .val (.ref b2), .val (.int vf), .val (.int vl), .val (.int vt), .val (.int (3 : Int32)), .val (.int vn0), .val (.int vn1), .val (.int vn2), .val (.ref r236), .val (.ref b241), .val (.int (own_is3 vt vf el0 (vn0.toInt8.toInt32) el1 (vn1.toInt8.toInt32) el2 (vn2.toInt8.toInt32))), .val (.int (0 : Int32))] [])) _
        refine XS.aload X267.here hx rfl (hb hby at_280) rfl rfl ?_
        exact k)
      obtain ⟨cq308, kq308, qa308, qb308, qc308⟩ := isOf hZ e267 f264
      obtain ⟨_, _, ⟨T308, L308, k308, n308⟩, -, X308, ⟨Lc308, hQ308, l308, y308, z308⟩, st308⟩ := X267.virtualBack hx (y := (⟨"com/example/kinwarden/kinwarden/NameBytes", "from", "()I"⟩ : MethodName)) (z := (⟨"com/example/kinwarden/kinwarden/NameBytes", "from", "()I"⟩ : MethodName)) hown (mvT hZ (hw _ (List.mem_of_getElem? (i := 34) rfl))) (mvT hZ (hw _ (List.mem_of_getElem? (i := 35) rfl))) (notFace_of_selects (args := #[]) (mvT hZ (hw _ (List.mem_of_getElem? (i := 37) rfl)))) (mvT hZ (hw _ (List.mem_of_getElem? (i := 37) rfl))) (mvT hZ (hw _ (List.mem_of_getElem? (i := 36) rfl))) (by decide) (backOf (W := 0) (rmF l Z a0 hw [] b241 vf T260.heap n0 Z260 Fb260) hZ (hw _ (List.mem_of_getElem? (i := 38) rfl)) (hw _ (List.mem_of_getElem? (i := 7) rfl)) (by decide) (by decide)) qa308 qc308 (g := (mkF m 282 #[.val (.long x0), .second, .val (.int x1), .val (.long x2), .second, .val (.ref b2), .val (.int vf), .val (.int vl), .val (.int vt), .val (.int (3 : Int32)), .val (.int vn0), .val (.int vn1), .val (.int vn2), .val (.ref r236), .val (.ref b241), .val (.int (own_is3 vt vf el0 (vn0.toInt8.toInt32) el1 (vn1.toInt8.toInt32) el2 (vn2.toInt8.toInt32))), .val (.int (0 : Int32))] [(.ref b241)])) rfl (by rw [hml]; rfl) (Steps.refl _) (argsL := []) (rest := []) (lenOf pd0_4 rfl) rfl (by show 2 * 0 + _ ≤ _; exact Nat.le_of_eq rfl) (hb hby at_282) (fun _ _ => ⟨rfl, e267, (by decide : 3 + 0 ≤ _), (by decide : 13 + 0 ≤ _)⟩)
      dsimp only [Pt.U, Pt.locs, Pt.cells, Pt.slots] at X308 l308 y308 z308 st308 hQ308
      subst l308 y308 z308
      obtain ⟨rfl, Nq308, e308⟩ := hQ308
      have N308 := Fr.app N267 Nq308
      have p309 : ∀ t, Steps p.tables e below (T308.setTop (mkF m 285 #[.val (.long x0), .second, .val (.int x1), .val (.long x2), .second, .val (.ref b2), .val (.int vf), .val (.int vl), .val (.int vt), .val (.int (3 : Int32)), .val (.int vn0), .val (.int vn1), .val (.int vn2), .val (.ref r236), .val (.ref b241), .val (.int (own_is3 vt vf el0 (vn0.toInt8.toInt32) el1 (vn1.toInt8.toInt32) el2 (vn2.toInt8.toInt32))), .val (.int (0 : Int32))] [(.int vf)])) t → Steps p.tables e below (s₁.setTop (entryFrame m #[(.long x0), (.int x1), (.long x2)] maxLocals)) t := fun t k => p307 t (st308.trans k)
      have p310 : ∀ t, Steps p.tables e below (T308.setTop (mkF m 292 #[.val (.long x0), .second, .val (.int x1), .val (.long x2), .second, .val (.ref b2), .val (.int vf), .val (.int vl), .val (.int vt), .val (.int (3 : Int32)), .val (.int vn0), .val (.int vn1), .val (.int vn2), .val (.ref r236), .val (.ref b241), .val (.int (own_is3 vt vf el0 (vn0.toInt8.toInt32) el1 (vn1.toInt8.toInt32) el2 (vn2.toInt8.toInt32))), .val (.int (0 : Int32))] [(.ref b241)])) t → Steps p.tables e below (s₁.setTop (entryFrame m #[(.long x0), (.int x1), (.long x2)] maxLocals)) t := fun t k => p309 t (by
        show Steps p.tables e below (T308.setTop (mkF m 285 #[.val (.long x0), .second, .val (.int x1), .val (.long x2), .second, .val (.ref b2), .val (.int vf), .val (.int vl), .val (.int vt), .val (.int (3 : Int32)), .val (.int vn0), .val (.int vn1), .val (.int vn2), .val (.ref r236), .val (.ref b241), .val (.int (own_is3 vt vf el0 (vn0.toInt8.toInt32) el1 (vn1.toInt8.toInt32) el2 (vn2.toInt8.toInt32))), .val (.int (0 : Int32))] [(.int vf)])) _
        refine XS.iload X308.here hx rfl (hb hby at_285) rfl ?_
        show Steps p.tables e below (T308.setTop (mkF m 287 #[.val (.long x0), .second, .val (.int x1), .val (.long x2), .second, .val (.ref b2), .val (.int vf), .val (.int vl), .val (.int vt), .val (.int (3 : Int32)), .val (.int vn0), .val (.int vn1), .val (.int vn2), .val (.ref r236), .val (.ref b241), .val (.int (own_is3 vt vf el0 (vn0.toInt8.toInt32) el1 (vn1.toInt8.toInt32) el2 (vn2.toInt8.toInt32))), .val (.int (0 : Int32))] [(.int vf), (.int vf)])) _
        refine XS.icmpNo X308.here hx rfl (hb hby at_287) rfl ((teq (rfl)).2) ?_
        show Steps p.tables e below (T308.setTop (mkF m 290 #[.val (.long x0), .second, .val (.int x1), .val (.long x2), .second, .val (.ref b2), .val (.int vf), .val (.int vl), .val (.int vt), .val (.int (3 : Int32)), .val (.int vn0), .val (.int vn1), .val (.int vn2), .val (.ref r236), .val (.ref b241), .val (.int (own_is3 vt vf el0 (vn0.toInt8.toInt32) el1 (vn1.toInt8.toInt32) el2 (vn2.toInt8.toInt32))), .val (.int (0 : Int32))] [])) _
        refine XS.aload X308.here hx rfl (hb hby at_290) rfl rfl ?_
        exact k)
      obtain ⟨cq311, kq311, qa311, qb311, qc311⟩ := isOf hZ e308 f264
      obtain ⟨_, _, ⟨T311, L311, k311, n311⟩, -, X311, ⟨Lc311, hQ311, l311, y311, z311⟩, st311⟩ := X308.virtualBack hx (y := (⟨"com/example/kinwarden/kinwarden/NameBytes", "to", "()I"⟩ : MethodName)) (z := (⟨"com/example/kinwarden/kinwarden/NameBytes", "to", "()I"⟩ : MethodName)) hown (mvT hZ (hw _ (List.mem_of_getElem? (i := 39) rfl))) (mvT hZ (hw _ (List.mem_of_getElem? (i := 40) rfl))) (notFace_of_selects (args := #[]) (mvT hZ (hw _ (List.mem_of_getElem? (i := 42) rfl)))) (mvT hZ (hw _ (List.mem_of_getElem? (i := 42) rfl))) (mvT hZ (hw _ (List.mem_of_getElem? (i := 41) rfl))) (by decide) (backOf (W := 0) (rmT l Z a0 hw [] b241 vt T260.heap n0 Z260 Fc260) hZ (hw _ (List.mem_of_getElem? (i := 43) rfl)) (hw _ (List.mem_of_getElem? (i := 7) rfl)) (by decide) (by decide)) qa311 qc311 (g := (mkF m 292 #[.val (.long x0), .second, .val (.int x1), .val (.long x2), .second, .val (.ref b2), .val (.int vf), .val (.int vl), .val (.int vt), .val (.int (3 : Int32)), .val (.int vn0), .val (.int vn1), .val (.int vn2), .val (.ref r236), .val (.ref b241), .val (.int (own_is3 vt vf el0 (vn0.toInt8.toInt32) el1 (vn1.toInt8.toInt32) el2 (vn2.toInt8.toInt32))), .val (.int (0 : Int32))] [(.ref b241)])) rfl (by rw [hml]; rfl) (Steps.refl _) (argsL := []) (rest := []) (lenOf pd0_4 rfl) rfl (by show 2 * 0 + _ ≤ _; exact Nat.le_of_eq rfl) (hb hby at_292) (fun _ _ => ⟨rfl, e308, (by decide : 3 + 0 ≤ _), (by decide : 13 + 0 ≤ _)⟩)
      dsimp only [Pt.U, Pt.locs, Pt.cells, Pt.slots] at X311 l311 y311 z311 st311 hQ311
      subst l311 y311 z311
      obtain ⟨rfl, Nq311, e311⟩ := hQ311
      have N311 := Fr.app N308 Nq311
      have p312 : ∀ t, Steps p.tables e below (T311.setTop (mkF m 295 #[.val (.long x0), .second, .val (.int x1), .val (.long x2), .second, .val (.ref b2), .val (.int vf), .val (.int vl), .val (.int vt), .val (.int (3 : Int32)), .val (.int vn0), .val (.int vn1), .val (.int vn2), .val (.ref r236), .val (.ref b241), .val (.int (own_is3 vt vf el0 (vn0.toInt8.toInt32) el1 (vn1.toInt8.toInt32) el2 (vn2.toInt8.toInt32))), .val (.int (0 : Int32))] [(.int vt)])) t → Steps p.tables e below (s₁.setTop (entryFrame m #[(.long x0), (.int x1), (.long x2)] maxLocals)) t := fun t k => p310 t (st311.trans k)
      have p313 : ∀ t, Steps p.tables e below (T311.setTop (mkF m 305 #[.val (.long x0), .second, .val (.int x1), .val (.long x2), .second, .val (.ref b2), .val (.int vf), .val (.int vl), .val (.int vt), .val (.int (3 : Int32)), .val (.int vn0), .val (.int vn1), .val (.int vn2), .val (.ref r236), .val (.ref b241), .val (.int (own_is3 vt vf el0 (vn0.toInt8.toInt32) el1 (vn1.toInt8.toInt32) el2 (vn2.toInt8.toInt32))), .val (.int (0 : Int32))] [(.int (1 : Int32))])) t → Steps p.tables e below (s₁.setTop (entryFrame m #[(.long x0), (.int x1), (.long x2)] maxLocals)) t := fun t k => p312 t (by
        show Steps p.tables e below (T311.setTop (mkF m 295 #[.val (.long x0), .second, .val (.int x1), .val (.long x2), .second, .val (.ref b2), .val (.int vf), .val (.int vl), .val (.int vt), .val (.int (3 : Int32)), .val (.int vn0), .val (.int vn1), .val (.int vn2), .val (.ref r236), .val (.ref b241), .val (.int (own_is3 vt vf el0 (vn0.toInt8.toInt32) el1 (vn1.toInt8.toInt32) el2 (vn2.toInt8.toInt32))), .val (.int (0 : Int32))] [(.int vt)])) _
        refine XS.iload X311.here hx rfl (hb hby at_295) rfl ?_
        show Steps p.tables e below (T311.setTop (mkF m 297 #[.val (.long x0), .second, .val (.int x1), .val (.long x2), .second, .val (.ref b2), .val (.int vf), .val (.int vl), .val (.int vt), .val (.int (3 : Int32)), .val (.int vn0), .val (.int vn1), .val (.int vn2), .val (.ref r236), .val (.ref b241), .val (.int (own_is3 vt vf el0 (vn0.toInt8.toInt32) el1 (vn1.toInt8.toInt32) el2 (vn2.toInt8.toInt32))), .val (.int (0 : Int32))] [(.int vt), (.int vt)])) _
        refine XS.icmpNo X311.here hx rfl (hb hby at_297) rfl ((teq (rfl)).2) ?_
        show Steps p.tables e below (T311.setTop (mkF m 300 #[.val (.long x0), .second, .val (.int x1), .val (.long x2), .second, .val (.ref b2), .val (.int vf), .val (.int vl), .val (.int vt), .val (.int (3 : Int32)), .val (.int vn0), .val (.int vn1), .val (.int vn2), .val (.ref r236), .val (.ref b241), .val (.int (own_is3 vt vf el0 (vn0.toInt8.toInt32) el1 (vn1.toInt8.toInt32) el2 (vn2.toInt8.toInt32))), .val (.int (0 : Int32))] [])) _
        refine XS.iconst X311.here hx rfl (hb hby at_300) ?_
        show Steps p.tables e below (T311.setTop (mkF m 301 #[.val (.long x0), .second, .val (.int x1), .val (.long x2), .second, .val (.ref b2), .val (.int vf), .val (.int vl), .val (.int vt), .val (.int (3 : Int32)), .val (.int vn0), .val (.int vn1), .val (.int vn2), .val (.ref r236), .val (.ref b241), .val (.int (own_is3 vt vf el0 (vn0.toInt8.toInt32) el1 (vn1.toInt8.toInt32) el2 (vn2.toInt8.toInt32))), .val (.int (0 : Int32))] [(.int (1 : Int32))])) _
        refine XS.goto X311.here hx rfl (pc0 := 301) (pc' := 305) rfl (hb hby at_301) (by decide) (by decide) ?_
        exact k)
      obtain ⟨fs, hr, hrun, hended, hW, hsame⟩ := X311.leave (v := some (.int (1 : Int32))) (fun h => by rw [Bd.returns] at h; cases h)
      refine ⟨_, _, p313 _ ?_, hrun, hended, _, _, rfl, ?_, ⟨_, rfl⟩, hW, hsame.mono (by decide) (by decide)⟩
      · show Steps p.tables e below (T311.setTop (mkF m 305 #[.val (.long x0), .second, .val (.int x1), .val (.long x2), .second, .val (.ref b2), .val (.int vf), .val (.int vl), .val (.int vt), .val (.int (3 : Int32)), .val (.int vn0), .val (.int vn1), .val (.int vn2), .val (.ref r236), .val (.ref b241), .val (.int (own_is3 vt vf el0 (vn0.toInt8.toInt32) el1 (vn1.toInt8.toInt32) el2 (vn2.toInt8.toInt32))), .val (.int (0 : Int32))] [(.int (1 : Int32))])) _
        exact retN X311 hx (t := .boolean) Bd.returns (by simp) (hb hby at_305) hr
      · show Q0 Z x0 x1 x2 a_E h0 n0 _ T311.heap _
        rw [e311]
        exact ⟨rfl, N311⟩
set_option maxRecDepth 65536 in
set_option maxHeartbeats 40000000 in
theorem comes_1 {Post : Tables → Env → Array Value → State → Outcome → State → Prop} (hpost : ∀ tb e args s v u, (limb_1_1.after args s (.returned v) u = true ∧ limb_1_2.after args s (.returned v) u = true ∧ True) → FrameEnd s (.returned v) u (Jvm.fieldLocs frame_1_writes args s ++ Jvm.arrayLocs frame_1_arrays args s ++ Jvm.staticLocs frame_1_statics s) 16 128 → Post tb e args s (.returned v) u) :
    ArmFor flags0 classFile x code maxLocals ret World_1 tables_1 room_1 Calls_1 rest_1 Pre_1 Post := by
  intro l hfl _ _ p e ha hc hk s m args below hf hA hF happ hP
  obtain ⟨hcalls, hrest, hpre⟩ := hP
  obtain ⟨-, -, -, hnamed, -, -, -, hat⟩ := (Spec.applies_iff hf).mp happ
  obtain ⟨hg, hn⟩ := and_e (Cond.before_iff.mp (show (Jvm.Cond.and given_1 narrow_1).before args s = true from hpre))
  obtain ⟨hcount, ga0⟩ := and_e hg
  obtain ⟨gb0, ga1⟩ := and_e ga0
  obtain ⟨gb1, ga2⟩ := and_e ga1
  obtain ⟨w0, w1, w2, rfl⟩ : ∃ w0 w1 w2 : Value, args = #[w0, w1, w2] := by
    have hs : args.size = 3 := by simpa [Cond.value, given_1] using hcount
    obtain ⟨L⟩ := args
    match L, hs with
    | [w0, w1, w2], _ => exact ⟨w0, w1, w2, rfl⟩
  have hw := fun d (hd : d ∈ tables_1) => atoms_spec (ws := Jvm.Cond.code x code maxLocals ret :: tables_1) hat d (List.mem_cons_of_mem _ hd)
  have hfit : Fit s := fun {y c} hc i hi => by
    obtain ⟨ha, rfl⟩ := Array.getElem?_eq_some_iff.mp hc
    have q := List.all_eq_true.mp ((Array.all_eq_true_iff_forall_mem.mp hF) _ (Array.getElem_mem ha)) i (List.mem_range.mpr hi)
    simpa [Array.getElem?_eq_getElem hi] using q
  obtain ⟨i0, ei0⟩ := isL_v gb0
  obtain rfl : w0 = (.long i0) := Option.some.inj ei0
  obtain ⟨i1, ei1⟩ := is_v gb1
  obtain rfl : w1 = (.int i1) := Option.some.inj ei1
  obtain ⟨i2, ei2⟩ := isL_v ga2
  obtain rfl : w2 = (.long i2) := Option.some.inj ei2
  obtain ⟨nn0, nn1⟩ := and_e hn
  obtain ⟨a_E, ev_E⟩ := arr_v nn0
  have S0 : Sta s s.heap "com/example/kinwarden/kinwarden/NameBytes" "EMPTY" "[B" (.ref a_E) := Sta.start ev_E (Or.inr ⟨(hw _ (List.mem_of_getElem? (i := 7) rfl)), (hw _ (List.mem_of_getElem? (i := 15) rfl))⟩)
  have O0 := Old.start s
  obtain ⟨n, o, h1, h2, h3, _, L, rfl, ⟨rfl, N⟩, hq⟩ := rm0 l s _ hw tables_1 i0 i1 i2 a_E s.heap s.heap.size (Nat.le_refl _) O0 S0 p e ha hc hk s m _ below hf ((Spec.applies_iff_loose hf).mp happ).1 ⟨rfl, State.Warmed39.refl s, rfl⟩ trivial
  refine ⟨n, _, h1, h2, h3, hpost _ _ _ _ _ _ ⟨Cond.after_iff.mpr rfl, Cond.after_iff.mpr (eq_i res_at (Term.int_eval (1)) rfl), trivial⟩ ⟨hq.1, hq.2.1, (hq.2.2.sift fun y hy => Or.inr (N y hy)).mono (by decide) (by decide)⟩⟩
theorem main_1_1 : Claimed_1_1 := comes_1 fun _ _ _ _ _ _ h hF => ⟨h.1, hF⟩
theorem main_1_2 : Claimed_1_2 := comes_1 fun _ _ _ _ _ _ h hF => ⟨h.2.1, hF⟩
end Jvm.Pilot.@@N@@
namespace Jvm.Pilot.@@N@@
open Jvm Jvm.ClassFile Sem Op Lib Jvm.Free Jvm.Stand Jvm.Pilot.@@N@@.Jvm.D
/-! MADE BY PROGRAM (witnessworld.py) out of the Statement's table words and the real class files: 7 classes; the members and pool entries that the words name. The judged class is class 1, her method 2. -/
namespace start1
open Jvm.ClassFile
def u (s : String) : CpInfo := .utf8 (stringToUtf16 s)
/-- a pool by its gaps: so many unusable entries, then the entry; so many at the end -/
def gap : Nat → List CpInfo → List CpInfo
  | 0, r => r
  | n + 1, r => .unusable :: gap n r
def poolList (es : List (Nat × CpInfo)) (last : Nat) : List CpInfo := es.foldr (fun e r => gap e.1 (e.2 :: r)) (gap last [])
def pool (es : List (Nat × CpInfo)) (last : Nat) : Array CpInfo := ⟨poolList es last⟩
def fileOf (pool : Array CpInfo) (this : Nat) (attrs : Array Attribute := #[]) (ms : Array MethodInfo := #[]) (fl : Nat := 33) (sup : Nat := 0) (ifs : Array Nat := #[]) (fds : Array FieldInfo := #[]) : ClassFile where
  minorVersion := 0
  majorVersion := 65
  constantPool := pool
  accessFlags := fl
  thisClass := this
  superClass := sup
  interfaces := ifs
  fields := fds
  methods := ms
  attributes := attrs
def plain (name : String) (sup : Option ClassId) : Class where
  name := name
  kind := .ordinary
  loader := none
  accessFlags := 33
  super := sup
  interfaces := #[]
  cf := none
  fields := #[]
  methods := #[]
  instanceTypes := #[]
  staticTypes := #[]
  resolved := #[]
  callSites := []
  init := .initialized
  statics := none
  mirror := none

def pool0 : Array CpInfo := pool [(5, u "<init>"), (0, u "()V"), (1, .class_ 10), (1, u "java/lang/Object")] 113

def k0c0 : Code := { maxStack := 0, maxLocals := 1, code := object_method_1_code, exceptionTable := #[], attributes := #[] }
def k0m0 : Method := { name := "<init>", desc := "()V", sig := { parameters := [], returnType := none }, accessFlags := 1, code := some k0c0 }
/-- java/lang/Object -/
def k0 : Class := { plain "java/lang/Object" none with
  accessFlags := 33
  interfaces := #[]
  cf := some (fileOf pool0 8 #[] #[{ accessFlags := 1, nameIndex := 5, descriptorIndex := 6, attributes := #[] }] 33 0 #[] #[])
  fields := #[]
  methods := #[k0m0]
  instanceTypes := #[]
  staticTypes := #[]
  resolved := Array.replicate 124 none
  statics := none }

def pool1 : Array CpInfo := pool [(2, .class_ 4), (0, .nameAndType 5 6), (0, u "java/lang/Object"), (0, u "<init>"), (0, u "()V"), (0, .methodref 8 9), (0, .class_ 10), (0, .nameAndType 11 12), (0, u "com/example/kinwarden/kinwarden/NameBytesIsPinLaw"), (0, u "make"), (0, u "(IBBB)[B"), (0, .class_ 14), (0, u "com/example/kinwarden/kinwarden/NameBytes"), (0, .methodref 13 3), (0, .methodref 13 17), (0, .nameAndType 18 19), (0, u "hold"), (0, u "([BII)V"), (0, .methodref 13 21), (0, .nameAndType 22 23), (0, u "is"), (0, u "([B)Z"), (0, .methodref 13 25), (0, .nameAndType 26 27), (0, u "from"), (0, u "()I"), (0, .methodref 13 29), (0, .nameAndType 30 27), (0, u "to"), (3, u "law"), (0, u "(JIJ)Z")] 4

def k1m0 : Method := { name := "<init>", desc := "()V", sig := { parameters := [], returnType := none }, accessFlags := 1, code := none }
def k1c1 : Code := { maxStack := 4, maxLocals := 4, code := method_2_code, exceptionTable := #[], attributes := #[] }
def k1m1 : Method := { name := "make", desc := "(IBBB)[B", sig := { parameters := [.int, .byte, .byte, .byte], returnType := some (.array .byte) }, accessFlags := 10, code := some k1c1 }
def k1c2 : Code := { maxStack := 5, maxLocals := 17, code := code, exceptionTable := #[], attributes := #[] }
def k1m2 : Method := { name := "law", desc := "(JIJ)Z", sig := { parameters := [.long, .int, .long], returnType := some .boolean }, accessFlags := 9, code := some k1c2 }
/-- com/example/kinwarden/kinwarden/NameBytesIsPinLaw -/
def k1 : Class := { plain "com/example/kinwarden/kinwarden/NameBytesIsPinLaw" (some 0) with
  accessFlags := 49
  interfaces := #[]
  cf := some (fileOf pool1 8 #[] #[{ accessFlags := 1, nameIndex := 5, descriptorIndex := 6, attributes := #[] }, { accessFlags := 10, nameIndex := 11, descriptorIndex := 12, attributes := #[] }, { accessFlags := 9, nameIndex := 34, descriptorIndex := 35, attributes := #[] }] 49 2 #[] #[])
  fields := #[]
  methods := #[k1m0, k1m1, k1m2]
  instanceTypes := #[]
  staticTypes := #[]
  resolved := Array.replicate 40 none
  statics := none }

def pool2 : Array CpInfo := pool [(1, .methodref 2 3), (0, .class_ 4), (0, .nameAndType 5 6), (0, u "java/lang/Object"), (0, u "<init>"), (0, u "()V"), (0, .fieldref 8 9), (0, .class_ 10), (0, .nameAndType 11 12), (0, u "com/example/kinwarden/kinwarden/NameBytes"), (0, u "EMPTY"), (0, u "[B"), (0, .fieldref 8 14), (0, .nameAndType 15 12), (0, u "bytes"), (0, .fieldref 8 17), (0, .nameAndType 18 12), (0, u "room"), (0, .fieldref 8 20), (0, .nameAndType 21 22), (0, u "from"), (0, u "I"), (0, .fieldref 8 24), (0, .nameAndType 25 22), (0, u "to"), (18, u "()I"), (36, u "hold"), (0, u "([BII)V"), (3, u "is"), (0, u "([B)Z")] 10

def k2c0 : Code := { maxStack := 2, maxLocals := 1, code := prog_71_method_1_code, exceptionTable := #[], attributes := #[] }
def k2m0 : Method := { name := "<init>", desc := "()V", sig := { parameters := [], returnType := none }, accessFlags := 0, code := some k2c0 }
def k2c1 : Code := { maxStack := 2, maxLocals := 4, code := prog_71_method_2_code, exceptionTable := #[], attributes := #[] }
def k2m1 : Method := { name := "hold", desc := "([BII)V", sig := { parameters := [(.array .byte), .int, .int], returnType := none }, accessFlags := 0, code := some k2c1 }
def k2c2 : Code := { maxStack := 1, maxLocals := 1, code := prog_71_method_5_code, exceptionTable := #[], attributes := #[] }
def k2m2 : Method := { name := "from", desc := "()I", sig := { parameters := [], returnType := some .int }, accessFlags := 0, code := some k2c2 }
def k2c3 : Code := { maxStack := 1, maxLocals := 1, code := prog_71_method_6_code, exceptionTable := #[], attributes := #[] }
def k2m3 : Method := { name := "to", desc := "()I", sig := { parameters := [], returnType := some .int }, accessFlags := 0, code := some k2c3 }
def k2c4 : Code := { maxStack := 3, maxLocals := 3, code := prog_71_method_7_code, exceptionTable := #[], attributes := #[] }
def k2m4 : Method := { name := "is", desc := "([B)Z", sig := { parameters := [(.array .byte)], returnType := some .boolean }, accessFlags := 0, code := some k2c4 }
/-- com/example/kinwarden/kinwarden/NameBytes -/
def k2 : Class := { plain "com/example/kinwarden/kinwarden/NameBytes" (some 0) with
  accessFlags := 48
  interfaces := #[]
  cf := some (fileOf pool2 8 #[] #[{ accessFlags := 0, nameIndex := 5, descriptorIndex := 6, attributes := #[] }, { accessFlags := 0, nameIndex := 81, descriptorIndex := 82, attributes := #[] }, { accessFlags := 0, nameIndex := 21, descriptorIndex := 44, attributes := #[] }, { accessFlags := 0, nameIndex := 25, descriptorIndex := 44, attributes := #[] }, { accessFlags := 0, nameIndex := 86, descriptorIndex := 87, attributes := #[] }] 48 2 #[] #[{ accessFlags := 26, nameIndex := 11, descriptorIndex := 12, attributes := #[] }, { accessFlags := 2, nameIndex := 15, descriptorIndex := 12, attributes := #[] }, { accessFlags := 2, nameIndex := 21, descriptorIndex := 22, attributes := #[] }, { accessFlags := 2, nameIndex := 25, descriptorIndex := 22, attributes := #[] }, { accessFlags := 2, nameIndex := 18, descriptorIndex := 12, attributes := #[] }])
  fields := #[{ name := "EMPTY", type := (.array .byte), accessFlags := 26, slot := 0, constantValue := 0 }, { name := "bytes", type := (.array .byte), accessFlags := 2, slot := 0, constantValue := 0 }, { name := "from", type := .int, accessFlags := 2, slot := 1, constantValue := 0 }, { name := "to", type := .int, accessFlags := 2, slot := 2, constantValue := 0 }, { name := "room", type := (.array .byte), accessFlags := 2, slot := 3, constantValue := 0 }]
  methods := #[k2m0, k2m1, k2m2, k2m3, k2m4]
  instanceTypes := #[(.array .byte), .int, .int, (.array .byte)]
  staticTypes := #[(.array .byte)]
  resolved := Array.replicate 98 none
  statics := some 0 }

def pool3 : Array CpInfo := pool [(1, u "java/lang/Cloneable"), (0, .class_ 1), (0, u "java/lang/Object"), (0, .class_ 3)] 3

/-- java/lang/Cloneable -/
def k3 : Class := { plain "java/lang/Cloneable" (some 0) with
  accessFlags := 1537
  interfaces := #[]
  cf := some (fileOf pool3 2 #[] #[] 1537 4 #[] #[])
  fields := #[]
  methods := #[]
  instanceTypes := #[]
  staticTypes := #[]
  resolved := Array.replicate 8 none
  statics := none }

def pool4 : Array CpInfo := pool [(1, u "java/io/Serializable"), (0, .class_ 1), (0, u "java/lang/Object"), (0, .class_ 3)] 3

/-- java/io/Serializable -/
def k4 : Class := { plain "java/io/Serializable" (some 0) with
  accessFlags := 1537
  interfaces := #[]
  cf := some (fileOf pool4 2 #[] #[] 1537 4 #[] #[])
  fields := #[]
  methods := #[]
  instanceTypes := #[]
  staticTypes := #[]
  resolved := Array.replicate 8 none
  statics := none }

/-- the primitive byte -/
def k5 : Class := { plain "byte" none with kind := .primitive 'B', accessFlags := 0x411 }
/-- [B -/
def k6 : Class := { plain "[B" (some 0) with kind := .array 5 .byte, interfaces := #[3, 4], accessFlags := 1041 }

def heap : Heap := #[{ cls := 2, slots := #[.ref 1], vm := .statics 2 },
  { cls := 6, slots := #[], vm := .none }]
def classes : Array Class := #[k0, k1, k2, k3, k4, k5, k6]
def interned : List (Array UInt16 × Addr) := []
def slotsUsed : Nat := 1
def theMethod : MethodId := ⟨1, 2⟩
def args0 : Array Value := #[.long 5, .int 6, .long 9]
def aboutOver (below : List Frame) : State where
  vm := { classes := classes, interned := interned.toArray }
  heap := heap
  slotsUsed := slotsUsed
  threads := #[{ frames := .invoking theMethod args0 :: below }]
def below0 : List Frame := [.native { method := ⟨0, 0⟩, args := #[] }]
def about1 : State := aboutOver below0
def p0 : Program := .bare "" "" ""
def e0 : Env := launch0.env 0 0 0
theorem w_frames : about1.frames = Frame.invoking theMethod args0 :: below0 := rfl
set_option maxRecDepth 65536 in
theorem w_args : argsFit about1.vm theMethod args0 = true := by decide +kernel
set_option maxRecDepth 65536 in
theorem w_heap : heapFits about1 = true := by decide +kernel
set_option maxRecDepth 65536 in
theorem w_runnable : about1.curStatus? = some .runnable := by decide +kernel
set_option maxRecDepth 65536 in
theorem w_alone : about1.alone = true := by decide +kernel
set_option maxRecDepth 65536 in
theorem w_named : about1.methodNamed? x = some theMethod := by decide +kernel
set_option maxRecDepth 65536 in
theorem w_hears : about1.hears theMethod below0 = true := by decide +kernel
set_option maxRecDepth 65536 in
theorem w_ripe : about1.ripe theMethod args0 below0 = true := by decide +kernel
theorem w_running : about1.status = .running := rfl
set_option maxRecDepth 65536 in
theorem w_room : about1.hasRoom e0.platform room_1 = true :=
  launch0.hasRoom_least _ room_1 (by decide +kernel) (by decide +kernel) (by decide +kernel) (by decide +kernel) (by decide +kernel) (by decide +kernel)
theorem allAtoms_all (ts : List Jvm.Cond) (a : Array Jvm.Value) (st : Jvm.State) : (allAtoms ts).before a st = ts.all (fun c => c.before a st) := by
  induction ts with
  | nil => rfl
  | cons c t ih =>
    show (Jvm.Cond.and c (allAtoms t)).before a st = _
    rw [Jvm.Cond.before_and, ih, List.all_cons]
def words1 : List Jvm.Cond := Jvm.Cond.code x code maxLocals ret :: tables_1
/-- a 'code' word, met by the world's own term for the bytes: nothing is compared byte by byte -/
theorem code_word {y : MethodName} {bytes : ByteArray} {mx : Nat} {rt : Option FieldType} {a : Array Value} {s : State} {m : MethodId} {meth : Method} {c : Code} (h1 : s.methodNamed? y = some m) (h2 : s.vm.method? m = some meth) (h3 : meth.code = some c) (h4 : c.code = bytes)
    (h5 : (c.maxLocals == mx && c.exceptionTable.isEmpty && decide (c.maxStack ≤ mostOperands) && decide (meth.sig.returnType = rt) && !meth.locks && decide (parseMethodDescriptor y.desc = some meth.sig)) = true) : (Jvm.Cond.code y bytes mx rt).before a s = true := by
  simp only [Bool.and_eq_true, beq_iff_eq, Bool.not_eq_true', decide_eq_true_eq] at h5
  obtain ⟨⟨⟨⟨⟨g1, g2⟩, g3⟩, g4⟩, g5⟩, g6⟩ := h5
  simp [Cond.before, Cond.holds, Cond.value, h1, h2, h3, h4, g1, g2, g3, g4, g5, g6]
def isCode : Jvm.Cond → Bool
  | .code _ _ _ _ => true
  | _ => false
theorem all_split {L : List Jvm.Cond} {P : Jvm.Cond → Bool} (h1 : L.all (fun c => isCode c || P c) = true) (h2 : ∀ c ∈ L.filter isCode, P c = true) : L.all P = true := by
  refine List.all_eq_true.mpr fun c hc => ?_
  have h := List.all_eq_true.mp h1 c hc
  rcases Bool.eq_false_or_eq_true (isCode c) with hi | hi
  · exact h2 c (List.mem_filter.mpr ⟨hc, hi⟩)
  · simpa [hi] using h
set_option maxRecDepth 65536 in
theorem w_c0 : (Jvm.Cond.code x code maxLocals ret).before args0 about1 = true := code_word (m := ⟨1, 2⟩) (meth := k1m2) (c := k1c2) (by decide +kernel) rfl rfl rfl (by decide +kernel)
set_option maxRecDepth 65536 in
theorem w_c1 : (Jvm.Cond.code ({ cls := "com/example/kinwarden/kinwarden/NameBytesIsPinLaw", name := "make", desc := "(IBBB)[B" } : Jvm.MethodName) method_2_code (4 : Nat) (Option.some (Jvm.ClassFile.FieldType.array Jvm.ClassFile.FieldType.byte))).before args0 about1 = true := code_word (m := ⟨1, 1⟩) (meth := k1m1) (c := k1c1) (by decide +kernel) rfl rfl rfl (by decide +kernel)
set_option maxRecDepth 65536 in
theorem w_c2 : (Jvm.Cond.code ({ cls := "com/example/kinwarden/kinwarden/NameBytes", name := "<init>", desc := "()V" } : Jvm.MethodName) prog_71_method_1_code (1 : Nat) (Option.none : Option Jvm.ClassFile.FieldType)).before args0 about1 = true := code_word (m := ⟨2, 0⟩) (meth := k2m0) (c := k2c0) (by decide +kernel) rfl rfl rfl (by decide +kernel)
set_option maxRecDepth 65536 in
theorem w_c3 : (Jvm.Cond.code ({ cls := "java/lang/Object", name := "<init>", desc := "()V" } : Jvm.MethodName) object_method_1_code (1 : Nat) (Option.none : Option Jvm.ClassFile.FieldType)).before args0 about1 = true := code_word (m := ⟨0, 0⟩) (meth := k0m0) (c := k0c0) (by decide +kernel) rfl rfl rfl (by decide +kernel)
set_option maxRecDepth 65536 in
theorem w_c4 : (Jvm.Cond.code ({ cls := "com/example/kinwarden/kinwarden/NameBytes", name := "hold", desc := "([BII)V" } : Jvm.MethodName) prog_71_method_2_code (4 : Nat) (Option.none : Option Jvm.ClassFile.FieldType)).before args0 about1 = true := code_word (m := ⟨2, 1⟩) (meth := k2m1) (c := k2c1) (by decide +kernel) rfl rfl rfl (by decide +kernel)
set_option maxRecDepth 65536 in
theorem w_c5 : (Jvm.Cond.code ({ cls := "com/example/kinwarden/kinwarden/NameBytes", name := "is", desc := "([B)Z" } : Jvm.MethodName) prog_71_method_7_code (3 : Nat) (Option.some Jvm.ClassFile.FieldType.boolean)).before args0 about1 = true := code_word (m := ⟨2, 4⟩) (meth := k2m4) (c := k2c4) (by decide +kernel) rfl rfl rfl (by decide +kernel)
set_option maxRecDepth 65536 in
theorem w_c6 : (Jvm.Cond.code ({ cls := "com/example/kinwarden/kinwarden/NameBytes", name := "from", desc := "()I" } : Jvm.MethodName) prog_71_method_5_code (1 : Nat) (Option.some Jvm.ClassFile.FieldType.int)).before args0 about1 = true := code_word (m := ⟨2, 2⟩) (meth := k2m2) (c := k2c2) (by decide +kernel) rfl rfl rfl (by decide +kernel)
set_option maxRecDepth 65536 in
theorem w_c7 : (Jvm.Cond.code ({ cls := "com/example/kinwarden/kinwarden/NameBytes", name := "to", desc := "()I" } : Jvm.MethodName) prog_71_method_6_code (1 : Nat) (Option.some Jvm.ClassFile.FieldType.int)).before args0 about1 = true := code_word (m := ⟨2, 3⟩) (meth := k2m3) (c := k2c3) (by decide +kernel) rfl rfl rfl (by decide +kernel)
def codes1 : List Jvm.Cond := [Jvm.Cond.code x code maxLocals ret, Jvm.Cond.code ({ cls := "com/example/kinwarden/kinwarden/NameBytesIsPinLaw", name := "make", desc := "(IBBB)[B" } : Jvm.MethodName) method_2_code (4 : Nat) (Option.some (Jvm.ClassFile.FieldType.array Jvm.ClassFile.FieldType.byte)), Jvm.Cond.code ({ cls := "com/example/kinwarden/kinwarden/NameBytes", name := "<init>", desc := "()V" } : Jvm.MethodName) prog_71_method_1_code (1 : Nat) (Option.none : Option Jvm.ClassFile.FieldType), Jvm.Cond.code ({ cls := "java/lang/Object", name := "<init>", desc := "()V" } : Jvm.MethodName) object_method_1_code (1 : Nat) (Option.none : Option Jvm.ClassFile.FieldType), Jvm.Cond.code ({ cls := "com/example/kinwarden/kinwarden/NameBytes", name := "hold", desc := "([BII)V" } : Jvm.MethodName) prog_71_method_2_code (4 : Nat) (Option.none : Option Jvm.ClassFile.FieldType), Jvm.Cond.code ({ cls := "com/example/kinwarden/kinwarden/NameBytes", name := "is", desc := "([B)Z" } : Jvm.MethodName) prog_71_method_7_code (3 : Nat) (Option.some Jvm.ClassFile.FieldType.boolean), Jvm.Cond.code ({ cls := "com/example/kinwarden/kinwarden/NameBytes", name := "from", desc := "()I" } : Jvm.MethodName) prog_71_method_5_code (1 : Nat) (Option.some Jvm.ClassFile.FieldType.int), Jvm.Cond.code ({ cls := "com/example/kinwarden/kinwarden/NameBytes", name := "to", desc := "()I" } : Jvm.MethodName) prog_71_method_6_code (1 : Nat) (Option.some Jvm.ClassFile.FieldType.int)]
set_option maxRecDepth 65536 in
theorem codes_eq : words1.filter isCode = codes1 := rfl
theorem w_codes : ∀ c ∈ words1.filter isCode, c.before args0 about1 = true := by
  rw [codes_eq]
  intro c hc
  simp only [codes1, List.mem_cons, List.not_mem_nil, or_false] at hc
  rcases hc with rfl | rfl | rfl | rfl | rfl | rfl | rfl | rfl
  · exact w_c0
  · exact w_c1
  · exact w_c2
  · exact w_c3
  · exact w_c4
  · exact w_c5
  · exact w_c6
  · exact w_c7
set_option maxRecDepth 65536 in
theorem w_t1 : (words1.take 24).all (fun c => isCode c || c.before args0 about1) = true := by decide +kernel
set_option maxRecDepth 65536 in
theorem w_t2 : (words1.drop 24).all (fun c => isCode c || c.before args0 about1) = true := by decide +kernel
theorem w_tables : (allAtoms (Jvm.Cond.code x code maxLocals ret :: tables_1)).before args0 about1 = true := by
  rw [allAtoms_all]
  show words1.all (fun c => c.before args0 about1) = true
  refine all_split ?_ w_codes
  rw [← List.take_append_drop 24 words1, List.all_append, w_t1, w_t2]
  rfl
set_option maxRecDepth 65536 in
theorem w_case : (Jvm.Cond.and given_1 narrow_1).before args0 about1 = true := by decide +kernel
theorem w_applies : (headSpec (Jvm.Cond.code x code maxLocals ret :: tables_1) room_1).applies x e0.platform about1 = true :=
  (Spec.applies_iff w_frames).mpr ⟨w_running, w_runnable, w_alone, w_named, w_hears, w_ripe, w_room, w_tables⟩
theorem atStart : AtStart classFile x code maxLocals ret World_1 tables_1 room_1 Calls_1 rest_1 Pre_1 launch0 p0 e0 about1 theMethod args0 below0 :=
  ⟨lists_1, trivial, launch0.admits_env _ _ _, launch0.least_env, fairChoices_fair.cas, fairChoices_fair.clock, w_frames, w_args, w_heap, w_applies, trivial, trivial, w_case⟩
end start1
theorem witness_1 : WitnessClaimed_1 := ⟨start1.p0, start1.e0, start1.about1, start1.theMethod, start1.args0, start1.below0, start1.atStart⟩
end Jvm.Pilot.@@N@@
