import JvmDerived
import JvmDerived.Pilot.@@N@@Statement
import JvmDerived.Pilot.@@N@@Code
set_option linter.unusedVariables false
set_option linter.unusedSimpArgs false
namespace Jvm.RoadKit
open Sem ClassFile Op Lib Jvm.Stand Jvm.Free Jvm.LawKit
section New
variable {p : Program} {l : Launch} {e : Env} {R : Room} {s : State} {m : MethodId} {args : Array Value} {below : List Frame} {meth : Method} {c : Code} {T : State} {locs : List Loc} {cells slots : Nat}
theorem retI (X : Stand p l e R s m args below meth c T locs cells slots) (hx : p.tables.exec = Jvm.exec) {pc : Nat} {Ls : Array Slot} {z : Int32} {rest : List Value} (hret : meth.sig.returnType = some .int) (hd : decode c.code pc = .ok (.ireturn, 1)) {fs : List Frame}
    (hl : ∀ (f : JFrame) (acts : List Action), f.method = m → f.locked = none → f.entered = [] → (doReturn e (T.setTop f) acts (some (.int z))).1 = T.setFrames fs) : Steps p.tables e below (T.setTop (mkF m pc Ls (.int z :: rest))) (T.setFrames fs) :=
  retOut X hx hret rfl (Or.inl ⟨rfl, Or.inl rfl, z, rfl⟩) hd hl
end New
end Jvm.RoadKit
namespace Jvm.Pilot.@@N@@
open Jvm Jvm.ClassFile Sem Op Lib Jvm.Free Jvm.Stand Jvm.LawKit Jvm.RoadKit Bundle Jvm.Pilot.@@N@@.Jvm.D

abbrev own_W (p : Program) (e : Env) (b : List Frame) (m : MethodId) (T : State) (pc : Nat) (L : Array Slot) (S : List Value) (t : State) : Prop := Steps p.tables e b (T.setTop (mkF m pc L S)) t
def own_lo (c : Int32) : Int32 := ((c.toInt8.toInt32).toInt8.toInt32)
def own_hb (c : Int32) : Int32 := (((c >>> ((0 : Int32) &&& 31)).toInt8.toInt32).toInt8.toInt32)
def own_lb (c : Int32) : Int32 := (((c >>> ((8 : Int32) &&& 31)).toInt8.toInt32).toInt8.toInt32)
def own_ok (c : Int32) : Prop := 0 ≤ c.toInt ∧ c.toInt < 65536 ∧ ((32 ≤ c.toInt ∧ c.toInt < 127) ∨ 159 < c.toInt)
def own_ST (Z : State) (cs : Int32) (G : Value) : Prop := Sta Z Z.heap "java/lang/String" "COMPACT_STRINGS" "Z" (.int cs) ∧ ¬ cs = (0 : Int32) ∧ Sta Z Z.heap "java/lang/StringUTF16" "$assertionsDisabled" "Z" (.int (1 : Int32)) ∧ Sta Z Z.heap "java/lang/StringUTF16" "HI_BYTE_SHIFT" "I" (.int (0 : Int32)) ∧ Sta Z Z.heap "java/lang/StringUTF16" "LO_BYTE_SHIFT" "I" (.int (8 : Int32)) ∧ Sta Z Z.heap "jdk/internal/util/Preconditions" "SIOOBE_FORMATTER" "Ljava/util/function/BiFunction;" G ∧ G.isRef = true
theorem own_lits : (0 : Int32).toInt = 0 ∧ (31 : Int32).toInt = 31 ∧ (32 : Int32).toInt = 32 ∧ (33 : Int32).toInt = 33 ∧ (127 : Int32).toInt = 127 ∧ (159 : Int32).toInt = 159 ∧ (255 : Int32).toInt = 255 := by decide
theorem own_narc {c : Int32} (h0 : 0 ≤ c.toInt) (h1 : c.toInt < 65536) : nar .char c = c := by
  show (c.toUInt32.toUInt16.toUInt32.toInt32) = c
  have e := c_i2c c; rw [← Int32.toInt_inj]; omega
theorem own_nok {c : Int32} (h : own_ok c) : nar .char c = c := own_narc h.1 h.2.1
theorem own_m255 (x : Int32) : (x &&& (255 : Int32)).toInt = x.toInt % 256 := c_mask x 255 8 (by decide) (by decide)
theorem own_lat {c : Int32} (h : own_ok c) (h2 : ¬ (255 : Int32) < c) : nar .char (((own_lo c) &&& (255 : Int32)).toUInt32.toUInt16.toUInt32.toInt32) = c := by
  obtain ⟨l0, l1, l2, l3, l4, l5, l6⟩ := own_lits
  obtain ⟨h0, h1, -⟩ := h
  rw [Int32.lt_iff_toInt_lt] at h2
  unfold own_lo
  have e1 := c_i2b c; have e2 := c_i2b (c.toInt8.toInt32); have e3 := own_m255 ((c.toInt8.toInt32).toInt8.toInt32)
  have e4 := c_i2c (((c.toInt8.toInt32).toInt8.toInt32) &&& (255 : Int32))
  have q : ((((c.toInt8.toInt32).toInt8.toInt32) &&& (255 : Int32)).toUInt32.toUInt16.toUInt32.toInt32) = c := by rw [← Int32.toInt_inj]; omega
  rw [q]; exact own_narc h0 h1
theorem own_utf {c : Int32} (h : own_ok c) : nar .char (((((own_hb c) &&& (255 : Int32)) <<< ((0 : Int32) &&& 31)) ||| (((own_lb c) &&& (255 : Int32)) <<< ((8 : Int32) &&& 31))).toUInt32.toUInt16.toUInt32.toInt32) = c := by
  obtain ⟨h0, h1, -⟩ := h
  unfold own_hb own_lb
  have s0 : (c >>> ((0 : Int32) &&& 31)).toInt = c.toInt / 1 := c_ishr c 0 0 (by decide)
  have s8 : (c >>> ((8 : Int32) &&& 31)).toInt = c.toInt / 256 := c_ishr c 8 8 (by decide)
  have a1 := c_i2b (c >>> ((0 : Int32) &&& 31)); have a2 := c_i2b ((c >>> ((0 : Int32) &&& 31)).toInt8.toInt32); have a3 := own_m255 (((c >>> ((0 : Int32) &&& 31)).toInt8.toInt32).toInt8.toInt32)
  have b1 := c_i2b (c >>> ((8 : Int32) &&& 31)); have b2 := c_i2b ((c >>> ((8 : Int32) &&& 31)).toInt8.toInt32); have b3 := own_m255 (((c >>> ((8 : Int32) &&& 31)).toInt8.toInt32).toInt8.toInt32)
  obtain ⟨u, hu⟩ : ∃ z : Int32, z = ((((c >>> ((0 : Int32) &&& 31)).toInt8.toInt32).toInt8.toInt32) &&& (255 : Int32)) := ⟨_, rfl⟩
  obtain ⟨w, hw⟩ : ∃ z : Int32, z = ((((c >>> ((8 : Int32) &&& 31)).toInt8.toInt32).toInt8.toInt32) &&& (255 : Int32)) := ⟨_, rfl⟩
  have hu' : u.toInt = c.toInt % 256 := by rw [hu]; omega
  have hw' : w.toInt = c.toInt / 256 := by rw [hw]; omega
  rw [← hu, ← hw]
  have t0 : ((u <<< ((0 : Int32) &&& 31)).toInt - u.toInt * 1) % 4294967296 = 0 := c_ishl u 0 0 (by decide)
  have t8 : ((w <<< ((8 : Int32) &&& 31)).toInt - w.toInt * 256) % 4294967296 = 0 := c_ishl w 8 8 (by decide)
  have r0 := rng32 (u <<< ((0 : Int32) &&& 31)); have r8 := rng32 (w <<< ((8 : Int32) &&& 31))
  have v0 : (u <<< ((0 : Int32) &&& 31)).toInt = c.toInt % 256 := by omega
  have v8 : (w <<< ((8 : Int32) &&& 31)).toInt = (c.toInt / 256) * 256 := by omega
  have o := c_or' (u <<< ((0 : Int32) &&& 31)) (w <<< ((8 : Int32) &&& 31)) 8 (by decide) 256 rfl (by omega) (by omega) (by omega)
  have ro := rng32 ((u <<< ((0 : Int32) &&& 31)) ||| (w <<< ((8 : Int32) &&& 31)))
  have vo : ((u <<< ((0 : Int32) &&& 31)) ||| (w <<< ((8 : Int32) &&& 31))).toInt = c.toInt := by omega
  have e4 := c_i2c ((u <<< ((0 : Int32) &&& 31)) ||| (w <<< ((8 : Int32) &&& 31)))
  have q : (((u <<< ((0 : Int32) &&& 31)) ||| (w <<< ((8 : Int32) &&& 31))).toUInt32.toUInt16.toUInt32.toInt32) = c := by rw [← Int32.toInt_inj]; omega
  rw [q]; exact own_narc h0 h1
theorem own_ok1 {x v : Int32} (hv : v = (x &&& (65535 : Int32))) (h : ¬ (31 : Int32) < v) : own_ok (nar .char ((v + (32 : Int32)).toUInt32.toUInt16.toUInt32.toInt32)) := by
  obtain ⟨l0, l1, l2, l3, l4, l5, l6⟩ := own_lits
  have m := c_mask x 65535 16 (by decide) (by decide); rw [← hv] at m
  rw [Int32.lt_iff_toInt_lt] at h
  have a := c_iadd v (32 : Int32); have := rng32 (v + (32 : Int32)); have e := c_i2c (v + (32 : Int32))
  rw [own_narc e.2.1 e.2.2]; unfold own_ok; omega
theorem own_ok2 {x v : Int32} (hv : v = (x &&& (65535 : Int32))) (h : (31 : Int32) < v) (h2 : v < (127 : Int32)) : own_ok (nar .char (v.toUInt32.toUInt16.toUInt32.toInt32)) := by
  obtain ⟨l0, l1, l2, l3, l4, l5, l6⟩ := own_lits
  have m := c_mask x 65535 16 (by decide) (by decide); rw [← hv] at m
  rw [Int32.lt_iff_toInt_lt] at h h2
  have e := c_i2c v
  rw [own_narc e.2.1 e.2.2]; unfold own_ok; omega
theorem own_ok3 {x v : Int32} (hv : v = (x &&& (65535 : Int32))) (h : (31 : Int32) < v) (h2 : ¬ v < (127 : Int32)) (h3 : (159 : Int32) < v) : own_ok (nar .char (v.toUInt32.toUInt16.toUInt32.toInt32)) := by
  obtain ⟨l0, l1, l2, l3, l4, l5, l6⟩ := own_lits
  have m := c_mask x 65535 16 (by decide) (by decide); rw [← hv] at m
  rw [Int32.lt_iff_toInt_lt] at h h2 h3
  have e := c_i2c v
  rw [own_narc e.2.1 e.2.2]; unfold own_ok; omega
theorem own_ok4 {x v : Int32} (hv : v = (x &&& (65535 : Int32))) (h : (31 : Int32) < v) (h2 : ¬ v < (127 : Int32)) (h3 : ¬ (159 : Int32) < v) : own_ok (nar .char ((v + (33 : Int32)).toUInt32.toUInt16.toUInt32.toInt32)) := by
  obtain ⟨l0, l1, l2, l3, l4, l5, l6⟩ := own_lits
  have m := c_mask x 65535 16 (by decide) (by decide); rw [← hv] at m
  rw [Int32.lt_iff_toInt_lt] at h h2 h3
  have a := c_iadd v (33 : Int32); have := rng32 (v + (33 : Int32)); have e := c_i2c (v + (33 : Int32))
  rw [own_narc e.2.1 e.2.2]; unfold own_ok; omega
theorem own_iso1 {c : Int32} (h : own_ok c) (h2 : ¬ (159 : Int32) < c) : c < (127 : Int32) := by
  obtain ⟨l0, l1, l2, l3, l4, l5, l6⟩ := own_lits
  rw [Int32.lt_iff_toInt_lt] at *; unfold own_ok at h; omega
theorem own_iso2 {c : Int32} (h : own_ok c) (h2 : ¬ (159 : Int32) < c) : ¬ ((c.toUInt32 >>> ((5 : Int32) &&& 31).toUInt32).toInt32) = (0 : Int32) := fun q => by
  obtain ⟨l0, l1, l2, l3, l4, l5, l6⟩ := own_lits
  have e : ((c.toUInt32 >>> ((5 : Int32) &&& 31).toUInt32).toInt32).toInt = (c.toInt % 4294967296) / 32 := c_iushr c 5 5 (by decide) (by decide)
  rw [q] at e; unfold own_ok at h; omega
theorem own_w255 (x : Int32) : ¬ (255 : Int32) < ((x &&& (255 : Int32)).toUInt32.toUInt16.toUInt32.toInt32) := by
  obtain ⟨l0, l1, l2, l3, l4, l5, l6⟩ := own_lits
  have m := own_m255 x; have e := c_i2c (x &&& (255 : Int32)); rw [Int32.lt_iff_toInt_lt]; omega
theorem own_n3 {n x : Int32} (h : n = ((1 : Int32) + (x &&& (3 : Int32)))) : n = (1 : Int32) ∨ n = (2 : Int32) ∨ n = (3 : Int32) ∨ n = (4 : Int32) := by
  have e := c_mask x 3 2 (by decide) (by decide)
  have e2 := c_iadd (1 : Int32) (x &&& (3 : Int32)); rw [← h] at e2
  have e3 := rng32 n
  simp only [← Int32.toInt_inj]
  have l1 : (1 : Int32).toInt = 1 := by decide
  have l2 : (2 : Int32).toInt = 2 := by decide
  have l3 : (3 : Int32).toInt = 3 := by decide
  have l4 : (4 : Int32).toInt = 4 := by decide
  omega
theorem dok_0 : decode method_2_code 0 = .ok (.iload_n 0, 1) := by decide +kernel
theorem dok_1 : decode method_2_code 1 = .ok (.ldc 7, 2) := by decide +kernel
theorem dok_3 : decode method_2_code 3 = .ok (.iand, 1) := by decide +kernel
theorem dok_4 : decode method_2_code 4 = .ok (.istore_n 1, 1) := by decide +kernel
theorem dok_5 : decode method_2_code 5 = .ok (.iload_n 1, 1) := by decide +kernel
theorem dok_6 : decode method_2_code 6 = .ok (.bipush 31, 2) := by decide +kernel
theorem dok_8 : decode method_2_code 8 = .ok (.if_icmp .gt 11, 3) := by decide +kernel
theorem dok_11 : decode method_2_code 11 = .ok (.iload_n 1, 1) := by decide +kernel
theorem dok_12 : decode method_2_code 12 = .ok (.bipush 32, 2) := by decide +kernel
theorem dok_14 : decode method_2_code 14 = .ok (.iadd, 1) := by decide +kernel
theorem dok_15 : decode method_2_code 15 = .ok (.istore_n 1, 1) := by decide +kernel
theorem dok_16 : decode method_2_code 16 = .ok (.goto 21, 3) := by decide +kernel
theorem dok_19 : decode method_2_code 19 = .ok (.iload_n 1, 1) := by decide +kernel
theorem dok_20 : decode method_2_code 20 = .ok (.bipush 127, 2) := by decide +kernel
theorem dok_22 : decode method_2_code 22 = .ok (.if_icmp .lt 15, 3) := by decide +kernel
theorem dok_25 : decode method_2_code 25 = .ok (.iload_n 1, 1) := by decide +kernel
theorem dok_26 : decode method_2_code 26 = .ok (.sipush 159, 3) := by decide +kernel
theorem dok_29 : decode method_2_code 29 = .ok (.if_icmp .gt 8, 3) := by decide +kernel
theorem dok_32 : decode method_2_code 32 = .ok (.iload_n 1, 1) := by decide +kernel
theorem dok_33 : decode method_2_code 33 = .ok (.bipush 33, 2) := by decide +kernel
theorem dok_35 : decode method_2_code 35 = .ok (.iadd, 1) := by decide +kernel
theorem dok_36 : decode method_2_code 36 = .ok (.istore_n 1, 1) := by decide +kernel
theorem dok_37 : decode method_2_code 37 = .ok (.iload_n 1, 1) := by decide +kernel
theorem dok_38 : decode method_2_code 38 = .ok (.i2c, 1) := by decide +kernel
theorem dok_39 : decode method_2_code 39 = .ok (.ireturn, 1) := by decide +kernel
theorem pnok : plainName "com/example/disposition/disposition/NamesRequirePinLaw" = true := by first | (simp [plainName, overriddenIn]; done) | decide +kernel
theorem efok (m : MethodId) (x0 : Int32) : entryFrame m #[(.int x0)] 2 = mkF m 0 #[.val (.int x0), .unset] [] := by first | (simp [entryFrame, mkF, argsToLocals, Value.category]; done) | rfl
def Qok (Z : State) (x0 : Int32) (h0 : Heap) (n0 : Nat) (v : Option Value) (h : Heap) (L : List Loc) : Prop := ∃ r : Int32, v = some (.int r) ∧ Fr n0 L ∧ h = h0 ∧ own_ok r
set_option maxRecDepth 65536 in
set_option maxHeartbeats 40000000 in
theorem rmok (l : Launch) (Z : State) (a0 : Array Value) (hw : ∀ d ∈ tables_1, d.before a0 Z = true) (ws : List Jvm.Cond) (x0 : Int32) (h0 : Heap) (n0 : Nat) (Z0 : n0 ≤ h0.size) :
    MetFree l (⟨"com/example/disposition/disposition/NamesRequirePinLaw", "ok", "(I)C"⟩ : MethodName) (head1 (Jvm.Cond.code (⟨"com/example/disposition/disposition/NamesRequirePinLaw", "ok", "(I)C"⟩ : MethodName) method_2_code 2 (some .char) :: ws) ({ frames := 0, cells := 0, slots := 0, locals := 0 } : Room)) (fun a U => a = #[(.int x0)] ∧ Z.Warmed39 U.vm ∧ U.heap = h0) (fun _ _ _ _ _ => True) (fun _ U o U' => ∃ v L, o = .returned v ∧ Qok Z x0 h0 n0 v U'.heap L ∧ FrameEnd U o U' L ({ frames := 0, cells := 0, slots := 0, locals := 0 } : Room).cells ({ frames := 0, cells := 0, slots := 0, locals := 0 } : Room).slots) := by
  refine MetFree.of_bodySF (plainFor_of_name pnok) hisR ?_
  intro p e s m args below meth c s₁ Bd hml0 hP hK
  obtain ⟨rfl, hZ, hh⟩ := hP
  have hx := Bd.exec
  have hby := Bd.bytes
  have hml : c.maxLocals = 2 := hml0
  have hown : s.vm.findClass "com/example/disposition/disposition/NamesRequirePinLaw" = some m.cls := findClass_of_methodNamed Bd.named
  have hnm := (name_of_methodNamed Bd.named Bd.method).1
  have X0 : Stand p l e ({ frames := 0, cells := 0, slots := 0, locals := 0 } : Room) s m #[(.int x0)] below meth c s₁ [] 0 0 := Stand.of_body Bd
  have e0 : s₁.heap = h0 := by rw [← hh, Bd.state]; rfl
  have N0 := Fr.nil n0
  have pre0 : ∀ t, Steps p.tables e below (s₁.setTop (mkF m 0 #[.val (.int x0), .unset] [])) t → Steps p.tables e below (s₁.setTop (entryFrame m #[(.int x0)] 2)) t := fun t k => castTop (efok m x0) k
  obtain ⟨S0, hS0⟩ : ∃ z, z = (s₁.setTop (entryFrame m #[(.int x0)] 2)) := ⟨_, rfl⟩
  rw [← hS0] at pre0
  have p1 : ∀ t, own_W p e below m s₁ 5 #[.val (.int x0), .val (.int (x0 &&& (65535 : Int32)))] [] t → Steps p.tables e below S0 t := fun t k => pre0 t (by
    show own_W p e below m s₁ 0 #[.val (.int x0), .unset] [] _
    refine XS.iloadN X0.here hx rfl (hb hby dok_0) rfl ?_
    show own_W p e below m s₁ 1 #[.val (.int x0), .unset] [(.int x0)] _
    refine X0.ldcInt hx hown (mvT hZ (hw _ (List.mem_of_getElem? (i := 4) rfl))) (g := (mkF m 1 #[.val (.int x0), .unset] [(.int x0)])) rfl (hb hby dok_1) _ ?_
    show own_W p e below m s₁ 3 #[.val (.int x0), .unset] [(.int (65535 : Int32)), (.int x0)] _
    refine XS.iand X0.here hx rfl (hb hby dok_3) rfl ?_
    show own_W p e below m s₁ 4 #[.val (.int x0), .unset] [(.int (x0 &&& (65535 : Int32)))] _
    refine XS.istoreN X0.here hx rfl (hb hby dok_4) rfl (l' := #[.val (.int x0), .val (.int (x0 &&& (65535 : Int32)))]) rfl ?_
    exact k)
  obtain ⟨vc, hvc⟩ : ∃ z : Int32, z = (x0 &&& (65535 : Int32)) := ⟨_, rfl⟩
  have p2 : ∀ t, own_W p e below m s₁ 5 #[.val (.int x0), .val (.int vc)] [] t → Steps p.tables e below S0 t := by
    intro t k; subst hvc; exact p1 t k
  have p3 : ∀ t, own_W p e below m s₁ 8 #[.val (.int x0), .val (.int vc)] [(.int (31 : Int32)), (.int vc)] t → Steps p.tables e below S0 t := fun t k => p2 t (by
    show own_W p e below m s₁ 5 #[.val (.int x0), .val (.int vc)] [] _
    refine XS.iloadN X0.here hx rfl (hb hby dok_5) rfl ?_
    show own_W p e below m s₁ 6 #[.val (.int x0), .val (.int vc)] [(.int vc)] _
    refine XS.bipush X0.here hx rfl (hb hby dok_6) ?_
    exact k)
  by_cases hc8 : (31 : Int32) < vc
  · have p4 : ∀ t, own_W p e below m s₁ 22 #[.val (.int x0), .val (.int vc)] [(.int (127 : Int32)), (.int vc)] t → Steps p.tables e below S0 t := fun t k => p3 t (by
      show own_W p e below m s₁ 8 #[.val (.int x0), .val (.int vc)] [(.int (31 : Int32)), (.int vc)] _
      refine XS.icmpYes X0.here hx rfl (pc0 := 8) (pc' := 19) rfl (hb hby dok_8) rfl ((tlt (hc8)).2.2.1) (by decide) (by decide) ?_
      show own_W p e below m s₁ 19 #[.val (.int x0), .val (.int vc)] [] _
      refine XS.iloadN X0.here hx rfl (hb hby dok_19) rfl ?_
      show own_W p e below m s₁ 20 #[.val (.int x0), .val (.int vc)] [(.int vc)] _
      refine XS.bipush X0.here hx rfl (hb hby dok_20) ?_
      exact k)
    by_cases hc22 : vc < (127 : Int32)
    · have p5 : ∀ t, own_W p e below m s₁ 39 #[.val (.int x0), .val (.int vc)] [(.int (vc.toUInt32.toUInt16.toUInt32.toInt32))] t → Steps p.tables e below S0 t := fun t k => p4 t (by
        show own_W p e below m s₁ 22 #[.val (.int x0), .val (.int vc)] [(.int (127 : Int32)), (.int vc)] _
        refine XS.icmpYes X0.here hx rfl (pc0 := 22) (pc' := 37) rfl (hb hby dok_22) rfl ((tlt (hc22)).1) (by decide) (by decide) ?_
        show own_W p e below m s₁ 37 #[.val (.int x0), .val (.int vc)] [] _
        refine XS.iloadN X0.here hx rfl (hb hby dok_37) rfl ?_
        show own_W p e below m s₁ 38 #[.val (.int x0), .val (.int vc)] [(.int vc)] _
        refine XS.i2c X0.here hx rfl (hb hby dok_38) rfl ?_
        exact k)
      subst hS0
      obtain ⟨fs, hr, hrun, hended, hW, hsame⟩ := X0.leave (v := some (.int (nar .char (vc.toUInt32.toUInt16.toUInt32.toInt32)))) (fun h => by rw [Bd.returns] at h; cases h)
      refine ⟨_, _, p5 _ ?_, hrun, hended, _, _, rfl, ?_, ⟨_, rfl⟩, hW, hsame.mono (by decide) (by decide)⟩
      · show own_W p e below m s₁ 39 #[.val (.int x0), .val (.int vc)] [(.int (vc.toUInt32.toUInt16.toUInt32.toInt32))] _
        exact retN X0 hx (t := .char) Bd.returns (by simp) (hb hby dok_39) hr
      · show Qok Z x0 h0 n0 _ s₁.heap _
        rw [e0]
        exact ⟨_, rfl, N0, rfl, own_ok2 hvc hc8 hc22⟩
    · have p6 : ∀ t, own_W p e below m s₁ 29 #[.val (.int x0), .val (.int vc)] [(.int (159 : Int32)), (.int vc)] t → Steps p.tables e below S0 t := fun t k => p4 t (by
        show own_W p e below m s₁ 22 #[.val (.int x0), .val (.int vc)] [(.int (127 : Int32)), (.int vc)] _
        refine XS.icmpNo X0.here hx rfl (hb hby dok_22) rfl ((flt (hc22)).1) ?_
        show own_W p e below m s₁ 25 #[.val (.int x0), .val (.int vc)] [] _
        refine XS.iloadN X0.here hx rfl (hb hby dok_25) rfl ?_
        show own_W p e below m s₁ 26 #[.val (.int x0), .val (.int vc)] [(.int vc)] _
        refine XS.sipush X0.here hx rfl (hb hby dok_26) ?_
        exact k)
      by_cases hc29 : (159 : Int32) < vc
      · have p7 : ∀ t, own_W p e below m s₁ 39 #[.val (.int x0), .val (.int vc)] [(.int (vc.toUInt32.toUInt16.toUInt32.toInt32))] t → Steps p.tables e below S0 t := fun t k => p6 t (by
          show own_W p e below m s₁ 29 #[.val (.int x0), .val (.int vc)] [(.int (159 : Int32)), (.int vc)] _
          refine XS.icmpYes X0.here hx rfl (pc0 := 29) (pc' := 37) rfl (hb hby dok_29) rfl ((tlt (hc29)).2.2.1) (by decide) (by decide) ?_
          show own_W p e below m s₁ 37 #[.val (.int x0), .val (.int vc)] [] _
          refine XS.iloadN X0.here hx rfl (hb hby dok_37) rfl ?_
          show own_W p e below m s₁ 38 #[.val (.int x0), .val (.int vc)] [(.int vc)] _
          refine XS.i2c X0.here hx rfl (hb hby dok_38) rfl ?_
          exact k)
        subst hS0
        obtain ⟨fs, hr, hrun, hended, hW, hsame⟩ := X0.leave (v := some (.int (nar .char (vc.toUInt32.toUInt16.toUInt32.toInt32)))) (fun h => by rw [Bd.returns] at h; cases h)
        refine ⟨_, _, p7 _ ?_, hrun, hended, _, _, rfl, ?_, ⟨_, rfl⟩, hW, hsame.mono (by decide) (by decide)⟩
        · show own_W p e below m s₁ 39 #[.val (.int x0), .val (.int vc)] [(.int (vc.toUInt32.toUInt16.toUInt32.toInt32))] _
          exact retN X0 hx (t := .char) Bd.returns (by simp) (hb hby dok_39) hr
        · show Qok Z x0 h0 n0 _ s₁.heap _
          rw [e0]
          exact ⟨_, rfl, N0, rfl, own_ok3 hvc hc8 hc22 hc29⟩
      · have p8 : ∀ t, own_W p e below m s₁ 39 #[.val (.int x0), .val (.int (vc + (33 : Int32)))] [(.int ((vc + (33 : Int32)).toUInt32.toUInt16.toUInt32.toInt32))] t → Steps p.tables e below S0 t := fun t k => p6 t (by
          show own_W p e below m s₁ 29 #[.val (.int x0), .val (.int vc)] [(.int (159 : Int32)), (.int vc)] _
          refine XS.icmpNo X0.here hx rfl (hb hby dok_29) rfl ((flt (hc29)).2.2.1) ?_
          show own_W p e below m s₁ 32 #[.val (.int x0), .val (.int vc)] [] _
          refine XS.iloadN X0.here hx rfl (hb hby dok_32) rfl ?_
          show own_W p e below m s₁ 33 #[.val (.int x0), .val (.int vc)] [(.int vc)] _
          refine XS.bipush X0.here hx rfl (hb hby dok_33) ?_
          show own_W p e below m s₁ 35 #[.val (.int x0), .val (.int vc)] [(.int (33 : Int32)), (.int vc)] _
          refine XS.iadd X0.here hx rfl (hb hby dok_35) rfl ?_
          show own_W p e below m s₁ 36 #[.val (.int x0), .val (.int vc)] [(.int (vc + (33 : Int32)))] _
          refine XS.istoreN X0.here hx rfl (hb hby dok_36) rfl (l' := #[.val (.int x0), .val (.int (vc + (33 : Int32)))]) rfl ?_
          show own_W p e below m s₁ 37 #[.val (.int x0), .val (.int (vc + (33 : Int32)))] [] _
          refine XS.iloadN X0.here hx rfl (hb hby dok_37) rfl ?_
          show own_W p e below m s₁ 38 #[.val (.int x0), .val (.int (vc + (33 : Int32)))] [(.int (vc + (33 : Int32)))] _
          refine XS.i2c X0.here hx rfl (hb hby dok_38) rfl ?_
          exact k)
        subst hS0
        obtain ⟨fs, hr, hrun, hended, hW, hsame⟩ := X0.leave (v := some (.int (nar .char ((vc + (33 : Int32)).toUInt32.toUInt16.toUInt32.toInt32)))) (fun h => by rw [Bd.returns] at h; cases h)
        refine ⟨_, _, p8 _ ?_, hrun, hended, _, _, rfl, ?_, ⟨_, rfl⟩, hW, hsame.mono (by decide) (by decide)⟩
        · show own_W p e below m s₁ 39 #[.val (.int x0), .val (.int (vc + (33 : Int32)))] [(.int ((vc + (33 : Int32)).toUInt32.toUInt16.toUInt32.toInt32))] _
          exact retN X0 hx (t := .char) Bd.returns (by simp) (hb hby dok_39) hr
        · show Qok Z x0 h0 n0 _ s₁.heap _
          rw [e0]
          exact ⟨_, rfl, N0, rfl, own_ok4 hvc hc8 hc22 hc29⟩
  · have p9 : ∀ t, own_W p e below m s₁ 39 #[.val (.int x0), .val (.int (vc + (32 : Int32)))] [(.int ((vc + (32 : Int32)).toUInt32.toUInt16.toUInt32.toInt32))] t → Steps p.tables e below S0 t := fun t k => p3 t (by
      show own_W p e below m s₁ 8 #[.val (.int x0), .val (.int vc)] [(.int (31 : Int32)), (.int vc)] _
      refine XS.icmpNo X0.here hx rfl (hb hby dok_8) rfl ((flt (hc8)).2.2.1) ?_
      show own_W p e below m s₁ 11 #[.val (.int x0), .val (.int vc)] [] _
      refine XS.iloadN X0.here hx rfl (hb hby dok_11) rfl ?_
      show own_W p e below m s₁ 12 #[.val (.int x0), .val (.int vc)] [(.int vc)] _
      refine XS.bipush X0.here hx rfl (hb hby dok_12) ?_
      show own_W p e below m s₁ 14 #[.val (.int x0), .val (.int vc)] [(.int (32 : Int32)), (.int vc)] _
      refine XS.iadd X0.here hx rfl (hb hby dok_14) rfl ?_
      show own_W p e below m s₁ 15 #[.val (.int x0), .val (.int vc)] [(.int (vc + (32 : Int32)))] _
      refine XS.istoreN X0.here hx rfl (hb hby dok_15) rfl (l' := #[.val (.int x0), .val (.int (vc + (32 : Int32)))]) rfl ?_
      show own_W p e below m s₁ 16 #[.val (.int x0), .val (.int (vc + (32 : Int32)))] [] _
      refine XS.goto X0.here hx rfl (pc0 := 16) (pc' := 37) rfl (hb hby dok_16) (by decide) (by decide) ?_
      show own_W p e below m s₁ 37 #[.val (.int x0), .val (.int (vc + (32 : Int32)))] [] _
      refine XS.iloadN X0.here hx rfl (hb hby dok_37) rfl ?_
      show own_W p e below m s₁ 38 #[.val (.int x0), .val (.int (vc + (32 : Int32)))] [(.int (vc + (32 : Int32)))] _
      refine XS.i2c X0.here hx rfl (hb hby dok_38) rfl ?_
      exact k)
    subst hS0
    obtain ⟨fs, hr, hrun, hended, hW, hsame⟩ := X0.leave (v := some (.int (nar .char ((vc + (32 : Int32)).toUInt32.toUInt16.toUInt32.toInt32)))) (fun h => by rw [Bd.returns] at h; cases h)
    refine ⟨_, _, p9 _ ?_, hrun, hended, _, _, rfl, ?_, ⟨_, rfl⟩, hW, hsame.mono (by decide) (by decide)⟩
    · show own_W p e below m s₁ 39 #[.val (.int x0), .val (.int (vc + (32 : Int32)))] [(.int ((vc + (32 : Int32)).toUInt32.toUInt16.toUInt32.toInt32))] _
      exact retN X0 hx (t := .char) Bd.returns (by simp) (hb hby dok_39) hr
    · show Qok Z x0 h0 n0 _ s₁.heap _
      rw [e0]
      exact ⟨_, rfl, N0, rfl, own_ok1 hvc hc8⟩
theorem dce1_0 : decode jdk_43_method_3_code 0 = .ok (.iload_n 0, 1) := by decide +kernel
theorem dce1_1 : decode jdk_43_method_3_code 1 = .ok (.sipush 255, 3) := by decide +kernel
theorem dce1_4 : decode jdk_43_method_3_code 4 = .ok (.if_icmp .gt 7, 3) := by decide +kernel
theorem dce1_7 : decode jdk_43_method_3_code 7 = .ok (.iconst 1, 1) := by decide +kernel
theorem dce1_8 : decode jdk_43_method_3_code 8 = .ok (.goto 4, 3) := by decide +kernel
theorem dce1_12 : decode jdk_43_method_3_code 12 = .ok (.ireturn, 1) := by decide +kernel
theorem pnce1 : plainName "java/lang/StringLatin1" = true := by first | (simp [plainName, overriddenIn]; done) | decide +kernel
theorem efce1 (m : MethodId) (x0 : Int32) : entryFrame m #[(.int x0)] 1 = mkF m 0 #[.val (.int x0)] [] := by first | (simp [entryFrame, mkF, argsToLocals, Value.category]; done) | rfl
def Qce1 (Z : State) (x0 : Int32) (h0 : Heap) (n0 : Nat) (v : Option Value) (h : Heap) (L : List Loc) : Prop := v = some (.int (1 : Int32)) ∧ Fr n0 L ∧ h = h0
set_option maxRecDepth 65536 in
set_option maxHeartbeats 40000000 in
theorem rmce1 (l : Launch) (Z : State) (a0 : Array Value) (hw : ∀ d ∈ tables_1, d.before a0 Z = true) (ws : List Jvm.Cond) (x0 : Int32) (h0 : Heap) (n0 : Nat) (Z0 : n0 ≤ h0.size) (hle : ¬ (255 : Int32) < x0) :
    MetFree l (⟨"java/lang/StringLatin1", "canEncode", "(C)Z"⟩ : MethodName) (head1 (Jvm.Cond.code (⟨"java/lang/StringLatin1", "canEncode", "(C)Z"⟩ : MethodName) jdk_43_method_3_code 1 (some .boolean) :: ws) ({ frames := 0, cells := 0, slots := 0, locals := 0 } : Room)) (fun a U => a = #[(.int x0)] ∧ Z.Warmed39 U.vm ∧ U.heap = h0) (fun _ _ _ _ _ => True) (fun _ U o U' => ∃ v L, o = .returned v ∧ Qce1 Z x0 h0 n0 v U'.heap L ∧ FrameEnd U o U' L ({ frames := 0, cells := 0, slots := 0, locals := 0 } : Room).cells ({ frames := 0, cells := 0, slots := 0, locals := 0 } : Room).slots) := by
  refine MetFree.of_bodySF (plainFor_of_name pnce1) hisR ?_
  intro p e s m args below meth c s₁ Bd hml0 hP hK
  obtain ⟨rfl, hZ, hh⟩ := hP
  have hx := Bd.exec
  have hby := Bd.bytes
  have hml : c.maxLocals = 1 := hml0
  have hown : s.vm.findClass "java/lang/StringLatin1" = some m.cls := findClass_of_methodNamed Bd.named
  have hnm := (name_of_methodNamed Bd.named Bd.method).1
  have X0 : Stand p l e ({ frames := 0, cells := 0, slots := 0, locals := 0 } : Room) s m #[(.int x0)] below meth c s₁ [] 0 0 := Stand.of_body Bd
  have e0 : s₁.heap = h0 := by rw [← hh, Bd.state]; rfl
  have N0 := Fr.nil n0
  have pre0 : ∀ t, Steps p.tables e below (s₁.setTop (mkF m 0 #[.val (.int x0)] [])) t → Steps p.tables e below (s₁.setTop (entryFrame m #[(.int x0)] 1)) t := fun t k => castTop (efce1 m x0) k
  obtain ⟨S0, hS0⟩ : ∃ z, z = (s₁.setTop (entryFrame m #[(.int x0)] 1)) := ⟨_, rfl⟩
  rw [← hS0] at pre0
  have p1 : ∀ t, own_W p e below m s₁ 12 #[.val (.int x0)] [(.int (1 : Int32))] t → Steps p.tables e below S0 t := fun t k => pre0 t (by
    show own_W p e below m s₁ 0 #[.val (.int x0)] [] _
    refine XS.iloadN X0.here hx rfl (hb hby dce1_0) rfl ?_
    show own_W p e below m s₁ 1 #[.val (.int x0)] [(.int x0)] _
    refine XS.sipush X0.here hx rfl (hb hby dce1_1) ?_
    show own_W p e below m s₁ 4 #[.val (.int x0)] [(.int (255 : Int32)), (.int x0)] _
    refine XS.icmpNo X0.here hx rfl (hb hby dce1_4) rfl ((flt (hle)).2.2.1) ?_
    show own_W p e below m s₁ 7 #[.val (.int x0)] [] _
    refine XS.iconst X0.here hx rfl (hb hby dce1_7) ?_
    show own_W p e below m s₁ 8 #[.val (.int x0)] [(.int (1 : Int32))] _
    refine XS.goto X0.here hx rfl (pc0 := 8) (pc' := 12) rfl (hb hby dce1_8) (by decide) (by decide) ?_
    exact k)
  subst hS0
  obtain ⟨fs, hr, hrun, hended, hW, hsame⟩ := X0.leave (v := some (.int (1 : Int32))) (fun h => by rw [Bd.returns] at h; cases h)
  refine ⟨_, _, p1 _ ?_, hrun, hended, _, _, rfl, ?_, ⟨_, rfl⟩, hW, hsame.mono (by decide) (by decide)⟩
  · show own_W p e below m s₁ 12 #[.val (.int x0)] [(.int (1 : Int32))] _
    exact retN X0 hx (t := .boolean) Bd.returns (by simp) (hb hby dce1_12) hr
  · show Qce1 Z x0 h0 n0 _ s₁.heap _
    rw [e0]
    exact ⟨rfl, N0, rfl⟩
theorem dce0_0 : decode jdk_43_method_3_code 0 = .ok (.iload_n 0, 1) := by decide +kernel
theorem dce0_1 : decode jdk_43_method_3_code 1 = .ok (.sipush 255, 3) := by decide +kernel
theorem dce0_4 : decode jdk_43_method_3_code 4 = .ok (.if_icmp .gt 7, 3) := by decide +kernel
theorem dce0_11 : decode jdk_43_method_3_code 11 = .ok (.iconst 0, 1) := by decide +kernel
theorem dce0_12 : decode jdk_43_method_3_code 12 = .ok (.ireturn, 1) := by decide +kernel
theorem pnce0 : plainName "java/lang/StringLatin1" = true := by first | (simp [plainName, overriddenIn]; done) | decide +kernel
theorem efce0 (m : MethodId) (x0 : Int32) : entryFrame m #[(.int x0)] 1 = mkF m 0 #[.val (.int x0)] [] := by first | (simp [entryFrame, mkF, argsToLocals, Value.category]; done) | rfl
def Qce0 (Z : State) (x0 : Int32) (h0 : Heap) (n0 : Nat) (v : Option Value) (h : Heap) (L : List Loc) : Prop := v = some (.int (0 : Int32)) ∧ Fr n0 L ∧ h = h0
set_option maxRecDepth 65536 in
set_option maxHeartbeats 40000000 in
theorem rmce0 (l : Launch) (Z : State) (a0 : Array Value) (hw : ∀ d ∈ tables_1, d.before a0 Z = true) (ws : List Jvm.Cond) (x0 : Int32) (h0 : Heap) (n0 : Nat) (Z0 : n0 ≤ h0.size) (hgt : (255 : Int32) < x0) :
    MetFree l (⟨"java/lang/StringLatin1", "canEncode", "(C)Z"⟩ : MethodName) (head1 (Jvm.Cond.code (⟨"java/lang/StringLatin1", "canEncode", "(C)Z"⟩ : MethodName) jdk_43_method_3_code 1 (some .boolean) :: ws) ({ frames := 0, cells := 0, slots := 0, locals := 0 } : Room)) (fun a U => a = #[(.int x0)] ∧ Z.Warmed39 U.vm ∧ U.heap = h0) (fun _ _ _ _ _ => True) (fun _ U o U' => ∃ v L, o = .returned v ∧ Qce0 Z x0 h0 n0 v U'.heap L ∧ FrameEnd U o U' L ({ frames := 0, cells := 0, slots := 0, locals := 0 } : Room).cells ({ frames := 0, cells := 0, slots := 0, locals := 0 } : Room).slots) := by
  refine MetFree.of_bodySF (plainFor_of_name pnce0) hisR ?_
  intro p e s m args below meth c s₁ Bd hml0 hP hK
  obtain ⟨rfl, hZ, hh⟩ := hP
  have hx := Bd.exec
  have hby := Bd.bytes
  have hml : c.maxLocals = 1 := hml0
  have hown : s.vm.findClass "java/lang/StringLatin1" = some m.cls := findClass_of_methodNamed Bd.named
  have hnm := (name_of_methodNamed Bd.named Bd.method).1
  have X0 : Stand p l e ({ frames := 0, cells := 0, slots := 0, locals := 0 } : Room) s m #[(.int x0)] below meth c s₁ [] 0 0 := Stand.of_body Bd
  have e0 : s₁.heap = h0 := by rw [← hh, Bd.state]; rfl
  have N0 := Fr.nil n0
  have pre0 : ∀ t, Steps p.tables e below (s₁.setTop (mkF m 0 #[.val (.int x0)] [])) t → Steps p.tables e below (s₁.setTop (entryFrame m #[(.int x0)] 1)) t := fun t k => castTop (efce0 m x0) k
  obtain ⟨S0, hS0⟩ : ∃ z, z = (s₁.setTop (entryFrame m #[(.int x0)] 1)) := ⟨_, rfl⟩
  rw [← hS0] at pre0
  have p1 : ∀ t, own_W p e below m s₁ 12 #[.val (.int x0)] [(.int (0 : Int32))] t → Steps p.tables e below S0 t := fun t k => pre0 t (by
    show own_W p e below m s₁ 0 #[.val (.int x0)] [] _
    refine XS.iloadN X0.here hx rfl (hb hby dce0_0) rfl ?_
    show own_W p e below m s₁ 1 #[.val (.int x0)] [(.int x0)] _
    refine XS.sipush X0.here hx rfl (hb hby dce0_1) ?_
    show own_W p e below m s₁ 4 #[.val (.int x0)] [(.int (255 : Int32)), (.int x0)] _
    refine XS.icmpYes X0.here hx rfl (pc0 := 4) (pc' := 11) rfl (hb hby dce0_4) rfl ((tlt (hgt)).2.2.1) (by decide) (by decide) ?_
    show own_W p e below m s₁ 11 #[.val (.int x0)] [] _
    refine XS.iconst X0.here hx rfl (hb hby dce0_11) ?_
    exact k)
  subst hS0
  obtain ⟨fs, hr, hrun, hended, hW, hsame⟩ := X0.leave (v := some (.int (0 : Int32))) (fun h => by rw [Bd.returns] at h; cases h)
  refine ⟨_, _, p1 _ ?_, hrun, hended, _, _, rfl, ?_, ⟨_, rfl⟩, hW, hsame.mono (by decide) (by decide)⟩
  · show own_W p e below m s₁ 12 #[.val (.int x0)] [(.int (0 : Int32))] _
    exact retN X0 hx (t := .boolean) Bd.returns (by simp) (hb hby dce0_12) hr
  · show Qce0 Z x0 h0 n0 _ s₁.heap _
    rw [e0]
    exact ⟨rfl, N0, rfl⟩
theorem dlt_0 : decode jdk_43_method_46_code 0 = .ok (.iconst 1, 1) := by decide +kernel
theorem dlt_1 : decode jdk_43_method_46_code 1 = .ok (.newarray .byte, 2) := by decide +kernel
theorem dlt_3 : decode jdk_43_method_46_code 3 = .ok (.dup, 1) := by decide +kernel
theorem dlt_4 : decode jdk_43_method_46_code 4 = .ok (.iconst 0, 1) := by decide +kernel
theorem dlt_5 : decode jdk_43_method_46_code 5 = .ok (.iload_n 0, 1) := by decide +kernel
theorem dlt_6 : decode jdk_43_method_46_code 6 = .ok (.i2b, 1) := by decide +kernel
theorem dlt_7 : decode jdk_43_method_46_code 7 = .ok (.bastore, 1) := by decide +kernel
theorem dlt_8 : decode jdk_43_method_46_code 8 = .ok (.areturn, 1) := by decide +kernel
theorem pnlt : plainName "java/lang/StringLatin1" = true := by first | (simp [plainName, overriddenIn]; done) | decide +kernel
theorem eflt (m : MethodId) (x0 : Int32) : entryFrame m #[(.int x0)] 1 = mkF m 0 #[.val (.int x0)] [] := by first | (simp [entryFrame, mkF, argsToLocals, Value.category]; done) | rfl
def Qlt (Z : State) (x0 : Int32) (h0 : Heap) (n0 : Nat) (v : Option Value) (h : Heap) (L : List Loc) : Prop := ∃ (r : Addr) (kk : ClassId), v = some (.ref r) ∧ Fr n0 L ∧ Keep h0 h [] ∧ h0.size ≤ r ∧ Arv Z h r kk .byte (1 : Int32) [(.int (own_lo x0))] (.int (0 : Int32))
set_option maxRecDepth 65536 in
set_option maxHeartbeats 40000000 in
theorem rmlt (l : Launch) (Z : State) (a0 : Array Value) (hw : ∀ d ∈ tables_1, d.before a0 Z = true) (ws : List Jvm.Cond) (x0 : Int32) (h0 : Heap) (n0 : Nat) (Z0 : n0 ≤ h0.size) :
    MetFree l (⟨"java/lang/StringLatin1", "toBytes", "(C)[B"⟩ : MethodName) (head1 (Jvm.Cond.code (⟨"java/lang/StringLatin1", "toBytes", "(C)[B"⟩ : MethodName) jdk_43_method_46_code 1 (some (.array .byte)) :: ws) ({ frames := 0, cells := 1, slots := 1, locals := 0 } : Room)) (fun a U => a = #[(.int x0)] ∧ Z.Warmed39 U.vm ∧ U.heap = h0) (fun _ _ _ _ _ => True) (fun _ U o U' => ∃ v L, o = .returned v ∧ Qlt Z x0 h0 n0 v U'.heap L ∧ FrameEnd U o U' L ({ frames := 0, cells := 1, slots := 1, locals := 0 } : Room).cells ({ frames := 0, cells := 1, slots := 1, locals := 0 } : Room).slots) := by
  refine MetFree.of_bodySF (plainFor_of_name pnlt) hisR ?_
  intro p e s m args below meth c s₁ Bd hml0 hP hK
  obtain ⟨rfl, hZ, hh⟩ := hP
  have hx := Bd.exec
  have hby := Bd.bytes
  have hml : c.maxLocals = 1 := hml0
  have hown : s.vm.findClass "java/lang/StringLatin1" = some m.cls := findClass_of_methodNamed Bd.named
  have hnm := (name_of_methodNamed Bd.named Bd.method).1
  have X0 : Stand p l e ({ frames := 0, cells := 1, slots := 1, locals := 0 } : Room) s m #[(.int x0)] below meth c s₁ [] 0 0 := Stand.of_body Bd
  have e0 : s₁.heap = h0 := by rw [← hh, Bd.state]; rfl
  have N0 := Fr.nil n0
  have pre0 : ∀ t, Steps p.tables e below (s₁.setTop (mkF m 0 #[.val (.int x0)] [])) t → Steps p.tables e below (s₁.setTop (entryFrame m #[(.int x0)] 1)) t := fun t k => castTop (eflt m x0) k
  obtain ⟨S0, hS0⟩ : ∃ z, z = (s₁.setTop (entryFrame m #[(.int x0)] 1)) := ⟨_, rfl⟩
  rw [← hS0] at pre0
  have K0 := Keep.refl h0 []
  have p1 : ∀ t, own_W p e below m s₁ 1 #[.val (.int x0)] [(.int (1 : Int32))] t → Steps p.tables e below S0 t := fun t k => pre0 t (by
    show own_W p e below m s₁ 0 #[.val (.int x0)] [] _
    refine XS.iconst X0.here hx rfl (hb hby dlt_0) ?_
    exact k)
  obtain ⟨T2, h2, k2, X2, e2, E2, A2, st2⟩ := newP X0 hx hZ (hw _ (List.mem_of_getElem? (i := 19) rfl)) e0 (g := (mkF m 1 #[.val (.int x0)] [(.int (1 : Int32))])) rfl (hb hby dlt_1) rfl (by decide) (cap := 1) (by decide) (by decide) (by decide) (by decide)
  obtain ⟨b2, g2⟩ : ∃ z, z = h0.size := ⟨_, rfl⟩
  rw [← g2] at A2 st2
  have gn_b2 : n0 ≤ b2 := Nat.le_trans Z0 (Nat.le_of_eq g2.symm)
  have gk_b2 : h0.size ≤ b2 := Nat.le_trans K0.1 (Nat.le_of_eq g2.symm)
  have Z2 := Nat.le_trans Z0 E2.1
  have KK2 := K0.ext E2
  have VV2 : Arv Z h2 b2 k2 .byte (1 : Int32) [(.int (0 : Int32))] (.int (0 : Int32)) := (Arv.new A2 (by decide)).pad (pad_rep [] (.int (0 : Int32)) 1)
  have p3 : ∀ t, own_W p e below m T2 3 #[.val (.int x0)] [(.ref b2)] t → Steps p.tables e below S0 t := fun t k => p1 t (st2 t k)
  have p4 : ∀ t, own_W p e below m T2 7 #[.val (.int x0)] [(.int (x0.toInt8.toInt32)), (.int (0 : Int32)), (.ref b2), (.ref b2)] t → Steps p.tables e below S0 t := fun t k => p3 t (by
    show own_W p e below m T2 3 #[.val (.int x0)] [(.ref b2)] _
    refine XS.dup X2.here hx rfl (hb hby dlt_3) rfl rfl ?_
    show own_W p e below m T2 4 #[.val (.int x0)] [(.ref b2), (.ref b2)] _
    refine XS.iconst X2.here hx rfl (hb hby dlt_4) ?_
    show own_W p e below m T2 5 #[.val (.int x0)] [(.int (0 : Int32)), (.ref b2), (.ref b2)] _
    refine XS.iloadN X2.here hx rfl (hb hby dlt_5) rfl ?_
    show own_W p e below m T2 6 #[.val (.int x0)] [(.int x0), (.int (0 : Int32)), (.ref b2), (.ref b2)] _
    refine XS.i2b X2.here hx rfl (hb hby dlt_6) rfl ?_
    exact k)
  obtain ⟨cl5, Ar5, q5, Sz5, Ng5, Hs5, G5⟩ := id VV2
  have hin5 : ¬ ((0 : Int32) < 0 ∨ cl5.slots.size ≤ ((0 : Int32)).toNatClampNeg) := inb_of Sz5 (⟨by decide, by decide⟩)
  obtain ⟨T5, h5, X5, e5, W5, st5⟩ := stB X2 hx hZ e2 Ar5 (j := (0 : Int32)) hin5 (g := (mkF m 7 #[.val (.int x0)] [(.int (x0.toInt8.toInt32)), (.int (0 : Int32)), (.ref b2), (.ref b2)])) rfl rfl (hb hby dlt_7)
  have VV5 : Arv Z h5 b2 k2 .byte (1 : Int32) [(.int (own_lo x0))] (.int (0 : Int32)) := Arv.set Ar5 q5 Sz5 Ng5 Hs5 G5 (fits_nar_byte _) W5 0 (by decide) (Nat.le_of_ble_eq_true rfl)
  have Z5 := Nat.le_trans Z2 (Keep.of_wr W5).1
  have N5 := Fr.snoc X5 N0 gn_b2
  have KK5 := KK2.wr W5 (Or.inr gk_b2)
  have p6 : ∀ t, own_W p e below m T5 8 #[.val (.int x0)] [(.ref b2)] t → Steps p.tables e below S0 t := fun t k => p4 t (st5 t k)
  subst hS0
  obtain ⟨fs, hr, hrun, hended, hW, hsame⟩ := X5.leave (v := some (.ref b2)) (fun h => by rw [Bd.returns] at h; cases h)
  refine ⟨_, _, p6 _ ?_, hrun, hended, _, _, rfl, ?_, ⟨_, rfl⟩, hW, hsame.mono (by decide) (by decide)⟩
  · show own_W p e below m T5 8 #[.val (.int x0)] [(.ref b2)] _
    exact retOut X5 hx Bd.returns rfl (Or.inr (Or.inr (Or.inr (Or.inr ⟨rfl, rfl, rfl⟩)))) (hb hby dlt_8) hr
  · show Qlt Z x0 h0 n0 _ T5.heap _
    rw [e5]
    exact ⟨_, _, rfl, N5, KK5, gk_b2, VV5⟩
theorem dsi0_0 : decode jdk_42_method_151_code 0 = .ok (.aload_n 0, 1) := by decide +kernel
theorem dsi0_1 : decode jdk_42_method_151_code 1 = .ok (.invokespecial 1, 3) := by decide +kernel
theorem dsi0_4 : decode jdk_42_method_151_code 4 = .ok (.aload_n 0, 1) := by decide +kernel
theorem dsi0_5 : decode jdk_42_method_151_code 5 = .ok (.aload_n 1, 1) := by decide +kernel
theorem dsi0_6 : decode jdk_42_method_151_code 6 = .ok (.putfield 9, 3) := by decide +kernel
theorem dsi0_9 : decode jdk_42_method_151_code 9 = .ok (.aload_n 0, 1) := by decide +kernel
theorem dsi0_10 : decode jdk_42_method_151_code 10 = .ok (.iload_n 2, 1) := by decide +kernel
theorem dsi0_11 : decode jdk_42_method_151_code 11 = .ok (.putfield 15, 3) := by decide +kernel
theorem dsi0_14 : decode jdk_42_method_151_code 14 = .ok (.return_, 1) := by decide +kernel
theorem pnsi0 : plainName "java/lang/String" = true := by first | (simp [plainName, overriddenIn]; done) | decide +kernel
theorem efsi0 (m : MethodId) (x0 : Addr) (x1 : Addr) : entryFrame m #[(.ref x0), (.ref x1), (.int (0 : Int32))] 3 = mkF m 0 #[.val (.ref x0), .val (.ref x1), .val (.int (0 : Int32))] [] := by first | (simp [entryFrame, mkF, argsToLocals, Value.category]; done) | rfl
def Qsi0 (Z : State) (x0 : Addr) (x1 : Addr) (h0 : Heap) (n0 : Nat) (v : Option Value) (h : Heap) (L : List Loc) : Prop := v = none ∧ Fr n0 L ∧ Keep h0 h [x0] ∧ Fld Z h x0 "java/lang/String" "coder" "B" (.int (0 : Int32)) ∧ Fld Z h x0 "java/lang/String" "value" "[B" (.ref x1)
set_option maxRecDepth 65536 in
set_option maxHeartbeats 40000000 in
theorem rmsi0 (l : Launch) (Z : State) (a0 : Array Value) (hw : ∀ d ∈ tables_1, d.before a0 Z = true) (ws : List Jvm.Cond) (x0 : Addr) (x1 : Addr) (h0 : Heap) (n0 : Nat) (Z0 : n0 ≤ h0.size) (E0 : Exa Z h0 x0 "java/lang/String") (F1 : Fld Z h0 x0 "java/lang/String" "coder" "B" (.int (0 : Int32))) (F2 : Fld Z h0 x0 "java/lang/String" "value" "[B" .null) (g0 : n0 ≤ x0) :
    MetFree l (⟨"java/lang/String", "<init>", "([BB)V"⟩ : MethodName) (head1 (Jvm.Cond.code (⟨"java/lang/String", "<init>", "([BB)V"⟩ : MethodName) jdk_42_method_151_code 3 none :: ws) ({ frames := 1, cells := 0, slots := 0, locals := 12 } : Room)) (fun a U => a = #[(.ref x0), (.ref x1), (.int (0 : Int32))] ∧ Z.Warmed39 U.vm ∧ U.heap = h0) (fun _ _ _ _ _ => True) (fun _ U o U' => ∃ v L, o = .returned v ∧ Qsi0 Z x0 x1 h0 n0 v U'.heap L ∧ FrameEnd U o U' L ({ frames := 1, cells := 0, slots := 0, locals := 12 } : Room).cells ({ frames := 1, cells := 0, slots := 0, locals := 12 } : Room).slots) := by
  refine MetFree.of_bodySF (plainFor_of_name pnsi0) hisR ?_
  intro p e s m args below meth c s₁ Bd hml0 hP hK
  obtain ⟨rfl, hZ, hh⟩ := hP
  have hx := Bd.exec
  have hby := Bd.bytes
  have hml : c.maxLocals = 3 := hml0
  have hown : s.vm.findClass "java/lang/String" = some m.cls := findClass_of_methodNamed Bd.named
  have hnm := (name_of_methodNamed Bd.named Bd.method).1
  have X0 : Stand p l e ({ frames := 1, cells := 0, slots := 0, locals := 12 } : Room) s m #[(.ref x0), (.ref x1), (.int (0 : Int32))] below meth c s₁ [] 0 0 := Stand.of_body Bd
  have e0 : s₁.heap = h0 := by rw [← hh, Bd.state]; rfl
  have N0 := Fr.nil n0
  have pre0 : ∀ t, Steps p.tables e below (s₁.setTop (mkF m 0 #[.val (.ref x0), .val (.ref x1), .val (.int (0 : Int32))] [])) t → Steps p.tables e below (s₁.setTop (entryFrame m #[(.ref x0), (.ref x1), (.int (0 : Int32))] 3)) t := fun t k => castTop (efsi0 m x0 x1) k
  obtain ⟨S0, hS0⟩ : ∃ z, z = (s₁.setTop (entryFrame m #[(.ref x0), (.ref x1), (.int (0 : Int32))] 3)) := ⟨_, rfl⟩
  rw [← hS0] at pre0
  have K0 := Keep.refl h0 [x0]
  have p1 : ∀ t, own_W p e below m s₁ 1 #[.val (.ref x0), .val (.ref x1), .val (.int (0 : Int32))] [(.ref x0)] t → Steps p.tables e below S0 t := fun t k => pre0 t (by
    show own_W p e below m s₁ 0 #[.val (.ref x0), .val (.ref x1), .val (.int (0 : Int32))] [] _
    refine XS.aloadN X0.here hx rfl (hb hby dsi0_0) rfl rfl ?_
    exact k)
  obtain ⟨T2, X2, e2, st2⟩ := initO X0 hx hZ hown (hw _ (List.mem_of_getElem? (i := 24) rfl)) (hw _ (List.mem_of_getElem? (i := 25) rfl)) (hw _ (List.mem_of_getElem? (i := 26) rfl)) e0 (g := (mkF m 1 #[.val (.ref x0), .val (.ref x1), .val (.int (0 : Int32))] [(.ref x0)])) rfl (by rw [hml]; rfl) rfl (hb hby dsi0_1) (by decide) (W := 0) (by show 2 * 0 + _ ≤ _; exact Nat.le_of_eq rfl) (by decide)
  have p3 : ∀ t, own_W p e below m T2 4 #[.val (.ref x0), .val (.ref x1), .val (.int (0 : Int32))] [] t → Steps p.tables e below S0 t := fun t k => p1 t (st2 t k)
  have p4 : ∀ t, own_W p e below m T2 6 #[.val (.ref x0), .val (.ref x1), .val (.int (0 : Int32))] [(.ref x1), (.ref x0)] t → Steps p.tables e below S0 t := fun t k => p3 t (by
    show own_W p e below m T2 4 #[.val (.ref x0), .val (.ref x1), .val (.int (0 : Int32))] [] _
    refine XS.aloadN X2.here hx rfl (hb hby dsi0_4) rfl rfl ?_
    show own_W p e below m T2 5 #[.val (.ref x0), .val (.ref x1), .val (.int (0 : Int32))] [(.ref x0)] _
    refine XS.aloadN X2.here hx rfl (hb hby dsi0_5) rfl rfl ?_
    exact k)
  obtain ⟨T5, h5, X5, e5, W5, st5⟩ := putF X2 hx hZ hown (host := "") (Or.inl (hw _ (List.mem_of_getElem? (i := 27) rfl))) Via.refl e2 F2 E0 (Or.inr ⟨(hw _ (List.mem_of_getElem? (i := 28) rfl)), rfl, hnm⟩) (hw _ (List.mem_of_getElem? (i := 15) rfl)) (ty := (.array .byte)) (by decide) rfl rfl (g := (mkF m 6 #[.val (.ref x0), .val (.ref x1), .val (.int (0 : Int32))] [(.ref x1), (.ref x0)])) rfl rfl (hb hby dsi0_6)
  have f6 := F2.same W5
  have f7 := E0.wr W5
  have f8 := F1.other W5 (Or.inr (slot_ne (Or.inr (hw _ (List.mem_of_getElem? (i := 30) rfl))) (Or.inr (hw _ (List.mem_of_getElem? (i := 28) rfl))) (by decide) (t := .byte) (t' := (.array .byte)) (by decide) (by decide)))
  have Z5 := Nat.le_trans Z0 (Keep.of_wr W5).1
  have N5 := Fr.snoc X5 N0 g0
  have KK5 := K0.wr W5 (Or.inl (List.mem_singleton.mpr rfl))
  have p9 : ∀ t, own_W p e below m T5 9 #[.val (.ref x0), .val (.ref x1), .val (.int (0 : Int32))] [] t → Steps p.tables e below S0 t := fun t k => p4 t (st5 t k)
  have p10 : ∀ t, own_W p e below m T5 11 #[.val (.ref x0), .val (.ref x1), .val (.int (0 : Int32))] [(.int (0 : Int32)), (.ref x0)] t → Steps p.tables e below S0 t := fun t k => p9 t (by
    show own_W p e below m T5 9 #[.val (.ref x0), .val (.ref x1), .val (.int (0 : Int32))] [] _
    refine XS.aloadN X5.here hx rfl (hb hby dsi0_9) rfl rfl ?_
    show own_W p e below m T5 10 #[.val (.ref x0), .val (.ref x1), .val (.int (0 : Int32))] [(.ref x0)] _
    refine XS.iloadN X5.here hx rfl (hb hby dsi0_10) rfl ?_
    exact k)
  obtain ⟨T11, h11, X11, e11, W11, st11⟩ := putF X5 hx hZ hown (host := "") (Or.inl (hw _ (List.mem_of_getElem? (i := 29) rfl))) Via.refl e5 f8 f7 (Or.inr ⟨(hw _ (List.mem_of_getElem? (i := 30) rfl)), rfl, hnm⟩) (hw _ (List.mem_of_getElem? (i := 15) rfl)) (ty := .byte) (by decide) rfl rfl (g := (mkF m 11 #[.val (.ref x0), .val (.ref x1), .val (.int (0 : Int32))] [(.int (0 : Int32)), (.ref x0)])) rfl rfl (hb hby dsi0_11)
  have f12 := f8.same W11
  have f13 := f7.wr W11
  have f14 := f6.other W11 (Or.inr (slot_ne (Or.inr (hw _ (List.mem_of_getElem? (i := 28) rfl))) (Or.inr (hw _ (List.mem_of_getElem? (i := 30) rfl))) (by decide) (t := (.array .byte)) (t' := .byte) (by decide) (by decide)))
  have Z11 := Nat.le_trans Z5 (Keep.of_wr W11).1
  have N11 := Fr.snoc X11 N5 g0
  have KK11 := KK5.wr W11 (Or.inl (List.mem_singleton.mpr rfl))
  have p15 : ∀ t, own_W p e below m T11 14 #[.val (.ref x0), .val (.ref x1), .val (.int (0 : Int32))] [] t → Steps p.tables e below S0 t := fun t k => p10 t (st11 t k)
  subst hS0
  obtain ⟨fs, hr, hrun, hended, hW, hsame⟩ := X11.leave (v := none) (fun _ => rfl)
  refine ⟨_, _, p15 _ ?_, hrun, hended, _, _, rfl, ?_, ⟨_, rfl⟩, hW, hsame.mono (by decide) (by decide)⟩
  · show own_W p e below m T11 14 #[.val (.ref x0), .val (.ref x1), .val (.int (0 : Int32))] [] _
    exact X11.returnOut hx Bd.returns (hb hby dsi0_14) hr
  · show Qsi0 Z x0 x1 h0 n0 _ T11.heap _
    rw [e11]
    exact ⟨rfl, N11, KK11, f12, f14⟩
theorem dsi1_0 : decode jdk_42_method_151_code 0 = .ok (.aload_n 0, 1) := by decide +kernel
theorem dsi1_1 : decode jdk_42_method_151_code 1 = .ok (.invokespecial 1, 3) := by decide +kernel
theorem dsi1_4 : decode jdk_42_method_151_code 4 = .ok (.aload_n 0, 1) := by decide +kernel
theorem dsi1_5 : decode jdk_42_method_151_code 5 = .ok (.aload_n 1, 1) := by decide +kernel
theorem dsi1_6 : decode jdk_42_method_151_code 6 = .ok (.putfield 9, 3) := by decide +kernel
theorem dsi1_9 : decode jdk_42_method_151_code 9 = .ok (.aload_n 0, 1) := by decide +kernel
theorem dsi1_10 : decode jdk_42_method_151_code 10 = .ok (.iload_n 2, 1) := by decide +kernel
theorem dsi1_11 : decode jdk_42_method_151_code 11 = .ok (.putfield 15, 3) := by decide +kernel
theorem dsi1_14 : decode jdk_42_method_151_code 14 = .ok (.return_, 1) := by decide +kernel
theorem pnsi1 : plainName "java/lang/String" = true := by first | (simp [plainName, overriddenIn]; done) | decide +kernel
theorem efsi1 (m : MethodId) (x0 : Addr) (x1 : Addr) : entryFrame m #[(.ref x0), (.ref x1), (.int (1 : Int32))] 3 = mkF m 0 #[.val (.ref x0), .val (.ref x1), .val (.int (1 : Int32))] [] := by first | (simp [entryFrame, mkF, argsToLocals, Value.category]; done) | rfl
def Qsi1 (Z : State) (x0 : Addr) (x1 : Addr) (h0 : Heap) (n0 : Nat) (v : Option Value) (h : Heap) (L : List Loc) : Prop := v = none ∧ Fr n0 L ∧ Keep h0 h [x0] ∧ Fld Z h x0 "java/lang/String" "coder" "B" (.int (1 : Int32)) ∧ Fld Z h x0 "java/lang/String" "value" "[B" (.ref x1)
set_option maxRecDepth 65536 in
set_option maxHeartbeats 40000000 in
theorem rmsi1 (l : Launch) (Z : State) (a0 : Array Value) (hw : ∀ d ∈ tables_1, d.before a0 Z = true) (ws : List Jvm.Cond) (x0 : Addr) (x1 : Addr) (h0 : Heap) (n0 : Nat) (Z0 : n0 ≤ h0.size) (E0 : Exa Z h0 x0 "java/lang/String") (F1 : Fld Z h0 x0 "java/lang/String" "coder" "B" (.int (0 : Int32))) (F2 : Fld Z h0 x0 "java/lang/String" "value" "[B" .null) (g0 : n0 ≤ x0) :
    MetFree l (⟨"java/lang/String", "<init>", "([BB)V"⟩ : MethodName) (head1 (Jvm.Cond.code (⟨"java/lang/String", "<init>", "([BB)V"⟩ : MethodName) jdk_42_method_151_code 3 none :: ws) ({ frames := 1, cells := 0, slots := 0, locals := 12 } : Room)) (fun a U => a = #[(.ref x0), (.ref x1), (.int (1 : Int32))] ∧ Z.Warmed39 U.vm ∧ U.heap = h0) (fun _ _ _ _ _ => True) (fun _ U o U' => ∃ v L, o = .returned v ∧ Qsi1 Z x0 x1 h0 n0 v U'.heap L ∧ FrameEnd U o U' L ({ frames := 1, cells := 0, slots := 0, locals := 12 } : Room).cells ({ frames := 1, cells := 0, slots := 0, locals := 12 } : Room).slots) := by
  refine MetFree.of_bodySF (plainFor_of_name pnsi1) hisR ?_
  intro p e s m args below meth c s₁ Bd hml0 hP hK
  obtain ⟨rfl, hZ, hh⟩ := hP
  have hx := Bd.exec
  have hby := Bd.bytes
  have hml : c.maxLocals = 3 := hml0
  have hown : s.vm.findClass "java/lang/String" = some m.cls := findClass_of_methodNamed Bd.named
  have hnm := (name_of_methodNamed Bd.named Bd.method).1
  have X0 : Stand p l e ({ frames := 1, cells := 0, slots := 0, locals := 12 } : Room) s m #[(.ref x0), (.ref x1), (.int (1 : Int32))] below meth c s₁ [] 0 0 := Stand.of_body Bd
  have e0 : s₁.heap = h0 := by rw [← hh, Bd.state]; rfl
  have N0 := Fr.nil n0
  have pre0 : ∀ t, Steps p.tables e below (s₁.setTop (mkF m 0 #[.val (.ref x0), .val (.ref x1), .val (.int (1 : Int32))] [])) t → Steps p.tables e below (s₁.setTop (entryFrame m #[(.ref x0), (.ref x1), (.int (1 : Int32))] 3)) t := fun t k => castTop (efsi1 m x0 x1) k
  obtain ⟨S0, hS0⟩ : ∃ z, z = (s₁.setTop (entryFrame m #[(.ref x0), (.ref x1), (.int (1 : Int32))] 3)) := ⟨_, rfl⟩
  rw [← hS0] at pre0
  have K0 := Keep.refl h0 [x0]
  have p1 : ∀ t, own_W p e below m s₁ 1 #[.val (.ref x0), .val (.ref x1), .val (.int (1 : Int32))] [(.ref x0)] t → Steps p.tables e below S0 t := fun t k => pre0 t (by
    show own_W p e below m s₁ 0 #[.val (.ref x0), .val (.ref x1), .val (.int (1 : Int32))] [] _
    refine XS.aloadN X0.here hx rfl (hb hby dsi1_0) rfl rfl ?_
    exact k)
  obtain ⟨T2, X2, e2, st2⟩ := initO X0 hx hZ hown (hw _ (List.mem_of_getElem? (i := 24) rfl)) (hw _ (List.mem_of_getElem? (i := 25) rfl)) (hw _ (List.mem_of_getElem? (i := 26) rfl)) e0 (g := (mkF m 1 #[.val (.ref x0), .val (.ref x1), .val (.int (1 : Int32))] [(.ref x0)])) rfl (by rw [hml]; rfl) rfl (hb hby dsi1_1) (by decide) (W := 0) (by show 2 * 0 + _ ≤ _; exact Nat.le_of_eq rfl) (by decide)
  have p3 : ∀ t, own_W p e below m T2 4 #[.val (.ref x0), .val (.ref x1), .val (.int (1 : Int32))] [] t → Steps p.tables e below S0 t := fun t k => p1 t (st2 t k)
  have p4 : ∀ t, own_W p e below m T2 6 #[.val (.ref x0), .val (.ref x1), .val (.int (1 : Int32))] [(.ref x1), (.ref x0)] t → Steps p.tables e below S0 t := fun t k => p3 t (by
    show own_W p e below m T2 4 #[.val (.ref x0), .val (.ref x1), .val (.int (1 : Int32))] [] _
    refine XS.aloadN X2.here hx rfl (hb hby dsi1_4) rfl rfl ?_
    show own_W p e below m T2 5 #[.val (.ref x0), .val (.ref x1), .val (.int (1 : Int32))] [(.ref x0)] _
    refine XS.aloadN X2.here hx rfl (hb hby dsi1_5) rfl rfl ?_
    exact k)
  obtain ⟨T5, h5, X5, e5, W5, st5⟩ := putF X2 hx hZ hown (host := "") (Or.inl (hw _ (List.mem_of_getElem? (i := 27) rfl))) Via.refl e2 F2 E0 (Or.inr ⟨(hw _ (List.mem_of_getElem? (i := 28) rfl)), rfl, hnm⟩) (hw _ (List.mem_of_getElem? (i := 15) rfl)) (ty := (.array .byte)) (by decide) rfl rfl (g := (mkF m 6 #[.val (.ref x0), .val (.ref x1), .val (.int (1 : Int32))] [(.ref x1), (.ref x0)])) rfl rfl (hb hby dsi1_6)
  have f6 := F2.same W5
  have f7 := E0.wr W5
  have f8 := F1.other W5 (Or.inr (slot_ne (Or.inr (hw _ (List.mem_of_getElem? (i := 30) rfl))) (Or.inr (hw _ (List.mem_of_getElem? (i := 28) rfl))) (by decide) (t := .byte) (t' := (.array .byte)) (by decide) (by decide)))
  have Z5 := Nat.le_trans Z0 (Keep.of_wr W5).1
  have N5 := Fr.snoc X5 N0 g0
  have KK5 := K0.wr W5 (Or.inl (List.mem_singleton.mpr rfl))
  have p9 : ∀ t, own_W p e below m T5 9 #[.val (.ref x0), .val (.ref x1), .val (.int (1 : Int32))] [] t → Steps p.tables e below S0 t := fun t k => p4 t (st5 t k)
  have p10 : ∀ t, own_W p e below m T5 11 #[.val (.ref x0), .val (.ref x1), .val (.int (1 : Int32))] [(.int (1 : Int32)), (.ref x0)] t → Steps p.tables e below S0 t := fun t k => p9 t (by
    show own_W p e below m T5 9 #[.val (.ref x0), .val (.ref x1), .val (.int (1 : Int32))] [] _
    refine XS.aloadN X5.here hx rfl (hb hby dsi1_9) rfl rfl ?_
    show own_W p e below m T5 10 #[.val (.ref x0), .val (.ref x1), .val (.int (1 : Int32))] [(.ref x0)] _
    refine XS.iloadN X5.here hx rfl (hb hby dsi1_10) rfl ?_
    exact k)
  obtain ⟨T11, h11, X11, e11, W11, st11⟩ := putF X5 hx hZ hown (host := "") (Or.inl (hw _ (List.mem_of_getElem? (i := 29) rfl))) Via.refl e5 f8 f7 (Or.inr ⟨(hw _ (List.mem_of_getElem? (i := 30) rfl)), rfl, hnm⟩) (hw _ (List.mem_of_getElem? (i := 15) rfl)) (ty := .byte) (by decide) rfl rfl (g := (mkF m 11 #[.val (.ref x0), .val (.ref x1), .val (.int (1 : Int32))] [(.int (1 : Int32)), (.ref x0)])) rfl rfl (hb hby dsi1_11)
  have f12 := f8.same W11
  have f13 := f7.wr W11
  have f14 := f6.other W11 (Or.inr (slot_ne (Or.inr (hw _ (List.mem_of_getElem? (i := 28) rfl))) (Or.inr (hw _ (List.mem_of_getElem? (i := 30) rfl))) (by decide) (t := (.array .byte)) (t' := .byte) (by decide) (by decide)))
  have Z11 := Nat.le_trans Z5 (Keep.of_wr W11).1
  have N11 := Fr.snoc X11 N5 g0
  have KK11 := KK5.wr W11 (Or.inl (List.mem_singleton.mpr rfl))
  have p15 : ∀ t, own_W p e below m T11 14 #[.val (.ref x0), .val (.ref x1), .val (.int (1 : Int32))] [] t → Steps p.tables e below S0 t := fun t k => p10 t (st11 t k)
  subst hS0
  obtain ⟨fs, hr, hrun, hended, hW, hsame⟩ := X11.leave (v := none) (fun _ => rfl)
  refine ⟨_, _, p15 _ ?_, hrun, hended, _, _, rfl, ?_, ⟨_, rfl⟩, hW, hsame.mono (by decide) (by decide)⟩
  · show own_W p e below m T11 14 #[.val (.ref x0), .val (.ref x1), .val (.int (1 : Int32))] [] _
    exact X11.returnOut hx Bd.returns (hb hby dsi1_14) hr
  · show Qsi1 Z x0 x1 h0 n0 _ T11.heap _
    rw [e11]
    exact ⟨rfl, N11, KK11, f12, f14⟩
theorem dpc_0 : decode jdk_52_method_4_code 0 = .ok (.getstatic 44, 3) := by decide +kernel
theorem dpc_3 : decode jdk_52_method_4_code 3 = .ok (.ifCond .ne 25, 3) := by decide +kernel
theorem dpc_28 : decode jdk_52_method_4_code 28 = .ok (.iload_n 1, 1) := by decide +kernel
theorem dpc_29 : decode jdk_52_method_4_code 29 = .ok (.iconst 1, 1) := by decide +kernel
theorem dpc_30 : decode jdk_52_method_4_code 30 = .ok (.ishl, 1) := by decide +kernel
theorem dpc_31 : decode jdk_52_method_4_code 31 = .ok (.istore_n 1, 1) := by decide +kernel
theorem dpc_32 : decode jdk_52_method_4_code 32 = .ok (.aload_n 0, 1) := by decide +kernel
theorem dpc_33 : decode jdk_52_method_4_code 33 = .ok (.iload_n 1, 1) := by decide +kernel
theorem dpc_34 : decode jdk_52_method_4_code 34 = .ok (.iinc 1 1, 3) := by decide +kernel
theorem dpc_37 : decode jdk_52_method_4_code 37 = .ok (.iload_n 2, 1) := by decide +kernel
theorem dpc_38 : decode jdk_52_method_4_code 38 = .ok (.getstatic 59, 3) := by decide +kernel
theorem dpc_41 : decode jdk_52_method_4_code 41 = .ok (.ishr, 1) := by decide +kernel
theorem dpc_42 : decode jdk_52_method_4_code 42 = .ok (.i2b, 1) := by decide +kernel
theorem dpc_43 : decode jdk_52_method_4_code 43 = .ok (.bastore, 1) := by decide +kernel
theorem dpc_44 : decode jdk_52_method_4_code 44 = .ok (.aload_n 0, 1) := by decide +kernel
theorem dpc_45 : decode jdk_52_method_4_code 45 = .ok (.iload_n 1, 1) := by decide +kernel
theorem dpc_46 : decode jdk_52_method_4_code 46 = .ok (.iload_n 2, 1) := by decide +kernel
theorem dpc_47 : decode jdk_52_method_4_code 47 = .ok (.getstatic 63, 3) := by decide +kernel
theorem dpc_50 : decode jdk_52_method_4_code 50 = .ok (.ishr, 1) := by decide +kernel
theorem dpc_51 : decode jdk_52_method_4_code 51 = .ok (.i2b, 1) := by decide +kernel
theorem dpc_52 : decode jdk_52_method_4_code 52 = .ok (.bastore, 1) := by decide +kernel
theorem dpc_53 : decode jdk_52_method_4_code 53 = .ok (.return_, 1) := by decide +kernel
theorem pnpc : plainName "java/lang/StringUTF16" = true := by first | (simp [plainName, overriddenIn]; done) | decide +kernel
theorem efpc (m : MethodId) (x0 : Addr) (x1 : Int32) (x2 : Int32) : entryFrame m #[(.ref x0), (.int x1), (.int x2)] 3 = mkF m 0 #[.val (.ref x0), .val (.int x1), .val (.int x2)] [] := by first | (simp [entryFrame, mkF, argsToLocals, Value.category]; done) | rfl
def Qpc (Z : State) (x0 : Addr) (x1 : Int32) (x2 : Int32) (kb : ClassId) (N : Int32) (vs : List Value) (P : Nat) (cs : Int32) (G : Value) (h0 : Heap) (n0 : Nat) (v : Option Value) (h : Heap) (L : List Loc) : Prop := v = none ∧ Fr n0 L ∧ Keep h0 h [x0] ∧ Arv Z h x0 kb .byte N ((vs.set P (.int (own_hb x2))).set (P + 1) (.int (own_lb x2))) (.int (0 : Int32))
set_option maxRecDepth 65536 in
set_option maxHeartbeats 40000000 in
theorem rmpc (l : Launch) (Z : State) (a0 : Array Value) (hw : ∀ d ∈ tables_1, d.before a0 Z = true) (ws : List Jvm.Cond) (x0 : Addr) (x1 : Int32) (x2 : Int32) (kb : ClassId) (N : Int32) (vs : List Value) (P : Nat) (cs : Int32) (G : Value) (h0 : Heap) (n0 : Nat) (Z0 : n0 ≤ h0.size) (V0 : Arv Z h0 x0 kb .byte N vs (.int (0 : Int32))) (g0 : n0 ≤ x0) (j1 : (¬ (x1 <<< ((1 : Int32) &&& 31)) < 0 ∧ (x1 <<< ((1 : Int32) &&& 31)) < N)) (j2 : (¬ ((x1 <<< ((1 : Int32) &&& 31)) + (1 : Int32)) < 0 ∧ ((x1 <<< ((1 : Int32) &&& 31)) + (1 : Int32)) < N)) (pq1 : ((x1 <<< ((1 : Int32) &&& 31))).toNatClampNeg = P) (pq2 : (((x1 <<< ((1 : Int32) &&& 31)) + (1 : Int32))).toNatClampNeg = P + 1) (hl : P + 1 < vs.length) (O0 : Old Z n0 h0) (st : own_ST Z cs G) :
    MetFree l (⟨"java/lang/StringUTF16", "putChar", "([BII)V"⟩ : MethodName) (head1 (Jvm.Cond.code (⟨"java/lang/StringUTF16", "putChar", "([BII)V"⟩ : MethodName) jdk_52_method_4_code 3 none :: ws) ({ frames := 0, cells := 0, slots := 0, locals := 0 } : Room)) (fun a U => a = #[(.ref x0), (.int x1), (.int x2)] ∧ Z.Warmed39 U.vm ∧ U.heap = h0) (fun _ _ _ _ _ => True) (fun _ U o U' => ∃ v L, o = .returned v ∧ Qpc Z x0 x1 x2 kb N vs P cs G h0 n0 v U'.heap L ∧ FrameEnd U o U' L ({ frames := 0, cells := 0, slots := 0, locals := 0 } : Room).cells ({ frames := 0, cells := 0, slots := 0, locals := 0 } : Room).slots) := by
  refine MetFree.of_bodySF (plainFor_of_name pnpc) hisR ?_
  intro p e s m args below meth c s₁ Bd hml0 hP hK
  obtain ⟨rfl, hZ, hh⟩ := hP
  have hx := Bd.exec
  have hby := Bd.bytes
  have hml : c.maxLocals = 3 := hml0
  have hown : s.vm.findClass "java/lang/StringUTF16" = some m.cls := findClass_of_methodNamed Bd.named
  have hnm := (name_of_methodNamed Bd.named Bd.method).1
  have X0 : Stand p l e ({ frames := 0, cells := 0, slots := 0, locals := 0 } : Room) s m #[(.ref x0), (.int x1), (.int x2)] below meth c s₁ [] 0 0 := Stand.of_body Bd
  have e0 : s₁.heap = h0 := by rw [← hh, Bd.state]; rfl
  have N0 := Fr.nil n0
  have pre0 : ∀ t, Steps p.tables e below (s₁.setTop (mkF m 0 #[.val (.ref x0), .val (.int x1), .val (.int x2)] [])) t → Steps p.tables e below (s₁.setTop (entryFrame m #[(.ref x0), (.int x1), (.int x2)] 3)) t := fun t k => castTop (efpc m x0 x1 x2) k
  obtain ⟨S0, hS0⟩ : ∃ z, z = (s₁.setTop (entryFrame m #[(.ref x0), (.int x1), (.int x2)] 3)) := ⟨_, rfl⟩
  rw [← hS0] at pre0
  obtain ⟨sc, hcs, sa, sh, sl, sg, hG⟩ := id st
  have K0 := Keep.refl h0 [x0]
  have Sz1 := sa.ext O0.2
  obtain ⟨T1, X1, e1, st1⟩ := getS2 X0 hx hZ hown (host := "") (Or.inl (hw _ (List.mem_of_getElem? (i := 107) rfl))) Via.refl e0 Sz1 (g := (mkF m 0 #[.val (.ref x0), .val (.int x1), .val (.int x2)] [])) rfl (hb hby dpc_0)
  have p2 : ∀ t, own_W p e below m T1 3 #[.val (.ref x0), .val (.int x1), .val (.int x2)] [(.int (1 : Int32))] t → Steps p.tables e below S0 t := fun t k => pre0 t (st1 t k)
  have p3 : ∀ t, own_W p e below m T1 38 #[.val (.ref x0), .val (.int ((x1 <<< ((1 : Int32) &&& 31)) + (1 : Int32))), .val (.int x2)] [(.int x2), (.int (x1 <<< ((1 : Int32) &&& 31))), (.ref x0)] t → Steps p.tables e below S0 t := fun t k => p2 t (by
    show own_W p e below m T1 3 #[.val (.ref x0), .val (.int x1), .val (.int x2)] [(.int (1 : Int32))] _
    refine XS.ifYes X1.here hx rfl (pc0 := 3) (pc' := 28) rfl (hb hby dpc_3) rfl ((if0 _ _).trans (feq (by decide)).2) (by decide) (by decide) ?_
    show own_W p e below m T1 28 #[.val (.ref x0), .val (.int x1), .val (.int x2)] [] _
    refine XS.iloadN X1.here hx rfl (hb hby dpc_28) rfl ?_
    show own_W p e below m T1 29 #[.val (.ref x0), .val (.int x1), .val (.int x2)] [(.int x1)] _
    refine XS.iconst X1.here hx rfl (hb hby dpc_29) ?_
    show own_W p e below m T1 30 #[.val (.ref x0), .val (.int x1), .val (.int x2)] [(.int (1 : Int32)), (.int x1)] _
    refine XS.ishl X1.here hx rfl (hb hby dpc_30) rfl ?_
    show own_W p e below m T1 31 #[.val (.ref x0), .val (.int x1), .val (.int x2)] [(.int (x1 <<< ((1 : Int32) &&& 31)))] _
    refine XS.istoreN X1.here hx rfl (hb hby dpc_31) rfl (l' := #[.val (.ref x0), .val (.int (x1 <<< ((1 : Int32) &&& 31))), .val (.int x2)]) rfl ?_
    show own_W p e below m T1 32 #[.val (.ref x0), .val (.int (x1 <<< ((1 : Int32) &&& 31))), .val (.int x2)] [] _
    refine XS.aloadN X1.here hx rfl (hb hby dpc_32) rfl rfl ?_
    show own_W p e below m T1 33 #[.val (.ref x0), .val (.int (x1 <<< ((1 : Int32) &&& 31))), .val (.int x2)] [(.ref x0)] _
    refine XS.iloadN X1.here hx rfl (hb hby dpc_33) rfl ?_
    show own_W p e below m T1 34 #[.val (.ref x0), .val (.int (x1 <<< ((1 : Int32) &&& 31))), .val (.int x2)] [(.int (x1 <<< ((1 : Int32) &&& 31))), (.ref x0)] _
    refine XS.iinc X1.here hx rfl (hb hby dpc_34) rfl (l' := #[.val (.ref x0), .val (.int ((x1 <<< ((1 : Int32) &&& 31)) + (1 : Int32))), .val (.int x2)]) rfl ?_
    show own_W p e below m T1 37 #[.val (.ref x0), .val (.int ((x1 <<< ((1 : Int32) &&& 31)) + (1 : Int32))), .val (.int x2)] [(.int (x1 <<< ((1 : Int32) &&& 31))), (.ref x0)] _
    refine XS.iloadN X1.here hx rfl (hb hby dpc_37) rfl ?_
    exact k)
  have Sz4 := sh.ext O0.2
  obtain ⟨T4, X4, e4, st4⟩ := getS2 X1 hx hZ hown (host := "") (Or.inl (hw _ (List.mem_of_getElem? (i := 108) rfl))) Via.refl e1 Sz4 (g := (mkF m 38 #[.val (.ref x0), .val (.int ((x1 <<< ((1 : Int32) &&& 31)) + (1 : Int32))), .val (.int x2)] [(.int x2), (.int (x1 <<< ((1 : Int32) &&& 31))), (.ref x0)])) rfl (hb hby dpc_38)
  have p5 : ∀ t, own_W p e below m T4 41 #[.val (.ref x0), .val (.int ((x1 <<< ((1 : Int32) &&& 31)) + (1 : Int32))), .val (.int x2)] [(.int (0 : Int32)), (.int x2), (.int (x1 <<< ((1 : Int32) &&& 31))), (.ref x0)] t → Steps p.tables e below S0 t := fun t k => p3 t (st4 t k)
  have p6 : ∀ t, own_W p e below m T4 43 #[.val (.ref x0), .val (.int ((x1 <<< ((1 : Int32) &&& 31)) + (1 : Int32))), .val (.int x2)] [(.int ((x2 >>> ((0 : Int32) &&& 31)).toInt8.toInt32)), (.int (x1 <<< ((1 : Int32) &&& 31))), (.ref x0)] t → Steps p.tables e below S0 t := fun t k => p5 t (by
    show own_W p e below m T4 41 #[.val (.ref x0), .val (.int ((x1 <<< ((1 : Int32) &&& 31)) + (1 : Int32))), .val (.int x2)] [(.int (0 : Int32)), (.int x2), (.int (x1 <<< ((1 : Int32) &&& 31))), (.ref x0)] _
    refine XS.ishr X4.here hx rfl (hb hby dpc_41) rfl ?_
    show own_W p e below m T4 42 #[.val (.ref x0), .val (.int ((x1 <<< ((1 : Int32) &&& 31)) + (1 : Int32))), .val (.int x2)] [(.int (x2 >>> ((0 : Int32) &&& 31))), (.int (x1 <<< ((1 : Int32) &&& 31))), (.ref x0)] _
    refine XS.i2b X4.here hx rfl (hb hby dpc_42) rfl ?_
    exact k)
  obtain ⟨cl7, Ar7, q7, Sz7, Ng7, Hs7, G7⟩ := id V0
  have hin7 : ¬ ((x1 <<< ((1 : Int32) &&& 31)) < 0 ∨ cl7.slots.size ≤ ((x1 <<< ((1 : Int32) &&& 31))).toNatClampNeg) := inb_of Sz7 (j1)
  obtain ⟨T7, h7, X7, e7, W7, st7⟩ := stB X4 hx hZ e4 Ar7 (j := (x1 <<< ((1 : Int32) &&& 31))) hin7 (g := (mkF m 43 #[.val (.ref x0), .val (.int ((x1 <<< ((1 : Int32) &&& 31)) + (1 : Int32))), .val (.int x2)] [(.int ((x2 >>> ((0 : Int32) &&& 31)).toInt8.toInt32)), (.int (x1 <<< ((1 : Int32) &&& 31))), (.ref x0)])) rfl rfl (hb hby dpc_43)
  have VV7 : Arv Z h7 x0 kb .byte N (vs.set P (.int (own_hb x2))) (.int (0 : Int32)) := Arv.set Ar7 q7 Sz7 Ng7 Hs7 G7 (fits_nar_byte _) W7 P (pq1) (Nat.lt_of_succ_lt hl)
  have f8 := O0.wr W7 g0
  have Z7 := Nat.le_trans Z0 (Keep.of_wr W7).1
  have N7 := Fr.snoc X7 N0 g0
  have KK7 := K0.wr W7 (Or.inl (List.mem_singleton.mpr rfl))
  have p9 : ∀ t, own_W p e below m T7 44 #[.val (.ref x0), .val (.int ((x1 <<< ((1 : Int32) &&& 31)) + (1 : Int32))), .val (.int x2)] [] t → Steps p.tables e below S0 t := fun t k => p6 t (st7 t k)
  have p10 : ∀ t, own_W p e below m T7 47 #[.val (.ref x0), .val (.int ((x1 <<< ((1 : Int32) &&& 31)) + (1 : Int32))), .val (.int x2)] [(.int x2), (.int ((x1 <<< ((1 : Int32) &&& 31)) + (1 : Int32))), (.ref x0)] t → Steps p.tables e below S0 t := fun t k => p9 t (by
    show own_W p e below m T7 44 #[.val (.ref x0), .val (.int ((x1 <<< ((1 : Int32) &&& 31)) + (1 : Int32))), .val (.int x2)] [] _
    refine XS.aloadN X7.here hx rfl (hb hby dpc_44) rfl rfl ?_
    show own_W p e below m T7 45 #[.val (.ref x0), .val (.int ((x1 <<< ((1 : Int32) &&& 31)) + (1 : Int32))), .val (.int x2)] [(.ref x0)] _
    refine XS.iloadN X7.here hx rfl (hb hby dpc_45) rfl ?_
    show own_W p e below m T7 46 #[.val (.ref x0), .val (.int ((x1 <<< ((1 : Int32) &&& 31)) + (1 : Int32))), .val (.int x2)] [(.int ((x1 <<< ((1 : Int32) &&& 31)) + (1 : Int32))), (.ref x0)] _
    refine XS.iloadN X7.here hx rfl (hb hby dpc_46) rfl ?_
    exact k)
  have Sz11 := sl.ext f8.2
  obtain ⟨T11, X11, e11, st11⟩ := getS2 X7 hx hZ hown (host := "") (Or.inl (hw _ (List.mem_of_getElem? (i := 109) rfl))) Via.refl e7 Sz11 (g := (mkF m 47 #[.val (.ref x0), .val (.int ((x1 <<< ((1 : Int32) &&& 31)) + (1 : Int32))), .val (.int x2)] [(.int x2), (.int ((x1 <<< ((1 : Int32) &&& 31)) + (1 : Int32))), (.ref x0)])) rfl (hb hby dpc_47)
  have p12 : ∀ t, own_W p e below m T11 50 #[.val (.ref x0), .val (.int ((x1 <<< ((1 : Int32) &&& 31)) + (1 : Int32))), .val (.int x2)] [(.int (8 : Int32)), (.int x2), (.int ((x1 <<< ((1 : Int32) &&& 31)) + (1 : Int32))), (.ref x0)] t → Steps p.tables e below S0 t := fun t k => p10 t (st11 t k)
  have p13 : ∀ t, own_W p e below m T11 52 #[.val (.ref x0), .val (.int ((x1 <<< ((1 : Int32) &&& 31)) + (1 : Int32))), .val (.int x2)] [(.int ((x2 >>> ((8 : Int32) &&& 31)).toInt8.toInt32)), (.int ((x1 <<< ((1 : Int32) &&& 31)) + (1 : Int32))), (.ref x0)] t → Steps p.tables e below S0 t := fun t k => p12 t (by
    show own_W p e below m T11 50 #[.val (.ref x0), .val (.int ((x1 <<< ((1 : Int32) &&& 31)) + (1 : Int32))), .val (.int x2)] [(.int (8 : Int32)), (.int x2), (.int ((x1 <<< ((1 : Int32) &&& 31)) + (1 : Int32))), (.ref x0)] _
    refine XS.ishr X11.here hx rfl (hb hby dpc_50) rfl ?_
    show own_W p e below m T11 51 #[.val (.ref x0), .val (.int ((x1 <<< ((1 : Int32) &&& 31)) + (1 : Int32))), .val (.int x2)] [(.int (x2 >>> ((8 : Int32) &&& 31))), (.int ((x1 <<< ((1 : Int32) &&& 31)) + (1 : Int32))), (.ref x0)] _
    refine XS.i2b X11.here hx rfl (hb hby dpc_51) rfl ?_
    exact k)
  obtain ⟨cl14, Ar14, q14, Sz14, Ng14, Hs14, G14⟩ := id VV7
  have hin14 : ¬ (((x1 <<< ((1 : Int32) &&& 31)) + (1 : Int32)) < 0 ∨ cl14.slots.size ≤ (((x1 <<< ((1 : Int32) &&& 31)) + (1 : Int32))).toNatClampNeg) := inb_of Sz14 (j2)
  obtain ⟨T14, h14, X14, e14, W14, st14⟩ := stB X11 hx hZ e11 Ar14 (j := ((x1 <<< ((1 : Int32) &&& 31)) + (1 : Int32))) hin14 (g := (mkF m 52 #[.val (.ref x0), .val (.int ((x1 <<< ((1 : Int32) &&& 31)) + (1 : Int32))), .val (.int x2)] [(.int ((x2 >>> ((8 : Int32) &&& 31)).toInt8.toInt32)), (.int ((x1 <<< ((1 : Int32) &&& 31)) + (1 : Int32))), (.ref x0)])) rfl rfl (hb hby dpc_52)
  have VV14 : Arv Z h14 x0 kb .byte N ((vs.set P (.int (own_hb x2))).set (P + 1) (.int (own_lb x2))) (.int (0 : Int32)) := Arv.set Ar14 q14 Sz14 Ng14 Hs14 G14 (fits_nar_byte _) W14 (P + 1) (pq2) (by rw [List.length_set]; exact hl)
  have f15 := f8.wr W14 g0
  have Z14 := Nat.le_trans Z7 (Keep.of_wr W14).1
  have N14 := Fr.snoc X14 N7 g0
  have KK14 := KK7.wr W14 (Or.inl (List.mem_singleton.mpr rfl))
  have p16 : ∀ t, own_W p e below m T14 53 #[.val (.ref x0), .val (.int ((x1 <<< ((1 : Int32) &&& 31)) + (1 : Int32))), .val (.int x2)] [] t → Steps p.tables e below S0 t := fun t k => p13 t (st14 t k)
  subst hS0
  obtain ⟨fs, hr, hrun, hended, hW, hsame⟩ := X14.leave (v := none) (fun _ => rfl)
  refine ⟨_, _, p16 _ ?_, hrun, hended, _, _, rfl, ?_, ⟨_, rfl⟩, hW, hsame.mono (by decide) (by decide)⟩
  · show own_W p e below m T14 53 #[.val (.ref x0), .val (.int ((x1 <<< ((1 : Int32) &&& 31)) + (1 : Int32))), .val (.int x2)] [] _
    exact X14.returnOut hx Bd.returns (hb hby dpc_53) hr
  · show Qpc Z x0 x1 x2 kb N vs P cs G h0 n0 _ T14.heap _
    rw [e14]
    exact ⟨rfl, N14, KK14, VV14⟩
theorem dgc_0 : decode jdk_52_method_5_code 0 = .ok (.getstatic 44, 3) := by decide +kernel
theorem dgc_3 : decode jdk_52_method_5_code 3 = .ok (.ifCond .ne 25, 3) := by decide +kernel
theorem dgc_28 : decode jdk_52_method_5_code 28 = .ok (.iload_n 1, 1) := by decide +kernel
theorem dgc_29 : decode jdk_52_method_5_code 29 = .ok (.iconst 1, 1) := by decide +kernel
theorem dgc_30 : decode jdk_52_method_5_code 30 = .ok (.ishl, 1) := by decide +kernel
theorem dgc_31 : decode jdk_52_method_5_code 31 = .ok (.istore_n 1, 1) := by decide +kernel
theorem dgc_32 : decode jdk_52_method_5_code 32 = .ok (.aload_n 0, 1) := by decide +kernel
theorem dgc_33 : decode jdk_52_method_5_code 33 = .ok (.iload_n 1, 1) := by decide +kernel
theorem dgc_34 : decode jdk_52_method_5_code 34 = .ok (.iinc 1 1, 3) := by decide +kernel
theorem dgc_37 : decode jdk_52_method_5_code 37 = .ok (.baload, 1) := by decide +kernel
theorem dgc_38 : decode jdk_52_method_5_code 38 = .ok (.sipush 255, 3) := by decide +kernel
theorem dgc_41 : decode jdk_52_method_5_code 41 = .ok (.iand, 1) := by decide +kernel
theorem dgc_42 : decode jdk_52_method_5_code 42 = .ok (.getstatic 59, 3) := by decide +kernel
theorem dgc_45 : decode jdk_52_method_5_code 45 = .ok (.ishl, 1) := by decide +kernel
theorem dgc_46 : decode jdk_52_method_5_code 46 = .ok (.aload_n 0, 1) := by decide +kernel
theorem dgc_47 : decode jdk_52_method_5_code 47 = .ok (.iload_n 1, 1) := by decide +kernel
theorem dgc_48 : decode jdk_52_method_5_code 48 = .ok (.baload, 1) := by decide +kernel
theorem dgc_49 : decode jdk_52_method_5_code 49 = .ok (.sipush 255, 3) := by decide +kernel
theorem dgc_52 : decode jdk_52_method_5_code 52 = .ok (.iand, 1) := by decide +kernel
theorem dgc_53 : decode jdk_52_method_5_code 53 = .ok (.getstatic 63, 3) := by decide +kernel
theorem dgc_56 : decode jdk_52_method_5_code 56 = .ok (.ishl, 1) := by decide +kernel
theorem dgc_57 : decode jdk_52_method_5_code 57 = .ok (.ior, 1) := by decide +kernel
theorem dgc_58 : decode jdk_52_method_5_code 58 = .ok (.i2c, 1) := by decide +kernel
theorem dgc_59 : decode jdk_52_method_5_code 59 = .ok (.ireturn, 1) := by decide +kernel
theorem pngc : plainName "java/lang/StringUTF16" = true := by first | (simp [plainName, overriddenIn]; done) | decide +kernel
theorem efgc (m : MethodId) (x0 : Addr) (x1 : Int32) : entryFrame m #[(.ref x0), (.int x1)] 2 = mkF m 0 #[.val (.ref x0), .val (.int x1)] [] := by first | (simp [entryFrame, mkF, argsToLocals, Value.category]; done) | rfl
def Qgc (Z : State) (x0 : Addr) (x1 : Int32) (kb : ClassId) (N : Int32) (vs : List Value) (ch : Int32) (cs : Int32) (G : Value) (h0 : Heap) (n0 : Nat) (v : Option Value) (h : Heap) (L : List Loc) : Prop := v = some (.int ch) ∧ Fr n0 L ∧ h = h0
set_option maxRecDepth 65536 in
set_option maxHeartbeats 40000000 in
theorem rmgc (l : Launch) (Z : State) (a0 : Array Value) (hw : ∀ d ∈ tables_1, d.before a0 Z = true) (ws : List Jvm.Cond) (x0 : Addr) (x1 : Int32) (kb : ClassId) (N : Int32) (vs : List Value) (ch : Int32) (cs : Int32) (G : Value) (h0 : Heap) (n0 : Nat) (Z0 : n0 ≤ h0.size) (V0 : Arv Z h0 x0 kb .byte N vs (.int (0 : Int32))) (j1 : (¬ (x1 <<< ((1 : Int32) &&& 31)) < 0 ∧ (x1 <<< ((1 : Int32) &&& 31)) < N)) (j2 : (¬ ((x1 <<< ((1 : Int32) &&& 31)) + (1 : Int32)) < 0 ∧ ((x1 <<< ((1 : Int32) &&& 31)) + (1 : Int32)) < N)) (u1 : (vs : List Value).getD ((x1 <<< ((1 : Int32) &&& 31))).toNatClampNeg (.int (0 : Int32)) = (.int (own_hb ch))) (u2 : (vs : List Value).getD (((x1 <<< ((1 : Int32) &&& 31)) + (1 : Int32))).toNatClampNeg (.int (0 : Int32)) = (.int (own_lb ch))) (ki : own_ok ch) (O0 : Old Z n0 h0) (st : own_ST Z cs G) :
    MetFree l (⟨"java/lang/StringUTF16", "getChar", "([BI)C"⟩ : MethodName) (head1 (Jvm.Cond.code (⟨"java/lang/StringUTF16", "getChar", "([BI)C"⟩ : MethodName) jdk_52_method_5_code 2 (some .char) :: ws) ({ frames := 0, cells := 0, slots := 0, locals := 0 } : Room)) (fun a U => a = #[(.ref x0), (.int x1)] ∧ Z.Warmed39 U.vm ∧ U.heap = h0) (fun _ _ _ _ _ => True) (fun _ U o U' => ∃ v L, o = .returned v ∧ Qgc Z x0 x1 kb N vs ch cs G h0 n0 v U'.heap L ∧ FrameEnd U o U' L ({ frames := 0, cells := 0, slots := 0, locals := 0 } : Room).cells ({ frames := 0, cells := 0, slots := 0, locals := 0 } : Room).slots) := by
  refine MetFree.of_bodySF (plainFor_of_name pngc) hisR ?_
  intro p e s m args below meth c s₁ Bd hml0 hP hK
  obtain ⟨rfl, hZ, hh⟩ := hP
  have hx := Bd.exec
  have hby := Bd.bytes
  have hml : c.maxLocals = 2 := hml0
  have hown : s.vm.findClass "java/lang/StringUTF16" = some m.cls := findClass_of_methodNamed Bd.named
  have hnm := (name_of_methodNamed Bd.named Bd.method).1
  have X0 : Stand p l e ({ frames := 0, cells := 0, slots := 0, locals := 0 } : Room) s m #[(.ref x0), (.int x1)] below meth c s₁ [] 0 0 := Stand.of_body Bd
  have e0 : s₁.heap = h0 := by rw [← hh, Bd.state]; rfl
  have N0 := Fr.nil n0
  have pre0 : ∀ t, Steps p.tables e below (s₁.setTop (mkF m 0 #[.val (.ref x0), .val (.int x1)] [])) t → Steps p.tables e below (s₁.setTop (entryFrame m #[(.ref x0), (.int x1)] 2)) t := fun t k => castTop (efgc m x0 x1) k
  obtain ⟨S0, hS0⟩ : ∃ z, z = (s₁.setTop (entryFrame m #[(.ref x0), (.int x1)] 2)) := ⟨_, rfl⟩
  rw [← hS0] at pre0
  obtain ⟨sc, hcs, sa, sh, sl, sg, hG⟩ := id st
  have Sz1 := sa.ext O0.2
  obtain ⟨T1, X1, e1, st1⟩ := getS2 X0 hx hZ hown (host := "") (Or.inl (hw _ (List.mem_of_getElem? (i := 107) rfl))) Via.refl e0 Sz1 (g := (mkF m 0 #[.val (.ref x0), .val (.int x1)] [])) rfl (hb hby dgc_0)
  have p2 : ∀ t, own_W p e below m T1 3 #[.val (.ref x0), .val (.int x1)] [(.int (1 : Int32))] t → Steps p.tables e below S0 t := fun t k => pre0 t (st1 t k)
  have p3 : ∀ t, own_W p e below m T1 37 #[.val (.ref x0), .val (.int ((x1 <<< ((1 : Int32) &&& 31)) + (1 : Int32)))] [(.int (x1 <<< ((1 : Int32) &&& 31))), (.ref x0)] t → Steps p.tables e below S0 t := fun t k => p2 t (by
    show own_W p e below m T1 3 #[.val (.ref x0), .val (.int x1)] [(.int (1 : Int32))] _
    refine XS.ifYes X1.here hx rfl (pc0 := 3) (pc' := 28) rfl (hb hby dgc_3) rfl ((if0 _ _).trans (feq (by decide)).2) (by decide) (by decide) ?_
    show own_W p e below m T1 28 #[.val (.ref x0), .val (.int x1)] [] _
    refine XS.iloadN X1.here hx rfl (hb hby dgc_28) rfl ?_
    show own_W p e below m T1 29 #[.val (.ref x0), .val (.int x1)] [(.int x1)] _
    refine XS.iconst X1.here hx rfl (hb hby dgc_29) ?_
    show own_W p e below m T1 30 #[.val (.ref x0), .val (.int x1)] [(.int (1 : Int32)), (.int x1)] _
    refine XS.ishl X1.here hx rfl (hb hby dgc_30) rfl ?_
    show own_W p e below m T1 31 #[.val (.ref x0), .val (.int x1)] [(.int (x1 <<< ((1 : Int32) &&& 31)))] _
    refine XS.istoreN X1.here hx rfl (hb hby dgc_31) rfl (l' := #[.val (.ref x0), .val (.int (x1 <<< ((1 : Int32) &&& 31)))]) rfl ?_
    show own_W p e below m T1 32 #[.val (.ref x0), .val (.int (x1 <<< ((1 : Int32) &&& 31)))] [] _
    refine XS.aloadN X1.here hx rfl (hb hby dgc_32) rfl rfl ?_
    show own_W p e below m T1 33 #[.val (.ref x0), .val (.int (x1 <<< ((1 : Int32) &&& 31)))] [(.ref x0)] _
    refine XS.iloadN X1.here hx rfl (hb hby dgc_33) rfl ?_
    show own_W p e below m T1 34 #[.val (.ref x0), .val (.int (x1 <<< ((1 : Int32) &&& 31)))] [(.int (x1 <<< ((1 : Int32) &&& 31))), (.ref x0)] _
    refine XS.iinc X1.here hx rfl (hb hby dgc_34) rfl (l' := #[.val (.ref x0), .val (.int ((x1 <<< ((1 : Int32) &&& 31)) + (1 : Int32)))]) rfl ?_
    exact k)
  obtain ⟨cl4, Ar4, q4, Sz4, Ng4, Hs4, G4⟩ := id V0
  have hin4 : ¬ ((x1 <<< ((1 : Int32) &&& 31)) < 0 ∨ cl4.slots.size ≤ ((x1 <<< ((1 : Int32) &&& 31))).toNatClampNeg) := inb_of Sz4 j1
  have hat4 : cl4.slots[((x1 <<< ((1 : Int32) &&& 31))).toNatClampNeg]? = some (.int (own_hb ch)) := Hs4.at hin4 (u1)
  have p5 : ∀ t, own_W p e below m T1 42 #[.val (.ref x0), .val (.int ((x1 <<< ((1 : Int32) &&& 31)) + (1 : Int32)))] [(.int ((own_hb ch) &&& (255 : Int32)))] t → Steps p.tables e below S0 t := fun t k => p3 t (by
    show own_W p e below m T1 37 #[.val (.ref x0), .val (.int ((x1 <<< ((1 : Int32) &&& 31)) + (1 : Int32)))] [(.int (x1 <<< ((1 : Int32) &&& 31))), (.ref x0)] _
    refine X1.baloadBytes hx (j := (x1 <<< ((1 : Int32) &&& 31))) (v := (.int (own_hb ch))) (by rw [e1]; exact Ar4.1) (State.isArrayOf_alike hZ.alike Ar4.2.1) Ar4.2.2 hin4 hat4 (g := (mkF m 37 #[.val (.ref x0), .val (.int ((x1 <<< ((1 : Int32) &&& 31)) + (1 : Int32)))] [(.int (x1 <<< ((1 : Int32) &&& 31))), (.ref x0)])) rfl rfl (hb hby dgc_37) _ ?_
    show own_W p e below m T1 38 #[.val (.ref x0), .val (.int ((x1 <<< ((1 : Int32) &&& 31)) + (1 : Int32)))] [(.int (own_hb ch))] _
    refine XS.sipush X1.here hx rfl (hb hby dgc_38) ?_
    show own_W p e below m T1 41 #[.val (.ref x0), .val (.int ((x1 <<< ((1 : Int32) &&& 31)) + (1 : Int32)))] [(.int (255 : Int32)), (.int (own_hb ch))] _
    refine XS.iand X1.here hx rfl (hb hby dgc_41) rfl ?_
    exact k)
  have Sz6 := sh.ext O0.2
  obtain ⟨T6, X6, e6, st6⟩ := getS2 X1 hx hZ hown (host := "") (Or.inl (hw _ (List.mem_of_getElem? (i := 108) rfl))) Via.refl e1 Sz6 (g := (mkF m 42 #[.val (.ref x0), .val (.int ((x1 <<< ((1 : Int32) &&& 31)) + (1 : Int32)))] [(.int ((own_hb ch) &&& (255 : Int32)))])) rfl (hb hby dgc_42)
  have p7 : ∀ t, own_W p e below m T6 45 #[.val (.ref x0), .val (.int ((x1 <<< ((1 : Int32) &&& 31)) + (1 : Int32)))] [(.int (0 : Int32)), (.int ((own_hb ch) &&& (255 : Int32)))] t → Steps p.tables e below S0 t := fun t k => p5 t (st6 t k)
  have p8 : ∀ t, own_W p e below m T6 48 #[.val (.ref x0), .val (.int ((x1 <<< ((1 : Int32) &&& 31)) + (1 : Int32)))] [(.int ((x1 <<< ((1 : Int32) &&& 31)) + (1 : Int32))), (.ref x0), (.int (((own_hb ch) &&& (255 : Int32)) <<< ((0 : Int32) &&& 31)))] t → Steps p.tables e below S0 t := fun t k => p7 t (by
    show own_W p e below m T6 45 #[.val (.ref x0), .val (.int ((x1 <<< ((1 : Int32) &&& 31)) + (1 : Int32)))] [(.int (0 : Int32)), (.int ((own_hb ch) &&& (255 : Int32)))] _
    refine XS.ishl X6.here hx rfl (hb hby dgc_45) rfl ?_
    show own_W p e below m T6 46 #[.val (.ref x0), .val (.int ((x1 <<< ((1 : Int32) &&& 31)) + (1 : Int32)))] [(.int (((own_hb ch) &&& (255 : Int32)) <<< ((0 : Int32) &&& 31)))] _
    refine XS.aloadN X6.here hx rfl (hb hby dgc_46) rfl rfl ?_
    show own_W p e below m T6 47 #[.val (.ref x0), .val (.int ((x1 <<< ((1 : Int32) &&& 31)) + (1 : Int32)))] [(.ref x0), (.int (((own_hb ch) &&& (255 : Int32)) <<< ((0 : Int32) &&& 31)))] _
    refine XS.iloadN X6.here hx rfl (hb hby dgc_47) rfl ?_
    exact k)
  obtain ⟨cl9, Ar9, q9, Sz9, Ng9, Hs9, G9⟩ := id V0
  have hin9 : ¬ (((x1 <<< ((1 : Int32) &&& 31)) + (1 : Int32)) < 0 ∨ cl9.slots.size ≤ (((x1 <<< ((1 : Int32) &&& 31)) + (1 : Int32))).toNatClampNeg) := inb_of Sz9 j2
  have hat9 : cl9.slots[(((x1 <<< ((1 : Int32) &&& 31)) + (1 : Int32))).toNatClampNeg]? = some (.int (own_lb ch)) := Hs9.at hin9 (u2)
  have p10 : ∀ t, own_W p e below m T6 53 #[.val (.ref x0), .val (.int ((x1 <<< ((1 : Int32) &&& 31)) + (1 : Int32)))] [(.int ((own_lb ch) &&& (255 : Int32))), (.int (((own_hb ch) &&& (255 : Int32)) <<< ((0 : Int32) &&& 31)))] t → Steps p.tables e below S0 t := fun t k => p8 t (by
    show own_W p e below m T6 48 #[.val (.ref x0), .val (.int ((x1 <<< ((1 : Int32) &&& 31)) + (1 : Int32)))] [(.int ((x1 <<< ((1 : Int32) &&& 31)) + (1 : Int32))), (.ref x0), (.int (((own_hb ch) &&& (255 : Int32)) <<< ((0 : Int32) &&& 31)))] _
    refine X6.baloadBytes hx (j := ((x1 <<< ((1 : Int32) &&& 31)) + (1 : Int32))) (v := (.int (own_lb ch))) (by rw [e6]; exact Ar9.1) (State.isArrayOf_alike hZ.alike Ar9.2.1) Ar9.2.2 hin9 hat9 (g := (mkF m 48 #[.val (.ref x0), .val (.int ((x1 <<< ((1 : Int32) &&& 31)) + (1 : Int32)))] [(.int ((x1 <<< ((1 : Int32) &&& 31)) + (1 : Int32))), (.ref x0), (.int (((own_hb ch) &&& (255 : Int32)) <<< ((0 : Int32) &&& 31)))])) rfl rfl (hb hby dgc_48) _ ?_
    show own_W p e below m T6 49 #[.val (.ref x0), .val (.int ((x1 <<< ((1 : Int32) &&& 31)) + (1 : Int32)))] [(.int (own_lb ch)), (.int (((own_hb ch) &&& (255 : Int32)) <<< ((0 : Int32) &&& 31)))] _
    refine XS.sipush X6.here hx rfl (hb hby dgc_49) ?_
    show own_W p e below m T6 52 #[.val (.ref x0), .val (.int ((x1 <<< ((1 : Int32) &&& 31)) + (1 : Int32)))] [(.int (255 : Int32)), (.int (own_lb ch)), (.int (((own_hb ch) &&& (255 : Int32)) <<< ((0 : Int32) &&& 31)))] _
    refine XS.iand X6.here hx rfl (hb hby dgc_52) rfl ?_
    exact k)
  have Sz11 := sl.ext O0.2
  obtain ⟨T11, X11, e11, st11⟩ := getS2 X6 hx hZ hown (host := "") (Or.inl (hw _ (List.mem_of_getElem? (i := 109) rfl))) Via.refl e6 Sz11 (g := (mkF m 53 #[.val (.ref x0), .val (.int ((x1 <<< ((1 : Int32) &&& 31)) + (1 : Int32)))] [(.int ((own_lb ch) &&& (255 : Int32))), (.int (((own_hb ch) &&& (255 : Int32)) <<< ((0 : Int32) &&& 31)))])) rfl (hb hby dgc_53)
  have p12 : ∀ t, own_W p e below m T11 56 #[.val (.ref x0), .val (.int ((x1 <<< ((1 : Int32) &&& 31)) + (1 : Int32)))] [(.int (8 : Int32)), (.int ((own_lb ch) &&& (255 : Int32))), (.int (((own_hb ch) &&& (255 : Int32)) <<< ((0 : Int32) &&& 31)))] t → Steps p.tables e below S0 t := fun t k => p10 t (st11 t k)
  have p13 : ∀ t, own_W p e below m T11 59 #[.val (.ref x0), .val (.int ((x1 <<< ((1 : Int32) &&& 31)) + (1 : Int32)))] [(.int (((((own_hb ch) &&& (255 : Int32)) <<< ((0 : Int32) &&& 31)) ||| (((own_lb ch) &&& (255 : Int32)) <<< ((8 : Int32) &&& 31))).toUInt32.toUInt16.toUInt32.toInt32))] t → Steps p.tables e below S0 t := fun t k => p12 t (by
    show own_W p e below m T11 56 #[.val (.ref x0), .val (.int ((x1 <<< ((1 : Int32) &&& 31)) + (1 : Int32)))] [(.int (8 : Int32)), (.int ((own_lb ch) &&& (255 : Int32))), (.int (((own_hb ch) &&& (255 : Int32)) <<< ((0 : Int32) &&& 31)))] _
    refine XS.ishl X11.here hx rfl (hb hby dgc_56) rfl ?_
    show own_W p e below m T11 57 #[.val (.ref x0), .val (.int ((x1 <<< ((1 : Int32) &&& 31)) + (1 : Int32)))] [(.int (((own_lb ch) &&& (255 : Int32)) <<< ((8 : Int32) &&& 31))), (.int (((own_hb ch) &&& (255 : Int32)) <<< ((0 : Int32) &&& 31)))] _
    refine XS.ior X11.here hx rfl (hb hby dgc_57) rfl ?_
    show own_W p e below m T11 58 #[.val (.ref x0), .val (.int ((x1 <<< ((1 : Int32) &&& 31)) + (1 : Int32)))] [(.int ((((own_hb ch) &&& (255 : Int32)) <<< ((0 : Int32) &&& 31)) ||| (((own_lb ch) &&& (255 : Int32)) <<< ((8 : Int32) &&& 31))))] _
    refine XS.i2c X11.here hx rfl (hb hby dgc_58) rfl ?_
    exact k)
  subst hS0
  obtain ⟨fs, hr, hrun, hended, hW, hsame⟩ := X11.leave (v := some (.int (nar .char (((((own_hb ch) &&& (255 : Int32)) <<< ((0 : Int32) &&& 31)) ||| (((own_lb ch) &&& (255 : Int32)) <<< ((8 : Int32) &&& 31))).toUInt32.toUInt16.toUInt32.toInt32)))) (fun h => by rw [Bd.returns] at h; cases h)
  refine ⟨_, _, p13 _ ?_, hrun, hended, _, _, rfl, ?_, ⟨_, rfl⟩, hW, hsame.mono (by decide) (by decide)⟩
  · show own_W p e below m T11 59 #[.val (.ref x0), .val (.int ((x1 <<< ((1 : Int32) &&& 31)) + (1 : Int32)))] [(.int (((((own_hb ch) &&& (255 : Int32)) <<< ((0 : Int32) &&& 31)) ||| (((own_lb ch) &&& (255 : Int32)) <<< ((8 : Int32) &&& 31))).toUInt32.toUInt16.toUInt32.toInt32))] _
    exact retN X11 hx (t := .char) Bd.returns (by simp) (hb hby dgc_59) hr
  · show Qgc Z x0 x1 kb N vs ch cs G h0 n0 _ T11.heap _
    rw [e11]
    exact ⟨congrArg (fun z => some (Value.int z)) (own_utf ki), N0, rfl⟩
theorem dut_0 : decode jdk_52_method_24_code 0 = .ok (.iconst 2, 1) := by decide +kernel
theorem dut_1 : decode jdk_52_method_24_code 1 = .ok (.newarray .byte, 2) := by decide +kernel
theorem dut_3 : decode jdk_52_method_24_code 3 = .ok (.astore_n 1, 1) := by decide +kernel
theorem dut_4 : decode jdk_52_method_24_code 4 = .ok (.aload_n 1, 1) := by decide +kernel
theorem dut_5 : decode jdk_52_method_24_code 5 = .ok (.iconst 0, 1) := by decide +kernel
theorem dut_6 : decode jdk_52_method_24_code 6 = .ok (.iload_n 0, 1) := by decide +kernel
theorem dut_7 : decode jdk_52_method_24_code 7 = .ok (.invokestatic 111, 3) := by decide +kernel
theorem dut_10 : decode jdk_52_method_24_code 10 = .ok (.aload_n 1, 1) := by decide +kernel
theorem dut_11 : decode jdk_52_method_24_code 11 = .ok (.areturn, 1) := by decide +kernel
theorem pnut : plainName "java/lang/StringUTF16" = true := by first | (simp [plainName, overriddenIn]; done) | decide +kernel
theorem pdut_0 : parseMethodDescriptor "([BII)V" = some ⟨[(.array .byte), .int, .int], none⟩ := by decide +kernel
theorem efut (m : MethodId) (x0 : Int32) : entryFrame m #[(.int x0)] 2 = mkF m 0 #[.val (.int x0), .unset] [] := by first | (simp [entryFrame, mkF, argsToLocals, Value.category]; done) | rfl
def Qut (Z : State) (x0 : Int32) (cs : Int32) (G : Value) (h0 : Heap) (n0 : Nat) (v : Option Value) (h : Heap) (L : List Loc) : Prop := ∃ (r : Addr) (kk : ClassId), v = some (.ref r) ∧ Fr n0 L ∧ Keep h0 h [] ∧ h0.size ≤ r ∧ Arv Z h r kk .byte (2 : Int32) [(.int (own_hb x0)), (.int (own_lb x0))] (.int (0 : Int32))
set_option maxRecDepth 65536 in
set_option maxHeartbeats 40000000 in
theorem rmut (l : Launch) (Z : State) (a0 : Array Value) (hw : ∀ d ∈ tables_1, d.before a0 Z = true) (ws : List Jvm.Cond) (x0 : Int32) (cs : Int32) (G : Value) (h0 : Heap) (n0 : Nat) (Z0 : n0 ≤ h0.size) (O0 : Old Z n0 h0) (st : own_ST Z cs G) :
    MetFree l (⟨"java/lang/StringUTF16", "toBytes", "(C)[B"⟩ : MethodName) (head1 (Jvm.Cond.code (⟨"java/lang/StringUTF16", "toBytes", "(C)[B"⟩ : MethodName) jdk_52_method_24_code 2 (some (.array .byte)) :: ws) ({ frames := 1, cells := 1, slots := 2, locals := 14 } : Room)) (fun a U => a = #[(.int x0)] ∧ Z.Warmed39 U.vm ∧ U.heap = h0) (fun _ _ _ _ _ => True) (fun _ U o U' => ∃ v L, o = .returned v ∧ Qut Z x0 cs G h0 n0 v U'.heap L ∧ FrameEnd U o U' L ({ frames := 1, cells := 1, slots := 2, locals := 14 } : Room).cells ({ frames := 1, cells := 1, slots := 2, locals := 14 } : Room).slots) := by
  refine MetFree.of_bodySF (plainFor_of_name pnut) hisR ?_
  intro p e s m args below meth c s₁ Bd hml0 hP hK
  obtain ⟨rfl, hZ, hh⟩ := hP
  have hx := Bd.exec
  have hby := Bd.bytes
  have hml : c.maxLocals = 2 := hml0
  have hown : s.vm.findClass "java/lang/StringUTF16" = some m.cls := findClass_of_methodNamed Bd.named
  have hnm := (name_of_methodNamed Bd.named Bd.method).1
  have X0 : Stand p l e ({ frames := 1, cells := 1, slots := 2, locals := 14 } : Room) s m #[(.int x0)] below meth c s₁ [] 0 0 := Stand.of_body Bd
  have e0 : s₁.heap = h0 := by rw [← hh, Bd.state]; rfl
  have N0 := Fr.nil n0
  have pre0 : ∀ t, Steps p.tables e below (s₁.setTop (mkF m 0 #[.val (.int x0), .unset] [])) t → Steps p.tables e below (s₁.setTop (entryFrame m #[(.int x0)] 2)) t := fun t k => castTop (efut m x0) k
  obtain ⟨S0, hS0⟩ : ∃ z, z = (s₁.setTop (entryFrame m #[(.int x0)] 2)) := ⟨_, rfl⟩
  rw [← hS0] at pre0
  obtain ⟨sc, hcs, sa, sh, sl, sg, hG⟩ := id st
  have K0 := Keep.refl h0 []
  have p1 : ∀ t, own_W p e below m s₁ 1 #[.val (.int x0), .unset] [(.int (2 : Int32))] t → Steps p.tables e below S0 t := fun t k => pre0 t (by
    show own_W p e below m s₁ 0 #[.val (.int x0), .unset] [] _
    refine XS.iconst X0.here hx rfl (hb hby dut_0) ?_
    exact k)
  obtain ⟨T2, h2, k2, X2, e2, E2, A2, st2⟩ := newP X0 hx hZ (hw _ (List.mem_of_getElem? (i := 19) rfl)) e0 (g := (mkF m 1 #[.val (.int x0), .unset] [(.int (2 : Int32))])) rfl (hb hby dut_1) rfl (by decide) (cap := 2) (by decide) (by decide) (by decide) (by decide)
  obtain ⟨b2, g2⟩ : ∃ z, z = h0.size := ⟨_, rfl⟩
  rw [← g2] at A2 st2
  have gn_b2 : n0 ≤ b2 := Nat.le_trans Z0 (Nat.le_of_eq g2.symm)
  have gk_b2 : h0.size ≤ b2 := Nat.le_trans K0.1 (Nat.le_of_eq g2.symm)
  have f3 := O0.ext E2
  have Z2 := Nat.le_trans Z0 E2.1
  have KK2 := K0.ext E2
  have VV2 : Arv Z h2 b2 k2 .byte (2 : Int32) [(.int (0 : Int32)), (.int (0 : Int32))] (.int (0 : Int32)) := (Arv.new A2 (by decide)).pad (pad_rep [] (.int (0 : Int32)) 2)
  have p4 : ∀ t, own_W p e below m T2 3 #[.val (.int x0), .unset] [(.ref b2)] t → Steps p.tables e below S0 t := fun t k => p1 t (st2 t k)
  have p5 : ∀ t, own_W p e below m T2 7 #[.val (.int x0), .val (.ref b2)] [(.int x0), (.int (0 : Int32)), (.ref b2)] t → Steps p.tables e below S0 t := fun t k => p4 t (by
    show own_W p e below m T2 3 #[.val (.int x0), .unset] [(.ref b2)] _
    refine XS.astoreN X2.here hx rfl (hb hby dut_3) rfl rfl (l' := #[.val (.int x0), .val (.ref b2)]) rfl ?_
    show own_W p e below m T2 4 #[.val (.int x0), .val (.ref b2)] [] _
    refine XS.aloadN X2.here hx rfl (hb hby dut_4) rfl rfl ?_
    show own_W p e below m T2 5 #[.val (.int x0), .val (.ref b2)] [(.ref b2)] _
    refine XS.iconst X2.here hx rfl (hb hby dut_5) ?_
    show own_W p e below m T2 6 #[.val (.int x0), .val (.ref b2)] [(.int (0 : Int32)), (.ref b2)] _
    refine XS.iloadN X2.here hx rfl (hb hby dut_6) rfl ?_
    exact k)
  obtain ⟨_, _, ⟨T6, L6, k6, n6⟩, -, X6, ⟨Lc6, hQ6, l6, y6, z6⟩, st6⟩ := Jvm.LawKit.callS X2 hx (y := (⟨"java/lang/StringUTF16", "putChar", "([BII)V"⟩ : MethodName)) hown (mvT hZ (hw _ (List.mem_of_getElem? (i := 104) rfl))) (mvT hZ (hw _ (List.mem_of_getElem? (i := 105) rfl))) (mvT hZ (hw _ (List.mem_of_getElem? (i := 93) rfl))) (mvT hZ (hw _ (List.mem_of_getElem? (i := 106) rfl))) (by decide) (backOf (W := 0) (rmpc l Z a0 hw [] b2 (0 : Int32) x0 k2 (2 : Int32) [(.int (0 : Int32)), (.int (0 : Int32))] 0 cs G h2 n0 Z2 VV2 gn_b2 ⟨by decide, by decide⟩ ⟨by decide, by decide⟩ (by decide) (by decide) (Nat.le_of_ble_eq_true rfl) f3 st) hZ (hw _ (List.mem_of_getElem? (i := 106) rfl)) (hw _ (List.mem_of_getElem? (i := 93) rfl)) (by decide) (by decide)) (g := (mkF m 7 #[.val (.int x0), .val (.ref b2)] [(.int x0), (.int (0 : Int32)), (.ref b2)])) rfl (by rw [hml]; rfl) (argsL := [(.ref b2), (.int (0 : Int32)), (.int x0)]) (rest := []) (lenOf pdut_0 rfl) rfl (by show 2 * 0 + _ ≤ _; exact Nat.le_of_eq rfl) (hb hby dut_7) (fun _ _ => ⟨rfl, e2, (by decide : 1 + 0 ≤ _), (by decide : 2 + 0 ≤ _)⟩)
  dsimp only [Pt.U, Pt.locs, Pt.cells, Pt.slots] at X6 l6 y6 z6 st6 hQ6
  subst l6 y6 z6
  obtain ⟨rfl, Nq6, K6, VP6⟩ := hQ6
  have N6 := Fr.app N0 Nq6
  have f7 := f3.keep K6 (allS gn_b2 (all0))
  have Z6 := Nat.le_trans Z2 K6.1
  have KK6 := KK2.trans K6 (allS (Or.inr gk_b2) all0)
  have p8 : ∀ t, own_W p e below m T6 10 #[.val (.int x0), .val (.ref b2)] [] t → Steps p.tables e below S0 t := fun t k => p5 t (st6 _ k)
  have VU6 : Arv Z T6.heap b2 k2 .byte (2 : Int32) [(.int (own_hb x0)), (.int (own_lb x0))] (.int (0 : Int32)) := VP6
  have p9 : ∀ t, own_W p e below m T6 11 #[.val (.int x0), .val (.ref b2)] [(.ref b2)] t → Steps p.tables e below S0 t := fun t k => p8 t (by
    show own_W p e below m T6 10 #[.val (.int x0), .val (.ref b2)] [] _
    refine XS.aloadN X6.here hx rfl (hb hby dut_10) rfl rfl ?_
    exact k)
  subst hS0
  obtain ⟨fs, hr, hrun, hended, hW, hsame⟩ := X6.leave (v := some (.ref b2)) (fun h => by rw [Bd.returns] at h; cases h)
  refine ⟨_, _, p9 _ ?_, hrun, hended, _, _, rfl, ?_, ⟨_, rfl⟩, hW, hsame.mono (by decide) (by decide)⟩
  · show own_W p e below m T6 11 #[.val (.int x0), .val (.ref b2)] [(.ref b2)] _
    exact retOut X6 hx Bd.returns rfl (Or.inr (Or.inr (Or.inr (Or.inr ⟨rfl, rfl, rfl⟩)))) (hb hby dut_11) hr
  · show Qut Z x0 cs G h0 n0 _ T6.heap _
    skip
    exact ⟨_, _, rfl, N6, KK6, gk_b2, VU6⟩
theorem dvo_0 : decode jdk_42_method_139_code 0 = .ok (.getstatic 38, 3) := by decide +kernel
theorem dvo_3 : decode jdk_42_method_139_code 3 = .ok (.ifCond .eq 23, 3) := by decide +kernel
theorem dvo_6 : decode jdk_42_method_139_code 6 = .ok (.iload_n 0, 1) := by decide +kernel
theorem dvo_7 : decode jdk_42_method_139_code 7 = .ok (.invokestatic 1015, 3) := by decide +kernel
theorem dvo_10 : decode jdk_42_method_139_code 10 = .ok (.ifCond .eq 16, 3) := by decide +kernel
theorem dvo_13 : decode jdk_42_method_139_code 13 = .ok (.new 10, 3) := by decide +kernel
theorem dvo_16 : decode jdk_42_method_139_code 16 = .ok (.dup, 1) := by decide +kernel
theorem dvo_17 : decode jdk_42_method_139_code 17 = .ok (.iload_n 0, 1) := by decide +kernel
theorem dvo_18 : decode jdk_42_method_139_code 18 = .ok (.invokestatic 1018, 3) := by decide +kernel
theorem dvo_21 : decode jdk_42_method_139_code 21 = .ok (.iconst 0, 1) := by decide +kernel
theorem dvo_22 : decode jdk_42_method_139_code 22 = .ok (.invokespecial 209, 3) := by decide +kernel
theorem dvo_25 : decode jdk_42_method_139_code 25 = .ok (.areturn, 1) := by decide +kernel
theorem dvo_26 : decode jdk_42_method_139_code 26 = .ok (.new 10, 3) := by decide +kernel
theorem dvo_29 : decode jdk_42_method_139_code 29 = .ok (.dup, 1) := by decide +kernel
theorem dvo_30 : decode jdk_42_method_139_code 30 = .ok (.iload_n 0, 1) := by decide +kernel
theorem dvo_31 : decode jdk_42_method_139_code 31 = .ok (.invokestatic 1021, 3) := by decide +kernel
theorem dvo_34 : decode jdk_42_method_139_code 34 = .ok (.iconst 1, 1) := by decide +kernel
theorem dvo_35 : decode jdk_42_method_139_code 35 = .ok (.invokespecial 209, 3) := by decide +kernel
theorem dvo_38 : decode jdk_42_method_139_code 38 = .ok (.areturn, 1) := by decide +kernel
theorem pnvo : plainName "java/lang/String" = true := by first | (simp [plainName, overriddenIn]; done) | decide +kernel
theorem pdvo_0 : parseMethodDescriptor "(C)Z" = some ⟨[.char], some .boolean⟩ := by decide +kernel
theorem pdvo_1 : parseMethodDescriptor "(C)[B" = some ⟨[.char], some (.array .byte)⟩ := by decide +kernel
theorem pdvo_2 : parseMethodDescriptor "([BB)V" = some ⟨[(.array .byte), .byte], none⟩ := by decide +kernel
theorem efvo (m : MethodId) (x0 : Int32) : entryFrame m #[(.int x0)] 1 = mkF m 0 #[.val (.int x0)] [] := by first | (simp [entryFrame, mkF, argsToLocals, Value.category]; done) | rfl
def Qvo (Z : State) (x0 : Int32) (cs : Int32) (G : Value) (h0 : Heap) (n0 : Nat) (v : Option Value) (h : Heap) (L : List Loc) : Prop := h.size ≤ h.size ∧ ∃ (r t : Addr) (kk : ClassId), v = some (.ref r) ∧ Fr n0 L ∧ Keep h0 h [] ∧ Exa Z h r "java/lang/String" ∧ Fld Z h r "java/lang/String" "value" "[B" (.ref t) ∧ ((Fld Z h r "java/lang/String" "coder" "B" (.int (0 : Int32)) ∧ Arv Z h t kk .byte (1 : Int32) [(.int (own_lo x0))] (.int (0 : Int32)) ∧ ¬ (255 : Int32) < x0) ∨ (Fld Z h r "java/lang/String" "coder" "B" (.int (1 : Int32)) ∧ Arv Z h t kk .byte (2 : Int32) [(.int (own_hb x0)), (.int (own_lb x0))] (.int (0 : Int32))))
set_option maxRecDepth 65536 in
set_option maxHeartbeats 40000000 in
theorem rmvo (l : Launch) (Z : State) (a0 : Array Value) (hw : ∀ d ∈ tables_1, d.before a0 Z = true) (ws : List Jvm.Cond) (x0 : Int32) (cs : Int32) (G : Value) (h0 : Heap) (n0 : Nat) (Z0 : n0 ≤ h0.size) (O0 : Old Z n0 h0) (st : own_ST Z cs G) :
    MetFree l (⟨"java/lang/String", "valueOf", "(C)Ljava/lang/String;"⟩ : MethodName) (head1 (Jvm.Cond.code (⟨"java/lang/String", "valueOf", "(C)Ljava/lang/String;"⟩ : MethodName) jdk_42_method_139_code 1 (some (.object "java/lang/String")) :: ws) ({ frames := 2, cells := 2, slots := 6, locals := 29 } : Room)) (fun a U => a = #[(.int x0)] ∧ Z.Warmed39 U.vm ∧ U.heap = h0) (fun _ _ _ _ _ => True) (fun _ U o U' => ∃ v L, o = .returned v ∧ Qvo Z x0 cs G h0 n0 v U'.heap L ∧ FrameEnd U o U' L ({ frames := 2, cells := 2, slots := 6, locals := 29 } : Room).cells ({ frames := 2, cells := 2, slots := 6, locals := 29 } : Room).slots) := by
  refine MetFree.of_bodySF (plainFor_of_name pnvo) hisR ?_
  intro p e s m args below meth c s₁ Bd hml0 hP hK
  obtain ⟨rfl, hZ, hh⟩ := hP
  have hx := Bd.exec
  have hby := Bd.bytes
  have hml : c.maxLocals = 1 := hml0
  have hown : s.vm.findClass "java/lang/String" = some m.cls := findClass_of_methodNamed Bd.named
  have hnm := (name_of_methodNamed Bd.named Bd.method).1
  have X0 : Stand p l e ({ frames := 2, cells := 2, slots := 6, locals := 29 } : Room) s m #[(.int x0)] below meth c s₁ [] 0 0 := Stand.of_body Bd
  have e0 : s₁.heap = h0 := by rw [← hh, Bd.state]; rfl
  have N0 := Fr.nil n0
  have pre0 : ∀ t, Steps p.tables e below (s₁.setTop (mkF m 0 #[.val (.int x0)] [])) t → Steps p.tables e below (s₁.setTop (entryFrame m #[(.int x0)] 1)) t := fun t k => castTop (efvo m x0) k
  obtain ⟨S0, hS0⟩ : ∃ z, z = (s₁.setTop (entryFrame m #[(.int x0)] 1)) := ⟨_, rfl⟩
  rw [← hS0] at pre0
  obtain ⟨sc, hcs, sa, sh, sl, sg, hG⟩ := id st
  have K0 := Keep.refl h0 []
  have Sz1 := sc.ext O0.2
  obtain ⟨T1, X1, e1, st1⟩ := getS2 X0 hx hZ hown (host := "") (Or.inl (hw _ (List.mem_of_getElem? (i := 9) rfl))) Via.refl e0 Sz1 (g := (mkF m 0 #[.val (.int x0)] [])) rfl (hb hby dvo_0)
  have p2 : ∀ t, own_W p e below m T1 3 #[.val (.int x0)] [(.int cs)] t → Steps p.tables e below S0 t := fun t k => pre0 t (st1 t k)
  have p3 : ∀ t, own_W p e below m T1 6 #[.val (.int x0)] [] t → Steps p.tables e below S0 t := fun t k => p2 t (by
    show own_W p e below m T1 3 #[.val (.int x0)] [(.int cs)] _
    refine XS.ifNo X1.here hx rfl (hb hby dvo_3) rfl ((if0 _ _).trans (feq (hcs)).1) ?_
    exact k)
  rcases Decidable.em ((255 : Int32) < x0) with hl | hl
  · have u_ := Z0
    have p4 : ∀ t, own_W p e below m T1 7 #[.val (.int x0)] [(.int x0)] t → Steps p.tables e below S0 t := fun t k => p3 t (by
      show own_W p e below m T1 6 #[.val (.int x0)] [] _
      refine XS.iloadN X1.here hx rfl (hb hby dvo_6) rfl ?_
      exact k)
    obtain ⟨_, _, ⟨T5, L5, k5, n5⟩, -, X5, ⟨Lc5, hQ5, l5, y5, z5⟩, st5⟩ := Jvm.LawKit.callS X1 hx (y := (⟨"java/lang/StringLatin1", "canEncode", "(C)Z"⟩ : MethodName)) hown (mvT hZ (hw _ (List.mem_of_getElem? (i := 10) rfl))) (mvT hZ (hw _ (List.mem_of_getElem? (i := 11) rfl))) (mvT hZ (hw _ (List.mem_of_getElem? (i := 12) rfl))) (mvT hZ (hw _ (List.mem_of_getElem? (i := 13) rfl))) (by decide) (backOf (W := 0) (rmce0 l Z a0 hw [] x0  h0 n0 Z0 hl) hZ (hw _ (List.mem_of_getElem? (i := 13) rfl)) (hw _ (List.mem_of_getElem? (i := 12) rfl)) (by decide) (by decide)) (g := (mkF m 7 #[.val (.int x0)] [(.int x0)])) rfl (by rw [hml]; rfl) (argsL := [(.int x0)]) (rest := []) (lenOf pdvo_0 rfl) rfl (by show 2 * 0 + _ ≤ _; exact Nat.le_of_eq rfl) (hb hby dvo_7) (fun _ _ => ⟨rfl, e1, (by decide : 0 + 0 ≤ _), (by decide : 0 + 0 ≤ _)⟩)
    dsimp only [Pt.U, Pt.locs, Pt.cells, Pt.slots] at X5 l5 y5 z5 st5 hQ5
    subst l5 y5 z5
    obtain ⟨rfl, Nq5, e5⟩ := hQ5
    have N5 := Fr.app N0 Nq5
    have p6 : ∀ t, own_W p e below m T5 10 #[.val (.int x0)] [(.int (0 : Int32))] t → Steps p.tables e below S0 t := fun t k => p4 t (st5 _ k)
    have p7 : ∀ t, own_W p e below m T5 26 #[.val (.int x0)] [] t → Steps p.tables e below S0 t := fun t k => p6 t (by
      show own_W p e below m T5 10 #[.val (.int x0)] [(.int (0 : Int32))] _
      refine XS.ifYes X5.here hx rfl (pc0 := 10) (pc' := 26) rfl (hb hby dvo_10) rfl ((if0 _ _).trans (teq (rfl)).1) (by decide) (by decide) ?_
      exact k)
    obtain ⟨T8, h8, X8, e8, E8, A8, D8, -, st8⟩ := newO X5 hx hZ hown (hw _ (List.mem_of_getElem? (i := 14) rfl)) (hw _ (List.mem_of_getElem? (i := 15) rfl)) (hw _ (List.mem_of_getElem? (i := 7) rfl)) e5 (g := (mkF m 26 #[.val (.int x0)] [])) rfl (hb hby dvo_26) (by decide) (by decide)
    obtain ⟨b8, g8⟩ : ∃ z, z = h0.size := ⟨_, rfl⟩
    rw [← g8] at A8 D8 st8
    have gn_b8 : n0 ≤ b8 := Nat.le_trans Z0 (Nat.le_of_eq g8.symm)
    have gk_b8 : h0.size ≤ b8 := Nat.le_trans K0.1 (Nat.le_of_eq g8.symm)
    have f9 := O0.ext E8
    have Z8 := Nat.le_trans Z0 E8.1
    have KK8 := K0.ext E8
    have f10 : Fld Z h8 b8 "java/lang/String" "value" "[B" .null := D8 (Or.inr (hw _ (List.mem_of_getElem? (i := 28) rfl))) (ty := (.array .byte)) (by decide)
    have f11 : Fld Z h8 b8 "java/lang/String" "coder" "B" (.int (0 : Int32)) := D8 (Or.inr (hw _ (List.mem_of_getElem? (i := 30) rfl))) (ty := .byte) (by decide)
    have p12 : ∀ t, own_W p e below m T8 29 #[.val (.int x0)] [(.ref b8)] t → Steps p.tables e below S0 t := fun t k => p7 t (st8 t k)
    have p13 : ∀ t, own_W p e below m T8 31 #[.val (.int x0)] [(.int x0), (.ref b8), (.ref b8)] t → Steps p.tables e below S0 t := fun t k => p12 t (by
      show own_W p e below m T8 29 #[.val (.int x0)] [(.ref b8)] _
      refine XS.dup X8.here hx rfl (hb hby dvo_29) rfl rfl ?_
      show own_W p e below m T8 30 #[.val (.int x0)] [(.ref b8), (.ref b8)] _
      refine XS.iloadN X8.here hx rfl (hb hby dvo_30) rfl ?_
      exact k)
    obtain ⟨_, _, ⟨T14, L14, k14, n14⟩, -, X14, ⟨Lc14, hQ14, l14, y14, z14⟩, st14⟩ := Jvm.LawKit.callS X8 hx (y := (⟨"java/lang/StringUTF16", "toBytes", "(C)[B"⟩ : MethodName)) hown (mvT hZ (hw _ (List.mem_of_getElem? (i := 101) rfl))) (mvT hZ (hw _ (List.mem_of_getElem? (i := 102) rfl))) (mvT hZ (hw _ (List.mem_of_getElem? (i := 93) rfl))) (mvT hZ (hw _ (List.mem_of_getElem? (i := 103) rfl))) (by decide) (backOf (W := 2) (rmut l Z a0 hw [] x0 cs G h8 n0 Z8 f9 st) hZ (hw _ (List.mem_of_getElem? (i := 103) rfl)) (hw _ (List.mem_of_getElem? (i := 93) rfl)) (by decide) (by decide)) (g := (mkF m 31 #[.val (.int x0)] [(.int x0), (.ref b8), (.ref b8)])) rfl (by rw [hml]; rfl) (argsL := [(.int x0)]) (rest := [(.ref b8), (.ref b8)]) (lenOf pdvo_1 rfl) rfl (by show 2 * 0 + _ ≤ _; exact Nat.le_of_eq rfl) (hb hby dvo_31) (fun _ _ => ⟨rfl, e8, (by decide : 1 + 1 ≤ _), (by decide : 4 + 2 ≤ _)⟩)
    dsimp only [Pt.U, Pt.locs, Pt.cells, Pt.slots] at X14 l14 y14 z14 st14 hQ14
    subst l14 y14 z14
    obtain ⟨r14, kk14, rfl, Nq14, K14, gr14, VR14⟩ := hQ14
    have N14 := Fr.app N5 Nq14
    have f15 := f9.keep K14 (all0)
    have f16 := A8.keep K14
    have f17 := f10.keep K14 nin0
    have f18 := f11.keep K14 nin0
    have Z14 := Nat.le_trans Z8 K14.1
    have KK14 := KK8.trans K14 (all0)
    have p19 : ∀ t, own_W p e below m T14 34 #[.val (.int x0)] [(.ref r14), (.ref b8), (.ref b8)] t → Steps p.tables e below S0 t := fun t k => p13 t (st14 _ k)
    have Zb14 := Z8
    have Kb14 := KK8
    have gn_r14 : n0 ≤ r14 := Nat.le_trans Zb14 gr14
    have gk_r14 : h0.size ≤ r14 := Nat.le_trans Kb14.1 gr14
    have ne_b8_r14 : b8 ≠ r14 := Nat.ne_of_lt (Nat.lt_of_lt_of_le f11.lt gr14)
    have p20 : ∀ t, own_W p e below m T14 35 #[.val (.int x0)] [(.int (1 : Int32)), (.ref r14), (.ref b8), (.ref b8)] t → Steps p.tables e below S0 t := fun t k => p19 t (by
      show own_W p e below m T14 34 #[.val (.int x0)] [(.ref r14), (.ref b8), (.ref b8)] _
      refine XS.iconst X14.here hx rfl (hb hby dvo_34) ?_
      exact k)
    obtain ⟨_, _, ⟨T21, L21, k21, n21⟩, -, X21, ⟨Lc21, hQ21, l21, y21, z21⟩, st21⟩ := X14.specialBack hx (y := (⟨"java/lang/String", "<init>", "([BB)V"⟩ : MethodName)) rfl hown (mvT hZ (hw _ (List.mem_of_getElem? (i := 20) rfl))) (mvT hZ (hw _ (List.mem_of_getElem? (i := 21) rfl))) (mvT hZ (hw _ (List.mem_of_getElem? (i := 23) rfl))) (by decide) (backOf (W := 1) (rmsi1 l Z a0 hw [] b8 r14  T14.heap n0 Z14 f16 f18 f17 gn_b8) hZ (hw _ (List.mem_of_getElem? (i := 23) rfl)) (hw _ (List.mem_of_getElem? (i := 7) rfl)) (by decide) (by decide)) (g := (mkF m 35 #[.val (.int x0)] [(.int (1 : Int32)), (.ref r14), (.ref b8), (.ref b8)])) rfl (by rw [hml]; rfl) (Steps.refl _) (a := b8) (argsL := [(.ref r14), (.int (1 : Int32))]) (rest := [(.ref b8)]) (lenOf pdvo_2 rfl) rfl (by show 2 * 0 + _ ≤ _; exact Nat.le_of_eq rfl) (hb hby dvo_35) (fun _ _ => ⟨rfl, rfl, (by decide : 2 + 0 ≤ _), (by decide : 6 + 0 ≤ _)⟩)
    dsimp only [Pt.U, Pt.locs, Pt.cells, Pt.slots] at X21 l21 y21 z21 st21 hQ21
    subst l21 y21 z21
    obtain ⟨rfl, Nq21, K21, FA21, FB21⟩ := hQ21
    have N21 := Fr.app N14 Nq21
    have f22 := f15.keep K21 (allS gn_b8 (all0))
    have f23 := f16.keep K21
    have f24 := VR14.keep K21 (ninS (Ne.symm ne_b8_r14) nin0)
    have Z21 := Nat.le_trans Z14 K21.1
    have KK21 := KK14.trans K21 (allS (Or.inr gk_b8) all0)
    have p25 : ∀ t, own_W p e below m T21 38 #[.val (.int x0)] [(.ref b8)] t → Steps p.tables e below S0 t := fun t k => p20 t (st21.trans k)
    subst hS0
    obtain ⟨fs, hr, hrun, hended, hW, hsame⟩ := X21.leave (v := some (.ref b8)) (fun h => by rw [Bd.returns] at h; cases h)
    refine ⟨_, _, p25 _ ?_, hrun, hended, _, _, rfl, ?_, ⟨_, rfl⟩, hW, hsame.mono (by decide) (by decide)⟩
    · show own_W p e below m T21 38 #[.val (.int x0)] [(.ref b8)] _
      exact retOut X21 hx Bd.returns rfl (Or.inr (Or.inr (Or.inr (Or.inr ⟨rfl, rfl, rfl⟩)))) (hb hby dvo_38) hr
    · show Qvo Z x0 cs G h0 n0 _ T21.heap _
      skip
      exact ⟨Nat.le_refl _, _, _, _, rfl, N21, KK21, f23, FB21, Or.inr ⟨FA21, f24⟩⟩
  · have u_ := Z0
    have p26 : ∀ t, own_W p e below m T1 7 #[.val (.int x0)] [(.int x0)] t → Steps p.tables e below S0 t := fun t k => p3 t (by
      show own_W p e below m T1 6 #[.val (.int x0)] [] _
      refine XS.iloadN X1.here hx rfl (hb hby dvo_6) rfl ?_
      exact k)
    obtain ⟨_, _, ⟨T27, L27, k27, n27⟩, -, X27, ⟨Lc27, hQ27, l27, y27, z27⟩, st27⟩ := Jvm.LawKit.callS X1 hx (y := (⟨"java/lang/StringLatin1", "canEncode", "(C)Z"⟩ : MethodName)) hown (mvT hZ (hw _ (List.mem_of_getElem? (i := 10) rfl))) (mvT hZ (hw _ (List.mem_of_getElem? (i := 11) rfl))) (mvT hZ (hw _ (List.mem_of_getElem? (i := 12) rfl))) (mvT hZ (hw _ (List.mem_of_getElem? (i := 13) rfl))) (by decide) (backOf (W := 0) (rmce1 l Z a0 hw [] x0  h0 n0 Z0 hl) hZ (hw _ (List.mem_of_getElem? (i := 13) rfl)) (hw _ (List.mem_of_getElem? (i := 12) rfl)) (by decide) (by decide)) (g := (mkF m 7 #[.val (.int x0)] [(.int x0)])) rfl (by rw [hml]; rfl) (argsL := [(.int x0)]) (rest := []) (lenOf pdvo_0 rfl) rfl (by show 2 * 0 + _ ≤ _; exact Nat.le_of_eq rfl) (hb hby dvo_7) (fun _ _ => ⟨rfl, e1, (by decide : 0 + 0 ≤ _), (by decide : 0 + 0 ≤ _)⟩)
    dsimp only [Pt.U, Pt.locs, Pt.cells, Pt.slots] at X27 l27 y27 z27 st27 hQ27
    subst l27 y27 z27
    obtain ⟨rfl, Nq27, e27⟩ := hQ27
    have N27 := Fr.app N0 Nq27
    have p28 : ∀ t, own_W p e below m T27 10 #[.val (.int x0)] [(.int (1 : Int32))] t → Steps p.tables e below S0 t := fun t k => p26 t (st27 _ k)
    have p29 : ∀ t, own_W p e below m T27 13 #[.val (.int x0)] [] t → Steps p.tables e below S0 t := fun t k => p28 t (by
      show own_W p e below m T27 10 #[.val (.int x0)] [(.int (1 : Int32))] _
      refine XS.ifNo X27.here hx rfl (hb hby dvo_10) rfl ((if0 _ _).trans (feq (by decide)).1) ?_
      exact k)
    obtain ⟨T30, h30, X30, e30, E30, A30, D30, -, st30⟩ := newO X27 hx hZ hown (hw _ (List.mem_of_getElem? (i := 14) rfl)) (hw _ (List.mem_of_getElem? (i := 15) rfl)) (hw _ (List.mem_of_getElem? (i := 7) rfl)) e27 (g := (mkF m 13 #[.val (.int x0)] [])) rfl (hb hby dvo_13) (by decide) (by decide)
    obtain ⟨b30, g30⟩ : ∃ z, z = h0.size := ⟨_, rfl⟩
    rw [← g30] at A30 D30 st30
    have gn_b30 : n0 ≤ b30 := Nat.le_trans Z0 (Nat.le_of_eq g30.symm)
    have gk_b30 : h0.size ≤ b30 := Nat.le_trans K0.1 (Nat.le_of_eq g30.symm)
    have f31 := O0.ext E30
    have Z30 := Nat.le_trans Z0 E30.1
    have KK30 := K0.ext E30
    have f32 : Fld Z h30 b30 "java/lang/String" "value" "[B" .null := D30 (Or.inr (hw _ (List.mem_of_getElem? (i := 28) rfl))) (ty := (.array .byte)) (by decide)
    have f33 : Fld Z h30 b30 "java/lang/String" "coder" "B" (.int (0 : Int32)) := D30 (Or.inr (hw _ (List.mem_of_getElem? (i := 30) rfl))) (ty := .byte) (by decide)
    have p34 : ∀ t, own_W p e below m T30 16 #[.val (.int x0)] [(.ref b30)] t → Steps p.tables e below S0 t := fun t k => p29 t (st30 t k)
    have p35 : ∀ t, own_W p e below m T30 18 #[.val (.int x0)] [(.int x0), (.ref b30), (.ref b30)] t → Steps p.tables e below S0 t := fun t k => p34 t (by
      show own_W p e below m T30 16 #[.val (.int x0)] [(.ref b30)] _
      refine XS.dup X30.here hx rfl (hb hby dvo_16) rfl rfl ?_
      show own_W p e below m T30 17 #[.val (.int x0)] [(.ref b30), (.ref b30)] _
      refine XS.iloadN X30.here hx rfl (hb hby dvo_17) rfl ?_
      exact k)
    obtain ⟨_, _, ⟨T36, L36, k36, n36⟩, -, X36, ⟨Lc36, hQ36, l36, y36, z36⟩, st36⟩ := Jvm.LawKit.callS X30 hx (y := (⟨"java/lang/StringLatin1", "toBytes", "(C)[B"⟩ : MethodName)) hown (mvT hZ (hw _ (List.mem_of_getElem? (i := 16) rfl))) (mvT hZ (hw _ (List.mem_of_getElem? (i := 17) rfl))) (mvT hZ (hw _ (List.mem_of_getElem? (i := 12) rfl))) (mvT hZ (hw _ (List.mem_of_getElem? (i := 18) rfl))) (by decide) (backOf (W := 2) (rmlt l Z a0 hw [] x0  h30 n0 Z30 ) hZ (hw _ (List.mem_of_getElem? (i := 18) rfl)) (hw _ (List.mem_of_getElem? (i := 12) rfl)) (by decide) (by decide)) (g := (mkF m 18 #[.val (.int x0)] [(.int x0), (.ref b30), (.ref b30)])) rfl (by rw [hml]; rfl) (argsL := [(.int x0)]) (rest := [(.ref b30), (.ref b30)]) (lenOf pdvo_1 rfl) rfl (by show 2 * 0 + _ ≤ _; exact Nat.le_of_eq rfl) (hb hby dvo_18) (fun _ _ => ⟨rfl, e30, (by decide : 1 + 1 ≤ _), (by decide : 4 + 1 ≤ _)⟩)
    dsimp only [Pt.U, Pt.locs, Pt.cells, Pt.slots] at X36 l36 y36 z36 st36 hQ36
    subst l36 y36 z36
    obtain ⟨r36, kk36, rfl, Nq36, K36, gr36, VR36⟩ := hQ36
    have N36 := Fr.app N27 Nq36
    have f37 := f31.keep K36 (all0)
    have f38 := A30.keep K36
    have f39 := f32.keep K36 nin0
    have f40 := f33.keep K36 nin0
    have Z36 := Nat.le_trans Z30 K36.1
    have KK36 := KK30.trans K36 (all0)
    have p41 : ∀ t, own_W p e below m T36 21 #[.val (.int x0)] [(.ref r36), (.ref b30), (.ref b30)] t → Steps p.tables e below S0 t := fun t k => p35 t (st36 _ k)
    have Zb36 := Z30
    have Kb36 := KK30
    have gn_r36 : n0 ≤ r36 := Nat.le_trans Zb36 gr36
    have gk_r36 : h0.size ≤ r36 := Nat.le_trans Kb36.1 gr36
    have ne_b30_r36 : b30 ≠ r36 := Nat.ne_of_lt (Nat.lt_of_lt_of_le f33.lt gr36)
    have p42 : ∀ t, own_W p e below m T36 22 #[.val (.int x0)] [(.int (0 : Int32)), (.ref r36), (.ref b30), (.ref b30)] t → Steps p.tables e below S0 t := fun t k => p41 t (by
      show own_W p e below m T36 21 #[.val (.int x0)] [(.ref r36), (.ref b30), (.ref b30)] _
      refine XS.iconst X36.here hx rfl (hb hby dvo_21) ?_
      exact k)
    obtain ⟨_, _, ⟨T43, L43, k43, n43⟩, -, X43, ⟨Lc43, hQ43, l43, y43, z43⟩, st43⟩ := X36.specialBack hx (y := (⟨"java/lang/String", "<init>", "([BB)V"⟩ : MethodName)) rfl hown (mvT hZ (hw _ (List.mem_of_getElem? (i := 20) rfl))) (mvT hZ (hw _ (List.mem_of_getElem? (i := 21) rfl))) (mvT hZ (hw _ (List.mem_of_getElem? (i := 23) rfl))) (by decide) (backOf (W := 1) (rmsi0 l Z a0 hw [] b30 r36  T36.heap n0 Z36 f38 f40 f39 gn_b30) hZ (hw _ (List.mem_of_getElem? (i := 23) rfl)) (hw _ (List.mem_of_getElem? (i := 7) rfl)) (by decide) (by decide)) (g := (mkF m 22 #[.val (.int x0)] [(.int (0 : Int32)), (.ref r36), (.ref b30), (.ref b30)])) rfl (by rw [hml]; rfl) (Steps.refl _) (a := b30) (argsL := [(.ref r36), (.int (0 : Int32))]) (rest := [(.ref b30)]) (lenOf pdvo_2 rfl) rfl (by show 2 * 0 + _ ≤ _; exact Nat.le_of_eq rfl) (hb hby dvo_22) (fun _ _ => ⟨rfl, rfl, (by decide : 2 + 0 ≤ _), (by decide : 5 + 0 ≤ _)⟩)
    dsimp only [Pt.U, Pt.locs, Pt.cells, Pt.slots] at X43 l43 y43 z43 st43 hQ43
    subst l43 y43 z43
    obtain ⟨rfl, Nq43, K43, FA43, FB43⟩ := hQ43
    have N43 := Fr.app N36 Nq43
    have f44 := f37.keep K43 (allS gn_b30 (all0))
    have f45 := f38.keep K43
    have f46 := VR36.keep K43 (ninS (Ne.symm ne_b30_r36) nin0)
    have Z43 := Nat.le_trans Z36 K43.1
    have KK43 := KK36.trans K43 (allS (Or.inr gk_b30) all0)
    have p47 : ∀ t, own_W p e below m T43 25 #[.val (.int x0)] [(.ref b30)] t → Steps p.tables e below S0 t := fun t k => p42 t (st43.trans k)
    subst hS0
    obtain ⟨fs, hr, hrun, hended, hW, hsame⟩ := X43.leave (v := some (.ref b30)) (fun h => by rw [Bd.returns] at h; cases h)
    refine ⟨_, _, p47 _ ?_, hrun, hended, _, _, rfl, ?_, ⟨_, rfl⟩, hW, hsame.mono (by decide) (by decide)⟩
    · show own_W p e below m T43 25 #[.val (.int x0)] [(.ref b30)] _
      exact retOut X43 hx Bd.returns rfl (Or.inr (Or.inr (Or.inr (Or.inr ⟨rfl, rfl, rfl⟩)))) (hb hby dvo_25) hr
    · show Qvo Z x0 cs G h0 n0 _ T43.heap _
      skip
      exact ⟨Nat.le_refl _, _, _, _, rfl, N43, KK43, f45, FB43, Or.inl ⟨FA43, f46, hl⟩⟩
theorem dnl2_0 : decode jdk_52_method_3_code 0 = .ok (.iload_n 0, 1) := by decide +kernel
theorem dnl2_1 : decode jdk_52_method_3_code 1 = .ok (.ifCond .ge 11, 3) := by decide +kernel
theorem dnl2_12 : decode jdk_52_method_3_code 12 = .ok (.iload_n 0, 1) := by decide +kernel
theorem dnl2_13 : decode jdk_52_method_3_code 13 = .ok (.ldc 20, 2) := by decide +kernel
theorem dnl2_15 : decode jdk_52_method_3_code 15 = .ok (.if_icmp .lt 40, 3) := by decide +kernel
theorem dnl2_55 : decode jdk_52_method_3_code 55 = .ok (.iload_n 0, 1) := by decide +kernel
theorem dnl2_56 : decode jdk_52_method_3_code 56 = .ok (.iconst 1, 1) := by decide +kernel
theorem dnl2_57 : decode jdk_52_method_3_code 57 = .ok (.ishl, 1) := by decide +kernel
theorem dnl2_58 : decode jdk_52_method_3_code 58 = .ok (.ireturn, 1) := by decide +kernel
theorem pnnl2 : plainName "java/lang/StringUTF16" = true := by first | (simp [plainName, overriddenIn]; done) | decide +kernel
theorem efnl2 (m : MethodId)  : entryFrame m #[(.int (2 : Int32))] 1 = mkF m 0 #[.val (.int (2 : Int32))] [] := by first | (simp [entryFrame, mkF, argsToLocals, Value.category]; done) | rfl
def Qnl2 (Z : State)  (h0 : Heap) (n0 : Nat) (v : Option Value) (h : Heap) (L : List Loc) : Prop := v = some (.int (4 : Int32)) ∧ Fr n0 L ∧ h = h0
set_option maxRecDepth 65536 in
set_option maxHeartbeats 40000000 in
theorem rmnl2 (l : Launch) (Z : State) (a0 : Array Value) (hw : ∀ d ∈ tables_1, d.before a0 Z = true) (ws : List Jvm.Cond)  (h0 : Heap) (n0 : Nat) (Z0 : n0 ≤ h0.size) :
    MetFree l (⟨"java/lang/StringUTF16", "newBytesLength", "(I)I"⟩ : MethodName) (head1 (Jvm.Cond.code (⟨"java/lang/StringUTF16", "newBytesLength", "(I)I"⟩ : MethodName) jdk_52_method_3_code 1 (some .int) :: ws) ({ frames := 0, cells := 0, slots := 0, locals := 0 } : Room)) (fun a U => a = #[(.int (2 : Int32))] ∧ Z.Warmed39 U.vm ∧ U.heap = h0) (fun _ _ _ _ _ => True) (fun _ U o U' => ∃ v L, o = .returned v ∧ Qnl2 Z  h0 n0 v U'.heap L ∧ FrameEnd U o U' L ({ frames := 0, cells := 0, slots := 0, locals := 0 } : Room).cells ({ frames := 0, cells := 0, slots := 0, locals := 0 } : Room).slots) := by
  refine MetFree.of_bodySF (plainFor_of_name pnnl2) hisR ?_
  intro p e s m args below meth c s₁ Bd hml0 hP hK
  obtain ⟨rfl, hZ, hh⟩ := hP
  have hx := Bd.exec
  have hby := Bd.bytes
  have hml : c.maxLocals = 1 := hml0
  have hown : s.vm.findClass "java/lang/StringUTF16" = some m.cls := findClass_of_methodNamed Bd.named
  have hnm := (name_of_methodNamed Bd.named Bd.method).1
  have X0 : Stand p l e ({ frames := 0, cells := 0, slots := 0, locals := 0 } : Room) s m #[(.int (2 : Int32))] below meth c s₁ [] 0 0 := Stand.of_body Bd
  have e0 : s₁.heap = h0 := by rw [← hh, Bd.state]; rfl
  have N0 := Fr.nil n0
  have pre0 : ∀ t, Steps p.tables e below (s₁.setTop (mkF m 0 #[.val (.int (2 : Int32))] [])) t → Steps p.tables e below (s₁.setTop (entryFrame m #[(.int (2 : Int32))] 1)) t := fun t k => castTop (efnl2 m ) k
  obtain ⟨S0, hS0⟩ : ∃ z, z = (s₁.setTop (entryFrame m #[(.int (2 : Int32))] 1)) := ⟨_, rfl⟩
  rw [← hS0] at pre0
  have p1 : ∀ t, own_W p e below m s₁ 58 #[.val (.int (2 : Int32))] [(.int ((2 : Int32) <<< ((1 : Int32) &&& 31)))] t → Steps p.tables e below S0 t := fun t k => pre0 t (by
    show own_W p e below m s₁ 0 #[.val (.int (2 : Int32))] [] _
    refine XS.iloadN X0.here hx rfl (hb hby dnl2_0) rfl ?_
    show own_W p e below m s₁ 1 #[.val (.int (2 : Int32))] [(.int (2 : Int32))] _
    refine XS.ifYes X0.here hx rfl (pc0 := 1) (pc' := 12) rfl (hb hby dnl2_1) rfl ((if0 _ _).trans (flt (by decide)).2.1) (by decide) (by decide) ?_
    show own_W p e below m s₁ 12 #[.val (.int (2 : Int32))] [] _
    refine XS.iloadN X0.here hx rfl (hb hby dnl2_12) rfl ?_
    show own_W p e below m s₁ 13 #[.val (.int (2 : Int32))] [(.int (2 : Int32))] _
    refine X0.ldcInt hx hown (mvT hZ (hw _ (List.mem_of_getElem? (i := 132) rfl))) (g := (mkF m 13 #[.val (.int (2 : Int32))] [(.int (2 : Int32))])) rfl (hb hby dnl2_13) _ ?_
    show own_W p e below m s₁ 15 #[.val (.int (2 : Int32))] [(.int (1073741823 : Int32)), (.int (2 : Int32))] _
    refine XS.icmpYes X0.here hx rfl (pc0 := 15) (pc' := 55) rfl (hb hby dnl2_15) rfl ((tlt (by decide)).1) (by decide) (by decide) ?_
    show own_W p e below m s₁ 55 #[.val (.int (2 : Int32))] [] _
    refine XS.iloadN X0.here hx rfl (hb hby dnl2_55) rfl ?_
    show own_W p e below m s₁ 56 #[.val (.int (2 : Int32))] [(.int (2 : Int32))] _
    refine XS.iconst X0.here hx rfl (hb hby dnl2_56) ?_
    show own_W p e below m s₁ 57 #[.val (.int (2 : Int32))] [(.int (1 : Int32)), (.int (2 : Int32))] _
    refine XS.ishl X0.here hx rfl (hb hby dnl2_57) rfl ?_
    exact k)
  subst hS0
  obtain ⟨fs, hr, hrun, hended, hW, hsame⟩ := X0.leave (v := some (.int ((2 : Int32) <<< ((1 : Int32) &&& 31)))) (fun h => by rw [Bd.returns] at h; cases h)
  refine ⟨_, _, p1 _ ?_, hrun, hended, _, _, rfl, ?_, ⟨_, rfl⟩, hW, hsame.mono (by decide) (by decide)⟩
  · show own_W p e below m s₁ 58 #[.val (.int (2 : Int32))] [(.int ((2 : Int32) <<< ((1 : Int32) &&& 31)))] _
    exact retI X0 hx Bd.returns (hb hby dnl2_58) hr
  · show Qnl2 Z  h0 n0 _ s₁.heap _
    rw [e0]
    exact ⟨congrArg (fun z => some (Value.int z)) (by decide : ((2 : Int32) <<< ((1 : Int32) &&& 31)) = (4 : Int32)), N0, rfl⟩
theorem dnf2_0 : decode jdk_52_method_2_code 0 = .ok (.iload_n 0, 1) := by decide +kernel
theorem dnf2_1 : decode jdk_52_method_2_code 1 = .ok (.invokestatic 11, 3) := by decide +kernel
theorem dnf2_4 : decode jdk_52_method_2_code 4 = .ok (.newarray .byte, 2) := by decide +kernel
theorem dnf2_6 : decode jdk_52_method_2_code 6 = .ok (.areturn, 1) := by decide +kernel
theorem pnnf2 : plainName "java/lang/StringUTF16" = true := by first | (simp [plainName, overriddenIn]; done) | decide +kernel
theorem pdnf2_0 : parseMethodDescriptor "(I)I" = some ⟨[.int], some .int⟩ := by decide +kernel
theorem efnf2 (m : MethodId)  : entryFrame m #[(.int (2 : Int32))] 1 = mkF m 0 #[.val (.int (2 : Int32))] [] := by first | (simp [entryFrame, mkF, argsToLocals, Value.category]; done) | rfl
def Qnf2 (Z : State)  (h0 : Heap) (n0 : Nat) (v : Option Value) (h : Heap) (L : List Loc) : Prop := ∃ (r : Addr) (kk : ClassId), v = some (.ref r) ∧ Fr n0 L ∧ Keep h0 h [] ∧ h0.size ≤ r ∧ Arv Z h r kk .byte (4 : Int32) [(.int (0 : Int32)), (.int (0 : Int32)), (.int (0 : Int32)), (.int (0 : Int32))] (.int (0 : Int32))
set_option maxRecDepth 65536 in
set_option maxHeartbeats 40000000 in
theorem rmnf2 (l : Launch) (Z : State) (a0 : Array Value) (hw : ∀ d ∈ tables_1, d.before a0 Z = true) (ws : List Jvm.Cond)  (h0 : Heap) (n0 : Nat) (Z0 : n0 ≤ h0.size) :
    MetFree l (⟨"java/lang/StringUTF16", "newBytesFor", "(I)[B"⟩ : MethodName) (head1 (Jvm.Cond.code (⟨"java/lang/StringUTF16", "newBytesFor", "(I)[B"⟩ : MethodName) jdk_52_method_2_code 1 (some (.array .byte)) :: ws) ({ frames := 1, cells := 1, slots := 4, locals := 12 } : Room)) (fun a U => a = #[(.int (2 : Int32))] ∧ Z.Warmed39 U.vm ∧ U.heap = h0) (fun _ _ _ _ _ => True) (fun _ U o U' => ∃ v L, o = .returned v ∧ Qnf2 Z  h0 n0 v U'.heap L ∧ FrameEnd U o U' L ({ frames := 1, cells := 1, slots := 4, locals := 12 } : Room).cells ({ frames := 1, cells := 1, slots := 4, locals := 12 } : Room).slots) := by
  refine MetFree.of_bodySF (plainFor_of_name pnnf2) hisR ?_
  intro p e s m args below meth c s₁ Bd hml0 hP hK
  obtain ⟨rfl, hZ, hh⟩ := hP
  have hx := Bd.exec
  have hby := Bd.bytes
  have hml : c.maxLocals = 1 := hml0
  have hown : s.vm.findClass "java/lang/StringUTF16" = some m.cls := findClass_of_methodNamed Bd.named
  have hnm := (name_of_methodNamed Bd.named Bd.method).1
  have X0 : Stand p l e ({ frames := 1, cells := 1, slots := 4, locals := 12 } : Room) s m #[(.int (2 : Int32))] below meth c s₁ [] 0 0 := Stand.of_body Bd
  have e0 : s₁.heap = h0 := by rw [← hh, Bd.state]; rfl
  have N0 := Fr.nil n0
  have pre0 : ∀ t, Steps p.tables e below (s₁.setTop (mkF m 0 #[.val (.int (2 : Int32))] [])) t → Steps p.tables e below (s₁.setTop (entryFrame m #[(.int (2 : Int32))] 1)) t := fun t k => castTop (efnf2 m ) k
  obtain ⟨S0, hS0⟩ : ∃ z, z = (s₁.setTop (entryFrame m #[(.int (2 : Int32))] 1)) := ⟨_, rfl⟩
  rw [← hS0] at pre0
  have K0 := Keep.refl h0 []
  have p1 : ∀ t, own_W p e below m s₁ 1 #[.val (.int (2 : Int32))] [(.int (2 : Int32))] t → Steps p.tables e below S0 t := fun t k => pre0 t (by
    show own_W p e below m s₁ 0 #[.val (.int (2 : Int32))] [] _
    refine XS.iloadN X0.here hx rfl (hb hby dnf2_0) rfl ?_
    exact k)
  obtain ⟨_, _, ⟨T2, L2, k2, n2⟩, -, X2, ⟨Lc2, hQ2, l2, y2, z2⟩, st2⟩ := Jvm.LawKit.callS X0 hx (y := (⟨"java/lang/StringUTF16", "newBytesLength", "(I)I"⟩ : MethodName)) hown (mvT hZ (hw _ (List.mem_of_getElem? (i := 129) rfl))) (mvT hZ (hw _ (List.mem_of_getElem? (i := 130) rfl))) (mvT hZ (hw _ (List.mem_of_getElem? (i := 93) rfl))) (mvT hZ (hw _ (List.mem_of_getElem? (i := 131) rfl))) (by decide) (backOf (W := 0) (rmnl2 l Z a0 hw []   h0 n0 Z0 ) hZ (hw _ (List.mem_of_getElem? (i := 131) rfl)) (hw _ (List.mem_of_getElem? (i := 93) rfl)) (by decide) (by decide)) (g := (mkF m 1 #[.val (.int (2 : Int32))] [(.int (2 : Int32))])) rfl (by rw [hml]; rfl) (argsL := [(.int (2 : Int32))]) (rest := []) (lenOf pdnf2_0 rfl) rfl (by show 2 * 0 + _ ≤ _; exact Nat.le_of_eq rfl) (hb hby dnf2_1) (fun _ _ => ⟨rfl, e0, (by decide : 0 + 0 ≤ _), (by decide : 0 + 0 ≤ _)⟩)
  dsimp only [Pt.U, Pt.locs, Pt.cells, Pt.slots] at X2 l2 y2 z2 st2 hQ2
  subst l2 y2 z2
  obtain ⟨rfl, Nq2, e2⟩ := hQ2
  have N2 := Fr.app N0 Nq2
  have p3 : ∀ t, own_W p e below m T2 4 #[.val (.int (2 : Int32))] [(.int (4 : Int32))] t → Steps p.tables e below S0 t := fun t k => p1 t (st2 _ k)
  obtain ⟨T4, h4, k4, X4, e4, E4, A4, st4⟩ := newP X2 hx hZ (hw _ (List.mem_of_getElem? (i := 19) rfl)) e2 (g := (mkF m 4 #[.val (.int (2 : Int32))] [(.int (4 : Int32))])) rfl (hb hby dnf2_4) rfl (by decide) (cap := 4) (by decide) (by decide) (by decide) (by decide)
  obtain ⟨b4, g4⟩ : ∃ z, z = h0.size := ⟨_, rfl⟩
  rw [← g4] at A4 st4
  have gn_b4 : n0 ≤ b4 := Nat.le_trans Z0 (Nat.le_of_eq g4.symm)
  have gk_b4 : h0.size ≤ b4 := Nat.le_trans K0.1 (Nat.le_of_eq g4.symm)
  have Z4 := Nat.le_trans Z0 E4.1
  have KK4 := K0.ext E4
  have VV4 : Arv Z h4 b4 k4 .byte (4 : Int32) [(.int (0 : Int32)), (.int (0 : Int32)), (.int (0 : Int32)), (.int (0 : Int32))] (.int (0 : Int32)) := (Arv.new A4 (by decide)).pad (pad_rep [] (.int (0 : Int32)) 4)
  have p5 : ∀ t, own_W p e below m T4 6 #[.val (.int (2 : Int32))] [(.ref b4)] t → Steps p.tables e below S0 t := fun t k => p3 t (st4 t k)
  subst hS0
  obtain ⟨fs, hr, hrun, hended, hW, hsame⟩ := X4.leave (v := some (.ref b4)) (fun h => by rw [Bd.returns] at h; cases h)
  refine ⟨_, _, p5 _ ?_, hrun, hended, _, _, rfl, ?_, ⟨_, rfl⟩, hW, hsame.mono (by decide) (by decide)⟩
  · show own_W p e below m T4 6 #[.val (.int (2 : Int32))] [(.ref b4)] _
    exact retOut X4 hx Bd.returns rfl (Or.inr (Or.inr (Or.inr (Or.inr ⟨rfl, rfl, rfl⟩)))) (hb hby dnf2_6) hr
  · show Qnf2 Z  h0 n0 _ T4.heap _
    rw [e4]
    exact ⟨_, _, rfl, N2, KK4, gk_b4, VV4⟩
theorem dtb2_0 : decode jdk_52_method_14_code 0 = .ok (.iload_n 2, 1) := by decide +kernel
theorem dtb2_1 : decode jdk_52_method_14_code 1 = .ok (.invokestatic 107, 3) := by decide +kernel
theorem dtb2_4 : decode jdk_52_method_14_code 4 = .ok (.astore_n 3, 1) := by decide +kernel
theorem dtb2_5 : decode jdk_52_method_14_code 5 = .ok (.iconst 0, 1) := by decide +kernel
theorem dtb2_6 : decode jdk_52_method_14_code 6 = .ok (.istore 4, 2) := by decide +kernel
theorem dtb2_8 : decode jdk_52_method_14_code 8 = .ok (.iload 4, 2) := by decide +kernel
theorem dtb2_10 : decode jdk_52_method_14_code 10 = .ok (.iload_n 2, 1) := by decide +kernel
theorem dtb2_11 : decode jdk_52_method_14_code 11 = .ok (.if_icmp .ge 21, 3) := by decide +kernel
theorem dtb2_14 : decode jdk_52_method_14_code 14 = .ok (.aload_n 3, 1) := by decide +kernel
theorem dtb2_15 : decode jdk_52_method_14_code 15 = .ok (.iload 4, 2) := by decide +kernel
theorem dtb2_17 : decode jdk_52_method_14_code 17 = .ok (.aload_n 0, 1) := by decide +kernel
theorem dtb2_18 : decode jdk_52_method_14_code 18 = .ok (.iload_n 1, 1) := by decide +kernel
theorem dtb2_19 : decode jdk_52_method_14_code 19 = .ok (.caload, 1) := by decide +kernel
theorem dtb2_20 : decode jdk_52_method_14_code 20 = .ok (.invokestatic 111, 3) := by decide +kernel
theorem dtb2_23 : decode jdk_52_method_14_code 23 = .ok (.iinc 1 1, 3) := by decide +kernel
theorem dtb2_26 : decode jdk_52_method_14_code 26 = .ok (.iinc 4 1, 3) := by decide +kernel
theorem dtb2_29 : decode jdk_52_method_14_code 29 = .ok (.goto (-21), 3) := by decide +kernel
theorem dtb2_32 : decode jdk_52_method_14_code 32 = .ok (.aload_n 3, 1) := by decide +kernel
theorem dtb2_33 : decode jdk_52_method_14_code 33 = .ok (.areturn, 1) := by decide +kernel
theorem pntb2 : plainName "java/lang/StringUTF16" = true := by first | (simp [plainName, overriddenIn]; done) | decide +kernel
theorem pdtb2_0 : parseMethodDescriptor "(I)[B" = some ⟨[.int], some (.array .byte)⟩ := by decide +kernel
theorem pdtb2_1 : parseMethodDescriptor "([BII)V" = some ⟨[(.array .byte), .int, .int], none⟩ := by decide +kernel
theorem eftb2 (m : MethodId) (x0 : Addr) : entryFrame m #[(.ref x0), (.int (0 : Int32)), (.int (2 : Int32))] 5 = mkF m 0 #[.val (.ref x0), .val (.int (0 : Int32)), .val (.int (2 : Int32)), .unset, .unset] [] := by first | (simp [entryFrame, mkF, argsToLocals, Value.category]; done) | rfl
def Qtb2 (Z : State) (x0 : Addr) (kc : ClassId) (c0 : Int32) (c1 : Int32) (cs : Int32) (G : Value) (h0 : Heap) (n0 : Nat) (v : Option Value) (h : Heap) (L : List Loc) : Prop := ∃ (r : Addr) (kk : ClassId), v = some (.ref r) ∧ Fr n0 L ∧ Keep h0 h [] ∧ h0.size ≤ r ∧ Arv Z h r kk .byte (4 : Int32) [(.int (own_hb c0)), (.int (own_lb c0)), (.int (own_hb c1)), (.int (own_lb c1))] (.int (0 : Int32))
set_option maxRecDepth 65536 in
set_option maxHeartbeats 40000000 in
theorem rmtb2 (l : Launch) (Z : State) (a0 : Array Value) (hw : ∀ d ∈ tables_1, d.before a0 Z = true) (ws : List Jvm.Cond) (x0 : Addr) (kc : ClassId) (c0 : Int32) (c1 : Int32) (cs : Int32) (G : Value) (h0 : Heap) (n0 : Nat) (Z0 : n0 ≤ h0.size) (V0 : Arv Z h0 x0 kc .char (2 : Int32) [(.int c0), (.int c1)] (.int (0 : Int32))) (O0 : Old Z n0 h0) (st : own_ST Z cs G) :
    MetFree l (⟨"java/lang/StringUTF16", "toBytes", "([CII)[B"⟩ : MethodName) (head1 (Jvm.Cond.code (⟨"java/lang/StringUTF16", "toBytes", "([CII)[B"⟩ : MethodName) jdk_52_method_14_code 5 (some (.array .byte)) :: ws) ({ frames := 2, cells := 1, slots := 4, locals := 24 } : Room)) (fun a U => a = #[(.ref x0), (.int (0 : Int32)), (.int (2 : Int32))] ∧ Z.Warmed39 U.vm ∧ U.heap = h0) (fun _ _ _ _ _ => True) (fun _ U o U' => ∃ v L, o = .returned v ∧ Qtb2 Z x0 kc c0 c1 cs G h0 n0 v U'.heap L ∧ FrameEnd U o U' L ({ frames := 2, cells := 1, slots := 4, locals := 24 } : Room).cells ({ frames := 2, cells := 1, slots := 4, locals := 24 } : Room).slots) := by
  refine MetFree.of_bodySF (plainFor_of_name pntb2) hisR ?_
  intro p e s m args below meth c s₁ Bd hml0 hP hK
  obtain ⟨rfl, hZ, hh⟩ := hP
  have hx := Bd.exec
  have hby := Bd.bytes
  have hml : c.maxLocals = 5 := hml0
  have hown : s.vm.findClass "java/lang/StringUTF16" = some m.cls := findClass_of_methodNamed Bd.named
  have hnm := (name_of_methodNamed Bd.named Bd.method).1
  have X0 : Stand p l e ({ frames := 2, cells := 1, slots := 4, locals := 24 } : Room) s m #[(.ref x0), (.int (0 : Int32)), (.int (2 : Int32))] below meth c s₁ [] 0 0 := Stand.of_body Bd
  have e0 : s₁.heap = h0 := by rw [← hh, Bd.state]; rfl
  have N0 := Fr.nil n0
  have pre0 : ∀ t, Steps p.tables e below (s₁.setTop (mkF m 0 #[.val (.ref x0), .val (.int (0 : Int32)), .val (.int (2 : Int32)), .unset, .unset] [])) t → Steps p.tables e below (s₁.setTop (entryFrame m #[(.ref x0), (.int (0 : Int32)), (.int (2 : Int32))] 5)) t := fun t k => castTop (eftb2 m x0) k
  obtain ⟨S0, hS0⟩ : ∃ z, z = (s₁.setTop (entryFrame m #[(.ref x0), (.int (0 : Int32)), (.int (2 : Int32))] 5)) := ⟨_, rfl⟩
  rw [← hS0] at pre0
  obtain ⟨sc, hcs, sa, sh, sl, sg, hG⟩ := id st
  have K0 := Keep.refl h0 []
  have p1 : ∀ t, own_W p e below m s₁ 1 #[.val (.ref x0), .val (.int (0 : Int32)), .val (.int (2 : Int32)), .unset, .unset] [(.int (2 : Int32))] t → Steps p.tables e below S0 t := fun t k => pre0 t (by
    show own_W p e below m s₁ 0 #[.val (.ref x0), .val (.int (0 : Int32)), .val (.int (2 : Int32)), .unset, .unset] [] _
    refine XS.iloadN X0.here hx rfl (hb hby dtb2_0) rfl ?_
    exact k)
  obtain ⟨_, _, ⟨T2, L2, k2, n2⟩, -, X2, ⟨Lc2, hQ2, l2, y2, z2⟩, st2⟩ := Jvm.LawKit.callS X0 hx (y := (⟨"java/lang/StringUTF16", "newBytesFor", "(I)[B"⟩ : MethodName)) hown (mvT hZ (hw _ (List.mem_of_getElem? (i := 126) rfl))) (mvT hZ (hw _ (List.mem_of_getElem? (i := 127) rfl))) (mvT hZ (hw _ (List.mem_of_getElem? (i := 93) rfl))) (mvT hZ (hw _ (List.mem_of_getElem? (i := 128) rfl))) (by decide) (backOf (W := 0) (rmnf2 l Z a0 hw []   h0 n0 Z0 ) hZ (hw _ (List.mem_of_getElem? (i := 128) rfl)) (hw _ (List.mem_of_getElem? (i := 93) rfl)) (by decide) (by decide)) (g := (mkF m 1 #[.val (.ref x0), .val (.int (0 : Int32)), .val (.int (2 : Int32)), .unset, .unset] [(.int (2 : Int32))])) rfl (by rw [hml]; rfl) (argsL := [(.int (2 : Int32))]) (rest := []) (lenOf pdtb2_0 rfl) rfl (by show 2 * 0 + _ ≤ _; exact Nat.le_of_eq rfl) (hb hby dtb2_1) (fun _ _ => ⟨rfl, e0, (by decide : 0 + 1 ≤ _), (by decide : 0 + 4 ≤ _)⟩)
  dsimp only [Pt.U, Pt.locs, Pt.cells, Pt.slots] at X2 l2 y2 z2 st2 hQ2
  subst l2 y2 z2
  obtain ⟨r2, kk2, rfl, Nq2, K2, gr2, VR2⟩ := hQ2
  have N2 := Fr.app N0 Nq2
  have f3 := O0.keep K2 (all0)
  have f4 := V0.keep K2 nin0
  have Z2 := Nat.le_trans Z0 K2.1
  have KK2 := K0.trans K2 (all0)
  have p5 : ∀ t, own_W p e below m T2 4 #[.val (.ref x0), .val (.int (0 : Int32)), .val (.int (2 : Int32)), .unset, .unset] [(.ref r2)] t → Steps p.tables e below S0 t := fun t k => p1 t (st2 _ k)
  have Zb2 := Z0
  have Kb2 := K0
  have gn_r2 : n0 ≤ r2 := Nat.le_trans Zb2 gr2
  have gk_r2 : h0.size ≤ r2 := Nat.le_trans Kb2.1 gr2
  have ne_x0_r2 : x0 ≠ r2 := Nat.ne_of_lt (Nat.lt_of_lt_of_le V0.lt gr2)
  have p6 : ∀ t, own_W p e below m T2 8 #[.val (.ref x0), .val (.int (0 : Int32)), .val (.int (2 : Int32)), .val (.ref r2), .val (.int (0 : Int32))] [] t → Steps p.tables e below S0 t := fun t k => p5 t (by
    show own_W p e below m T2 4 #[.val (.ref x0), .val (.int (0 : Int32)), .val (.int (2 : Int32)), .unset, .unset] [(.ref r2)] _
    refine XS.astoreN X2.here hx rfl (hb hby dtb2_4) rfl rfl (l' := #[.val (.ref x0), .val (.int (0 : Int32)), .val (.int (2 : Int32)), .val (.ref r2), .unset]) rfl ?_
    show own_W p e below m T2 5 #[.val (.ref x0), .val (.int (0 : Int32)), .val (.int (2 : Int32)), .val (.ref r2), .unset] [] _
    refine XS.iconst X2.here hx rfl (hb hby dtb2_5) ?_
    show own_W p e below m T2 6 #[.val (.ref x0), .val (.int (0 : Int32)), .val (.int (2 : Int32)), .val (.ref r2), .unset] [(.int (0 : Int32))] _
    refine XS.istore X2.here hx rfl (hb hby dtb2_6) rfl (l' := #[.val (.ref x0), .val (.int (0 : Int32)), .val (.int (2 : Int32)), .val (.ref r2), .val (.int (0 : Int32))]) rfl ?_
    exact k)
  have p7 : ∀ t, own_W p e below m T2 19 #[.val (.ref x0), .val (.int (0 : Int32)), .val (.int (2 : Int32)), .val (.ref r2), .val (.int (0 : Int32))] [(.int (0 : Int32)), (.ref x0), (.int (0 : Int32)), (.ref r2)] t → Steps p.tables e below S0 t := fun t k => p6 t (by
    show own_W p e below m T2 8 #[.val (.ref x0), .val (.int (0 : Int32)), .val (.int (2 : Int32)), .val (.ref r2), .val (.int (0 : Int32))] [] _
    refine XS.iload X2.here hx rfl (hb hby dtb2_8) rfl ?_
    show own_W p e below m T2 10 #[.val (.ref x0), .val (.int (0 : Int32)), .val (.int (2 : Int32)), .val (.ref r2), .val (.int (0 : Int32))] [(.int (0 : Int32))] _
    refine XS.iloadN X2.here hx rfl (hb hby dtb2_10) rfl ?_
    show own_W p e below m T2 11 #[.val (.ref x0), .val (.int (0 : Int32)), .val (.int (2 : Int32)), .val (.ref r2), .val (.int (0 : Int32))] [(.int (2 : Int32)), (.int (0 : Int32))] _
    refine XS.icmpNo X2.here hx rfl (hb hby dtb2_11) rfl ((tlt (by decide)).2.1) ?_
    show own_W p e below m T2 14 #[.val (.ref x0), .val (.int (0 : Int32)), .val (.int (2 : Int32)), .val (.ref r2), .val (.int (0 : Int32))] [] _
    refine XS.aloadN X2.here hx rfl (hb hby dtb2_14) rfl rfl ?_
    show own_W p e below m T2 15 #[.val (.ref x0), .val (.int (0 : Int32)), .val (.int (2 : Int32)), .val (.ref r2), .val (.int (0 : Int32))] [(.ref r2)] _
    refine XS.iload X2.here hx rfl (hb hby dtb2_15) rfl ?_
    show own_W p e below m T2 17 #[.val (.ref x0), .val (.int (0 : Int32)), .val (.int (2 : Int32)), .val (.ref r2), .val (.int (0 : Int32))] [(.int (0 : Int32)), (.ref r2)] _
    refine XS.aloadN X2.here hx rfl (hb hby dtb2_17) rfl rfl ?_
    show own_W p e below m T2 18 #[.val (.ref x0), .val (.int (0 : Int32)), .val (.int (2 : Int32)), .val (.ref r2), .val (.int (0 : Int32))] [(.ref x0), (.int (0 : Int32)), (.ref r2)] _
    refine XS.iloadN X2.here hx rfl (hb hby dtb2_18) rfl ?_
    exact k)
  obtain ⟨cl8, Ar8, q8, Sz8, Ng8, Hs8, G8⟩ := id f4
  have hin8 : ¬ ((0 : Int32) < 0 ∨ cl8.slots.size ≤ ((0 : Int32)).toNatClampNeg) := inb_of Sz8 ⟨by decide, by decide⟩
  have hat8 : cl8.slots[((0 : Int32)).toNatClampNeg]? = some (.int c0) := Hs8.at hin8 (rfl)
  have p9 : ∀ t, own_W p e below m T2 20 #[.val (.ref x0), .val (.int (0 : Int32)), .val (.int (2 : Int32)), .val (.ref r2), .val (.int (0 : Int32))] [(.int c0), (.int (0 : Int32)), (.ref r2)] t → Steps p.tables e below S0 t := fun t k => p7 t (by
    show own_W p e below m T2 19 #[.val (.ref x0), .val (.int (0 : Int32)), .val (.int (2 : Int32)), .val (.ref r2), .val (.int (0 : Int32))] [(.int (0 : Int32)), (.ref x0), (.int (0 : Int32)), (.ref r2)] _
    refine X2.caload hx (j := (0 : Int32)) (v := (.int c0)) Ar8.1 (State.isArrayOf_alike hZ.alike Ar8.2.1) Ar8.2.2 hin8 hat8 (g := (mkF m 19 #[.val (.ref x0), .val (.int (0 : Int32)), .val (.int (2 : Int32)), .val (.ref r2), .val (.int (0 : Int32))] [(.int (0 : Int32)), (.ref x0), (.int (0 : Int32)), (.ref r2)])) rfl rfl (hb hby dtb2_19) _ ?_
    exact k)
  obtain ⟨_, _, ⟨T10, L10, k10, n10⟩, -, X10, ⟨Lc10, hQ10, l10, y10, z10⟩, st10⟩ := Jvm.LawKit.callS X2 hx (y := (⟨"java/lang/StringUTF16", "putChar", "([BII)V"⟩ : MethodName)) hown (mvT hZ (hw _ (List.mem_of_getElem? (i := 104) rfl))) (mvT hZ (hw _ (List.mem_of_getElem? (i := 105) rfl))) (mvT hZ (hw _ (List.mem_of_getElem? (i := 93) rfl))) (mvT hZ (hw _ (List.mem_of_getElem? (i := 106) rfl))) (by decide) (backOf (W := 0) (rmpc l Z a0 hw [] r2 (0 : Int32) c0 kk2 (4 : Int32) [(.int (0 : Int32)), (.int (0 : Int32)), (.int (0 : Int32)), (.int (0 : Int32))] 0 cs G T2.heap n0 Z2 VR2 gn_r2 ⟨by decide, by decide⟩ ⟨by decide, by decide⟩ (by decide) (by decide) (Nat.le_of_ble_eq_true rfl) f3 st) hZ (hw _ (List.mem_of_getElem? (i := 106) rfl)) (hw _ (List.mem_of_getElem? (i := 93) rfl)) (by decide) (by decide)) (g := (mkF m 20 #[.val (.ref x0), .val (.int (0 : Int32)), .val (.int (2 : Int32)), .val (.ref r2), .val (.int (0 : Int32))] [(.int c0), (.int (0 : Int32)), (.ref r2)])) rfl (by rw [hml]; rfl) (argsL := [(.ref r2), (.int (0 : Int32)), (.int c0)]) (rest := []) (lenOf pdtb2_1 rfl) rfl (by show 2 * 0 + _ ≤ _; exact Nat.le_of_eq rfl) (hb hby dtb2_20) (fun _ _ => ⟨rfl, rfl, (by decide : 1 + 0 ≤ _), (by decide : 4 + 0 ≤ _)⟩)
  dsimp only [Pt.U, Pt.locs, Pt.cells, Pt.slots] at X10 l10 y10 z10 st10 hQ10
  subst l10 y10 z10
  obtain ⟨rfl, Nq10, K10, VP10⟩ := hQ10
  have N10 := Fr.app N2 Nq10
  have f11 := f3.keep K10 (allS gn_r2 (all0))
  have f12 := f4.keep K10 (ninS ne_x0_r2 nin0)
  have Z10 := Nat.le_trans Z2 K10.1
  have KK10 := KK2.trans K10 (allS (Or.inr gk_r2) all0)
  have p13 : ∀ t, own_W p e below m T10 23 #[.val (.ref x0), .val (.int (0 : Int32)), .val (.int (2 : Int32)), .val (.ref r2), .val (.int (0 : Int32))] [] t → Steps p.tables e below S0 t := fun t k => p9 t (st10 _ k)
  have VU10 : Arv Z T10.heap r2 kk2 .byte (4 : Int32) [(.int (own_hb c0)), (.int (own_lb c0)), (.int (0 : Int32)), (.int (0 : Int32))] (.int (0 : Int32)) := VP10
  have p14 : ∀ t, own_W p e below m T10 8 #[.val (.ref x0), .val (.int ((0 : Int32) + (1 : Int32))), .val (.int (2 : Int32)), .val (.ref r2), .val (.int ((0 : Int32) + (1 : Int32)))] [] t → Steps p.tables e below S0 t := fun t k => p13 t (by
    show own_W p e below m T10 23 #[.val (.ref x0), .val (.int (0 : Int32)), .val (.int (2 : Int32)), .val (.ref r2), .val (.int (0 : Int32))] [] _
    refine XS.iinc X10.here hx rfl (hb hby dtb2_23) rfl (l' := #[.val (.ref x0), .val (.int ((0 : Int32) + (1 : Int32))), .val (.int (2 : Int32)), .val (.ref r2), .val (.int (0 : Int32))]) rfl ?_
    show own_W p e below m T10 26 #[.val (.ref x0), .val (.int ((0 : Int32) + (1 : Int32))), .val (.int (2 : Int32)), .val (.ref r2), .val (.int (0 : Int32))] [] _
    refine XS.iinc X10.here hx rfl (hb hby dtb2_26) rfl (l' := #[.val (.ref x0), .val (.int ((0 : Int32) + (1 : Int32))), .val (.int (2 : Int32)), .val (.ref r2), .val (.int ((0 : Int32) + (1 : Int32)))]) rfl ?_
    show own_W p e below m T10 29 #[.val (.ref x0), .val (.int ((0 : Int32) + (1 : Int32))), .val (.int (2 : Int32)), .val (.ref r2), .val (.int ((0 : Int32) + (1 : Int32)))] [] _
    refine XS.goto X10.here hx rfl (pc0 := 29) (pc' := 8) rfl (hb hby dtb2_29) (by decide) (by decide) ?_
    exact k)
  have p15 : ∀ t, own_W p e below m T10 8 #[.val (.ref x0), .val (.int (1 : Int32)), .val (.int (2 : Int32)), .val (.ref r2), .val (.int (1 : Int32))] [] t → Steps p.tables e below S0 t := by
    have k := p14
    rw [show ((0 : Int32) + (1 : Int32)) = (1 : Int32) from by decide] at k
    exact k
  have p16 : ∀ t, own_W p e below m T10 19 #[.val (.ref x0), .val (.int (1 : Int32)), .val (.int (2 : Int32)), .val (.ref r2), .val (.int (1 : Int32))] [(.int (1 : Int32)), (.ref x0), (.int (1 : Int32)), (.ref r2)] t → Steps p.tables e below S0 t := fun t k => p15 t (by
    show own_W p e below m T10 8 #[.val (.ref x0), .val (.int (1 : Int32)), .val (.int (2 : Int32)), .val (.ref r2), .val (.int (1 : Int32))] [] _
    refine XS.iload X10.here hx rfl (hb hby dtb2_8) rfl ?_
    show own_W p e below m T10 10 #[.val (.ref x0), .val (.int (1 : Int32)), .val (.int (2 : Int32)), .val (.ref r2), .val (.int (1 : Int32))] [(.int (1 : Int32))] _
    refine XS.iloadN X10.here hx rfl (hb hby dtb2_10) rfl ?_
    show own_W p e below m T10 11 #[.val (.ref x0), .val (.int (1 : Int32)), .val (.int (2 : Int32)), .val (.ref r2), .val (.int (1 : Int32))] [(.int (2 : Int32)), (.int (1 : Int32))] _
    refine XS.icmpNo X10.here hx rfl (hb hby dtb2_11) rfl ((tlt (by decide)).2.1) ?_
    show own_W p e below m T10 14 #[.val (.ref x0), .val (.int (1 : Int32)), .val (.int (2 : Int32)), .val (.ref r2), .val (.int (1 : Int32))] [] _
    refine XS.aloadN X10.here hx rfl (hb hby dtb2_14) rfl rfl ?_
    show own_W p e below m T10 15 #[.val (.ref x0), .val (.int (1 : Int32)), .val (.int (2 : Int32)), .val (.ref r2), .val (.int (1 : Int32))] [(.ref r2)] _
    refine XS.iload X10.here hx rfl (hb hby dtb2_15) rfl ?_
    show own_W p e below m T10 17 #[.val (.ref x0), .val (.int (1 : Int32)), .val (.int (2 : Int32)), .val (.ref r2), .val (.int (1 : Int32))] [(.int (1 : Int32)), (.ref r2)] _
    refine XS.aloadN X10.here hx rfl (hb hby dtb2_17) rfl rfl ?_
    show own_W p e below m T10 18 #[.val (.ref x0), .val (.int (1 : Int32)), .val (.int (2 : Int32)), .val (.ref r2), .val (.int (1 : Int32))] [(.ref x0), (.int (1 : Int32)), (.ref r2)] _
    refine XS.iloadN X10.here hx rfl (hb hby dtb2_18) rfl ?_
    exact k)
  obtain ⟨cl17, Ar17, q17, Sz17, Ng17, Hs17, G17⟩ := id f12
  have hin17 : ¬ ((1 : Int32) < 0 ∨ cl17.slots.size ≤ ((1 : Int32)).toNatClampNeg) := inb_of Sz17 ⟨by decide, by decide⟩
  have hat17 : cl17.slots[((1 : Int32)).toNatClampNeg]? = some (.int c1) := Hs17.at hin17 (rfl)
  have p18 : ∀ t, own_W p e below m T10 20 #[.val (.ref x0), .val (.int (1 : Int32)), .val (.int (2 : Int32)), .val (.ref r2), .val (.int (1 : Int32))] [(.int c1), (.int (1 : Int32)), (.ref r2)] t → Steps p.tables e below S0 t := fun t k => p16 t (by
    show own_W p e below m T10 19 #[.val (.ref x0), .val (.int (1 : Int32)), .val (.int (2 : Int32)), .val (.ref r2), .val (.int (1 : Int32))] [(.int (1 : Int32)), (.ref x0), (.int (1 : Int32)), (.ref r2)] _
    refine X10.caload hx (j := (1 : Int32)) (v := (.int c1)) Ar17.1 (State.isArrayOf_alike hZ.alike Ar17.2.1) Ar17.2.2 hin17 hat17 (g := (mkF m 19 #[.val (.ref x0), .val (.int (1 : Int32)), .val (.int (2 : Int32)), .val (.ref r2), .val (.int (1 : Int32))] [(.int (1 : Int32)), (.ref x0), (.int (1 : Int32)), (.ref r2)])) rfl rfl (hb hby dtb2_19) _ ?_
    exact k)
  obtain ⟨_, _, ⟨T19, L19, k19, n19⟩, -, X19, ⟨Lc19, hQ19, l19, y19, z19⟩, st19⟩ := Jvm.LawKit.callS X10 hx (y := (⟨"java/lang/StringUTF16", "putChar", "([BII)V"⟩ : MethodName)) hown (mvT hZ (hw _ (List.mem_of_getElem? (i := 104) rfl))) (mvT hZ (hw _ (List.mem_of_getElem? (i := 105) rfl))) (mvT hZ (hw _ (List.mem_of_getElem? (i := 93) rfl))) (mvT hZ (hw _ (List.mem_of_getElem? (i := 106) rfl))) (by decide) (backOf (W := 0) (rmpc l Z a0 hw [] r2 (1 : Int32) c1 kk2 (4 : Int32) [(.int (own_hb c0)), (.int (own_lb c0)), (.int (0 : Int32)), (.int (0 : Int32))] 2 cs G T10.heap n0 Z10 VU10 gn_r2 ⟨by decide, by decide⟩ ⟨by decide, by decide⟩ (by decide) (by decide) (Nat.le_of_ble_eq_true rfl) f11 st) hZ (hw _ (List.mem_of_getElem? (i := 106) rfl)) (hw _ (List.mem_of_getElem? (i := 93) rfl)) (by decide) (by decide)) (g := (mkF m 20 #[.val (.ref x0), .val (.int (1 : Int32)), .val (.int (2 : Int32)), .val (.ref r2), .val (.int (1 : Int32))] [(.int c1), (.int (1 : Int32)), (.ref r2)])) rfl (by rw [hml]; rfl) (argsL := [(.ref r2), (.int (1 : Int32)), (.int c1)]) (rest := []) (lenOf pdtb2_1 rfl) rfl (by show 2 * 0 + _ ≤ _; exact Nat.le_of_eq rfl) (hb hby dtb2_20) (fun _ _ => ⟨rfl, rfl, (by decide : 1 + 0 ≤ _), (by decide : 4 + 0 ≤ _)⟩)
  dsimp only [Pt.U, Pt.locs, Pt.cells, Pt.slots] at X19 l19 y19 z19 st19 hQ19
  subst l19 y19 z19
  obtain ⟨rfl, Nq19, K19, VP19⟩ := hQ19
  have N19 := Fr.app N10 Nq19
  have f20 := f11.keep K19 (allS gn_r2 (all0))
  have f21 := f12.keep K19 (ninS ne_x0_r2 nin0)
  have Z19 := Nat.le_trans Z10 K19.1
  have KK19 := KK10.trans K19 (allS (Or.inr gk_r2) all0)
  have p22 : ∀ t, own_W p e below m T19 23 #[.val (.ref x0), .val (.int (1 : Int32)), .val (.int (2 : Int32)), .val (.ref r2), .val (.int (1 : Int32))] [] t → Steps p.tables e below S0 t := fun t k => p18 t (st19 _ k)
  have VU19 : Arv Z T19.heap r2 kk2 .byte (4 : Int32) [(.int (own_hb c0)), (.int (own_lb c0)), (.int (own_hb c1)), (.int (own_lb c1))] (.int (0 : Int32)) := VP19
  have p23 : ∀ t, own_W p e below m T19 8 #[.val (.ref x0), .val (.int ((1 : Int32) + (1 : Int32))), .val (.int (2 : Int32)), .val (.ref r2), .val (.int ((1 : Int32) + (1 : Int32)))] [] t → Steps p.tables e below S0 t := fun t k => p22 t (by
    show own_W p e below m T19 23 #[.val (.ref x0), .val (.int (1 : Int32)), .val (.int (2 : Int32)), .val (.ref r2), .val (.int (1 : Int32))] [] _
    refine XS.iinc X19.here hx rfl (hb hby dtb2_23) rfl (l' := #[.val (.ref x0), .val (.int ((1 : Int32) + (1 : Int32))), .val (.int (2 : Int32)), .val (.ref r2), .val (.int (1 : Int32))]) rfl ?_
    show own_W p e below m T19 26 #[.val (.ref x0), .val (.int ((1 : Int32) + (1 : Int32))), .val (.int (2 : Int32)), .val (.ref r2), .val (.int (1 : Int32))] [] _
    refine XS.iinc X19.here hx rfl (hb hby dtb2_26) rfl (l' := #[.val (.ref x0), .val (.int ((1 : Int32) + (1 : Int32))), .val (.int (2 : Int32)), .val (.ref r2), .val (.int ((1 : Int32) + (1 : Int32)))]) rfl ?_
    show own_W p e below m T19 29 #[.val (.ref x0), .val (.int ((1 : Int32) + (1 : Int32))), .val (.int (2 : Int32)), .val (.ref r2), .val (.int ((1 : Int32) + (1 : Int32)))] [] _
    refine XS.goto X19.here hx rfl (pc0 := 29) (pc' := 8) rfl (hb hby dtb2_29) (by decide) (by decide) ?_
    exact k)
  have p24 : ∀ t, own_W p e below m T19 8 #[.val (.ref x0), .val (.int (2 : Int32)), .val (.int (2 : Int32)), .val (.ref r2), .val (.int (2 : Int32))] [] t → Steps p.tables e below S0 t := by
    have k := p23
    rw [show ((1 : Int32) + (1 : Int32)) = (2 : Int32) from by decide] at k
    exact k
  have p25 : ∀ t, own_W p e below m T19 33 #[.val (.ref x0), .val (.int (2 : Int32)), .val (.int (2 : Int32)), .val (.ref r2), .val (.int (2 : Int32))] [(.ref r2)] t → Steps p.tables e below S0 t := fun t k => p24 t (by
    show own_W p e below m T19 8 #[.val (.ref x0), .val (.int (2 : Int32)), .val (.int (2 : Int32)), .val (.ref r2), .val (.int (2 : Int32))] [] _
    refine XS.iload X19.here hx rfl (hb hby dtb2_8) rfl ?_
    show own_W p e below m T19 10 #[.val (.ref x0), .val (.int (2 : Int32)), .val (.int (2 : Int32)), .val (.ref r2), .val (.int (2 : Int32))] [(.int (2 : Int32))] _
    refine XS.iloadN X19.here hx rfl (hb hby dtb2_10) rfl ?_
    show own_W p e below m T19 11 #[.val (.ref x0), .val (.int (2 : Int32)), .val (.int (2 : Int32)), .val (.ref r2), .val (.int (2 : Int32))] [(.int (2 : Int32)), (.int (2 : Int32))] _
    refine XS.icmpYes X19.here hx rfl (pc0 := 11) (pc' := 32) rfl (hb hby dtb2_11) rfl ((flt (by decide)).2.1) (by decide) (by decide) ?_
    show own_W p e below m T19 32 #[.val (.ref x0), .val (.int (2 : Int32)), .val (.int (2 : Int32)), .val (.ref r2), .val (.int (2 : Int32))] [] _
    refine XS.aloadN X19.here hx rfl (hb hby dtb2_32) rfl rfl ?_
    exact k)
  subst hS0
  obtain ⟨fs, hr, hrun, hended, hW, hsame⟩ := X19.leave (v := some (.ref r2)) (fun h => by rw [Bd.returns] at h; cases h)
  refine ⟨_, _, p25 _ ?_, hrun, hended, _, _, rfl, ?_, ⟨_, rfl⟩, hW, hsame.mono (by decide) (by decide)⟩
  · show own_W p e below m T19 33 #[.val (.ref x0), .val (.int (2 : Int32)), .val (.int (2 : Int32)), .val (.ref r2), .val (.int (2 : Int32))] [(.ref r2)] _
    exact retOut X19 hx Bd.returns rfl (Or.inr (Or.inr (Or.inr (Or.inr ⟨rfl, rfl, rfl⟩)))) (hb hby dtb2_33) hr
  · show Qtb2 Z x0 kc c0 c1 cs G h0 n0 _ T19.heap _
    skip
    exact ⟨_, _, rfl, N19, KK19, gk_r2, VU19⟩
theorem dnl3_0 : decode jdk_52_method_3_code 0 = .ok (.iload_n 0, 1) := by decide +kernel
theorem dnl3_1 : decode jdk_52_method_3_code 1 = .ok (.ifCond .ge 11, 3) := by decide +kernel
theorem dnl3_12 : decode jdk_52_method_3_code 12 = .ok (.iload_n 0, 1) := by decide +kernel
theorem dnl3_13 : decode jdk_52_method_3_code 13 = .ok (.ldc 20, 2) := by decide +kernel
theorem dnl3_15 : decode jdk_52_method_3_code 15 = .ok (.if_icmp .lt 40, 3) := by decide +kernel
theorem dnl3_55 : decode jdk_52_method_3_code 55 = .ok (.iload_n 0, 1) := by decide +kernel
theorem dnl3_56 : decode jdk_52_method_3_code 56 = .ok (.iconst 1, 1) := by decide +kernel
theorem dnl3_57 : decode jdk_52_method_3_code 57 = .ok (.ishl, 1) := by decide +kernel
theorem dnl3_58 : decode jdk_52_method_3_code 58 = .ok (.ireturn, 1) := by decide +kernel
theorem pnnl3 : plainName "java/lang/StringUTF16" = true := by first | (simp [plainName, overriddenIn]; done) | decide +kernel
theorem efnl3 (m : MethodId)  : entryFrame m #[(.int (3 : Int32))] 1 = mkF m 0 #[.val (.int (3 : Int32))] [] := by first | (simp [entryFrame, mkF, argsToLocals, Value.category]; done) | rfl
def Qnl3 (Z : State)  (h0 : Heap) (n0 : Nat) (v : Option Value) (h : Heap) (L : List Loc) : Prop := v = some (.int (6 : Int32)) ∧ Fr n0 L ∧ h = h0
set_option maxRecDepth 65536 in
set_option maxHeartbeats 40000000 in
theorem rmnl3 (l : Launch) (Z : State) (a0 : Array Value) (hw : ∀ d ∈ tables_1, d.before a0 Z = true) (ws : List Jvm.Cond)  (h0 : Heap) (n0 : Nat) (Z0 : n0 ≤ h0.size) :
    MetFree l (⟨"java/lang/StringUTF16", "newBytesLength", "(I)I"⟩ : MethodName) (head1 (Jvm.Cond.code (⟨"java/lang/StringUTF16", "newBytesLength", "(I)I"⟩ : MethodName) jdk_52_method_3_code 1 (some .int) :: ws) ({ frames := 0, cells := 0, slots := 0, locals := 0 } : Room)) (fun a U => a = #[(.int (3 : Int32))] ∧ Z.Warmed39 U.vm ∧ U.heap = h0) (fun _ _ _ _ _ => True) (fun _ U o U' => ∃ v L, o = .returned v ∧ Qnl3 Z  h0 n0 v U'.heap L ∧ FrameEnd U o U' L ({ frames := 0, cells := 0, slots := 0, locals := 0 } : Room).cells ({ frames := 0, cells := 0, slots := 0, locals := 0 } : Room).slots) := by
  refine MetFree.of_bodySF (plainFor_of_name pnnl3) hisR ?_
  intro p e s m args below meth c s₁ Bd hml0 hP hK
  obtain ⟨rfl, hZ, hh⟩ := hP
  have hx := Bd.exec
  have hby := Bd.bytes
  have hml : c.maxLocals = 1 := hml0
  have hown : s.vm.findClass "java/lang/StringUTF16" = some m.cls := findClass_of_methodNamed Bd.named
  have hnm := (name_of_methodNamed Bd.named Bd.method).1
  have X0 : Stand p l e ({ frames := 0, cells := 0, slots := 0, locals := 0 } : Room) s m #[(.int (3 : Int32))] below meth c s₁ [] 0 0 := Stand.of_body Bd
  have e0 : s₁.heap = h0 := by rw [← hh, Bd.state]; rfl
  have N0 := Fr.nil n0
  have pre0 : ∀ t, Steps p.tables e below (s₁.setTop (mkF m 0 #[.val (.int (3 : Int32))] [])) t → Steps p.tables e below (s₁.setTop (entryFrame m #[(.int (3 : Int32))] 1)) t := fun t k => castTop (efnl3 m ) k
  obtain ⟨S0, hS0⟩ : ∃ z, z = (s₁.setTop (entryFrame m #[(.int (3 : Int32))] 1)) := ⟨_, rfl⟩
  rw [← hS0] at pre0
  have p1 : ∀ t, own_W p e below m s₁ 58 #[.val (.int (3 : Int32))] [(.int ((3 : Int32) <<< ((1 : Int32) &&& 31)))] t → Steps p.tables e below S0 t := fun t k => pre0 t (by
    show own_W p e below m s₁ 0 #[.val (.int (3 : Int32))] [] _
    refine XS.iloadN X0.here hx rfl (hb hby dnl3_0) rfl ?_
    show own_W p e below m s₁ 1 #[.val (.int (3 : Int32))] [(.int (3 : Int32))] _
    refine XS.ifYes X0.here hx rfl (pc0 := 1) (pc' := 12) rfl (hb hby dnl3_1) rfl ((if0 _ _).trans (flt (by decide)).2.1) (by decide) (by decide) ?_
    show own_W p e below m s₁ 12 #[.val (.int (3 : Int32))] [] _
    refine XS.iloadN X0.here hx rfl (hb hby dnl3_12) rfl ?_
    show own_W p e below m s₁ 13 #[.val (.int (3 : Int32))] [(.int (3 : Int32))] _
    refine X0.ldcInt hx hown (mvT hZ (hw _ (List.mem_of_getElem? (i := 132) rfl))) (g := (mkF m 13 #[.val (.int (3 : Int32))] [(.int (3 : Int32))])) rfl (hb hby dnl3_13) _ ?_
    show own_W p e below m s₁ 15 #[.val (.int (3 : Int32))] [(.int (1073741823 : Int32)), (.int (3 : Int32))] _
    refine XS.icmpYes X0.here hx rfl (pc0 := 15) (pc' := 55) rfl (hb hby dnl3_15) rfl ((tlt (by decide)).1) (by decide) (by decide) ?_
    show own_W p e below m s₁ 55 #[.val (.int (3 : Int32))] [] _
    refine XS.iloadN X0.here hx rfl (hb hby dnl3_55) rfl ?_
    show own_W p e below m s₁ 56 #[.val (.int (3 : Int32))] [(.int (3 : Int32))] _
    refine XS.iconst X0.here hx rfl (hb hby dnl3_56) ?_
    show own_W p e below m s₁ 57 #[.val (.int (3 : Int32))] [(.int (1 : Int32)), (.int (3 : Int32))] _
    refine XS.ishl X0.here hx rfl (hb hby dnl3_57) rfl ?_
    exact k)
  subst hS0
  obtain ⟨fs, hr, hrun, hended, hW, hsame⟩ := X0.leave (v := some (.int ((3 : Int32) <<< ((1 : Int32) &&& 31)))) (fun h => by rw [Bd.returns] at h; cases h)
  refine ⟨_, _, p1 _ ?_, hrun, hended, _, _, rfl, ?_, ⟨_, rfl⟩, hW, hsame.mono (by decide) (by decide)⟩
  · show own_W p e below m s₁ 58 #[.val (.int (3 : Int32))] [(.int ((3 : Int32) <<< ((1 : Int32) &&& 31)))] _
    exact retI X0 hx Bd.returns (hb hby dnl3_58) hr
  · show Qnl3 Z  h0 n0 _ s₁.heap _
    rw [e0]
    exact ⟨congrArg (fun z => some (Value.int z)) (by decide : ((3 : Int32) <<< ((1 : Int32) &&& 31)) = (6 : Int32)), N0, rfl⟩
theorem dnf3_0 : decode jdk_52_method_2_code 0 = .ok (.iload_n 0, 1) := by decide +kernel
theorem dnf3_1 : decode jdk_52_method_2_code 1 = .ok (.invokestatic 11, 3) := by decide +kernel
theorem dnf3_4 : decode jdk_52_method_2_code 4 = .ok (.newarray .byte, 2) := by decide +kernel
theorem dnf3_6 : decode jdk_52_method_2_code 6 = .ok (.areturn, 1) := by decide +kernel
theorem pnnf3 : plainName "java/lang/StringUTF16" = true := by first | (simp [plainName, overriddenIn]; done) | decide +kernel
theorem pdnf3_0 : parseMethodDescriptor "(I)I" = some ⟨[.int], some .int⟩ := by decide +kernel
theorem efnf3 (m : MethodId)  : entryFrame m #[(.int (3 : Int32))] 1 = mkF m 0 #[.val (.int (3 : Int32))] [] := by first | (simp [entryFrame, mkF, argsToLocals, Value.category]; done) | rfl
def Qnf3 (Z : State)  (h0 : Heap) (n0 : Nat) (v : Option Value) (h : Heap) (L : List Loc) : Prop := ∃ (r : Addr) (kk : ClassId), v = some (.ref r) ∧ Fr n0 L ∧ Keep h0 h [] ∧ h0.size ≤ r ∧ Arv Z h r kk .byte (6 : Int32) [(.int (0 : Int32)), (.int (0 : Int32)), (.int (0 : Int32)), (.int (0 : Int32)), (.int (0 : Int32)), (.int (0 : Int32))] (.int (0 : Int32))
set_option maxRecDepth 65536 in
set_option maxHeartbeats 40000000 in
theorem rmnf3 (l : Launch) (Z : State) (a0 : Array Value) (hw : ∀ d ∈ tables_1, d.before a0 Z = true) (ws : List Jvm.Cond)  (h0 : Heap) (n0 : Nat) (Z0 : n0 ≤ h0.size) :
    MetFree l (⟨"java/lang/StringUTF16", "newBytesFor", "(I)[B"⟩ : MethodName) (head1 (Jvm.Cond.code (⟨"java/lang/StringUTF16", "newBytesFor", "(I)[B"⟩ : MethodName) jdk_52_method_2_code 1 (some (.array .byte)) :: ws) ({ frames := 1, cells := 1, slots := 6, locals := 12 } : Room)) (fun a U => a = #[(.int (3 : Int32))] ∧ Z.Warmed39 U.vm ∧ U.heap = h0) (fun _ _ _ _ _ => True) (fun _ U o U' => ∃ v L, o = .returned v ∧ Qnf3 Z  h0 n0 v U'.heap L ∧ FrameEnd U o U' L ({ frames := 1, cells := 1, slots := 6, locals := 12 } : Room).cells ({ frames := 1, cells := 1, slots := 6, locals := 12 } : Room).slots) := by
  refine MetFree.of_bodySF (plainFor_of_name pnnf3) hisR ?_
  intro p e s m args below meth c s₁ Bd hml0 hP hK
  obtain ⟨rfl, hZ, hh⟩ := hP
  have hx := Bd.exec
  have hby := Bd.bytes
  have hml : c.maxLocals = 1 := hml0
  have hown : s.vm.findClass "java/lang/StringUTF16" = some m.cls := findClass_of_methodNamed Bd.named
  have hnm := (name_of_methodNamed Bd.named Bd.method).1
  have X0 : Stand p l e ({ frames := 1, cells := 1, slots := 6, locals := 12 } : Room) s m #[(.int (3 : Int32))] below meth c s₁ [] 0 0 := Stand.of_body Bd
  have e0 : s₁.heap = h0 := by rw [← hh, Bd.state]; rfl
  have N0 := Fr.nil n0
  have pre0 : ∀ t, Steps p.tables e below (s₁.setTop (mkF m 0 #[.val (.int (3 : Int32))] [])) t → Steps p.tables e below (s₁.setTop (entryFrame m #[(.int (3 : Int32))] 1)) t := fun t k => castTop (efnf3 m ) k
  obtain ⟨S0, hS0⟩ : ∃ z, z = (s₁.setTop (entryFrame m #[(.int (3 : Int32))] 1)) := ⟨_, rfl⟩
  rw [← hS0] at pre0
  have K0 := Keep.refl h0 []
  have p1 : ∀ t, own_W p e below m s₁ 1 #[.val (.int (3 : Int32))] [(.int (3 : Int32))] t → Steps p.tables e below S0 t := fun t k => pre0 t (by
    show own_W p e below m s₁ 0 #[.val (.int (3 : Int32))] [] _
    refine XS.iloadN X0.here hx rfl (hb hby dnf3_0) rfl ?_
    exact k)
  obtain ⟨_, _, ⟨T2, L2, k2, n2⟩, -, X2, ⟨Lc2, hQ2, l2, y2, z2⟩, st2⟩ := Jvm.LawKit.callS X0 hx (y := (⟨"java/lang/StringUTF16", "newBytesLength", "(I)I"⟩ : MethodName)) hown (mvT hZ (hw _ (List.mem_of_getElem? (i := 129) rfl))) (mvT hZ (hw _ (List.mem_of_getElem? (i := 130) rfl))) (mvT hZ (hw _ (List.mem_of_getElem? (i := 93) rfl))) (mvT hZ (hw _ (List.mem_of_getElem? (i := 131) rfl))) (by decide) (backOf (W := 0) (rmnl3 l Z a0 hw []   h0 n0 Z0 ) hZ (hw _ (List.mem_of_getElem? (i := 131) rfl)) (hw _ (List.mem_of_getElem? (i := 93) rfl)) (by decide) (by decide)) (g := (mkF m 1 #[.val (.int (3 : Int32))] [(.int (3 : Int32))])) rfl (by rw [hml]; rfl) (argsL := [(.int (3 : Int32))]) (rest := []) (lenOf pdnf3_0 rfl) rfl (by show 2 * 0 + _ ≤ _; exact Nat.le_of_eq rfl) (hb hby dnf3_1) (fun _ _ => ⟨rfl, e0, (by decide : 0 + 0 ≤ _), (by decide : 0 + 0 ≤ _)⟩)
  dsimp only [Pt.U, Pt.locs, Pt.cells, Pt.slots] at X2 l2 y2 z2 st2 hQ2
  subst l2 y2 z2
  obtain ⟨rfl, Nq2, e2⟩ := hQ2
  have N2 := Fr.app N0 Nq2
  have p3 : ∀ t, own_W p e below m T2 4 #[.val (.int (3 : Int32))] [(.int (6 : Int32))] t → Steps p.tables e below S0 t := fun t k => p1 t (st2 _ k)
  obtain ⟨T4, h4, k4, X4, e4, E4, A4, st4⟩ := newP X2 hx hZ (hw _ (List.mem_of_getElem? (i := 19) rfl)) e2 (g := (mkF m 4 #[.val (.int (3 : Int32))] [(.int (6 : Int32))])) rfl (hb hby dnf3_4) rfl (by decide) (cap := 6) (by decide) (by decide) (by decide) (by decide)
  obtain ⟨b4, g4⟩ : ∃ z, z = h0.size := ⟨_, rfl⟩
  rw [← g4] at A4 st4
  have gn_b4 : n0 ≤ b4 := Nat.le_trans Z0 (Nat.le_of_eq g4.symm)
  have gk_b4 : h0.size ≤ b4 := Nat.le_trans K0.1 (Nat.le_of_eq g4.symm)
  have Z4 := Nat.le_trans Z0 E4.1
  have KK4 := K0.ext E4
  have VV4 : Arv Z h4 b4 k4 .byte (6 : Int32) [(.int (0 : Int32)), (.int (0 : Int32)), (.int (0 : Int32)), (.int (0 : Int32)), (.int (0 : Int32)), (.int (0 : Int32))] (.int (0 : Int32)) := (Arv.new A4 (by decide)).pad (pad_rep [] (.int (0 : Int32)) 6)
  have p5 : ∀ t, own_W p e below m T4 6 #[.val (.int (3 : Int32))] [(.ref b4)] t → Steps p.tables e below S0 t := fun t k => p3 t (st4 t k)
  subst hS0
  obtain ⟨fs, hr, hrun, hended, hW, hsame⟩ := X4.leave (v := some (.ref b4)) (fun h => by rw [Bd.returns] at h; cases h)
  refine ⟨_, _, p5 _ ?_, hrun, hended, _, _, rfl, ?_, ⟨_, rfl⟩, hW, hsame.mono (by decide) (by decide)⟩
  · show own_W p e below m T4 6 #[.val (.int (3 : Int32))] [(.ref b4)] _
    exact retOut X4 hx Bd.returns rfl (Or.inr (Or.inr (Or.inr (Or.inr ⟨rfl, rfl, rfl⟩)))) (hb hby dnf3_6) hr
  · show Qnf3 Z  h0 n0 _ T4.heap _
    rw [e4]
    exact ⟨_, _, rfl, N2, KK4, gk_b4, VV4⟩
theorem dtb3_0 : decode jdk_52_method_14_code 0 = .ok (.iload_n 2, 1) := by decide +kernel
theorem dtb3_1 : decode jdk_52_method_14_code 1 = .ok (.invokestatic 107, 3) := by decide +kernel
theorem dtb3_4 : decode jdk_52_method_14_code 4 = .ok (.astore_n 3, 1) := by decide +kernel
theorem dtb3_5 : decode jdk_52_method_14_code 5 = .ok (.iconst 0, 1) := by decide +kernel
theorem dtb3_6 : decode jdk_52_method_14_code 6 = .ok (.istore 4, 2) := by decide +kernel
theorem dtb3_8 : decode jdk_52_method_14_code 8 = .ok (.iload 4, 2) := by decide +kernel
theorem dtb3_10 : decode jdk_52_method_14_code 10 = .ok (.iload_n 2, 1) := by decide +kernel
theorem dtb3_11 : decode jdk_52_method_14_code 11 = .ok (.if_icmp .ge 21, 3) := by decide +kernel
theorem dtb3_14 : decode jdk_52_method_14_code 14 = .ok (.aload_n 3, 1) := by decide +kernel
theorem dtb3_15 : decode jdk_52_method_14_code 15 = .ok (.iload 4, 2) := by decide +kernel
theorem dtb3_17 : decode jdk_52_method_14_code 17 = .ok (.aload_n 0, 1) := by decide +kernel
theorem dtb3_18 : decode jdk_52_method_14_code 18 = .ok (.iload_n 1, 1) := by decide +kernel
theorem dtb3_19 : decode jdk_52_method_14_code 19 = .ok (.caload, 1) := by decide +kernel
theorem dtb3_20 : decode jdk_52_method_14_code 20 = .ok (.invokestatic 111, 3) := by decide +kernel
theorem dtb3_23 : decode jdk_52_method_14_code 23 = .ok (.iinc 1 1, 3) := by decide +kernel
theorem dtb3_26 : decode jdk_52_method_14_code 26 = .ok (.iinc 4 1, 3) := by decide +kernel
theorem dtb3_29 : decode jdk_52_method_14_code 29 = .ok (.goto (-21), 3) := by decide +kernel
theorem dtb3_32 : decode jdk_52_method_14_code 32 = .ok (.aload_n 3, 1) := by decide +kernel
theorem dtb3_33 : decode jdk_52_method_14_code 33 = .ok (.areturn, 1) := by decide +kernel
theorem pntb3 : plainName "java/lang/StringUTF16" = true := by first | (simp [plainName, overriddenIn]; done) | decide +kernel
theorem pdtb3_0 : parseMethodDescriptor "(I)[B" = some ⟨[.int], some (.array .byte)⟩ := by decide +kernel
theorem pdtb3_1 : parseMethodDescriptor "([BII)V" = some ⟨[(.array .byte), .int, .int], none⟩ := by decide +kernel
theorem eftb3 (m : MethodId) (x0 : Addr) : entryFrame m #[(.ref x0), (.int (0 : Int32)), (.int (3 : Int32))] 5 = mkF m 0 #[.val (.ref x0), .val (.int (0 : Int32)), .val (.int (3 : Int32)), .unset, .unset] [] := by first | (simp [entryFrame, mkF, argsToLocals, Value.category]; done) | rfl
def Qtb3 (Z : State) (x0 : Addr) (kc : ClassId) (c0 : Int32) (c1 : Int32) (c2 : Int32) (cs : Int32) (G : Value) (h0 : Heap) (n0 : Nat) (v : Option Value) (h : Heap) (L : List Loc) : Prop := ∃ (r : Addr) (kk : ClassId), v = some (.ref r) ∧ Fr n0 L ∧ Keep h0 h [] ∧ h0.size ≤ r ∧ Arv Z h r kk .byte (6 : Int32) [(.int (own_hb c0)), (.int (own_lb c0)), (.int (own_hb c1)), (.int (own_lb c1)), (.int (own_hb c2)), (.int (own_lb c2))] (.int (0 : Int32))
set_option maxRecDepth 65536 in
set_option maxHeartbeats 40000000 in
theorem rmtb3 (l : Launch) (Z : State) (a0 : Array Value) (hw : ∀ d ∈ tables_1, d.before a0 Z = true) (ws : List Jvm.Cond) (x0 : Addr) (kc : ClassId) (c0 : Int32) (c1 : Int32) (c2 : Int32) (cs : Int32) (G : Value) (h0 : Heap) (n0 : Nat) (Z0 : n0 ≤ h0.size) (V0 : Arv Z h0 x0 kc .char (3 : Int32) [(.int c0), (.int c1), (.int c2)] (.int (0 : Int32))) (O0 : Old Z n0 h0) (st : own_ST Z cs G) :
    MetFree l (⟨"java/lang/StringUTF16", "toBytes", "([CII)[B"⟩ : MethodName) (head1 (Jvm.Cond.code (⟨"java/lang/StringUTF16", "toBytes", "([CII)[B"⟩ : MethodName) jdk_52_method_14_code 5 (some (.array .byte)) :: ws) ({ frames := 2, cells := 1, slots := 6, locals := 24 } : Room)) (fun a U => a = #[(.ref x0), (.int (0 : Int32)), (.int (3 : Int32))] ∧ Z.Warmed39 U.vm ∧ U.heap = h0) (fun _ _ _ _ _ => True) (fun _ U o U' => ∃ v L, o = .returned v ∧ Qtb3 Z x0 kc c0 c1 c2 cs G h0 n0 v U'.heap L ∧ FrameEnd U o U' L ({ frames := 2, cells := 1, slots := 6, locals := 24 } : Room).cells ({ frames := 2, cells := 1, slots := 6, locals := 24 } : Room).slots) := by
  refine MetFree.of_bodySF (plainFor_of_name pntb3) hisR ?_
  intro p e s m args below meth c s₁ Bd hml0 hP hK
  obtain ⟨rfl, hZ, hh⟩ := hP
  have hx := Bd.exec
  have hby := Bd.bytes
  have hml : c.maxLocals = 5 := hml0
  have hown : s.vm.findClass "java/lang/StringUTF16" = some m.cls := findClass_of_methodNamed Bd.named
  have hnm := (name_of_methodNamed Bd.named Bd.method).1
  have X0 : Stand p l e ({ frames := 2, cells := 1, slots := 6, locals := 24 } : Room) s m #[(.ref x0), (.int (0 : Int32)), (.int (3 : Int32))] below meth c s₁ [] 0 0 := Stand.of_body Bd
  have e0 : s₁.heap = h0 := by rw [← hh, Bd.state]; rfl
  have N0 := Fr.nil n0
  have pre0 : ∀ t, Steps p.tables e below (s₁.setTop (mkF m 0 #[.val (.ref x0), .val (.int (0 : Int32)), .val (.int (3 : Int32)), .unset, .unset] [])) t → Steps p.tables e below (s₁.setTop (entryFrame m #[(.ref x0), (.int (0 : Int32)), (.int (3 : Int32))] 5)) t := fun t k => castTop (eftb3 m x0) k
  obtain ⟨S0, hS0⟩ : ∃ z, z = (s₁.setTop (entryFrame m #[(.ref x0), (.int (0 : Int32)), (.int (3 : Int32))] 5)) := ⟨_, rfl⟩
  rw [← hS0] at pre0
  obtain ⟨sc, hcs, sa, sh, sl, sg, hG⟩ := id st
  have K0 := Keep.refl h0 []
  have p1 : ∀ t, own_W p e below m s₁ 1 #[.val (.ref x0), .val (.int (0 : Int32)), .val (.int (3 : Int32)), .unset, .unset] [(.int (3 : Int32))] t → Steps p.tables e below S0 t := fun t k => pre0 t (by
    show own_W p e below m s₁ 0 #[.val (.ref x0), .val (.int (0 : Int32)), .val (.int (3 : Int32)), .unset, .unset] [] _
    refine XS.iloadN X0.here hx rfl (hb hby dtb3_0) rfl ?_
    exact k)
  obtain ⟨_, _, ⟨T2, L2, k2, n2⟩, -, X2, ⟨Lc2, hQ2, l2, y2, z2⟩, st2⟩ := Jvm.LawKit.callS X0 hx (y := (⟨"java/lang/StringUTF16", "newBytesFor", "(I)[B"⟩ : MethodName)) hown (mvT hZ (hw _ (List.mem_of_getElem? (i := 126) rfl))) (mvT hZ (hw _ (List.mem_of_getElem? (i := 127) rfl))) (mvT hZ (hw _ (List.mem_of_getElem? (i := 93) rfl))) (mvT hZ (hw _ (List.mem_of_getElem? (i := 128) rfl))) (by decide) (backOf (W := 0) (rmnf3 l Z a0 hw []   h0 n0 Z0 ) hZ (hw _ (List.mem_of_getElem? (i := 128) rfl)) (hw _ (List.mem_of_getElem? (i := 93) rfl)) (by decide) (by decide)) (g := (mkF m 1 #[.val (.ref x0), .val (.int (0 : Int32)), .val (.int (3 : Int32)), .unset, .unset] [(.int (3 : Int32))])) rfl (by rw [hml]; rfl) (argsL := [(.int (3 : Int32))]) (rest := []) (lenOf pdtb3_0 rfl) rfl (by show 2 * 0 + _ ≤ _; exact Nat.le_of_eq rfl) (hb hby dtb3_1) (fun _ _ => ⟨rfl, e0, (by decide : 0 + 1 ≤ _), (by decide : 0 + 6 ≤ _)⟩)
  dsimp only [Pt.U, Pt.locs, Pt.cells, Pt.slots] at X2 l2 y2 z2 st2 hQ2
  subst l2 y2 z2
  obtain ⟨r2, kk2, rfl, Nq2, K2, gr2, VR2⟩ := hQ2
  have N2 := Fr.app N0 Nq2
  have f3 := O0.keep K2 (all0)
  have f4 := V0.keep K2 nin0
  have Z2 := Nat.le_trans Z0 K2.1
  have KK2 := K0.trans K2 (all0)
  have p5 : ∀ t, own_W p e below m T2 4 #[.val (.ref x0), .val (.int (0 : Int32)), .val (.int (3 : Int32)), .unset, .unset] [(.ref r2)] t → Steps p.tables e below S0 t := fun t k => p1 t (st2 _ k)
  have Zb2 := Z0
  have Kb2 := K0
  have gn_r2 : n0 ≤ r2 := Nat.le_trans Zb2 gr2
  have gk_r2 : h0.size ≤ r2 := Nat.le_trans Kb2.1 gr2
  have ne_x0_r2 : x0 ≠ r2 := Nat.ne_of_lt (Nat.lt_of_lt_of_le V0.lt gr2)
  have p6 : ∀ t, own_W p e below m T2 8 #[.val (.ref x0), .val (.int (0 : Int32)), .val (.int (3 : Int32)), .val (.ref r2), .val (.int (0 : Int32))] [] t → Steps p.tables e below S0 t := fun t k => p5 t (by
    show own_W p e below m T2 4 #[.val (.ref x0), .val (.int (0 : Int32)), .val (.int (3 : Int32)), .unset, .unset] [(.ref r2)] _
    refine XS.astoreN X2.here hx rfl (hb hby dtb3_4) rfl rfl (l' := #[.val (.ref x0), .val (.int (0 : Int32)), .val (.int (3 : Int32)), .val (.ref r2), .unset]) rfl ?_
    show own_W p e below m T2 5 #[.val (.ref x0), .val (.int (0 : Int32)), .val (.int (3 : Int32)), .val (.ref r2), .unset] [] _
    refine XS.iconst X2.here hx rfl (hb hby dtb3_5) ?_
    show own_W p e below m T2 6 #[.val (.ref x0), .val (.int (0 : Int32)), .val (.int (3 : Int32)), .val (.ref r2), .unset] [(.int (0 : Int32))] _
    refine XS.istore X2.here hx rfl (hb hby dtb3_6) rfl (l' := #[.val (.ref x0), .val (.int (0 : Int32)), .val (.int (3 : Int32)), .val (.ref r2), .val (.int (0 : Int32))]) rfl ?_
    exact k)
  have p7 : ∀ t, own_W p e below m T2 19 #[.val (.ref x0), .val (.int (0 : Int32)), .val (.int (3 : Int32)), .val (.ref r2), .val (.int (0 : Int32))] [(.int (0 : Int32)), (.ref x0), (.int (0 : Int32)), (.ref r2)] t → Steps p.tables e below S0 t := fun t k => p6 t (by
    show own_W p e below m T2 8 #[.val (.ref x0), .val (.int (0 : Int32)), .val (.int (3 : Int32)), .val (.ref r2), .val (.int (0 : Int32))] [] _
    refine XS.iload X2.here hx rfl (hb hby dtb3_8) rfl ?_
    show own_W p e below m T2 10 #[.val (.ref x0), .val (.int (0 : Int32)), .val (.int (3 : Int32)), .val (.ref r2), .val (.int (0 : Int32))] [(.int (0 : Int32))] _
    refine XS.iloadN X2.here hx rfl (hb hby dtb3_10) rfl ?_
    show own_W p e below m T2 11 #[.val (.ref x0), .val (.int (0 : Int32)), .val (.int (3 : Int32)), .val (.ref r2), .val (.int (0 : Int32))] [(.int (3 : Int32)), (.int (0 : Int32))] _
    refine XS.icmpNo X2.here hx rfl (hb hby dtb3_11) rfl ((tlt (by decide)).2.1) ?_
    show own_W p e below m T2 14 #[.val (.ref x0), .val (.int (0 : Int32)), .val (.int (3 : Int32)), .val (.ref r2), .val (.int (0 : Int32))] [] _
    refine XS.aloadN X2.here hx rfl (hb hby dtb3_14) rfl rfl ?_
    show own_W p e below m T2 15 #[.val (.ref x0), .val (.int (0 : Int32)), .val (.int (3 : Int32)), .val (.ref r2), .val (.int (0 : Int32))] [(.ref r2)] _
    refine XS.iload X2.here hx rfl (hb hby dtb3_15) rfl ?_
    show own_W p e below m T2 17 #[.val (.ref x0), .val (.int (0 : Int32)), .val (.int (3 : Int32)), .val (.ref r2), .val (.int (0 : Int32))] [(.int (0 : Int32)), (.ref r2)] _
    refine XS.aloadN X2.here hx rfl (hb hby dtb3_17) rfl rfl ?_
    show own_W p e below m T2 18 #[.val (.ref x0), .val (.int (0 : Int32)), .val (.int (3 : Int32)), .val (.ref r2), .val (.int (0 : Int32))] [(.ref x0), (.int (0 : Int32)), (.ref r2)] _
    refine XS.iloadN X2.here hx rfl (hb hby dtb3_18) rfl ?_
    exact k)
  obtain ⟨cl8, Ar8, q8, Sz8, Ng8, Hs8, G8⟩ := id f4
  have hin8 : ¬ ((0 : Int32) < 0 ∨ cl8.slots.size ≤ ((0 : Int32)).toNatClampNeg) := inb_of Sz8 ⟨by decide, by decide⟩
  have hat8 : cl8.slots[((0 : Int32)).toNatClampNeg]? = some (.int c0) := Hs8.at hin8 (rfl)
  have p9 : ∀ t, own_W p e below m T2 20 #[.val (.ref x0), .val (.int (0 : Int32)), .val (.int (3 : Int32)), .val (.ref r2), .val (.int (0 : Int32))] [(.int c0), (.int (0 : Int32)), (.ref r2)] t → Steps p.tables e below S0 t := fun t k => p7 t (by
    show own_W p e below m T2 19 #[.val (.ref x0), .val (.int (0 : Int32)), .val (.int (3 : Int32)), .val (.ref r2), .val (.int (0 : Int32))] [(.int (0 : Int32)), (.ref x0), (.int (0 : Int32)), (.ref r2)] _
    refine X2.caload hx (j := (0 : Int32)) (v := (.int c0)) Ar8.1 (State.isArrayOf_alike hZ.alike Ar8.2.1) Ar8.2.2 hin8 hat8 (g := (mkF m 19 #[.val (.ref x0), .val (.int (0 : Int32)), .val (.int (3 : Int32)), .val (.ref r2), .val (.int (0 : Int32))] [(.int (0 : Int32)), (.ref x0), (.int (0 : Int32)), (.ref r2)])) rfl rfl (hb hby dtb3_19) _ ?_
    exact k)
  obtain ⟨_, _, ⟨T10, L10, k10, n10⟩, -, X10, ⟨Lc10, hQ10, l10, y10, z10⟩, st10⟩ := Jvm.LawKit.callS X2 hx (y := (⟨"java/lang/StringUTF16", "putChar", "([BII)V"⟩ : MethodName)) hown (mvT hZ (hw _ (List.mem_of_getElem? (i := 104) rfl))) (mvT hZ (hw _ (List.mem_of_getElem? (i := 105) rfl))) (mvT hZ (hw _ (List.mem_of_getElem? (i := 93) rfl))) (mvT hZ (hw _ (List.mem_of_getElem? (i := 106) rfl))) (by decide) (backOf (W := 0) (rmpc l Z a0 hw [] r2 (0 : Int32) c0 kk2 (6 : Int32) [(.int (0 : Int32)), (.int (0 : Int32)), (.int (0 : Int32)), (.int (0 : Int32)), (.int (0 : Int32)), (.int (0 : Int32))] 0 cs G T2.heap n0 Z2 VR2 gn_r2 ⟨by decide, by decide⟩ ⟨by decide, by decide⟩ (by decide) (by decide) (Nat.le_of_ble_eq_true rfl) f3 st) hZ (hw _ (List.mem_of_getElem? (i := 106) rfl)) (hw _ (List.mem_of_getElem? (i := 93) rfl)) (by decide) (by decide)) (g := (mkF m 20 #[.val (.ref x0), .val (.int (0 : Int32)), .val (.int (3 : Int32)), .val (.ref r2), .val (.int (0 : Int32))] [(.int c0), (.int (0 : Int32)), (.ref r2)])) rfl (by rw [hml]; rfl) (argsL := [(.ref r2), (.int (0 : Int32)), (.int c0)]) (rest := []) (lenOf pdtb3_1 rfl) rfl (by show 2 * 0 + _ ≤ _; exact Nat.le_of_eq rfl) (hb hby dtb3_20) (fun _ _ => ⟨rfl, rfl, (by decide : 1 + 0 ≤ _), (by decide : 6 + 0 ≤ _)⟩)
  dsimp only [Pt.U, Pt.locs, Pt.cells, Pt.slots] at X10 l10 y10 z10 st10 hQ10
  subst l10 y10 z10
  obtain ⟨rfl, Nq10, K10, VP10⟩ := hQ10
  have N10 := Fr.app N2 Nq10
  have f11 := f3.keep K10 (allS gn_r2 (all0))
  have f12 := f4.keep K10 (ninS ne_x0_r2 nin0)
  have Z10 := Nat.le_trans Z2 K10.1
  have KK10 := KK2.trans K10 (allS (Or.inr gk_r2) all0)
  have p13 : ∀ t, own_W p e below m T10 23 #[.val (.ref x0), .val (.int (0 : Int32)), .val (.int (3 : Int32)), .val (.ref r2), .val (.int (0 : Int32))] [] t → Steps p.tables e below S0 t := fun t k => p9 t (st10 _ k)
  have VU10 : Arv Z T10.heap r2 kk2 .byte (6 : Int32) [(.int (own_hb c0)), (.int (own_lb c0)), (.int (0 : Int32)), (.int (0 : Int32)), (.int (0 : Int32)), (.int (0 : Int32))] (.int (0 : Int32)) := VP10
  have p14 : ∀ t, own_W p e below m T10 8 #[.val (.ref x0), .val (.int ((0 : Int32) + (1 : Int32))), .val (.int (3 : Int32)), .val (.ref r2), .val (.int ((0 : Int32) + (1 : Int32)))] [] t → Steps p.tables e below S0 t := fun t k => p13 t (by
    show own_W p e below m T10 23 #[.val (.ref x0), .val (.int (0 : Int32)), .val (.int (3 : Int32)), .val (.ref r2), .val (.int (0 : Int32))] [] _
    refine XS.iinc X10.here hx rfl (hb hby dtb3_23) rfl (l' := #[.val (.ref x0), .val (.int ((0 : Int32) + (1 : Int32))), .val (.int (3 : Int32)), .val (.ref r2), .val (.int (0 : Int32))]) rfl ?_
    show own_W p e below m T10 26 #[.val (.ref x0), .val (.int ((0 : Int32) + (1 : Int32))), .val (.int (3 : Int32)), .val (.ref r2), .val (.int (0 : Int32))] [] _
    refine XS.iinc X10.here hx rfl (hb hby dtb3_26) rfl (l' := #[.val (.ref x0), .val (.int ((0 : Int32) + (1 : Int32))), .val (.int (3 : Int32)), .val (.ref r2), .val (.int ((0 : Int32) + (1 : Int32)))]) rfl ?_
    show own_W p e below m T10 29 #[.val (.ref x0), .val (.int ((0 : Int32) + (1 : Int32))), .val (.int (3 : Int32)), .val (.ref r2), .val (.int ((0 : Int32) + (1 : Int32)))] [] _
    refine XS.goto X10.here hx rfl (pc0 := 29) (pc' := 8) rfl (hb hby dtb3_29) (by decide) (by decide) ?_
    exact k)
  have p15 : ∀ t, own_W p e below m T10 8 #[.val (.ref x0), .val (.int (1 : Int32)), .val (.int (3 : Int32)), .val (.ref r2), .val (.int (1 : Int32))] [] t → Steps p.tables e below S0 t := by
    have k := p14
    rw [show ((0 : Int32) + (1 : Int32)) = (1 : Int32) from by decide] at k
    exact k
  have p16 : ∀ t, own_W p e below m T10 19 #[.val (.ref x0), .val (.int (1 : Int32)), .val (.int (3 : Int32)), .val (.ref r2), .val (.int (1 : Int32))] [(.int (1 : Int32)), (.ref x0), (.int (1 : Int32)), (.ref r2)] t → Steps p.tables e below S0 t := fun t k => p15 t (by
    show own_W p e below m T10 8 #[.val (.ref x0), .val (.int (1 : Int32)), .val (.int (3 : Int32)), .val (.ref r2), .val (.int (1 : Int32))] [] _
    refine XS.iload X10.here hx rfl (hb hby dtb3_8) rfl ?_
    show own_W p e below m T10 10 #[.val (.ref x0), .val (.int (1 : Int32)), .val (.int (3 : Int32)), .val (.ref r2), .val (.int (1 : Int32))] [(.int (1 : Int32))] _
    refine XS.iloadN X10.here hx rfl (hb hby dtb3_10) rfl ?_
    show own_W p e below m T10 11 #[.val (.ref x0), .val (.int (1 : Int32)), .val (.int (3 : Int32)), .val (.ref r2), .val (.int (1 : Int32))] [(.int (3 : Int32)), (.int (1 : Int32))] _
    refine XS.icmpNo X10.here hx rfl (hb hby dtb3_11) rfl ((tlt (by decide)).2.1) ?_
    show own_W p e below m T10 14 #[.val (.ref x0), .val (.int (1 : Int32)), .val (.int (3 : Int32)), .val (.ref r2), .val (.int (1 : Int32))] [] _
    refine XS.aloadN X10.here hx rfl (hb hby dtb3_14) rfl rfl ?_
    show own_W p e below m T10 15 #[.val (.ref x0), .val (.int (1 : Int32)), .val (.int (3 : Int32)), .val (.ref r2), .val (.int (1 : Int32))] [(.ref r2)] _
    refine XS.iload X10.here hx rfl (hb hby dtb3_15) rfl ?_
    show own_W p e below m T10 17 #[.val (.ref x0), .val (.int (1 : Int32)), .val (.int (3 : Int32)), .val (.ref r2), .val (.int (1 : Int32))] [(.int (1 : Int32)), (.ref r2)] _
    refine XS.aloadN X10.here hx rfl (hb hby dtb3_17) rfl rfl ?_
    show own_W p e below m T10 18 #[.val (.ref x0), .val (.int (1 : Int32)), .val (.int (3 : Int32)), .val (.ref r2), .val (.int (1 : Int32))] [(.ref x0), (.int (1 : Int32)), (.ref r2)] _
    refine XS.iloadN X10.here hx rfl (hb hby dtb3_18) rfl ?_
    exact k)
  obtain ⟨cl17, Ar17, q17, Sz17, Ng17, Hs17, G17⟩ := id f12
  have hin17 : ¬ ((1 : Int32) < 0 ∨ cl17.slots.size ≤ ((1 : Int32)).toNatClampNeg) := inb_of Sz17 ⟨by decide, by decide⟩
  have hat17 : cl17.slots[((1 : Int32)).toNatClampNeg]? = some (.int c1) := Hs17.at hin17 (rfl)
  have p18 : ∀ t, own_W p e below m T10 20 #[.val (.ref x0), .val (.int (1 : Int32)), .val (.int (3 : Int32)), .val (.ref r2), .val (.int (1 : Int32))] [(.int c1), (.int (1 : Int32)), (.ref r2)] t → Steps p.tables e below S0 t := fun t k => p16 t (by
    show own_W p e below m T10 19 #[.val (.ref x0), .val (.int (1 : Int32)), .val (.int (3 : Int32)), .val (.ref r2), .val (.int (1 : Int32))] [(.int (1 : Int32)), (.ref x0), (.int (1 : Int32)), (.ref r2)] _
    refine X10.caload hx (j := (1 : Int32)) (v := (.int c1)) Ar17.1 (State.isArrayOf_alike hZ.alike Ar17.2.1) Ar17.2.2 hin17 hat17 (g := (mkF m 19 #[.val (.ref x0), .val (.int (1 : Int32)), .val (.int (3 : Int32)), .val (.ref r2), .val (.int (1 : Int32))] [(.int (1 : Int32)), (.ref x0), (.int (1 : Int32)), (.ref r2)])) rfl rfl (hb hby dtb3_19) _ ?_
    exact k)
  obtain ⟨_, _, ⟨T19, L19, k19, n19⟩, -, X19, ⟨Lc19, hQ19, l19, y19, z19⟩, st19⟩ := Jvm.LawKit.callS X10 hx (y := (⟨"java/lang/StringUTF16", "putChar", "([BII)V"⟩ : MethodName)) hown (mvT hZ (hw _ (List.mem_of_getElem? (i := 104) rfl))) (mvT hZ (hw _ (List.mem_of_getElem? (i := 105) rfl))) (mvT hZ (hw _ (List.mem_of_getElem? (i := 93) rfl))) (mvT hZ (hw _ (List.mem_of_getElem? (i := 106) rfl))) (by decide) (backOf (W := 0) (rmpc l Z a0 hw [] r2 (1 : Int32) c1 kk2 (6 : Int32) [(.int (own_hb c0)), (.int (own_lb c0)), (.int (0 : Int32)), (.int (0 : Int32)), (.int (0 : Int32)), (.int (0 : Int32))] 2 cs G T10.heap n0 Z10 VU10 gn_r2 ⟨by decide, by decide⟩ ⟨by decide, by decide⟩ (by decide) (by decide) (Nat.le_of_ble_eq_true rfl) f11 st) hZ (hw _ (List.mem_of_getElem? (i := 106) rfl)) (hw _ (List.mem_of_getElem? (i := 93) rfl)) (by decide) (by decide)) (g := (mkF m 20 #[.val (.ref x0), .val (.int (1 : Int32)), .val (.int (3 : Int32)), .val (.ref r2), .val (.int (1 : Int32))] [(.int c1), (.int (1 : Int32)), (.ref r2)])) rfl (by rw [hml]; rfl) (argsL := [(.ref r2), (.int (1 : Int32)), (.int c1)]) (rest := []) (lenOf pdtb3_1 rfl) rfl (by show 2 * 0 + _ ≤ _; exact Nat.le_of_eq rfl) (hb hby dtb3_20) (fun _ _ => ⟨rfl, rfl, (by decide : 1 + 0 ≤ _), (by decide : 6 + 0 ≤ _)⟩)
  dsimp only [Pt.U, Pt.locs, Pt.cells, Pt.slots] at X19 l19 y19 z19 st19 hQ19
  subst l19 y19 z19
  obtain ⟨rfl, Nq19, K19, VP19⟩ := hQ19
  have N19 := Fr.app N10 Nq19
  have f20 := f11.keep K19 (allS gn_r2 (all0))
  have f21 := f12.keep K19 (ninS ne_x0_r2 nin0)
  have Z19 := Nat.le_trans Z10 K19.1
  have KK19 := KK10.trans K19 (allS (Or.inr gk_r2) all0)
  have p22 : ∀ t, own_W p e below m T19 23 #[.val (.ref x0), .val (.int (1 : Int32)), .val (.int (3 : Int32)), .val (.ref r2), .val (.int (1 : Int32))] [] t → Steps p.tables e below S0 t := fun t k => p18 t (st19 _ k)
  have VU19 : Arv Z T19.heap r2 kk2 .byte (6 : Int32) [(.int (own_hb c0)), (.int (own_lb c0)), (.int (own_hb c1)), (.int (own_lb c1)), (.int (0 : Int32)), (.int (0 : Int32))] (.int (0 : Int32)) := VP19
  have p23 : ∀ t, own_W p e below m T19 8 #[.val (.ref x0), .val (.int ((1 : Int32) + (1 : Int32))), .val (.int (3 : Int32)), .val (.ref r2), .val (.int ((1 : Int32) + (1 : Int32)))] [] t → Steps p.tables e below S0 t := fun t k => p22 t (by
    show own_W p e below m T19 23 #[.val (.ref x0), .val (.int (1 : Int32)), .val (.int (3 : Int32)), .val (.ref r2), .val (.int (1 : Int32))] [] _
    refine XS.iinc X19.here hx rfl (hb hby dtb3_23) rfl (l' := #[.val (.ref x0), .val (.int ((1 : Int32) + (1 : Int32))), .val (.int (3 : Int32)), .val (.ref r2), .val (.int (1 : Int32))]) rfl ?_
    show own_W p e below m T19 26 #[.val (.ref x0), .val (.int ((1 : Int32) + (1 : Int32))), .val (.int (3 : Int32)), .val (.ref r2), .val (.int (1 : Int32))] [] _
    refine XS.iinc X19.here hx rfl (hb hby dtb3_26) rfl (l' := #[.val (.ref x0), .val (.int ((1 : Int32) + (1 : Int32))), .val (.int (3 : Int32)), .val (.ref r2), .val (.int ((1 : Int32) + (1 : Int32)))]) rfl ?_
    show own_W p e below m T19 29 #[.val (.ref x0), .val (.int ((1 : Int32) + (1 : Int32))), .val (.int (3 : Int32)), .val (.ref r2), .val (.int ((1 : Int32) + (1 : Int32)))] [] _
    refine XS.goto X19.here hx rfl (pc0 := 29) (pc' := 8) rfl (hb hby dtb3_29) (by decide) (by decide) ?_
    exact k)
  have p24 : ∀ t, own_W p e below m T19 8 #[.val (.ref x0), .val (.int (2 : Int32)), .val (.int (3 : Int32)), .val (.ref r2), .val (.int (2 : Int32))] [] t → Steps p.tables e below S0 t := by
    have k := p23
    rw [show ((1 : Int32) + (1 : Int32)) = (2 : Int32) from by decide] at k
    exact k
  have p25 : ∀ t, own_W p e below m T19 19 #[.val (.ref x0), .val (.int (2 : Int32)), .val (.int (3 : Int32)), .val (.ref r2), .val (.int (2 : Int32))] [(.int (2 : Int32)), (.ref x0), (.int (2 : Int32)), (.ref r2)] t → Steps p.tables e below S0 t := fun t k => p24 t (by
    show own_W p e below m T19 8 #[.val (.ref x0), .val (.int (2 : Int32)), .val (.int (3 : Int32)), .val (.ref r2), .val (.int (2 : Int32))] [] _
    refine XS.iload X19.here hx rfl (hb hby dtb3_8) rfl ?_
    show own_W p e below m T19 10 #[.val (.ref x0), .val (.int (2 : Int32)), .val (.int (3 : Int32)), .val (.ref r2), .val (.int (2 : Int32))] [(.int (2 : Int32))] _
    refine XS.iloadN X19.here hx rfl (hb hby dtb3_10) rfl ?_
    show own_W p e below m T19 11 #[.val (.ref x0), .val (.int (2 : Int32)), .val (.int (3 : Int32)), .val (.ref r2), .val (.int (2 : Int32))] [(.int (3 : Int32)), (.int (2 : Int32))] _
    refine XS.icmpNo X19.here hx rfl (hb hby dtb3_11) rfl ((tlt (by decide)).2.1) ?_
    show own_W p e below m T19 14 #[.val (.ref x0), .val (.int (2 : Int32)), .val (.int (3 : Int32)), .val (.ref r2), .val (.int (2 : Int32))] [] _
    refine XS.aloadN X19.here hx rfl (hb hby dtb3_14) rfl rfl ?_
    show own_W p e below m T19 15 #[.val (.ref x0), .val (.int (2 : Int32)), .val (.int (3 : Int32)), .val (.ref r2), .val (.int (2 : Int32))] [(.ref r2)] _
    refine XS.iload X19.here hx rfl (hb hby dtb3_15) rfl ?_
    show own_W p e below m T19 17 #[.val (.ref x0), .val (.int (2 : Int32)), .val (.int (3 : Int32)), .val (.ref r2), .val (.int (2 : Int32))] [(.int (2 : Int32)), (.ref r2)] _
    refine XS.aloadN X19.here hx rfl (hb hby dtb3_17) rfl rfl ?_
    show own_W p e below m T19 18 #[.val (.ref x0), .val (.int (2 : Int32)), .val (.int (3 : Int32)), .val (.ref r2), .val (.int (2 : Int32))] [(.ref x0), (.int (2 : Int32)), (.ref r2)] _
    refine XS.iloadN X19.here hx rfl (hb hby dtb3_18) rfl ?_
    exact k)
  obtain ⟨cl26, Ar26, q26, Sz26, Ng26, Hs26, G26⟩ := id f21
  have hin26 : ¬ ((2 : Int32) < 0 ∨ cl26.slots.size ≤ ((2 : Int32)).toNatClampNeg) := inb_of Sz26 ⟨by decide, by decide⟩
  have hat26 : cl26.slots[((2 : Int32)).toNatClampNeg]? = some (.int c2) := Hs26.at hin26 (rfl)
  have p27 : ∀ t, own_W p e below m T19 20 #[.val (.ref x0), .val (.int (2 : Int32)), .val (.int (3 : Int32)), .val (.ref r2), .val (.int (2 : Int32))] [(.int c2), (.int (2 : Int32)), (.ref r2)] t → Steps p.tables e below S0 t := fun t k => p25 t (by
    show own_W p e below m T19 19 #[.val (.ref x0), .val (.int (2 : Int32)), .val (.int (3 : Int32)), .val (.ref r2), .val (.int (2 : Int32))] [(.int (2 : Int32)), (.ref x0), (.int (2 : Int32)), (.ref r2)] _
    refine X19.caload hx (j := (2 : Int32)) (v := (.int c2)) Ar26.1 (State.isArrayOf_alike hZ.alike Ar26.2.1) Ar26.2.2 hin26 hat26 (g := (mkF m 19 #[.val (.ref x0), .val (.int (2 : Int32)), .val (.int (3 : Int32)), .val (.ref r2), .val (.int (2 : Int32))] [(.int (2 : Int32)), (.ref x0), (.int (2 : Int32)), (.ref r2)])) rfl rfl (hb hby dtb3_19) _ ?_
    exact k)
  obtain ⟨_, _, ⟨T28, L28, k28, n28⟩, -, X28, ⟨Lc28, hQ28, l28, y28, z28⟩, st28⟩ := Jvm.LawKit.callS X19 hx (y := (⟨"java/lang/StringUTF16", "putChar", "([BII)V"⟩ : MethodName)) hown (mvT hZ (hw _ (List.mem_of_getElem? (i := 104) rfl))) (mvT hZ (hw _ (List.mem_of_getElem? (i := 105) rfl))) (mvT hZ (hw _ (List.mem_of_getElem? (i := 93) rfl))) (mvT hZ (hw _ (List.mem_of_getElem? (i := 106) rfl))) (by decide) (backOf (W := 0) (rmpc l Z a0 hw [] r2 (2 : Int32) c2 kk2 (6 : Int32) [(.int (own_hb c0)), (.int (own_lb c0)), (.int (own_hb c1)), (.int (own_lb c1)), (.int (0 : Int32)), (.int (0 : Int32))] 4 cs G T19.heap n0 Z19 VU19 gn_r2 ⟨by decide, by decide⟩ ⟨by decide, by decide⟩ (by decide) (by decide) (Nat.le_of_ble_eq_true rfl) f20 st) hZ (hw _ (List.mem_of_getElem? (i := 106) rfl)) (hw _ (List.mem_of_getElem? (i := 93) rfl)) (by decide) (by decide)) (g := (mkF m 20 #[.val (.ref x0), .val (.int (2 : Int32)), .val (.int (3 : Int32)), .val (.ref r2), .val (.int (2 : Int32))] [(.int c2), (.int (2 : Int32)), (.ref r2)])) rfl (by rw [hml]; rfl) (argsL := [(.ref r2), (.int (2 : Int32)), (.int c2)]) (rest := []) (lenOf pdtb3_1 rfl) rfl (by show 2 * 0 + _ ≤ _; exact Nat.le_of_eq rfl) (hb hby dtb3_20) (fun _ _ => ⟨rfl, rfl, (by decide : 1 + 0 ≤ _), (by decide : 6 + 0 ≤ _)⟩)
  dsimp only [Pt.U, Pt.locs, Pt.cells, Pt.slots] at X28 l28 y28 z28 st28 hQ28
  subst l28 y28 z28
  obtain ⟨rfl, Nq28, K28, VP28⟩ := hQ28
  have N28 := Fr.app N19 Nq28
  have f29 := f20.keep K28 (allS gn_r2 (all0))
  have f30 := f21.keep K28 (ninS ne_x0_r2 nin0)
  have Z28 := Nat.le_trans Z19 K28.1
  have KK28 := KK19.trans K28 (allS (Or.inr gk_r2) all0)
  have p31 : ∀ t, own_W p e below m T28 23 #[.val (.ref x0), .val (.int (2 : Int32)), .val (.int (3 : Int32)), .val (.ref r2), .val (.int (2 : Int32))] [] t → Steps p.tables e below S0 t := fun t k => p27 t (st28 _ k)
  have VU28 : Arv Z T28.heap r2 kk2 .byte (6 : Int32) [(.int (own_hb c0)), (.int (own_lb c0)), (.int (own_hb c1)), (.int (own_lb c1)), (.int (own_hb c2)), (.int (own_lb c2))] (.int (0 : Int32)) := VP28
  have p32 : ∀ t, own_W p e below m T28 8 #[.val (.ref x0), .val (.int ((2 : Int32) + (1 : Int32))), .val (.int (3 : Int32)), .val (.ref r2), .val (.int ((2 : Int32) + (1 : Int32)))] [] t → Steps p.tables e below S0 t := fun t k => p31 t (by
    show own_W p e below m T28 23 #[.val (.ref x0), .val (.int (2 : Int32)), .val (.int (3 : Int32)), .val (.ref r2), .val (.int (2 : Int32))] [] _
    refine XS.iinc X28.here hx rfl (hb hby dtb3_23) rfl (l' := #[.val (.ref x0), .val (.int ((2 : Int32) + (1 : Int32))), .val (.int (3 : Int32)), .val (.ref r2), .val (.int (2 : Int32))]) rfl ?_
    show own_W p e below m T28 26 #[.val (.ref x0), .val (.int ((2 : Int32) + (1 : Int32))), .val (.int (3 : Int32)), .val (.ref r2), .val (.int (2 : Int32))] [] _
    refine XS.iinc X28.here hx rfl (hb hby dtb3_26) rfl (l' := #[.val (.ref x0), .val (.int ((2 : Int32) + (1 : Int32))), .val (.int (3 : Int32)), .val (.ref r2), .val (.int ((2 : Int32) + (1 : Int32)))]) rfl ?_
    show own_W p e below m T28 29 #[.val (.ref x0), .val (.int ((2 : Int32) + (1 : Int32))), .val (.int (3 : Int32)), .val (.ref r2), .val (.int ((2 : Int32) + (1 : Int32)))] [] _
    refine XS.goto X28.here hx rfl (pc0 := 29) (pc' := 8) rfl (hb hby dtb3_29) (by decide) (by decide) ?_
    exact k)
  have p33 : ∀ t, own_W p e below m T28 8 #[.val (.ref x0), .val (.int (3 : Int32)), .val (.int (3 : Int32)), .val (.ref r2), .val (.int (3 : Int32))] [] t → Steps p.tables e below S0 t := by
    have k := p32
    rw [show ((2 : Int32) + (1 : Int32)) = (3 : Int32) from by decide] at k
    exact k
  have p34 : ∀ t, own_W p e below m T28 33 #[.val (.ref x0), .val (.int (3 : Int32)), .val (.int (3 : Int32)), .val (.ref r2), .val (.int (3 : Int32))] [(.ref r2)] t → Steps p.tables e below S0 t := fun t k => p33 t (by
    show own_W p e below m T28 8 #[.val (.ref x0), .val (.int (3 : Int32)), .val (.int (3 : Int32)), .val (.ref r2), .val (.int (3 : Int32))] [] _
    refine XS.iload X28.here hx rfl (hb hby dtb3_8) rfl ?_
    show own_W p e below m T28 10 #[.val (.ref x0), .val (.int (3 : Int32)), .val (.int (3 : Int32)), .val (.ref r2), .val (.int (3 : Int32))] [(.int (3 : Int32))] _
    refine XS.iloadN X28.here hx rfl (hb hby dtb3_10) rfl ?_
    show own_W p e below m T28 11 #[.val (.ref x0), .val (.int (3 : Int32)), .val (.int (3 : Int32)), .val (.ref r2), .val (.int (3 : Int32))] [(.int (3 : Int32)), (.int (3 : Int32))] _
    refine XS.icmpYes X28.here hx rfl (pc0 := 11) (pc' := 32) rfl (hb hby dtb3_11) rfl ((flt (by decide)).2.1) (by decide) (by decide) ?_
    show own_W p e below m T28 32 #[.val (.ref x0), .val (.int (3 : Int32)), .val (.int (3 : Int32)), .val (.ref r2), .val (.int (3 : Int32))] [] _
    refine XS.aloadN X28.here hx rfl (hb hby dtb3_32) rfl rfl ?_
    exact k)
  subst hS0
  obtain ⟨fs, hr, hrun, hended, hW, hsame⟩ := X28.leave (v := some (.ref r2)) (fun h => by rw [Bd.returns] at h; cases h)
  refine ⟨_, _, p34 _ ?_, hrun, hended, _, _, rfl, ?_, ⟨_, rfl⟩, hW, hsame.mono (by decide) (by decide)⟩
  · show own_W p e below m T28 33 #[.val (.ref x0), .val (.int (3 : Int32)), .val (.int (3 : Int32)), .val (.ref r2), .val (.int (3 : Int32))] [(.ref r2)] _
    exact retOut X28 hx Bd.returns rfl (Or.inr (Or.inr (Or.inr (Or.inr ⟨rfl, rfl, rfl⟩)))) (hb hby dtb3_33) hr
  · show Qtb3 Z x0 kc c0 c1 c2 cs G h0 n0 _ T28.heap _
    skip
    exact ⟨_, _, rfl, N28, KK28, gk_r2, VU28⟩
theorem dnl4_0 : decode jdk_52_method_3_code 0 = .ok (.iload_n 0, 1) := by decide +kernel
theorem dnl4_1 : decode jdk_52_method_3_code 1 = .ok (.ifCond .ge 11, 3) := by decide +kernel
theorem dnl4_12 : decode jdk_52_method_3_code 12 = .ok (.iload_n 0, 1) := by decide +kernel
theorem dnl4_13 : decode jdk_52_method_3_code 13 = .ok (.ldc 20, 2) := by decide +kernel
theorem dnl4_15 : decode jdk_52_method_3_code 15 = .ok (.if_icmp .lt 40, 3) := by decide +kernel
theorem dnl4_55 : decode jdk_52_method_3_code 55 = .ok (.iload_n 0, 1) := by decide +kernel
theorem dnl4_56 : decode jdk_52_method_3_code 56 = .ok (.iconst 1, 1) := by decide +kernel
theorem dnl4_57 : decode jdk_52_method_3_code 57 = .ok (.ishl, 1) := by decide +kernel
theorem dnl4_58 : decode jdk_52_method_3_code 58 = .ok (.ireturn, 1) := by decide +kernel
theorem pnnl4 : plainName "java/lang/StringUTF16" = true := by first | (simp [plainName, overriddenIn]; done) | decide +kernel
theorem efnl4 (m : MethodId)  : entryFrame m #[(.int (4 : Int32))] 1 = mkF m 0 #[.val (.int (4 : Int32))] [] := by first | (simp [entryFrame, mkF, argsToLocals, Value.category]; done) | rfl
def Qnl4 (Z : State)  (h0 : Heap) (n0 : Nat) (v : Option Value) (h : Heap) (L : List Loc) : Prop := v = some (.int (8 : Int32)) ∧ Fr n0 L ∧ h = h0
set_option maxRecDepth 65536 in
set_option maxHeartbeats 40000000 in
theorem rmnl4 (l : Launch) (Z : State) (a0 : Array Value) (hw : ∀ d ∈ tables_1, d.before a0 Z = true) (ws : List Jvm.Cond)  (h0 : Heap) (n0 : Nat) (Z0 : n0 ≤ h0.size) :
    MetFree l (⟨"java/lang/StringUTF16", "newBytesLength", "(I)I"⟩ : MethodName) (head1 (Jvm.Cond.code (⟨"java/lang/StringUTF16", "newBytesLength", "(I)I"⟩ : MethodName) jdk_52_method_3_code 1 (some .int) :: ws) ({ frames := 0, cells := 0, slots := 0, locals := 0 } : Room)) (fun a U => a = #[(.int (4 : Int32))] ∧ Z.Warmed39 U.vm ∧ U.heap = h0) (fun _ _ _ _ _ => True) (fun _ U o U' => ∃ v L, o = .returned v ∧ Qnl4 Z  h0 n0 v U'.heap L ∧ FrameEnd U o U' L ({ frames := 0, cells := 0, slots := 0, locals := 0 } : Room).cells ({ frames := 0, cells := 0, slots := 0, locals := 0 } : Room).slots) := by
  refine MetFree.of_bodySF (plainFor_of_name pnnl4) hisR ?_
  intro p e s m args below meth c s₁ Bd hml0 hP hK
  obtain ⟨rfl, hZ, hh⟩ := hP
  have hx := Bd.exec
  have hby := Bd.bytes
  have hml : c.maxLocals = 1 := hml0
  have hown : s.vm.findClass "java/lang/StringUTF16" = some m.cls := findClass_of_methodNamed Bd.named
  have hnm := (name_of_methodNamed Bd.named Bd.method).1
  have X0 : Stand p l e ({ frames := 0, cells := 0, slots := 0, locals := 0 } : Room) s m #[(.int (4 : Int32))] below meth c s₁ [] 0 0 := Stand.of_body Bd
  have e0 : s₁.heap = h0 := by rw [← hh, Bd.state]; rfl
  have N0 := Fr.nil n0
  have pre0 : ∀ t, Steps p.tables e below (s₁.setTop (mkF m 0 #[.val (.int (4 : Int32))] [])) t → Steps p.tables e below (s₁.setTop (entryFrame m #[(.int (4 : Int32))] 1)) t := fun t k => castTop (efnl4 m ) k
  obtain ⟨S0, hS0⟩ : ∃ z, z = (s₁.setTop (entryFrame m #[(.int (4 : Int32))] 1)) := ⟨_, rfl⟩
  rw [← hS0] at pre0
  have p1 : ∀ t, own_W p e below m s₁ 58 #[.val (.int (4 : Int32))] [(.int ((4 : Int32) <<< ((1 : Int32) &&& 31)))] t → Steps p.tables e below S0 t := fun t k => pre0 t (by
    show own_W p e below m s₁ 0 #[.val (.int (4 : Int32))] [] _
    refine XS.iloadN X0.here hx rfl (hb hby dnl4_0) rfl ?_
    show own_W p e below m s₁ 1 #[.val (.int (4 : Int32))] [(.int (4 : Int32))] _
    refine XS.ifYes X0.here hx rfl (pc0 := 1) (pc' := 12) rfl (hb hby dnl4_1) rfl ((if0 _ _).trans (flt (by decide)).2.1) (by decide) (by decide) ?_
    show own_W p e below m s₁ 12 #[.val (.int (4 : Int32))] [] _
    refine XS.iloadN X0.here hx rfl (hb hby dnl4_12) rfl ?_
    show own_W p e below m s₁ 13 #[.val (.int (4 : Int32))] [(.int (4 : Int32))] _
    refine X0.ldcInt hx hown (mvT hZ (hw _ (List.mem_of_getElem? (i := 132) rfl))) (g := (mkF m 13 #[.val (.int (4 : Int32))] [(.int (4 : Int32))])) rfl (hb hby dnl4_13) _ ?_
    show own_W p e below m s₁ 15 #[.val (.int (4 : Int32))] [(.int (1073741823 : Int32)), (.int (4 : Int32))] _
    refine XS.icmpYes X0.here hx rfl (pc0 := 15) (pc' := 55) rfl (hb hby dnl4_15) rfl ((tlt (by decide)).1) (by decide) (by decide) ?_
    show own_W p e below m s₁ 55 #[.val (.int (4 : Int32))] [] _
    refine XS.iloadN X0.here hx rfl (hb hby dnl4_55) rfl ?_
    show own_W p e below m s₁ 56 #[.val (.int (4 : Int32))] [(.int (4 : Int32))] _
    refine XS.iconst X0.here hx rfl (hb hby dnl4_56) ?_
    show own_W p e below m s₁ 57 #[.val (.int (4 : Int32))] [(.int (1 : Int32)), (.int (4 : Int32))] _
    refine XS.ishl X0.here hx rfl (hb hby dnl4_57) rfl ?_
    exact k)
  subst hS0
  obtain ⟨fs, hr, hrun, hended, hW, hsame⟩ := X0.leave (v := some (.int ((4 : Int32) <<< ((1 : Int32) &&& 31)))) (fun h => by rw [Bd.returns] at h; cases h)
  refine ⟨_, _, p1 _ ?_, hrun, hended, _, _, rfl, ?_, ⟨_, rfl⟩, hW, hsame.mono (by decide) (by decide)⟩
  · show own_W p e below m s₁ 58 #[.val (.int (4 : Int32))] [(.int ((4 : Int32) <<< ((1 : Int32) &&& 31)))] _
    exact retI X0 hx Bd.returns (hb hby dnl4_58) hr
  · show Qnl4 Z  h0 n0 _ s₁.heap _
    rw [e0]
    exact ⟨congrArg (fun z => some (Value.int z)) (by decide : ((4 : Int32) <<< ((1 : Int32) &&& 31)) = (8 : Int32)), N0, rfl⟩
theorem dnf4_0 : decode jdk_52_method_2_code 0 = .ok (.iload_n 0, 1) := by decide +kernel
theorem dnf4_1 : decode jdk_52_method_2_code 1 = .ok (.invokestatic 11, 3) := by decide +kernel
theorem dnf4_4 : decode jdk_52_method_2_code 4 = .ok (.newarray .byte, 2) := by decide +kernel
theorem dnf4_6 : decode jdk_52_method_2_code 6 = .ok (.areturn, 1) := by decide +kernel
theorem pnnf4 : plainName "java/lang/StringUTF16" = true := by first | (simp [plainName, overriddenIn]; done) | decide +kernel
theorem pdnf4_0 : parseMethodDescriptor "(I)I" = some ⟨[.int], some .int⟩ := by decide +kernel
theorem efnf4 (m : MethodId)  : entryFrame m #[(.int (4 : Int32))] 1 = mkF m 0 #[.val (.int (4 : Int32))] [] := by first | (simp [entryFrame, mkF, argsToLocals, Value.category]; done) | rfl
def Qnf4 (Z : State)  (h0 : Heap) (n0 : Nat) (v : Option Value) (h : Heap) (L : List Loc) : Prop := ∃ (r : Addr) (kk : ClassId), v = some (.ref r) ∧ Fr n0 L ∧ Keep h0 h [] ∧ h0.size ≤ r ∧ Arv Z h r kk .byte (8 : Int32) [(.int (0 : Int32)), (.int (0 : Int32)), (.int (0 : Int32)), (.int (0 : Int32)), (.int (0 : Int32)), (.int (0 : Int32)), (.int (0 : Int32)), (.int (0 : Int32))] (.int (0 : Int32))
set_option maxRecDepth 65536 in
set_option maxHeartbeats 40000000 in
theorem rmnf4 (l : Launch) (Z : State) (a0 : Array Value) (hw : ∀ d ∈ tables_1, d.before a0 Z = true) (ws : List Jvm.Cond)  (h0 : Heap) (n0 : Nat) (Z0 : n0 ≤ h0.size) :
    MetFree l (⟨"java/lang/StringUTF16", "newBytesFor", "(I)[B"⟩ : MethodName) (head1 (Jvm.Cond.code (⟨"java/lang/StringUTF16", "newBytesFor", "(I)[B"⟩ : MethodName) jdk_52_method_2_code 1 (some (.array .byte)) :: ws) ({ frames := 1, cells := 1, slots := 8, locals := 12 } : Room)) (fun a U => a = #[(.int (4 : Int32))] ∧ Z.Warmed39 U.vm ∧ U.heap = h0) (fun _ _ _ _ _ => True) (fun _ U o U' => ∃ v L, o = .returned v ∧ Qnf4 Z  h0 n0 v U'.heap L ∧ FrameEnd U o U' L ({ frames := 1, cells := 1, slots := 8, locals := 12 } : Room).cells ({ frames := 1, cells := 1, slots := 8, locals := 12 } : Room).slots) := by
  refine MetFree.of_bodySF (plainFor_of_name pnnf4) hisR ?_
  intro p e s m args below meth c s₁ Bd hml0 hP hK
  obtain ⟨rfl, hZ, hh⟩ := hP
  have hx := Bd.exec
  have hby := Bd.bytes
  have hml : c.maxLocals = 1 := hml0
  have hown : s.vm.findClass "java/lang/StringUTF16" = some m.cls := findClass_of_methodNamed Bd.named
  have hnm := (name_of_methodNamed Bd.named Bd.method).1
  have X0 : Stand p l e ({ frames := 1, cells := 1, slots := 8, locals := 12 } : Room) s m #[(.int (4 : Int32))] below meth c s₁ [] 0 0 := Stand.of_body Bd
  have e0 : s₁.heap = h0 := by rw [← hh, Bd.state]; rfl
  have N0 := Fr.nil n0
  have pre0 : ∀ t, Steps p.tables e below (s₁.setTop (mkF m 0 #[.val (.int (4 : Int32))] [])) t → Steps p.tables e below (s₁.setTop (entryFrame m #[(.int (4 : Int32))] 1)) t := fun t k => castTop (efnf4 m ) k
  obtain ⟨S0, hS0⟩ : ∃ z, z = (s₁.setTop (entryFrame m #[(.int (4 : Int32))] 1)) := ⟨_, rfl⟩
  rw [← hS0] at pre0
  have K0 := Keep.refl h0 []
  have p1 : ∀ t, own_W p e below m s₁ 1 #[.val (.int (4 : Int32))] [(.int (4 : Int32))] t → Steps p.tables e below S0 t := fun t k => pre0 t (by
    show own_W p e below m s₁ 0 #[.val (.int (4 : Int32))] [] _
    refine XS.iloadN X0.here hx rfl (hb hby dnf4_0) rfl ?_
    exact k)
  obtain ⟨_, _, ⟨T2, L2, k2, n2⟩, -, X2, ⟨Lc2, hQ2, l2, y2, z2⟩, st2⟩ := Jvm.LawKit.callS X0 hx (y := (⟨"java/lang/StringUTF16", "newBytesLength", "(I)I"⟩ : MethodName)) hown (mvT hZ (hw _ (List.mem_of_getElem? (i := 129) rfl))) (mvT hZ (hw _ (List.mem_of_getElem? (i := 130) rfl))) (mvT hZ (hw _ (List.mem_of_getElem? (i := 93) rfl))) (mvT hZ (hw _ (List.mem_of_getElem? (i := 131) rfl))) (by decide) (backOf (W := 0) (rmnl4 l Z a0 hw []   h0 n0 Z0 ) hZ (hw _ (List.mem_of_getElem? (i := 131) rfl)) (hw _ (List.mem_of_getElem? (i := 93) rfl)) (by decide) (by decide)) (g := (mkF m 1 #[.val (.int (4 : Int32))] [(.int (4 : Int32))])) rfl (by rw [hml]; rfl) (argsL := [(.int (4 : Int32))]) (rest := []) (lenOf pdnf4_0 rfl) rfl (by show 2 * 0 + _ ≤ _; exact Nat.le_of_eq rfl) (hb hby dnf4_1) (fun _ _ => ⟨rfl, e0, (by decide : 0 + 0 ≤ _), (by decide : 0 + 0 ≤ _)⟩)
  dsimp only [Pt.U, Pt.locs, Pt.cells, Pt.slots] at X2 l2 y2 z2 st2 hQ2
  subst l2 y2 z2
  obtain ⟨rfl, Nq2, e2⟩ := hQ2
  have N2 := Fr.app N0 Nq2
  have p3 : ∀ t, own_W p e below m T2 4 #[.val (.int (4 : Int32))] [(.int (8 : Int32))] t → Steps p.tables e below S0 t := fun t k => p1 t (st2 _ k)
  obtain ⟨T4, h4, k4, X4, e4, E4, A4, st4⟩ := newP X2 hx hZ (hw _ (List.mem_of_getElem? (i := 19) rfl)) e2 (g := (mkF m 4 #[.val (.int (4 : Int32))] [(.int (8 : Int32))])) rfl (hb hby dnf4_4) rfl (by decide) (cap := 8) (by decide) (by decide) (by decide) (by decide)
  obtain ⟨b4, g4⟩ : ∃ z, z = h0.size := ⟨_, rfl⟩
  rw [← g4] at A4 st4
  have gn_b4 : n0 ≤ b4 := Nat.le_trans Z0 (Nat.le_of_eq g4.symm)
  have gk_b4 : h0.size ≤ b4 := Nat.le_trans K0.1 (Nat.le_of_eq g4.symm)
  have Z4 := Nat.le_trans Z0 E4.1
  have KK4 := K0.ext E4
  have VV4 : Arv Z h4 b4 k4 .byte (8 : Int32) [(.int (0 : Int32)), (.int (0 : Int32)), (.int (0 : Int32)), (.int (0 : Int32)), (.int (0 : Int32)), (.int (0 : Int32)), (.int (0 : Int32)), (.int (0 : Int32))] (.int (0 : Int32)) := (Arv.new A4 (by decide)).pad (pad_rep [] (.int (0 : Int32)) 8)
  have p5 : ∀ t, own_W p e below m T4 6 #[.val (.int (4 : Int32))] [(.ref b4)] t → Steps p.tables e below S0 t := fun t k => p3 t (st4 t k)
  subst hS0
  obtain ⟨fs, hr, hrun, hended, hW, hsame⟩ := X4.leave (v := some (.ref b4)) (fun h => by rw [Bd.returns] at h; cases h)
  refine ⟨_, _, p5 _ ?_, hrun, hended, _, _, rfl, ?_, ⟨_, rfl⟩, hW, hsame.mono (by decide) (by decide)⟩
  · show own_W p e below m T4 6 #[.val (.int (4 : Int32))] [(.ref b4)] _
    exact retOut X4 hx Bd.returns rfl (Or.inr (Or.inr (Or.inr (Or.inr ⟨rfl, rfl, rfl⟩)))) (hb hby dnf4_6) hr
  · show Qnf4 Z  h0 n0 _ T4.heap _
    rw [e4]
    exact ⟨_, _, rfl, N2, KK4, gk_b4, VV4⟩
theorem dtb4_0 : decode jdk_52_method_14_code 0 = .ok (.iload_n 2, 1) := by decide +kernel
theorem dtb4_1 : decode jdk_52_method_14_code 1 = .ok (.invokestatic 107, 3) := by decide +kernel
theorem dtb4_4 : decode jdk_52_method_14_code 4 = .ok (.astore_n 3, 1) := by decide +kernel
theorem dtb4_5 : decode jdk_52_method_14_code 5 = .ok (.iconst 0, 1) := by decide +kernel
theorem dtb4_6 : decode jdk_52_method_14_code 6 = .ok (.istore 4, 2) := by decide +kernel
theorem dtb4_8 : decode jdk_52_method_14_code 8 = .ok (.iload 4, 2) := by decide +kernel
theorem dtb4_10 : decode jdk_52_method_14_code 10 = .ok (.iload_n 2, 1) := by decide +kernel
theorem dtb4_11 : decode jdk_52_method_14_code 11 = .ok (.if_icmp .ge 21, 3) := by decide +kernel
theorem dtb4_14 : decode jdk_52_method_14_code 14 = .ok (.aload_n 3, 1) := by decide +kernel
theorem dtb4_15 : decode jdk_52_method_14_code 15 = .ok (.iload 4, 2) := by decide +kernel
theorem dtb4_17 : decode jdk_52_method_14_code 17 = .ok (.aload_n 0, 1) := by decide +kernel
theorem dtb4_18 : decode jdk_52_method_14_code 18 = .ok (.iload_n 1, 1) := by decide +kernel
theorem dtb4_19 : decode jdk_52_method_14_code 19 = .ok (.caload, 1) := by decide +kernel
theorem dtb4_20 : decode jdk_52_method_14_code 20 = .ok (.invokestatic 111, 3) := by decide +kernel
theorem dtb4_23 : decode jdk_52_method_14_code 23 = .ok (.iinc 1 1, 3) := by decide +kernel
theorem dtb4_26 : decode jdk_52_method_14_code 26 = .ok (.iinc 4 1, 3) := by decide +kernel
theorem dtb4_29 : decode jdk_52_method_14_code 29 = .ok (.goto (-21), 3) := by decide +kernel
theorem dtb4_32 : decode jdk_52_method_14_code 32 = .ok (.aload_n 3, 1) := by decide +kernel
theorem dtb4_33 : decode jdk_52_method_14_code 33 = .ok (.areturn, 1) := by decide +kernel
theorem pntb4 : plainName "java/lang/StringUTF16" = true := by first | (simp [plainName, overriddenIn]; done) | decide +kernel
theorem pdtb4_0 : parseMethodDescriptor "(I)[B" = some ⟨[.int], some (.array .byte)⟩ := by decide +kernel
theorem pdtb4_1 : parseMethodDescriptor "([BII)V" = some ⟨[(.array .byte), .int, .int], none⟩ := by decide +kernel
theorem eftb4 (m : MethodId) (x0 : Addr) : entryFrame m #[(.ref x0), (.int (0 : Int32)), (.int (4 : Int32))] 5 = mkF m 0 #[.val (.ref x0), .val (.int (0 : Int32)), .val (.int (4 : Int32)), .unset, .unset] [] := by first | (simp [entryFrame, mkF, argsToLocals, Value.category]; done) | rfl
def Qtb4 (Z : State) (x0 : Addr) (kc : ClassId) (c0 : Int32) (c1 : Int32) (c2 : Int32) (c3 : Int32) (cs : Int32) (G : Value) (h0 : Heap) (n0 : Nat) (v : Option Value) (h : Heap) (L : List Loc) : Prop := ∃ (r : Addr) (kk : ClassId), v = some (.ref r) ∧ Fr n0 L ∧ Keep h0 h [] ∧ h0.size ≤ r ∧ Arv Z h r kk .byte (8 : Int32) [(.int (own_hb c0)), (.int (own_lb c0)), (.int (own_hb c1)), (.int (own_lb c1)), (.int (own_hb c2)), (.int (own_lb c2)), (.int (own_hb c3)), (.int (own_lb c3))] (.int (0 : Int32))
set_option maxRecDepth 65536 in
set_option maxHeartbeats 40000000 in
theorem rmtb4 (l : Launch) (Z : State) (a0 : Array Value) (hw : ∀ d ∈ tables_1, d.before a0 Z = true) (ws : List Jvm.Cond) (x0 : Addr) (kc : ClassId) (c0 : Int32) (c1 : Int32) (c2 : Int32) (c3 : Int32) (cs : Int32) (G : Value) (h0 : Heap) (n0 : Nat) (Z0 : n0 ≤ h0.size) (V0 : Arv Z h0 x0 kc .char (4 : Int32) [(.int c0), (.int c1), (.int c2), (.int c3)] (.int (0 : Int32))) (O0 : Old Z n0 h0) (st : own_ST Z cs G) :
    MetFree l (⟨"java/lang/StringUTF16", "toBytes", "([CII)[B"⟩ : MethodName) (head1 (Jvm.Cond.code (⟨"java/lang/StringUTF16", "toBytes", "([CII)[B"⟩ : MethodName) jdk_52_method_14_code 5 (some (.array .byte)) :: ws) ({ frames := 2, cells := 1, slots := 8, locals := 24 } : Room)) (fun a U => a = #[(.ref x0), (.int (0 : Int32)), (.int (4 : Int32))] ∧ Z.Warmed39 U.vm ∧ U.heap = h0) (fun _ _ _ _ _ => True) (fun _ U o U' => ∃ v L, o = .returned v ∧ Qtb4 Z x0 kc c0 c1 c2 c3 cs G h0 n0 v U'.heap L ∧ FrameEnd U o U' L ({ frames := 2, cells := 1, slots := 8, locals := 24 } : Room).cells ({ frames := 2, cells := 1, slots := 8, locals := 24 } : Room).slots) := by
  refine MetFree.of_bodySF (plainFor_of_name pntb4) hisR ?_
  intro p e s m args below meth c s₁ Bd hml0 hP hK
  obtain ⟨rfl, hZ, hh⟩ := hP
  have hx := Bd.exec
  have hby := Bd.bytes
  have hml : c.maxLocals = 5 := hml0
  have hown : s.vm.findClass "java/lang/StringUTF16" = some m.cls := findClass_of_methodNamed Bd.named
  have hnm := (name_of_methodNamed Bd.named Bd.method).1
  have X0 : Stand p l e ({ frames := 2, cells := 1, slots := 8, locals := 24 } : Room) s m #[(.ref x0), (.int (0 : Int32)), (.int (4 : Int32))] below meth c s₁ [] 0 0 := Stand.of_body Bd
  have e0 : s₁.heap = h0 := by rw [← hh, Bd.state]; rfl
  have N0 := Fr.nil n0
  have pre0 : ∀ t, Steps p.tables e below (s₁.setTop (mkF m 0 #[.val (.ref x0), .val (.int (0 : Int32)), .val (.int (4 : Int32)), .unset, .unset] [])) t → Steps p.tables e below (s₁.setTop (entryFrame m #[(.ref x0), (.int (0 : Int32)), (.int (4 : Int32))] 5)) t := fun t k => castTop (eftb4 m x0) k
  obtain ⟨S0, hS0⟩ : ∃ z, z = (s₁.setTop (entryFrame m #[(.ref x0), (.int (0 : Int32)), (.int (4 : Int32))] 5)) := ⟨_, rfl⟩
  rw [← hS0] at pre0
  obtain ⟨sc, hcs, sa, sh, sl, sg, hG⟩ := id st
  have K0 := Keep.refl h0 []
  have p1 : ∀ t, own_W p e below m s₁ 1 #[.val (.ref x0), .val (.int (0 : Int32)), .val (.int (4 : Int32)), .unset, .unset] [(.int (4 : Int32))] t → Steps p.tables e below S0 t := fun t k => pre0 t (by
    show own_W p e below m s₁ 0 #[.val (.ref x0), .val (.int (0 : Int32)), .val (.int (4 : Int32)), .unset, .unset] [] _
    refine XS.iloadN X0.here hx rfl (hb hby dtb4_0) rfl ?_
    exact k)
  obtain ⟨_, _, ⟨T2, L2, k2, n2⟩, -, X2, ⟨Lc2, hQ2, l2, y2, z2⟩, st2⟩ := Jvm.LawKit.callS X0 hx (y := (⟨"java/lang/StringUTF16", "newBytesFor", "(I)[B"⟩ : MethodName)) hown (mvT hZ (hw _ (List.mem_of_getElem? (i := 126) rfl))) (mvT hZ (hw _ (List.mem_of_getElem? (i := 127) rfl))) (mvT hZ (hw _ (List.mem_of_getElem? (i := 93) rfl))) (mvT hZ (hw _ (List.mem_of_getElem? (i := 128) rfl))) (by decide) (backOf (W := 0) (rmnf4 l Z a0 hw []   h0 n0 Z0 ) hZ (hw _ (List.mem_of_getElem? (i := 128) rfl)) (hw _ (List.mem_of_getElem? (i := 93) rfl)) (by decide) (by decide)) (g := (mkF m 1 #[.val (.ref x0), .val (.int (0 : Int32)), .val (.int (4 : Int32)), .unset, .unset] [(.int (4 : Int32))])) rfl (by rw [hml]; rfl) (argsL := [(.int (4 : Int32))]) (rest := []) (lenOf pdtb4_0 rfl) rfl (by show 2 * 0 + _ ≤ _; exact Nat.le_of_eq rfl) (hb hby dtb4_1) (fun _ _ => ⟨rfl, e0, (by decide : 0 + 1 ≤ _), (by decide : 0 + 8 ≤ _)⟩)
  dsimp only [Pt.U, Pt.locs, Pt.cells, Pt.slots] at X2 l2 y2 z2 st2 hQ2
  subst l2 y2 z2
  obtain ⟨r2, kk2, rfl, Nq2, K2, gr2, VR2⟩ := hQ2
  have N2 := Fr.app N0 Nq2
  have f3 := O0.keep K2 (all0)
  have f4 := V0.keep K2 nin0
  have Z2 := Nat.le_trans Z0 K2.1
  have KK2 := K0.trans K2 (all0)
  have p5 : ∀ t, own_W p e below m T2 4 #[.val (.ref x0), .val (.int (0 : Int32)), .val (.int (4 : Int32)), .unset, .unset] [(.ref r2)] t → Steps p.tables e below S0 t := fun t k => p1 t (st2 _ k)
  have Zb2 := Z0
  have Kb2 := K0
  have gn_r2 : n0 ≤ r2 := Nat.le_trans Zb2 gr2
  have gk_r2 : h0.size ≤ r2 := Nat.le_trans Kb2.1 gr2
  have ne_x0_r2 : x0 ≠ r2 := Nat.ne_of_lt (Nat.lt_of_lt_of_le V0.lt gr2)
  have p6 : ∀ t, own_W p e below m T2 8 #[.val (.ref x0), .val (.int (0 : Int32)), .val (.int (4 : Int32)), .val (.ref r2), .val (.int (0 : Int32))] [] t → Steps p.tables e below S0 t := fun t k => p5 t (by
    show own_W p e below m T2 4 #[.val (.ref x0), .val (.int (0 : Int32)), .val (.int (4 : Int32)), .unset, .unset] [(.ref r2)] _
    refine XS.astoreN X2.here hx rfl (hb hby dtb4_4) rfl rfl (l' := #[.val (.ref x0), .val (.int (0 : Int32)), .val (.int (4 : Int32)), .val (.ref r2), .unset]) rfl ?_
    show own_W p e below m T2 5 #[.val (.ref x0), .val (.int (0 : Int32)), .val (.int (4 : Int32)), .val (.ref r2), .unset] [] _
    refine XS.iconst X2.here hx rfl (hb hby dtb4_5) ?_
    show own_W p e below m T2 6 #[.val (.ref x0), .val (.int (0 : Int32)), .val (.int (4 : Int32)), .val (.ref r2), .unset] [(.int (0 : Int32))] _
    refine XS.istore X2.here hx rfl (hb hby dtb4_6) rfl (l' := #[.val (.ref x0), .val (.int (0 : Int32)), .val (.int (4 : Int32)), .val (.ref r2), .val (.int (0 : Int32))]) rfl ?_
    exact k)
  have p7 : ∀ t, own_W p e below m T2 19 #[.val (.ref x0), .val (.int (0 : Int32)), .val (.int (4 : Int32)), .val (.ref r2), .val (.int (0 : Int32))] [(.int (0 : Int32)), (.ref x0), (.int (0 : Int32)), (.ref r2)] t → Steps p.tables e below S0 t := fun t k => p6 t (by
    show own_W p e below m T2 8 #[.val (.ref x0), .val (.int (0 : Int32)), .val (.int (4 : Int32)), .val (.ref r2), .val (.int (0 : Int32))] [] _
    refine XS.iload X2.here hx rfl (hb hby dtb4_8) rfl ?_
    show own_W p e below m T2 10 #[.val (.ref x0), .val (.int (0 : Int32)), .val (.int (4 : Int32)), .val (.ref r2), .val (.int (0 : Int32))] [(.int (0 : Int32))] _
    refine XS.iloadN X2.here hx rfl (hb hby dtb4_10) rfl ?_
    show own_W p e below m T2 11 #[.val (.ref x0), .val (.int (0 : Int32)), .val (.int (4 : Int32)), .val (.ref r2), .val (.int (0 : Int32))] [(.int (4 : Int32)), (.int (0 : Int32))] _
    refine XS.icmpNo X2.here hx rfl (hb hby dtb4_11) rfl ((tlt (by decide)).2.1) ?_
    show own_W p e below m T2 14 #[.val (.ref x0), .val (.int (0 : Int32)), .val (.int (4 : Int32)), .val (.ref r2), .val (.int (0 : Int32))] [] _
    refine XS.aloadN X2.here hx rfl (hb hby dtb4_14) rfl rfl ?_
    show own_W p e below m T2 15 #[.val (.ref x0), .val (.int (0 : Int32)), .val (.int (4 : Int32)), .val (.ref r2), .val (.int (0 : Int32))] [(.ref r2)] _
    refine XS.iload X2.here hx rfl (hb hby dtb4_15) rfl ?_
    show own_W p e below m T2 17 #[.val (.ref x0), .val (.int (0 : Int32)), .val (.int (4 : Int32)), .val (.ref r2), .val (.int (0 : Int32))] [(.int (0 : Int32)), (.ref r2)] _
    refine XS.aloadN X2.here hx rfl (hb hby dtb4_17) rfl rfl ?_
    show own_W p e below m T2 18 #[.val (.ref x0), .val (.int (0 : Int32)), .val (.int (4 : Int32)), .val (.ref r2), .val (.int (0 : Int32))] [(.ref x0), (.int (0 : Int32)), (.ref r2)] _
    refine XS.iloadN X2.here hx rfl (hb hby dtb4_18) rfl ?_
    exact k)
  obtain ⟨cl8, Ar8, q8, Sz8, Ng8, Hs8, G8⟩ := id f4
  have hin8 : ¬ ((0 : Int32) < 0 ∨ cl8.slots.size ≤ ((0 : Int32)).toNatClampNeg) := inb_of Sz8 ⟨by decide, by decide⟩
  have hat8 : cl8.slots[((0 : Int32)).toNatClampNeg]? = some (.int c0) := Hs8.at hin8 (rfl)
  have p9 : ∀ t, own_W p e below m T2 20 #[.val (.ref x0), .val (.int (0 : Int32)), .val (.int (4 : Int32)), .val (.ref r2), .val (.int (0 : Int32))] [(.int c0), (.int (0 : Int32)), (.ref r2)] t → Steps p.tables e below S0 t := fun t k => p7 t (by
    show own_W p e below m T2 19 #[.val (.ref x0), .val (.int (0 : Int32)), .val (.int (4 : Int32)), .val (.ref r2), .val (.int (0 : Int32))] [(.int (0 : Int32)), (.ref x0), (.int (0 : Int32)), (.ref r2)] _
    refine X2.caload hx (j := (0 : Int32)) (v := (.int c0)) Ar8.1 (State.isArrayOf_alike hZ.alike Ar8.2.1) Ar8.2.2 hin8 hat8 (g := (mkF m 19 #[.val (.ref x0), .val (.int (0 : Int32)), .val (.int (4 : Int32)), .val (.ref r2), .val (.int (0 : Int32))] [(.int (0 : Int32)), (.ref x0), (.int (0 : Int32)), (.ref r2)])) rfl rfl (hb hby dtb4_19) _ ?_
    exact k)
  obtain ⟨_, _, ⟨T10, L10, k10, n10⟩, -, X10, ⟨Lc10, hQ10, l10, y10, z10⟩, st10⟩ := Jvm.LawKit.callS X2 hx (y := (⟨"java/lang/StringUTF16", "putChar", "([BII)V"⟩ : MethodName)) hown (mvT hZ (hw _ (List.mem_of_getElem? (i := 104) rfl))) (mvT hZ (hw _ (List.mem_of_getElem? (i := 105) rfl))) (mvT hZ (hw _ (List.mem_of_getElem? (i := 93) rfl))) (mvT hZ (hw _ (List.mem_of_getElem? (i := 106) rfl))) (by decide) (backOf (W := 0) (rmpc l Z a0 hw [] r2 (0 : Int32) c0 kk2 (8 : Int32) [(.int (0 : Int32)), (.int (0 : Int32)), (.int (0 : Int32)), (.int (0 : Int32)), (.int (0 : Int32)), (.int (0 : Int32)), (.int (0 : Int32)), (.int (0 : Int32))] 0 cs G T2.heap n0 Z2 VR2 gn_r2 ⟨by decide, by decide⟩ ⟨by decide, by decide⟩ (by decide) (by decide) (Nat.le_of_ble_eq_true rfl) f3 st) hZ (hw _ (List.mem_of_getElem? (i := 106) rfl)) (hw _ (List.mem_of_getElem? (i := 93) rfl)) (by decide) (by decide)) (g := (mkF m 20 #[.val (.ref x0), .val (.int (0 : Int32)), .val (.int (4 : Int32)), .val (.ref r2), .val (.int (0 : Int32))] [(.int c0), (.int (0 : Int32)), (.ref r2)])) rfl (by rw [hml]; rfl) (argsL := [(.ref r2), (.int (0 : Int32)), (.int c0)]) (rest := []) (lenOf pdtb4_1 rfl) rfl (by show 2 * 0 + _ ≤ _; exact Nat.le_of_eq rfl) (hb hby dtb4_20) (fun _ _ => ⟨rfl, rfl, (by decide : 1 + 0 ≤ _), (by decide : 8 + 0 ≤ _)⟩)
  dsimp only [Pt.U, Pt.locs, Pt.cells, Pt.slots] at X10 l10 y10 z10 st10 hQ10
  subst l10 y10 z10
  obtain ⟨rfl, Nq10, K10, VP10⟩ := hQ10
  have N10 := Fr.app N2 Nq10
  have f11 := f3.keep K10 (allS gn_r2 (all0))
  have f12 := f4.keep K10 (ninS ne_x0_r2 nin0)
  have Z10 := Nat.le_trans Z2 K10.1
  have KK10 := KK2.trans K10 (allS (Or.inr gk_r2) all0)
  have p13 : ∀ t, own_W p e below m T10 23 #[.val (.ref x0), .val (.int (0 : Int32)), .val (.int (4 : Int32)), .val (.ref r2), .val (.int (0 : Int32))] [] t → Steps p.tables e below S0 t := fun t k => p9 t (st10 _ k)
  have VU10 : Arv Z T10.heap r2 kk2 .byte (8 : Int32) [(.int (own_hb c0)), (.int (own_lb c0)), (.int (0 : Int32)), (.int (0 : Int32)), (.int (0 : Int32)), (.int (0 : Int32)), (.int (0 : Int32)), (.int (0 : Int32))] (.int (0 : Int32)) := VP10
  have p14 : ∀ t, own_W p e below m T10 8 #[.val (.ref x0), .val (.int ((0 : Int32) + (1 : Int32))), .val (.int (4 : Int32)), .val (.ref r2), .val (.int ((0 : Int32) + (1 : Int32)))] [] t → Steps p.tables e below S0 t := fun t k => p13 t (by
    show own_W p e below m T10 23 #[.val (.ref x0), .val (.int (0 : Int32)), .val (.int (4 : Int32)), .val (.ref r2), .val (.int (0 : Int32))] [] _
    refine XS.iinc X10.here hx rfl (hb hby dtb4_23) rfl (l' := #[.val (.ref x0), .val (.int ((0 : Int32) + (1 : Int32))), .val (.int (4 : Int32)), .val (.ref r2), .val (.int (0 : Int32))]) rfl ?_
    show own_W p e below m T10 26 #[.val (.ref x0), .val (.int ((0 : Int32) + (1 : Int32))), .val (.int (4 : Int32)), .val (.ref r2), .val (.int (0 : Int32))] [] _
    refine XS.iinc X10.here hx rfl (hb hby dtb4_26) rfl (l' := #[.val (.ref x0), .val (.int ((0 : Int32) + (1 : Int32))), .val (.int (4 : Int32)), .val (.ref r2), .val (.int ((0 : Int32) + (1 : Int32)))]) rfl ?_
    show own_W p e below m T10 29 #[.val (.ref x0), .val (.int ((0 : Int32) + (1 : Int32))), .val (.int (4 : Int32)), .val (.ref r2), .val (.int ((0 : Int32) + (1 : Int32)))] [] _
    refine XS.goto X10.here hx rfl (pc0 := 29) (pc' := 8) rfl (hb hby dtb4_29) (by decide) (by decide) ?_
    exact k)
  have p15 : ∀ t, own_W p e below m T10 8 #[.val (.ref x0), .val (.int (1 : Int32)), .val (.int (4 : Int32)), .val (.ref r2), .val (.int (1 : Int32))] [] t → Steps p.tables e below S0 t := by
    have k := p14
    rw [show ((0 : Int32) + (1 : Int32)) = (1 : Int32) from by decide] at k
    exact k
  have p16 : ∀ t, own_W p e below m T10 19 #[.val (.ref x0), .val (.int (1 : Int32)), .val (.int (4 : Int32)), .val (.ref r2), .val (.int (1 : Int32))] [(.int (1 : Int32)), (.ref x0), (.int (1 : Int32)), (.ref r2)] t → Steps p.tables e below S0 t := fun t k => p15 t (by
    show own_W p e below m T10 8 #[.val (.ref x0), .val (.int (1 : Int32)), .val (.int (4 : Int32)), .val (.ref r2), .val (.int (1 : Int32))] [] _
    refine XS.iload X10.here hx rfl (hb hby dtb4_8) rfl ?_
    show own_W p e below m T10 10 #[.val (.ref x0), .val (.int (1 : Int32)), .val (.int (4 : Int32)), .val (.ref r2), .val (.int (1 : Int32))] [(.int (1 : Int32))] _
    refine XS.iloadN X10.here hx rfl (hb hby dtb4_10) rfl ?_
    show own_W p e below m T10 11 #[.val (.ref x0), .val (.int (1 : Int32)), .val (.int (4 : Int32)), .val (.ref r2), .val (.int (1 : Int32))] [(.int (4 : Int32)), (.int (1 : Int32))] _
    refine XS.icmpNo X10.here hx rfl (hb hby dtb4_11) rfl ((tlt (by decide)).2.1) ?_
    show own_W p e below m T10 14 #[.val (.ref x0), .val (.int (1 : Int32)), .val (.int (4 : Int32)), .val (.ref r2), .val (.int (1 : Int32))] [] _
    refine XS.aloadN X10.here hx rfl (hb hby dtb4_14) rfl rfl ?_
    show own_W p e below m T10 15 #[.val (.ref x0), .val (.int (1 : Int32)), .val (.int (4 : Int32)), .val (.ref r2), .val (.int (1 : Int32))] [(.ref r2)] _
    refine XS.iload X10.here hx rfl (hb hby dtb4_15) rfl ?_
    show own_W p e below m T10 17 #[.val (.ref x0), .val (.int (1 : Int32)), .val (.int (4 : Int32)), .val (.ref r2), .val (.int (1 : Int32))] [(.int (1 : Int32)), (.ref r2)] _
    refine XS.aloadN X10.here hx rfl (hb hby dtb4_17) rfl rfl ?_
    show own_W p e below m T10 18 #[.val (.ref x0), .val (.int (1 : Int32)), .val (.int (4 : Int32)), .val (.ref r2), .val (.int (1 : Int32))] [(.ref x0), (.int (1 : Int32)), (.ref r2)] _
    refine XS.iloadN X10.here hx rfl (hb hby dtb4_18) rfl ?_
    exact k)
  obtain ⟨cl17, Ar17, q17, Sz17, Ng17, Hs17, G17⟩ := id f12
  have hin17 : ¬ ((1 : Int32) < 0 ∨ cl17.slots.size ≤ ((1 : Int32)).toNatClampNeg) := inb_of Sz17 ⟨by decide, by decide⟩
  have hat17 : cl17.slots[((1 : Int32)).toNatClampNeg]? = some (.int c1) := Hs17.at hin17 (rfl)
  have p18 : ∀ t, own_W p e below m T10 20 #[.val (.ref x0), .val (.int (1 : Int32)), .val (.int (4 : Int32)), .val (.ref r2), .val (.int (1 : Int32))] [(.int c1), (.int (1 : Int32)), (.ref r2)] t → Steps p.tables e below S0 t := fun t k => p16 t (by
    show own_W p e below m T10 19 #[.val (.ref x0), .val (.int (1 : Int32)), .val (.int (4 : Int32)), .val (.ref r2), .val (.int (1 : Int32))] [(.int (1 : Int32)), (.ref x0), (.int (1 : Int32)), (.ref r2)] _
    refine X10.caload hx (j := (1 : Int32)) (v := (.int c1)) Ar17.1 (State.isArrayOf_alike hZ.alike Ar17.2.1) Ar17.2.2 hin17 hat17 (g := (mkF m 19 #[.val (.ref x0), .val (.int (1 : Int32)), .val (.int (4 : Int32)), .val (.ref r2), .val (.int (1 : Int32))] [(.int (1 : Int32)), (.ref x0), (.int (1 : Int32)), (.ref r2)])) rfl rfl (hb hby dtb4_19) _ ?_
    exact k)
  obtain ⟨_, _, ⟨T19, L19, k19, n19⟩, -, X19, ⟨Lc19, hQ19, l19, y19, z19⟩, st19⟩ := Jvm.LawKit.callS X10 hx (y := (⟨"java/lang/StringUTF16", "putChar", "([BII)V"⟩ : MethodName)) hown (mvT hZ (hw _ (List.mem_of_getElem? (i := 104) rfl))) (mvT hZ (hw _ (List.mem_of_getElem? (i := 105) rfl))) (mvT hZ (hw _ (List.mem_of_getElem? (i := 93) rfl))) (mvT hZ (hw _ (List.mem_of_getElem? (i := 106) rfl))) (by decide) (backOf (W := 0) (rmpc l Z a0 hw [] r2 (1 : Int32) c1 kk2 (8 : Int32) [(.int (own_hb c0)), (.int (own_lb c0)), (.int (0 : Int32)), (.int (0 : Int32)), (.int (0 : Int32)), (.int (0 : Int32)), (.int (0 : Int32)), (.int (0 : Int32))] 2 cs G T10.heap n0 Z10 VU10 gn_r2 ⟨by decide, by decide⟩ ⟨by decide, by decide⟩ (by decide) (by decide) (Nat.le_of_ble_eq_true rfl) f11 st) hZ (hw _ (List.mem_of_getElem? (i := 106) rfl)) (hw _ (List.mem_of_getElem? (i := 93) rfl)) (by decide) (by decide)) (g := (mkF m 20 #[.val (.ref x0), .val (.int (1 : Int32)), .val (.int (4 : Int32)), .val (.ref r2), .val (.int (1 : Int32))] [(.int c1), (.int (1 : Int32)), (.ref r2)])) rfl (by rw [hml]; rfl) (argsL := [(.ref r2), (.int (1 : Int32)), (.int c1)]) (rest := []) (lenOf pdtb4_1 rfl) rfl (by show 2 * 0 + _ ≤ _; exact Nat.le_of_eq rfl) (hb hby dtb4_20) (fun _ _ => ⟨rfl, rfl, (by decide : 1 + 0 ≤ _), (by decide : 8 + 0 ≤ _)⟩)
  dsimp only [Pt.U, Pt.locs, Pt.cells, Pt.slots] at X19 l19 y19 z19 st19 hQ19
  subst l19 y19 z19
  obtain ⟨rfl, Nq19, K19, VP19⟩ := hQ19
  have N19 := Fr.app N10 Nq19
  have f20 := f11.keep K19 (allS gn_r2 (all0))
  have f21 := f12.keep K19 (ninS ne_x0_r2 nin0)
  have Z19 := Nat.le_trans Z10 K19.1
  have KK19 := KK10.trans K19 (allS (Or.inr gk_r2) all0)
  have p22 : ∀ t, own_W p e below m T19 23 #[.val (.ref x0), .val (.int (1 : Int32)), .val (.int (4 : Int32)), .val (.ref r2), .val (.int (1 : Int32))] [] t → Steps p.tables e below S0 t := fun t k => p18 t (st19 _ k)
  have VU19 : Arv Z T19.heap r2 kk2 .byte (8 : Int32) [(.int (own_hb c0)), (.int (own_lb c0)), (.int (own_hb c1)), (.int (own_lb c1)), (.int (0 : Int32)), (.int (0 : Int32)), (.int (0 : Int32)), (.int (0 : Int32))] (.int (0 : Int32)) := VP19
  have p23 : ∀ t, own_W p e below m T19 8 #[.val (.ref x0), .val (.int ((1 : Int32) + (1 : Int32))), .val (.int (4 : Int32)), .val (.ref r2), .val (.int ((1 : Int32) + (1 : Int32)))] [] t → Steps p.tables e below S0 t := fun t k => p22 t (by
    show own_W p e below m T19 23 #[.val (.ref x0), .val (.int (1 : Int32)), .val (.int (4 : Int32)), .val (.ref r2), .val (.int (1 : Int32))] [] _
    refine XS.iinc X19.here hx rfl (hb hby dtb4_23) rfl (l' := #[.val (.ref x0), .val (.int ((1 : Int32) + (1 : Int32))), .val (.int (4 : Int32)), .val (.ref r2), .val (.int (1 : Int32))]) rfl ?_
    show own_W p e below m T19 26 #[.val (.ref x0), .val (.int ((1 : Int32) + (1 : Int32))), .val (.int (4 : Int32)), .val (.ref r2), .val (.int (1 : Int32))] [] _
    refine XS.iinc X19.here hx rfl (hb hby dtb4_26) rfl (l' := #[.val (.ref x0), .val (.int ((1 : Int32) + (1 : Int32))), .val (.int (4 : Int32)), .val (.ref r2), .val (.int ((1 : Int32) + (1 : Int32)))]) rfl ?_
    show own_W p e below m T19 29 #[.val (.ref x0), .val (.int ((1 : Int32) + (1 : Int32))), .val (.int (4 : Int32)), .val (.ref r2), .val (.int ((1 : Int32) + (1 : Int32)))] [] _
    refine XS.goto X19.here hx rfl (pc0 := 29) (pc' := 8) rfl (hb hby dtb4_29) (by decide) (by decide) ?_
    exact k)
  have p24 : ∀ t, own_W p e below m T19 8 #[.val (.ref x0), .val (.int (2 : Int32)), .val (.int (4 : Int32)), .val (.ref r2), .val (.int (2 : Int32))] [] t → Steps p.tables e below S0 t := by
    have k := p23
    rw [show ((1 : Int32) + (1 : Int32)) = (2 : Int32) from by decide] at k
    exact k
  have p25 : ∀ t, own_W p e below m T19 19 #[.val (.ref x0), .val (.int (2 : Int32)), .val (.int (4 : Int32)), .val (.ref r2), .val (.int (2 : Int32))] [(.int (2 : Int32)), (.ref x0), (.int (2 : Int32)), (.ref r2)] t → Steps p.tables e below S0 t := fun t k => p24 t (by
    show own_W p e below m T19 8 #[.val (.ref x0), .val (.int (2 : Int32)), .val (.int (4 : Int32)), .val (.ref r2), .val (.int (2 : Int32))] [] _
    refine XS.iload X19.here hx rfl (hb hby dtb4_8) rfl ?_
    show own_W p e below m T19 10 #[.val (.ref x0), .val (.int (2 : Int32)), .val (.int (4 : Int32)), .val (.ref r2), .val (.int (2 : Int32))] [(.int (2 : Int32))] _
    refine XS.iloadN X19.here hx rfl (hb hby dtb4_10) rfl ?_
    show own_W p e below m T19 11 #[.val (.ref x0), .val (.int (2 : Int32)), .val (.int (4 : Int32)), .val (.ref r2), .val (.int (2 : Int32))] [(.int (4 : Int32)), (.int (2 : Int32))] _
    refine XS.icmpNo X19.here hx rfl (hb hby dtb4_11) rfl ((tlt (by decide)).2.1) ?_
    show own_W p e below m T19 14 #[.val (.ref x0), .val (.int (2 : Int32)), .val (.int (4 : Int32)), .val (.ref r2), .val (.int (2 : Int32))] [] _
    refine XS.aloadN X19.here hx rfl (hb hby dtb4_14) rfl rfl ?_
    show own_W p e below m T19 15 #[.val (.ref x0), .val (.int (2 : Int32)), .val (.int (4 : Int32)), .val (.ref r2), .val (.int (2 : Int32))] [(.ref r2)] _
    refine XS.iload X19.here hx rfl (hb hby dtb4_15) rfl ?_
    show own_W p e below m T19 17 #[.val (.ref x0), .val (.int (2 : Int32)), .val (.int (4 : Int32)), .val (.ref r2), .val (.int (2 : Int32))] [(.int (2 : Int32)), (.ref r2)] _
    refine XS.aloadN X19.here hx rfl (hb hby dtb4_17) rfl rfl ?_
    show own_W p e below m T19 18 #[.val (.ref x0), .val (.int (2 : Int32)), .val (.int (4 : Int32)), .val (.ref r2), .val (.int (2 : Int32))] [(.ref x0), (.int (2 : Int32)), (.ref r2)] _
    refine XS.iloadN X19.here hx rfl (hb hby dtb4_18) rfl ?_
    exact k)
  obtain ⟨cl26, Ar26, q26, Sz26, Ng26, Hs26, G26⟩ := id f21
  have hin26 : ¬ ((2 : Int32) < 0 ∨ cl26.slots.size ≤ ((2 : Int32)).toNatClampNeg) := inb_of Sz26 ⟨by decide, by decide⟩
  have hat26 : cl26.slots[((2 : Int32)).toNatClampNeg]? = some (.int c2) := Hs26.at hin26 (rfl)
  have p27 : ∀ t, own_W p e below m T19 20 #[.val (.ref x0), .val (.int (2 : Int32)), .val (.int (4 : Int32)), .val (.ref r2), .val (.int (2 : Int32))] [(.int c2), (.int (2 : Int32)), (.ref r2)] t → Steps p.tables e below S0 t := fun t k => p25 t (by
    show own_W p e below m T19 19 #[.val (.ref x0), .val (.int (2 : Int32)), .val (.int (4 : Int32)), .val (.ref r2), .val (.int (2 : Int32))] [(.int (2 : Int32)), (.ref x0), (.int (2 : Int32)), (.ref r2)] _
    refine X19.caload hx (j := (2 : Int32)) (v := (.int c2)) Ar26.1 (State.isArrayOf_alike hZ.alike Ar26.2.1) Ar26.2.2 hin26 hat26 (g := (mkF m 19 #[.val (.ref x0), .val (.int (2 : Int32)), .val (.int (4 : Int32)), .val (.ref r2), .val (.int (2 : Int32))] [(.int (2 : Int32)), (.ref x0), (.int (2 : Int32)), (.ref r2)])) rfl rfl (hb hby dtb4_19) _ ?_
    exact k)
  obtain ⟨_, _, ⟨T28, L28, k28, n28⟩, -, X28, ⟨Lc28, hQ28, l28, y28, z28⟩, st28⟩ := Jvm.LawKit.callS X19 hx (y := (⟨"java/lang/StringUTF16", "putChar", "([BII)V"⟩ : MethodName)) hown (mvT hZ (hw _ (List.mem_of_getElem? (i := 104) rfl))) (mvT hZ (hw _ (List.mem_of_getElem? (i := 105) rfl))) (mvT hZ (hw _ (List.mem_of_getElem? (i := 93) rfl))) (mvT hZ (hw _ (List.mem_of_getElem? (i := 106) rfl))) (by decide) (backOf (W := 0) (rmpc l Z a0 hw [] r2 (2 : Int32) c2 kk2 (8 : Int32) [(.int (own_hb c0)), (.int (own_lb c0)), (.int (own_hb c1)), (.int (own_lb c1)), (.int (0 : Int32)), (.int (0 : Int32)), (.int (0 : Int32)), (.int (0 : Int32))] 4 cs G T19.heap n0 Z19 VU19 gn_r2 ⟨by decide, by decide⟩ ⟨by decide, by decide⟩ (by decide) (by decide) (Nat.le_of_ble_eq_true rfl) f20 st) hZ (hw _ (List.mem_of_getElem? (i := 106) rfl)) (hw _ (List.mem_of_getElem? (i := 93) rfl)) (by decide) (by decide)) (g := (mkF m 20 #[.val (.ref x0), .val (.int (2 : Int32)), .val (.int (4 : Int32)), .val (.ref r2), .val (.int (2 : Int32))] [(.int c2), (.int (2 : Int32)), (.ref r2)])) rfl (by rw [hml]; rfl) (argsL := [(.ref r2), (.int (2 : Int32)), (.int c2)]) (rest := []) (lenOf pdtb4_1 rfl) rfl (by show 2 * 0 + _ ≤ _; exact Nat.le_of_eq rfl) (hb hby dtb4_20) (fun _ _ => ⟨rfl, rfl, (by decide : 1 + 0 ≤ _), (by decide : 8 + 0 ≤ _)⟩)
  dsimp only [Pt.U, Pt.locs, Pt.cells, Pt.slots] at X28 l28 y28 z28 st28 hQ28
  subst l28 y28 z28
  obtain ⟨rfl, Nq28, K28, VP28⟩ := hQ28
  have N28 := Fr.app N19 Nq28
  have f29 := f20.keep K28 (allS gn_r2 (all0))
  have f30 := f21.keep K28 (ninS ne_x0_r2 nin0)
  have Z28 := Nat.le_trans Z19 K28.1
  have KK28 := KK19.trans K28 (allS (Or.inr gk_r2) all0)
  have p31 : ∀ t, own_W p e below m T28 23 #[.val (.ref x0), .val (.int (2 : Int32)), .val (.int (4 : Int32)), .val (.ref r2), .val (.int (2 : Int32))] [] t → Steps p.tables e below S0 t := fun t k => p27 t (st28 _ k)
  have VU28 : Arv Z T28.heap r2 kk2 .byte (8 : Int32) [(.int (own_hb c0)), (.int (own_lb c0)), (.int (own_hb c1)), (.int (own_lb c1)), (.int (own_hb c2)), (.int (own_lb c2)), (.int (0 : Int32)), (.int (0 : Int32))] (.int (0 : Int32)) := VP28
  have p32 : ∀ t, own_W p e below m T28 8 #[.val (.ref x0), .val (.int ((2 : Int32) + (1 : Int32))), .val (.int (4 : Int32)), .val (.ref r2), .val (.int ((2 : Int32) + (1 : Int32)))] [] t → Steps p.tables e below S0 t := fun t k => p31 t (by
    show own_W p e below m T28 23 #[.val (.ref x0), .val (.int (2 : Int32)), .val (.int (4 : Int32)), .val (.ref r2), .val (.int (2 : Int32))] [] _
    refine XS.iinc X28.here hx rfl (hb hby dtb4_23) rfl (l' := #[.val (.ref x0), .val (.int ((2 : Int32) + (1 : Int32))), .val (.int (4 : Int32)), .val (.ref r2), .val (.int (2 : Int32))]) rfl ?_
    show own_W p e below m T28 26 #[.val (.ref x0), .val (.int ((2 : Int32) + (1 : Int32))), .val (.int (4 : Int32)), .val (.ref r2), .val (.int (2 : Int32))] [] _
    refine XS.iinc X28.here hx rfl (hb hby dtb4_26) rfl (l' := #[.val (.ref x0), .val (.int ((2 : Int32) + (1 : Int32))), .val (.int (4 : Int32)), .val (.ref r2), .val (.int ((2 : Int32) + (1 : Int32)))]) rfl ?_
    show own_W p e below m T28 29 #[.val (.ref x0), .val (.int ((2 : Int32) + (1 : Int32))), .val (.int (4 : Int32)), .val (.ref r2), .val (.int ((2 : Int32) + (1 : Int32)))] [] _
    refine XS.goto X28.here hx rfl (pc0 := 29) (pc' := 8) rfl (hb hby dtb4_29) (by decide) (by decide) ?_
    exact k)
  have p33 : ∀ t, own_W p e below m T28 8 #[.val (.ref x0), .val (.int (3 : Int32)), .val (.int (4 : Int32)), .val (.ref r2), .val (.int (3 : Int32))] [] t → Steps p.tables e below S0 t := by
    have k := p32
    rw [show ((2 : Int32) + (1 : Int32)) = (3 : Int32) from by decide] at k
    exact k
  have p34 : ∀ t, own_W p e below m T28 19 #[.val (.ref x0), .val (.int (3 : Int32)), .val (.int (4 : Int32)), .val (.ref r2), .val (.int (3 : Int32))] [(.int (3 : Int32)), (.ref x0), (.int (3 : Int32)), (.ref r2)] t → Steps p.tables e below S0 t := fun t k => p33 t (by
    show own_W p e below m T28 8 #[.val (.ref x0), .val (.int (3 : Int32)), .val (.int (4 : Int32)), .val (.ref r2), .val (.int (3 : Int32))] [] _
    refine XS.iload X28.here hx rfl (hb hby dtb4_8) rfl ?_
    show own_W p e below m T28 10 #[.val (.ref x0), .val (.int (3 : Int32)), .val (.int (4 : Int32)), .val (.ref r2), .val (.int (3 : Int32))] [(.int (3 : Int32))] _
    refine XS.iloadN X28.here hx rfl (hb hby dtb4_10) rfl ?_
    show own_W p e below m T28 11 #[.val (.ref x0), .val (.int (3 : Int32)), .val (.int (4 : Int32)), .val (.ref r2), .val (.int (3 : Int32))] [(.int (4 : Int32)), (.int (3 : Int32))] _
    refine XS.icmpNo X28.here hx rfl (hb hby dtb4_11) rfl ((tlt (by decide)).2.1) ?_
    show own_W p e below m T28 14 #[.val (.ref x0), .val (.int (3 : Int32)), .val (.int (4 : Int32)), .val (.ref r2), .val (.int (3 : Int32))] [] _
    refine XS.aloadN X28.here hx rfl (hb hby dtb4_14) rfl rfl ?_
    show own_W p e below m T28 15 #[.val (.ref x0), .val (.int (3 : Int32)), .val (.int (4 : Int32)), .val (.ref r2), .val (.int (3 : Int32))] [(.ref r2)] _
    refine XS.iload X28.here hx rfl (hb hby dtb4_15) rfl ?_
    show own_W p e below m T28 17 #[.val (.ref x0), .val (.int (3 : Int32)), .val (.int (4 : Int32)), .val (.ref r2), .val (.int (3 : Int32))] [(.int (3 : Int32)), (.ref r2)] _
    refine XS.aloadN X28.here hx rfl (hb hby dtb4_17) rfl rfl ?_
    show own_W p e below m T28 18 #[.val (.ref x0), .val (.int (3 : Int32)), .val (.int (4 : Int32)), .val (.ref r2), .val (.int (3 : Int32))] [(.ref x0), (.int (3 : Int32)), (.ref r2)] _
    refine XS.iloadN X28.here hx rfl (hb hby dtb4_18) rfl ?_
    exact k)
  obtain ⟨cl35, Ar35, q35, Sz35, Ng35, Hs35, G35⟩ := id f30
  have hin35 : ¬ ((3 : Int32) < 0 ∨ cl35.slots.size ≤ ((3 : Int32)).toNatClampNeg) := inb_of Sz35 ⟨by decide, by decide⟩
  have hat35 : cl35.slots[((3 : Int32)).toNatClampNeg]? = some (.int c3) := Hs35.at hin35 (rfl)
  have p36 : ∀ t, own_W p e below m T28 20 #[.val (.ref x0), .val (.int (3 : Int32)), .val (.int (4 : Int32)), .val (.ref r2), .val (.int (3 : Int32))] [(.int c3), (.int (3 : Int32)), (.ref r2)] t → Steps p.tables e below S0 t := fun t k => p34 t (by
    show own_W p e below m T28 19 #[.val (.ref x0), .val (.int (3 : Int32)), .val (.int (4 : Int32)), .val (.ref r2), .val (.int (3 : Int32))] [(.int (3 : Int32)), (.ref x0), (.int (3 : Int32)), (.ref r2)] _
    refine X28.caload hx (j := (3 : Int32)) (v := (.int c3)) Ar35.1 (State.isArrayOf_alike hZ.alike Ar35.2.1) Ar35.2.2 hin35 hat35 (g := (mkF m 19 #[.val (.ref x0), .val (.int (3 : Int32)), .val (.int (4 : Int32)), .val (.ref r2), .val (.int (3 : Int32))] [(.int (3 : Int32)), (.ref x0), (.int (3 : Int32)), (.ref r2)])) rfl rfl (hb hby dtb4_19) _ ?_
    exact k)
  obtain ⟨_, _, ⟨T37, L37, k37, n37⟩, -, X37, ⟨Lc37, hQ37, l37, y37, z37⟩, st37⟩ := Jvm.LawKit.callS X28 hx (y := (⟨"java/lang/StringUTF16", "putChar", "([BII)V"⟩ : MethodName)) hown (mvT hZ (hw _ (List.mem_of_getElem? (i := 104) rfl))) (mvT hZ (hw _ (List.mem_of_getElem? (i := 105) rfl))) (mvT hZ (hw _ (List.mem_of_getElem? (i := 93) rfl))) (mvT hZ (hw _ (List.mem_of_getElem? (i := 106) rfl))) (by decide) (backOf (W := 0) (rmpc l Z a0 hw [] r2 (3 : Int32) c3 kk2 (8 : Int32) [(.int (own_hb c0)), (.int (own_lb c0)), (.int (own_hb c1)), (.int (own_lb c1)), (.int (own_hb c2)), (.int (own_lb c2)), (.int (0 : Int32)), (.int (0 : Int32))] 6 cs G T28.heap n0 Z28 VU28 gn_r2 ⟨by decide, by decide⟩ ⟨by decide, by decide⟩ (by decide) (by decide) (Nat.le_of_ble_eq_true rfl) f29 st) hZ (hw _ (List.mem_of_getElem? (i := 106) rfl)) (hw _ (List.mem_of_getElem? (i := 93) rfl)) (by decide) (by decide)) (g := (mkF m 20 #[.val (.ref x0), .val (.int (3 : Int32)), .val (.int (4 : Int32)), .val (.ref r2), .val (.int (3 : Int32))] [(.int c3), (.int (3 : Int32)), (.ref r2)])) rfl (by rw [hml]; rfl) (argsL := [(.ref r2), (.int (3 : Int32)), (.int c3)]) (rest := []) (lenOf pdtb4_1 rfl) rfl (by show 2 * 0 + _ ≤ _; exact Nat.le_of_eq rfl) (hb hby dtb4_20) (fun _ _ => ⟨rfl, rfl, (by decide : 1 + 0 ≤ _), (by decide : 8 + 0 ≤ _)⟩)
  dsimp only [Pt.U, Pt.locs, Pt.cells, Pt.slots] at X37 l37 y37 z37 st37 hQ37
  subst l37 y37 z37
  obtain ⟨rfl, Nq37, K37, VP37⟩ := hQ37
  have N37 := Fr.app N28 Nq37
  have f38 := f29.keep K37 (allS gn_r2 (all0))
  have f39 := f30.keep K37 (ninS ne_x0_r2 nin0)
  have Z37 := Nat.le_trans Z28 K37.1
  have KK37 := KK28.trans K37 (allS (Or.inr gk_r2) all0)
  have p40 : ∀ t, own_W p e below m T37 23 #[.val (.ref x0), .val (.int (3 : Int32)), .val (.int (4 : Int32)), .val (.ref r2), .val (.int (3 : Int32))] [] t → Steps p.tables e below S0 t := fun t k => p36 t (st37 _ k)
  have VU37 : Arv Z T37.heap r2 kk2 .byte (8 : Int32) [(.int (own_hb c0)), (.int (own_lb c0)), (.int (own_hb c1)), (.int (own_lb c1)), (.int (own_hb c2)), (.int (own_lb c2)), (.int (own_hb c3)), (.int (own_lb c3))] (.int (0 : Int32)) := VP37
  have p41 : ∀ t, own_W p e below m T37 8 #[.val (.ref x0), .val (.int ((3 : Int32) + (1 : Int32))), .val (.int (4 : Int32)), .val (.ref r2), .val (.int ((3 : Int32) + (1 : Int32)))] [] t → Steps p.tables e below S0 t := fun t k => p40 t (by
    show own_W p e below m T37 23 #[.val (.ref x0), .val (.int (3 : Int32)), .val (.int (4 : Int32)), .val (.ref r2), .val (.int (3 : Int32))] [] _
    refine XS.iinc X37.here hx rfl (hb hby dtb4_23) rfl (l' := #[.val (.ref x0), .val (.int ((3 : Int32) + (1 : Int32))), .val (.int (4 : Int32)), .val (.ref r2), .val (.int (3 : Int32))]) rfl ?_
    show own_W p e below m T37 26 #[.val (.ref x0), .val (.int ((3 : Int32) + (1 : Int32))), .val (.int (4 : Int32)), .val (.ref r2), .val (.int (3 : Int32))] [] _
    refine XS.iinc X37.here hx rfl (hb hby dtb4_26) rfl (l' := #[.val (.ref x0), .val (.int ((3 : Int32) + (1 : Int32))), .val (.int (4 : Int32)), .val (.ref r2), .val (.int ((3 : Int32) + (1 : Int32)))]) rfl ?_
    show own_W p e below m T37 29 #[.val (.ref x0), .val (.int ((3 : Int32) + (1 : Int32))), .val (.int (4 : Int32)), .val (.ref r2), .val (.int ((3 : Int32) + (1 : Int32)))] [] _
    refine XS.goto X37.here hx rfl (pc0 := 29) (pc' := 8) rfl (hb hby dtb4_29) (by decide) (by decide) ?_
    exact k)
  have p42 : ∀ t, own_W p e below m T37 8 #[.val (.ref x0), .val (.int (4 : Int32)), .val (.int (4 : Int32)), .val (.ref r2), .val (.int (4 : Int32))] [] t → Steps p.tables e below S0 t := by
    have k := p41
    rw [show ((3 : Int32) + (1 : Int32)) = (4 : Int32) from by decide] at k
    exact k
  have p43 : ∀ t, own_W p e below m T37 33 #[.val (.ref x0), .val (.int (4 : Int32)), .val (.int (4 : Int32)), .val (.ref r2), .val (.int (4 : Int32))] [(.ref r2)] t → Steps p.tables e below S0 t := fun t k => p42 t (by
    show own_W p e below m T37 8 #[.val (.ref x0), .val (.int (4 : Int32)), .val (.int (4 : Int32)), .val (.ref r2), .val (.int (4 : Int32))] [] _
    refine XS.iload X37.here hx rfl (hb hby dtb4_8) rfl ?_
    show own_W p e below m T37 10 #[.val (.ref x0), .val (.int (4 : Int32)), .val (.int (4 : Int32)), .val (.ref r2), .val (.int (4 : Int32))] [(.int (4 : Int32))] _
    refine XS.iloadN X37.here hx rfl (hb hby dtb4_10) rfl ?_
    show own_W p e below m T37 11 #[.val (.ref x0), .val (.int (4 : Int32)), .val (.int (4 : Int32)), .val (.ref r2), .val (.int (4 : Int32))] [(.int (4 : Int32)), (.int (4 : Int32))] _
    refine XS.icmpYes X37.here hx rfl (pc0 := 11) (pc' := 32) rfl (hb hby dtb4_11) rfl ((flt (by decide)).2.1) (by decide) (by decide) ?_
    show own_W p e below m T37 32 #[.val (.ref x0), .val (.int (4 : Int32)), .val (.int (4 : Int32)), .val (.ref r2), .val (.int (4 : Int32))] [] _
    refine XS.aloadN X37.here hx rfl (hb hby dtb4_32) rfl rfl ?_
    exact k)
  subst hS0
  obtain ⟨fs, hr, hrun, hended, hW, hsame⟩ := X37.leave (v := some (.ref r2)) (fun h => by rw [Bd.returns] at h; cases h)
  refine ⟨_, _, p43 _ ?_, hrun, hended, _, _, rfl, ?_, ⟨_, rfl⟩, hW, hsame.mono (by decide) (by decide)⟩
  · show own_W p e below m T37 33 #[.val (.ref x0), .val (.int (4 : Int32)), .val (.int (4 : Int32)), .val (.ref r2), .val (.int (4 : Int32))] [(.ref r2)] _
    exact retOut X37 hx Bd.returns rfl (Or.inr (Or.inr (Or.inr (Or.inr ⟨rfl, rfl, rfl⟩)))) (hb hby dtb4_33) hr
  · show Qtb4 Z x0 kc c0 c1 c2 c3 cs G h0 n0 _ T37.heap _
    skip
    exact ⟨_, _, rfl, N37, KK37, gk_r2, VU37⟩
theorem dcf_0 : decode jdk_52_method_15_code 0 = .ok (.iload_n 1, 1) := by decide +kernel
theorem dcf_1 : decode jdk_52_method_15_code 1 = .ok (.aload_n 0, 1) := by decide +kernel
theorem dcf_2 : decode jdk_52_method_15_code 2 = .ok (.arraylength, 1) := by decide +kernel
theorem dcf_3 : decode jdk_52_method_15_code 3 = .ok (.isub, 1) := by decide +kernel
theorem dcf_4 : decode jdk_52_method_15_code 4 = .ok (.bipush 31, 2) := by decide +kernel
theorem dcf_6 : decode jdk_52_method_15_code 6 = .ok (.iushr, 1) := by decide +kernel
theorem dcf_7 : decode jdk_52_method_15_code 7 = .ok (.i2b, 1) := by decide +kernel
theorem dcf_8 : decode jdk_52_method_15_code 8 = .ok (.ireturn, 1) := by decide +kernel
theorem pncf : plainName "java/lang/StringUTF16" = true := by first | (simp [plainName, overriddenIn]; done) | decide +kernel
theorem efcf (m : MethodId) (x0 : Addr) (x1 : Int32) : entryFrame m #[(.ref x0), (.int x1)] 2 = mkF m 0 #[.val (.ref x0), .val (.int x1)] [] := by first | (simp [entryFrame, mkF, argsToLocals, Value.category]; done) | rfl
def Qcf (Z : State) (x0 : Addr) (x1 : Int32) (kb : ClassId) (N : Int32) (vs : List Value) (r : Int32) (h0 : Heap) (n0 : Nat) (v : Option Value) (h : Heap) (L : List Loc) : Prop := v = some (.int r) ∧ Fr n0 L ∧ h = h0
set_option maxRecDepth 65536 in
set_option maxHeartbeats 40000000 in
theorem rmcf (l : Launch) (Z : State) (a0 : Array Value) (hw : ∀ d ∈ tables_1, d.before a0 Z = true) (ws : List Jvm.Cond) (x0 : Addr) (x1 : Int32) (kb : ClassId) (N : Int32) (vs : List Value) (r : Int32) (h0 : Heap) (n0 : Nat) (Z0 : n0 ≤ h0.size) (V0 : Arv Z h0 x0 kb .byte N vs (.int (0 : Int32))) (hrr : (nar .byte ((((x1 - N).toUInt32 >>> ((31 : Int32) &&& 31).toUInt32).toInt32).toInt8.toInt32)) = r) :
    MetFree l (⟨"java/lang/StringUTF16", "coderFromArrayLen", "([BI)B"⟩ : MethodName) (head1 (Jvm.Cond.code (⟨"java/lang/StringUTF16", "coderFromArrayLen", "([BI)B"⟩ : MethodName) jdk_52_method_15_code 2 (some .byte) :: ws) ({ frames := 0, cells := 0, slots := 0, locals := 0 } : Room)) (fun a U => a = #[(.ref x0), (.int x1)] ∧ Z.Warmed39 U.vm ∧ U.heap = h0) (fun _ _ _ _ _ => True) (fun _ U o U' => ∃ v L, o = .returned v ∧ Qcf Z x0 x1 kb N vs r h0 n0 v U'.heap L ∧ FrameEnd U o U' L ({ frames := 0, cells := 0, slots := 0, locals := 0 } : Room).cells ({ frames := 0, cells := 0, slots := 0, locals := 0 } : Room).slots) := by
  refine MetFree.of_bodySF (plainFor_of_name pncf) hisR ?_
  intro p e s m args below meth c s₁ Bd hml0 hP hK
  obtain ⟨rfl, hZ, hh⟩ := hP
  have hx := Bd.exec
  have hby := Bd.bytes
  have hml : c.maxLocals = 2 := hml0
  have hown : s.vm.findClass "java/lang/StringUTF16" = some m.cls := findClass_of_methodNamed Bd.named
  have hnm := (name_of_methodNamed Bd.named Bd.method).1
  have X0 : Stand p l e ({ frames := 0, cells := 0, slots := 0, locals := 0 } : Room) s m #[(.ref x0), (.int x1)] below meth c s₁ [] 0 0 := Stand.of_body Bd
  have e0 : s₁.heap = h0 := by rw [← hh, Bd.state]; rfl
  have N0 := Fr.nil n0
  have pre0 : ∀ t, Steps p.tables e below (s₁.setTop (mkF m 0 #[.val (.ref x0), .val (.int x1)] [])) t → Steps p.tables e below (s₁.setTop (entryFrame m #[(.ref x0), (.int x1)] 2)) t := fun t k => castTop (efcf m x0 x1) k
  obtain ⟨S0, hS0⟩ : ∃ z, z = (s₁.setTop (entryFrame m #[(.ref x0), (.int x1)] 2)) := ⟨_, rfl⟩
  rw [← hS0] at pre0
  have p1 : ∀ t, own_W p e below m s₁ 2 #[.val (.ref x0), .val (.int x1)] [(.ref x0), (.int x1)] t → Steps p.tables e below S0 t := fun t k => pre0 t (by
    show own_W p e below m s₁ 0 #[.val (.ref x0), .val (.int x1)] [] _
    refine XS.iloadN X0.here hx rfl (hb hby dcf_0) rfl ?_
    show own_W p e below m s₁ 1 #[.val (.ref x0), .val (.int x1)] [(.int x1)] _
    refine XS.aloadN X0.here hx rfl (hb hby dcf_1) rfl rfl ?_
    exact k)
  obtain ⟨cl2, Ar2, -, Sz2, Ng2, -, -⟩ := id V0
  have p3 : ∀ t, own_W p e below m s₁ 8 #[.val (.ref x0), .val (.int x1)] [(.int ((((x1 - N).toUInt32 >>> ((31 : Int32) &&& 31).toUInt32).toInt32).toInt8.toInt32))] t → Steps p.tables e below S0 t := fun t k => p1 t (by
    show own_W p e below m s₁ 2 #[.val (.ref x0), .val (.int x1)] [(.ref x0), (.int x1)] _
    refine X0.arraylength hx (by rw [e0]; exact Ar2.1) (State.isArrayOf_alike hZ.alike Ar2.2.1) (g := (mkF m 2 #[.val (.ref x0), .val (.int x1)] [(.ref x0), (.int x1)])) rfl rfl (hb hby dcf_2) _ ?_
    rw [len_of Sz2 Ng2]
    show own_W p e below m s₁ 3 #[.val (.ref x0), .val (.int x1)] [(.int N), (.int x1)] _
    refine XS.isub X0.here hx rfl (hb hby dcf_3) rfl ?_
    show own_W p e below m s₁ 4 #[.val (.ref x0), .val (.int x1)] [(.int (x1 - N))] _
    refine XS.bipush X0.here hx rfl (hb hby dcf_4) ?_
    show own_W p e below m s₁ 6 #[.val (.ref x0), .val (.int x1)] [(.int (31 : Int32)), (.int (x1 - N))] _
    refine XS.iushr X0.here hx rfl (hb hby dcf_6) rfl ?_
    show own_W p e below m s₁ 7 #[.val (.ref x0), .val (.int x1)] [(.int (((x1 - N).toUInt32 >>> ((31 : Int32) &&& 31).toUInt32).toInt32))] _
    refine XS.i2b X0.here hx rfl (hb hby dcf_7) rfl ?_
    exact k)
  subst hS0
  obtain ⟨fs, hr, hrun, hended, hW, hsame⟩ := X0.leave (v := some (.int (nar .byte ((((x1 - N).toUInt32 >>> ((31 : Int32) &&& 31).toUInt32).toInt32).toInt8.toInt32)))) (fun h => by rw [Bd.returns] at h; cases h)
  refine ⟨_, _, p3 _ ?_, hrun, hended, _, _, rfl, ?_, ⟨_, rfl⟩, hW, hsame.mono (by decide) (by decide)⟩
  · show own_W p e below m s₁ 8 #[.val (.ref x0), .val (.int x1)] [(.int ((((x1 - N).toUInt32 >>> ((31 : Int32) &&& 31).toUInt32).toInt32).toInt8.toInt32))] _
    exact retN X0 hx (t := .byte) Bd.returns (by simp) (hb hby dcf_8) hr
  · show Qcf Z x0 x1 kb N vs r h0 n0 _ s₁.heap _
    rw [e0]
    exact ⟨congrArg (fun z => some (Value.int z)) hrr, N0, rfl⟩
theorem own_pick2 {r c0 c1 : Int32} (ko0 : own_ok c0) (ko1 : own_ok c1) (h : (r = (0 : Int32) ∧ (255 : Int32) < c0) ∨ (r = (1 : Int32) ∧ (255 : Int32) < c1)) : ¬ r = (2 : Int32) ∧ ∃ c : Int32, own_ok c ∧ (255 : Int32) < c ∧ (¬ (r <<< ((1 : Int32) &&& 31)) < 0 ∧ (r <<< ((1 : Int32) &&& 31)) < (4 : Int32)) ∧ (¬ ((r <<< ((1 : Int32) &&& 31)) + (1 : Int32)) < 0 ∧ ((r <<< ((1 : Int32) &&& 31)) + (1 : Int32)) < (4 : Int32)) ∧ ([(.int (own_hb c0)), (.int (own_lb c0)), (.int (own_hb c1)), (.int (own_lb c1))] : List Value).getD ((r <<< ((1 : Int32) &&& 31))).toNatClampNeg (.int (0 : Int32)) = (.int (own_hb c)) ∧ ([(.int (own_hb c0)), (.int (own_lb c0)), (.int (own_hb c1)), (.int (own_lb c1))] : List Value).getD (((r <<< ((1 : Int32) &&& 31)) + (1 : Int32))).toNatClampNeg (.int (0 : Int32)) = (.int (own_lb c)) := by
  rcases h with ⟨rfl, g⟩ | ⟨rfl, g⟩
  · exact ⟨by decide, c0, ko0, g, ⟨by decide, by decide⟩, ⟨by decide, by decide⟩, rfl, rfl⟩
  · exact ⟨by decide, c1, ko1, g, ⟨by decide, by decide⟩, ⟨by decide, by decide⟩, rfl, rfl⟩
theorem dc52_0 : decode jdk_52_method_21_code 0 = .ok (.iconst 0, 1) := by decide +kernel
theorem dc52_1 : decode jdk_52_method_21_code 1 = .ok (.istore 5, 2) := by decide +kernel
theorem dc52_3 : decode jdk_52_method_21_code 3 = .ok (.iload 5, 2) := by decide +kernel
theorem dc52_5 : decode jdk_52_method_21_code 5 = .ok (.iload 4, 2) := by decide +kernel
theorem dc52_7 : decode jdk_52_method_21_code 7 = .ok (.if_icmp .ge 37, 3) := by decide +kernel
theorem dc52_10 : decode jdk_52_method_21_code 10 = .ok (.aload_n 0, 1) := by decide +kernel
theorem dc52_11 : decode jdk_52_method_21_code 11 = .ok (.iload_n 1, 1) := by decide +kernel
theorem dc52_12 : decode jdk_52_method_21_code 12 = .ok (.caload, 1) := by decide +kernel
theorem dc52_13 : decode jdk_52_method_21_code 13 = .ok (.istore 6, 2) := by decide +kernel
theorem dc52_15 : decode jdk_52_method_21_code 15 = .ok (.iload 6, 2) := by decide +kernel
theorem dc52_17 : decode jdk_52_method_21_code 17 = .ok (.sipush 255, 3) := by decide +kernel
theorem dc52_20 : decode jdk_52_method_21_code 20 = .ok (.if_icmp .le 6, 3) := by decide +kernel
theorem dc52_23 : decode jdk_52_method_21_code 23 = .ok (.iload 5, 2) := by decide +kernel
theorem dc52_25 : decode jdk_52_method_21_code 25 = .ok (.ireturn, 1) := by decide +kernel
theorem dc52_26 : decode jdk_52_method_21_code 26 = .ok (.aload_n 2, 1) := by decide +kernel
theorem dc52_27 : decode jdk_52_method_21_code 27 = .ok (.iload_n 3, 1) := by decide +kernel
theorem dc52_28 : decode jdk_52_method_21_code 28 = .ok (.iload 6, 2) := by decide +kernel
theorem dc52_30 : decode jdk_52_method_21_code 30 = .ok (.i2b, 1) := by decide +kernel
theorem dc52_31 : decode jdk_52_method_21_code 31 = .ok (.bastore, 1) := by decide +kernel
theorem dc52_32 : decode jdk_52_method_21_code 32 = .ok (.iinc 1 1, 3) := by decide +kernel
theorem dc52_35 : decode jdk_52_method_21_code 35 = .ok (.iinc 3 1, 3) := by decide +kernel
theorem dc52_38 : decode jdk_52_method_21_code 38 = .ok (.iinc 5 1, 3) := by decide +kernel
theorem dc52_41 : decode jdk_52_method_21_code 41 = .ok (.goto (-38), 3) := by decide +kernel
theorem dc52_44 : decode jdk_52_method_21_code 44 = .ok (.iload 4, 2) := by decide +kernel
theorem dc52_46 : decode jdk_52_method_21_code 46 = .ok (.ireturn, 1) := by decide +kernel
theorem pnc52 : plainName "java/lang/StringUTF16" = true := by first | (simp [plainName, overriddenIn]; done) | decide +kernel
theorem efc52 (m : MethodId) (x0 : Addr) (x2 : Addr) : entryFrame m #[(.ref x0), (.int (0 : Int32)), (.ref x2), (.int (0 : Int32)), (.int (2 : Int32))] 7 = mkF m 0 #[.val (.ref x0), .val (.int (0 : Int32)), .val (.ref x2), .val (.int (0 : Int32)), .val (.int (2 : Int32)), .unset, .unset] [] := by first | (simp [entryFrame, mkF, argsToLocals, Value.category]; done) | rfl
def Qc52 (Z : State) (x0 : Addr) (x2 : Addr) (kc : ClassId) (kb : ClassId) (c0 : Int32) (c1 : Int32) (h0 : Heap) (n0 : Nat) (v : Option Value) (h : Heap) (L : List Loc) : Prop := ∃ r : Int32, v = some (.int r) ∧ Fr n0 L ∧ Keep h0 h [x2] ∧ ((r = (2 : Int32) ∧ Arv Z h x2 kb .byte (2 : Int32) [(.int (own_lo c0)), (.int (own_lo c1))] (.int (0 : Int32)) ∧ ¬ (255 : Int32) < c0 ∧ ¬ (255 : Int32) < c1) ∨ ((r = (0 : Int32) ∧ (255 : Int32) < c0) ∨ (r = (1 : Int32) ∧ (255 : Int32) < c1)))
set_option maxRecDepth 65536 in
set_option maxHeartbeats 40000000 in
theorem rmc52 (l : Launch) (Z : State) (a0 : Array Value) (hw : ∀ d ∈ tables_1, d.before a0 Z = true) (ws : List Jvm.Cond) (x0 : Addr) (x2 : Addr) (kc : ClassId) (kb : ClassId) (c0 : Int32) (c1 : Int32) (h0 : Heap) (n0 : Nat) (Z0 : n0 ≤ h0.size) (V0 : Arv Z h0 x0 kc .char (2 : Int32) [(.int c0), (.int c1)] (.int (0 : Int32))) (V2 : Arv Z h0 x2 kb .byte (2 : Int32) [(.int (0 : Int32)), (.int (0 : Int32))] (.int (0 : Int32))) (g2 : n0 ≤ x2) (ne : x0 ≠ x2) :
    MetFree l (⟨"java/lang/StringUTF16", "compress", "([CI[BII)I"⟩ : MethodName) (head1 (Jvm.Cond.code (⟨"java/lang/StringUTF16", "compress", "([CI[BII)I"⟩ : MethodName) jdk_52_method_21_code 7 (some .int) :: ws) ({ frames := 0, cells := 0, slots := 0, locals := 0 } : Room)) (fun a U => a = #[(.ref x0), (.int (0 : Int32)), (.ref x2), (.int (0 : Int32)), (.int (2 : Int32))] ∧ Z.Warmed39 U.vm ∧ U.heap = h0) (fun _ _ _ _ _ => True) (fun _ U o U' => ∃ v L, o = .returned v ∧ Qc52 Z x0 x2 kc kb c0 c1 h0 n0 v U'.heap L ∧ FrameEnd U o U' L ({ frames := 0, cells := 0, slots := 0, locals := 0 } : Room).cells ({ frames := 0, cells := 0, slots := 0, locals := 0 } : Room).slots) := by
  refine MetFree.of_bodySF (plainFor_of_name pnc52) hisR ?_
  intro p e s m args below meth c s₁ Bd hml0 hP hK
  obtain ⟨rfl, hZ, hh⟩ := hP
  have hx := Bd.exec
  have hby := Bd.bytes
  have hml : c.maxLocals = 7 := hml0
  have hown : s.vm.findClass "java/lang/StringUTF16" = some m.cls := findClass_of_methodNamed Bd.named
  have hnm := (name_of_methodNamed Bd.named Bd.method).1
  have X0 : Stand p l e ({ frames := 0, cells := 0, slots := 0, locals := 0 } : Room) s m #[(.ref x0), (.int (0 : Int32)), (.ref x2), (.int (0 : Int32)), (.int (2 : Int32))] below meth c s₁ [] 0 0 := Stand.of_body Bd
  have e0 : s₁.heap = h0 := by rw [← hh, Bd.state]; rfl
  have N0 := Fr.nil n0
  have pre0 : ∀ t, Steps p.tables e below (s₁.setTop (mkF m 0 #[.val (.ref x0), .val (.int (0 : Int32)), .val (.ref x2), .val (.int (0 : Int32)), .val (.int (2 : Int32)), .unset, .unset] [])) t → Steps p.tables e below (s₁.setTop (entryFrame m #[(.ref x0), (.int (0 : Int32)), (.ref x2), (.int (0 : Int32)), (.int (2 : Int32))] 7)) t := fun t k => castTop (efc52 m x0 x2) k
  obtain ⟨S0, hS0⟩ : ∃ z, z = (s₁.setTop (entryFrame m #[(.ref x0), (.int (0 : Int32)), (.ref x2), (.int (0 : Int32)), (.int (2 : Int32))] 7)) := ⟨_, rfl⟩
  rw [← hS0] at pre0
  have K0 := Keep.refl h0 [x2]
  have p1 : ∀ t, own_W p e below m s₁ 3 #[.val (.ref x0), .val (.int (0 : Int32)), .val (.ref x2), .val (.int (0 : Int32)), .val (.int (2 : Int32)), .val (.int (0 : Int32)), .unset] [] t → Steps p.tables e below S0 t := fun t k => pre0 t (by
    show own_W p e below m s₁ 0 #[.val (.ref x0), .val (.int (0 : Int32)), .val (.ref x2), .val (.int (0 : Int32)), .val (.int (2 : Int32)), .unset, .unset] [] _
    refine XS.iconst X0.here hx rfl (hb hby dc52_0) ?_
    show own_W p e below m s₁ 1 #[.val (.ref x0), .val (.int (0 : Int32)), .val (.ref x2), .val (.int (0 : Int32)), .val (.int (2 : Int32)), .unset, .unset] [(.int (0 : Int32))] _
    refine XS.istore X0.here hx rfl (hb hby dc52_1) rfl (l' := #[.val (.ref x0), .val (.int (0 : Int32)), .val (.ref x2), .val (.int (0 : Int32)), .val (.int (2 : Int32)), .val (.int (0 : Int32)), .unset]) rfl ?_
    exact k)
  have p2 : ∀ t, own_W p e below m s₁ 12 #[.val (.ref x0), .val (.int (0 : Int32)), .val (.ref x2), .val (.int (0 : Int32)), .val (.int (2 : Int32)), .val (.int (0 : Int32)), .unset] [(.int (0 : Int32)), (.ref x0)] t → Steps p.tables e below S0 t := fun t k => p1 t (by
    show own_W p e below m s₁ 3 #[.val (.ref x0), .val (.int (0 : Int32)), .val (.ref x2), .val (.int (0 : Int32)), .val (.int (2 : Int32)), .val (.int (0 : Int32)), .unset] [] _
    refine XS.iload X0.here hx rfl (hb hby dc52_3) rfl ?_
    show own_W p e below m s₁ 5 #[.val (.ref x0), .val (.int (0 : Int32)), .val (.ref x2), .val (.int (0 : Int32)), .val (.int (2 : Int32)), .val (.int (0 : Int32)), .unset] [(.int (0 : Int32))] _
    refine XS.iload X0.here hx rfl (hb hby dc52_5) rfl ?_
    show own_W p e below m s₁ 7 #[.val (.ref x0), .val (.int (0 : Int32)), .val (.ref x2), .val (.int (0 : Int32)), .val (.int (2 : Int32)), .val (.int (0 : Int32)), .unset] [(.int (2 : Int32)), (.int (0 : Int32))] _
    refine XS.icmpNo X0.here hx rfl (hb hby dc52_7) rfl ((tlt (by decide)).2.1) ?_
    show own_W p e below m s₁ 10 #[.val (.ref x0), .val (.int (0 : Int32)), .val (.ref x2), .val (.int (0 : Int32)), .val (.int (2 : Int32)), .val (.int (0 : Int32)), .unset] [] _
    refine XS.aloadN X0.here hx rfl (hb hby dc52_10) rfl rfl ?_
    show own_W p e below m s₁ 11 #[.val (.ref x0), .val (.int (0 : Int32)), .val (.ref x2), .val (.int (0 : Int32)), .val (.int (2 : Int32)), .val (.int (0 : Int32)), .unset] [(.ref x0)] _
    refine XS.iloadN X0.here hx rfl (hb hby dc52_11) rfl ?_
    exact k)
  obtain ⟨cl3, Ar3, q3, Sz3, Ng3, Hs3, G3⟩ := id V0
  have hin3 : ¬ ((0 : Int32) < 0 ∨ cl3.slots.size ≤ ((0 : Int32)).toNatClampNeg) := inb_of Sz3 ⟨by decide, by decide⟩
  have hat3 : cl3.slots[((0 : Int32)).toNatClampNeg]? = some (.int c0) := Hs3.at hin3 (rfl)
  have p4 : ∀ t, own_W p e below m s₁ 20 #[.val (.ref x0), .val (.int (0 : Int32)), .val (.ref x2), .val (.int (0 : Int32)), .val (.int (2 : Int32)), .val (.int (0 : Int32)), .val (.int c0)] [(.int (255 : Int32)), (.int c0)] t → Steps p.tables e below S0 t := fun t k => p2 t (by
    show own_W p e below m s₁ 12 #[.val (.ref x0), .val (.int (0 : Int32)), .val (.ref x2), .val (.int (0 : Int32)), .val (.int (2 : Int32)), .val (.int (0 : Int32)), .unset] [(.int (0 : Int32)), (.ref x0)] _
    refine X0.caload hx (j := (0 : Int32)) (v := (.int c0)) (by rw [e0]; exact Ar3.1) (State.isArrayOf_alike hZ.alike Ar3.2.1) Ar3.2.2 hin3 hat3 (g := (mkF m 12 #[.val (.ref x0), .val (.int (0 : Int32)), .val (.ref x2), .val (.int (0 : Int32)), .val (.int (2 : Int32)), .val (.int (0 : Int32)), .unset] [(.int (0 : Int32)), (.ref x0)])) rfl rfl (hb hby dc52_12) _ ?_
    show own_W p e below m s₁ 13 #[.val (.ref x0), .val (.int (0 : Int32)), .val (.ref x2), .val (.int (0 : Int32)), .val (.int (2 : Int32)), .val (.int (0 : Int32)), .unset] [(.int c0)] _
    refine XS.istore X0.here hx rfl (hb hby dc52_13) rfl (l' := #[.val (.ref x0), .val (.int (0 : Int32)), .val (.ref x2), .val (.int (0 : Int32)), .val (.int (2 : Int32)), .val (.int (0 : Int32)), .val (.int c0)]) rfl ?_
    show own_W p e below m s₁ 15 #[.val (.ref x0), .val (.int (0 : Int32)), .val (.ref x2), .val (.int (0 : Int32)), .val (.int (2 : Int32)), .val (.int (0 : Int32)), .val (.int c0)] [] _
    refine XS.iload X0.here hx rfl (hb hby dc52_15) rfl ?_
    show own_W p e below m s₁ 17 #[.val (.ref x0), .val (.int (0 : Int32)), .val (.ref x2), .val (.int (0 : Int32)), .val (.int (2 : Int32)), .val (.int (0 : Int32)), .val (.int c0)] [(.int c0)] _
    refine XS.sipush X0.here hx rfl (hb hby dc52_17) ?_
    exact k)
  by_cases e0l : (255 : Int32) < c0
  · have p5 : ∀ t, own_W p e below m s₁ 25 #[.val (.ref x0), .val (.int (0 : Int32)), .val (.ref x2), .val (.int (0 : Int32)), .val (.int (2 : Int32)), .val (.int (0 : Int32)), .val (.int c0)] [(.int (0 : Int32))] t → Steps p.tables e below S0 t := fun t k => p4 t (by
      show own_W p e below m s₁ 20 #[.val (.ref x0), .val (.int (0 : Int32)), .val (.ref x2), .val (.int (0 : Int32)), .val (.int (2 : Int32)), .val (.int (0 : Int32)), .val (.int c0)] [(.int (255 : Int32)), (.int c0)] _
      refine XS.icmpNo X0.here hx rfl (hb hby dc52_20) rfl ((tlt (e0l)).2.2.2) ?_
      show own_W p e below m s₁ 23 #[.val (.ref x0), .val (.int (0 : Int32)), .val (.ref x2), .val (.int (0 : Int32)), .val (.int (2 : Int32)), .val (.int (0 : Int32)), .val (.int c0)] [] _
      refine XS.iload X0.here hx rfl (hb hby dc52_23) rfl ?_
      exact k)
    subst hS0
    obtain ⟨fs, hr, hrun, hended, hW, hsame⟩ := X0.leave (v := some (.int (0 : Int32))) (fun h => by rw [Bd.returns] at h; cases h)
    refine ⟨_, _, p5 _ ?_, hrun, hended, _, _, rfl, ?_, ⟨_, rfl⟩, hW, hsame.mono (by decide) (by decide)⟩
    · show own_W p e below m s₁ 25 #[.val (.ref x0), .val (.int (0 : Int32)), .val (.ref x2), .val (.int (0 : Int32)), .val (.int (2 : Int32)), .val (.int (0 : Int32)), .val (.int c0)] [(.int (0 : Int32))] _
      exact retI X0 hx Bd.returns (hb hby dc52_25) hr
    · show Qc52 Z x0 x2 kc kb c0 c1 h0 n0 _ s₁.heap _
      rw [e0]
      exact ⟨_, rfl, N0, K0, Or.inr (Or.inl ⟨rfl, e0l⟩)⟩
  · have p6 : ∀ t, own_W p e below m s₁ 31 #[.val (.ref x0), .val (.int (0 : Int32)), .val (.ref x2), .val (.int (0 : Int32)), .val (.int (2 : Int32)), .val (.int (0 : Int32)), .val (.int c0)] [(.int (c0.toInt8.toInt32)), (.int (0 : Int32)), (.ref x2)] t → Steps p.tables e below S0 t := fun t k => p4 t (by
      show own_W p e below m s₁ 20 #[.val (.ref x0), .val (.int (0 : Int32)), .val (.ref x2), .val (.int (0 : Int32)), .val (.int (2 : Int32)), .val (.int (0 : Int32)), .val (.int c0)] [(.int (255 : Int32)), (.int c0)] _
      refine XS.icmpYes X0.here hx rfl (pc0 := 20) (pc' := 26) rfl (hb hby dc52_20) rfl ((flt (e0l)).2.2.2) (by decide) (by decide) ?_
      show own_W p e below m s₁ 26 #[.val (.ref x0), .val (.int (0 : Int32)), .val (.ref x2), .val (.int (0 : Int32)), .val (.int (2 : Int32)), .val (.int (0 : Int32)), .val (.int c0)] [] _
      refine XS.aloadN X0.here hx rfl (hb hby dc52_26) rfl rfl ?_
      show own_W p e below m s₁ 27 #[.val (.ref x0), .val (.int (0 : Int32)), .val (.ref x2), .val (.int (0 : Int32)), .val (.int (2 : Int32)), .val (.int (0 : Int32)), .val (.int c0)] [(.ref x2)] _
      refine XS.iloadN X0.here hx rfl (hb hby dc52_27) rfl ?_
      show own_W p e below m s₁ 28 #[.val (.ref x0), .val (.int (0 : Int32)), .val (.ref x2), .val (.int (0 : Int32)), .val (.int (2 : Int32)), .val (.int (0 : Int32)), .val (.int c0)] [(.int (0 : Int32)), (.ref x2)] _
      refine XS.iload X0.here hx rfl (hb hby dc52_28) rfl ?_
      show own_W p e below m s₁ 30 #[.val (.ref x0), .val (.int (0 : Int32)), .val (.ref x2), .val (.int (0 : Int32)), .val (.int (2 : Int32)), .val (.int (0 : Int32)), .val (.int c0)] [(.int c0), (.int (0 : Int32)), (.ref x2)] _
      refine XS.i2b X0.here hx rfl (hb hby dc52_30) rfl ?_
      exact k)
    obtain ⟨cl7, Ar7, q7, Sz7, Ng7, Hs7, G7⟩ := id V2
    have hin7 : ¬ ((0 : Int32) < 0 ∨ cl7.slots.size ≤ ((0 : Int32)).toNatClampNeg) := inb_of Sz7 (⟨by decide, by decide⟩)
    obtain ⟨T7, h7, X7, e7, W7, st7⟩ := stB X0 hx hZ e0 Ar7 (j := (0 : Int32)) hin7 (g := (mkF m 31 #[.val (.ref x0), .val (.int (0 : Int32)), .val (.ref x2), .val (.int (0 : Int32)), .val (.int (2 : Int32)), .val (.int (0 : Int32)), .val (.int c0)] [(.int (c0.toInt8.toInt32)), (.int (0 : Int32)), (.ref x2)])) rfl rfl (hb hby dc52_31)
    have VV7 : Arv Z h7 x2 kb .byte (2 : Int32) [(.int (own_lo c0)), (.int (0 : Int32))] (.int (0 : Int32)) := Arv.set Ar7 q7 Sz7 Ng7 Hs7 G7 (fits_nar_byte _) W7 0 (by decide) (Nat.le_of_ble_eq_true rfl)
    have f8 := V0.other W7 ne
    have Z7 := Nat.le_trans Z0 (Keep.of_wr W7).1
    have N7 := Fr.snoc X7 N0 g2
    have KK7 := K0.wr W7 (Or.inl (List.mem_singleton.mpr rfl))
    have p9 : ∀ t, own_W p e below m T7 32 #[.val (.ref x0), .val (.int (0 : Int32)), .val (.ref x2), .val (.int (0 : Int32)), .val (.int (2 : Int32)), .val (.int (0 : Int32)), .val (.int c0)] [] t → Steps p.tables e below S0 t := fun t k => p6 t (st7 t k)
    have p10 : ∀ t, own_W p e below m T7 3 #[.val (.ref x0), .val (.int ((0 : Int32) + (1 : Int32))), .val (.ref x2), .val (.int ((0 : Int32) + (1 : Int32))), .val (.int (2 : Int32)), .val (.int ((0 : Int32) + (1 : Int32))), .val (.int c0)] [] t → Steps p.tables e below S0 t := fun t k => p9 t (by
      show own_W p e below m T7 32 #[.val (.ref x0), .val (.int (0 : Int32)), .val (.ref x2), .val (.int (0 : Int32)), .val (.int (2 : Int32)), .val (.int (0 : Int32)), .val (.int c0)] [] _
      refine XS.iinc X7.here hx rfl (hb hby dc52_32) rfl (l' := #[.val (.ref x0), .val (.int ((0 : Int32) + (1 : Int32))), .val (.ref x2), .val (.int (0 : Int32)), .val (.int (2 : Int32)), .val (.int (0 : Int32)), .val (.int c0)]) rfl ?_
      show own_W p e below m T7 35 #[.val (.ref x0), .val (.int ((0 : Int32) + (1 : Int32))), .val (.ref x2), .val (.int (0 : Int32)), .val (.int (2 : Int32)), .val (.int (0 : Int32)), .val (.int c0)] [] _
      refine XS.iinc X7.here hx rfl (hb hby dc52_35) rfl (l' := #[.val (.ref x0), .val (.int ((0 : Int32) + (1 : Int32))), .val (.ref x2), .val (.int ((0 : Int32) + (1 : Int32))), .val (.int (2 : Int32)), .val (.int (0 : Int32)), .val (.int c0)]) rfl ?_
      show own_W p e below m T7 38 #[.val (.ref x0), .val (.int ((0 : Int32) + (1 : Int32))), .val (.ref x2), .val (.int ((0 : Int32) + (1 : Int32))), .val (.int (2 : Int32)), .val (.int (0 : Int32)), .val (.int c0)] [] _
      refine XS.iinc X7.here hx rfl (hb hby dc52_38) rfl (l' := #[.val (.ref x0), .val (.int ((0 : Int32) + (1 : Int32))), .val (.ref x2), .val (.int ((0 : Int32) + (1 : Int32))), .val (.int (2 : Int32)), .val (.int ((0 : Int32) + (1 : Int32))), .val (.int c0)]) rfl ?_
      show own_W p e below m T7 41 #[.val (.ref x0), .val (.int ((0 : Int32) + (1 : Int32))), .val (.ref x2), .val (.int ((0 : Int32) + (1 : Int32))), .val (.int (2 : Int32)), .val (.int ((0 : Int32) + (1 : Int32))), .val (.int c0)] [] _
      refine XS.goto X7.here hx rfl (pc0 := 41) (pc' := 3) rfl (hb hby dc52_41) (by decide) (by decide) ?_
      exact k)
    have p11 : ∀ t, own_W p e below m T7 3 #[.val (.ref x0), .val (.int (1 : Int32)), .val (.ref x2), .val (.int (1 : Int32)), .val (.int (2 : Int32)), .val (.int (1 : Int32)), .val (.int c0)] [] t → Steps p.tables e below S0 t := by
      have k := p10
      rw [show ((0 : Int32) + (1 : Int32)) = (1 : Int32) from by decide] at k
      exact k
    have p12 : ∀ t, own_W p e below m T7 12 #[.val (.ref x0), .val (.int (1 : Int32)), .val (.ref x2), .val (.int (1 : Int32)), .val (.int (2 : Int32)), .val (.int (1 : Int32)), .val (.int c0)] [(.int (1 : Int32)), (.ref x0)] t → Steps p.tables e below S0 t := fun t k => p11 t (by
      show own_W p e below m T7 3 #[.val (.ref x0), .val (.int (1 : Int32)), .val (.ref x2), .val (.int (1 : Int32)), .val (.int (2 : Int32)), .val (.int (1 : Int32)), .val (.int c0)] [] _
      refine XS.iload X7.here hx rfl (hb hby dc52_3) rfl ?_
      show own_W p e below m T7 5 #[.val (.ref x0), .val (.int (1 : Int32)), .val (.ref x2), .val (.int (1 : Int32)), .val (.int (2 : Int32)), .val (.int (1 : Int32)), .val (.int c0)] [(.int (1 : Int32))] _
      refine XS.iload X7.here hx rfl (hb hby dc52_5) rfl ?_
      show own_W p e below m T7 7 #[.val (.ref x0), .val (.int (1 : Int32)), .val (.ref x2), .val (.int (1 : Int32)), .val (.int (2 : Int32)), .val (.int (1 : Int32)), .val (.int c0)] [(.int (2 : Int32)), (.int (1 : Int32))] _
      refine XS.icmpNo X7.here hx rfl (hb hby dc52_7) rfl ((tlt (by decide)).2.1) ?_
      show own_W p e below m T7 10 #[.val (.ref x0), .val (.int (1 : Int32)), .val (.ref x2), .val (.int (1 : Int32)), .val (.int (2 : Int32)), .val (.int (1 : Int32)), .val (.int c0)] [] _
      refine XS.aloadN X7.here hx rfl (hb hby dc52_10) rfl rfl ?_
      show own_W p e below m T7 11 #[.val (.ref x0), .val (.int (1 : Int32)), .val (.ref x2), .val (.int (1 : Int32)), .val (.int (2 : Int32)), .val (.int (1 : Int32)), .val (.int c0)] [(.ref x0)] _
      refine XS.iloadN X7.here hx rfl (hb hby dc52_11) rfl ?_
      exact k)
    obtain ⟨cl13, Ar13, q13, Sz13, Ng13, Hs13, G13⟩ := id f8
    have hin13 : ¬ ((1 : Int32) < 0 ∨ cl13.slots.size ≤ ((1 : Int32)).toNatClampNeg) := inb_of Sz13 ⟨by decide, by decide⟩
    have hat13 : cl13.slots[((1 : Int32)).toNatClampNeg]? = some (.int c1) := Hs13.at hin13 (rfl)
    have p14 : ∀ t, own_W p e below m T7 20 #[.val (.ref x0), .val (.int (1 : Int32)), .val (.ref x2), .val (.int (1 : Int32)), .val (.int (2 : Int32)), .val (.int (1 : Int32)), .val (.int c1)] [(.int (255 : Int32)), (.int c1)] t → Steps p.tables e below S0 t := fun t k => p12 t (by
      show own_W p e below m T7 12 #[.val (.ref x0), .val (.int (1 : Int32)), .val (.ref x2), .val (.int (1 : Int32)), .val (.int (2 : Int32)), .val (.int (1 : Int32)), .val (.int c0)] [(.int (1 : Int32)), (.ref x0)] _
      refine X7.caload hx (j := (1 : Int32)) (v := (.int c1)) (by rw [e7]; exact Ar13.1) (State.isArrayOf_alike hZ.alike Ar13.2.1) Ar13.2.2 hin13 hat13 (g := (mkF m 12 #[.val (.ref x0), .val (.int (1 : Int32)), .val (.ref x2), .val (.int (1 : Int32)), .val (.int (2 : Int32)), .val (.int (1 : Int32)), .val (.int c0)] [(.int (1 : Int32)), (.ref x0)])) rfl rfl (hb hby dc52_12) _ ?_
      show own_W p e below m T7 13 #[.val (.ref x0), .val (.int (1 : Int32)), .val (.ref x2), .val (.int (1 : Int32)), .val (.int (2 : Int32)), .val (.int (1 : Int32)), .val (.int c0)] [(.int c1)] _
      refine XS.istore X7.here hx rfl (hb hby dc52_13) rfl (l' := #[.val (.ref x0), .val (.int (1 : Int32)), .val (.ref x2), .val (.int (1 : Int32)), .val (.int (2 : Int32)), .val (.int (1 : Int32)), .val (.int c1)]) rfl ?_
      show own_W p e below m T7 15 #[.val (.ref x0), .val (.int (1 : Int32)), .val (.ref x2), .val (.int (1 : Int32)), .val (.int (2 : Int32)), .val (.int (1 : Int32)), .val (.int c1)] [] _
      refine XS.iload X7.here hx rfl (hb hby dc52_15) rfl ?_
      show own_W p e below m T7 17 #[.val (.ref x0), .val (.int (1 : Int32)), .val (.ref x2), .val (.int (1 : Int32)), .val (.int (2 : Int32)), .val (.int (1 : Int32)), .val (.int c1)] [(.int c1)] _
      refine XS.sipush X7.here hx rfl (hb hby dc52_17) ?_
      exact k)
    by_cases e1l : (255 : Int32) < c1
    · have p15 : ∀ t, own_W p e below m T7 25 #[.val (.ref x0), .val (.int (1 : Int32)), .val (.ref x2), .val (.int (1 : Int32)), .val (.int (2 : Int32)), .val (.int (1 : Int32)), .val (.int c1)] [(.int (1 : Int32))] t → Steps p.tables e below S0 t := fun t k => p14 t (by
        show own_W p e below m T7 20 #[.val (.ref x0), .val (.int (1 : Int32)), .val (.ref x2), .val (.int (1 : Int32)), .val (.int (2 : Int32)), .val (.int (1 : Int32)), .val (.int c1)] [(.int (255 : Int32)), (.int c1)] _
        refine XS.icmpNo X7.here hx rfl (hb hby dc52_20) rfl ((tlt (e1l)).2.2.2) ?_
        show own_W p e below m T7 23 #[.val (.ref x0), .val (.int (1 : Int32)), .val (.ref x2), .val (.int (1 : Int32)), .val (.int (2 : Int32)), .val (.int (1 : Int32)), .val (.int c1)] [] _
        refine XS.iload X7.here hx rfl (hb hby dc52_23) rfl ?_
        exact k)
      subst hS0
      obtain ⟨fs, hr, hrun, hended, hW, hsame⟩ := X7.leave (v := some (.int (1 : Int32))) (fun h => by rw [Bd.returns] at h; cases h)
      refine ⟨_, _, p15 _ ?_, hrun, hended, _, _, rfl, ?_, ⟨_, rfl⟩, hW, hsame.mono (by decide) (by decide)⟩
      · show own_W p e below m T7 25 #[.val (.ref x0), .val (.int (1 : Int32)), .val (.ref x2), .val (.int (1 : Int32)), .val (.int (2 : Int32)), .val (.int (1 : Int32)), .val (.int c1)] [(.int (1 : Int32))] _
        exact retI X7 hx Bd.returns (hb hby dc52_25) hr
      · show Qc52 Z x0 x2 kc kb c0 c1 h0 n0 _ T7.heap _
        rw [e7]
        exact ⟨_, rfl, N7, KK7, Or.inr (Or.inr (⟨rfl, e1l⟩))⟩
    · have p16 : ∀ t, own_W p e below m T7 31 #[.val (.ref x0), .val (.int (1 : Int32)), .val (.ref x2), .val (.int (1 : Int32)), .val (.int (2 : Int32)), .val (.int (1 : Int32)), .val (.int c1)] [(.int (c1.toInt8.toInt32)), (.int (1 : Int32)), (.ref x2)] t → Steps p.tables e below S0 t := fun t k => p14 t (by
        show own_W p e below m T7 20 #[.val (.ref x0), .val (.int (1 : Int32)), .val (.ref x2), .val (.int (1 : Int32)), .val (.int (2 : Int32)), .val (.int (1 : Int32)), .val (.int c1)] [(.int (255 : Int32)), (.int c1)] _
        refine XS.icmpYes X7.here hx rfl (pc0 := 20) (pc' := 26) rfl (hb hby dc52_20) rfl ((flt (e1l)).2.2.2) (by decide) (by decide) ?_
        show own_W p e below m T7 26 #[.val (.ref x0), .val (.int (1 : Int32)), .val (.ref x2), .val (.int (1 : Int32)), .val (.int (2 : Int32)), .val (.int (1 : Int32)), .val (.int c1)] [] _
        refine XS.aloadN X7.here hx rfl (hb hby dc52_26) rfl rfl ?_
        show own_W p e below m T7 27 #[.val (.ref x0), .val (.int (1 : Int32)), .val (.ref x2), .val (.int (1 : Int32)), .val (.int (2 : Int32)), .val (.int (1 : Int32)), .val (.int c1)] [(.ref x2)] _
        refine XS.iloadN X7.here hx rfl (hb hby dc52_27) rfl ?_
        show own_W p e below m T7 28 #[.val (.ref x0), .val (.int (1 : Int32)), .val (.ref x2), .val (.int (1 : Int32)), .val (.int (2 : Int32)), .val (.int (1 : Int32)), .val (.int c1)] [(.int (1 : Int32)), (.ref x2)] _
        refine XS.iload X7.here hx rfl (hb hby dc52_28) rfl ?_
        show own_W p e below m T7 30 #[.val (.ref x0), .val (.int (1 : Int32)), .val (.ref x2), .val (.int (1 : Int32)), .val (.int (2 : Int32)), .val (.int (1 : Int32)), .val (.int c1)] [(.int c1), (.int (1 : Int32)), (.ref x2)] _
        refine XS.i2b X7.here hx rfl (hb hby dc52_30) rfl ?_
        exact k)
      obtain ⟨cl17, Ar17, q17, Sz17, Ng17, Hs17, G17⟩ := id VV7
      have hin17 : ¬ ((1 : Int32) < 0 ∨ cl17.slots.size ≤ ((1 : Int32)).toNatClampNeg) := inb_of Sz17 (⟨by decide, by decide⟩)
      obtain ⟨T17, h17, X17, e17, W17, st17⟩ := stB X7 hx hZ e7 Ar17 (j := (1 : Int32)) hin17 (g := (mkF m 31 #[.val (.ref x0), .val (.int (1 : Int32)), .val (.ref x2), .val (.int (1 : Int32)), .val (.int (2 : Int32)), .val (.int (1 : Int32)), .val (.int c1)] [(.int (c1.toInt8.toInt32)), (.int (1 : Int32)), (.ref x2)])) rfl rfl (hb hby dc52_31)
      have VV17 : Arv Z h17 x2 kb .byte (2 : Int32) [(.int (own_lo c0)), (.int (own_lo c1))] (.int (0 : Int32)) := Arv.set Ar17 q17 Sz17 Ng17 Hs17 G17 (fits_nar_byte _) W17 1 (by decide) (Nat.le_of_ble_eq_true rfl)
      have f18 := f8.other W17 ne
      have Z17 := Nat.le_trans Z7 (Keep.of_wr W17).1
      have N17 := Fr.snoc X17 N7 g2
      have KK17 := KK7.wr W17 (Or.inl (List.mem_singleton.mpr rfl))
      have p19 : ∀ t, own_W p e below m T17 32 #[.val (.ref x0), .val (.int (1 : Int32)), .val (.ref x2), .val (.int (1 : Int32)), .val (.int (2 : Int32)), .val (.int (1 : Int32)), .val (.int c1)] [] t → Steps p.tables e below S0 t := fun t k => p16 t (st17 t k)
      have p20 : ∀ t, own_W p e below m T17 3 #[.val (.ref x0), .val (.int ((1 : Int32) + (1 : Int32))), .val (.ref x2), .val (.int ((1 : Int32) + (1 : Int32))), .val (.int (2 : Int32)), .val (.int ((1 : Int32) + (1 : Int32))), .val (.int c1)] [] t → Steps p.tables e below S0 t := fun t k => p19 t (by
        show own_W p e below m T17 32 #[.val (.ref x0), .val (.int (1 : Int32)), .val (.ref x2), .val (.int (1 : Int32)), .val (.int (2 : Int32)), .val (.int (1 : Int32)), .val (.int c1)] [] _
        refine XS.iinc X17.here hx rfl (hb hby dc52_32) rfl (l' := #[.val (.ref x0), .val (.int ((1 : Int32) + (1 : Int32))), .val (.ref x2), .val (.int (1 : Int32)), .val (.int (2 : Int32)), .val (.int (1 : Int32)), .val (.int c1)]) rfl ?_
        show own_W p e below m T17 35 #[.val (.ref x0), .val (.int ((1 : Int32) + (1 : Int32))), .val (.ref x2), .val (.int (1 : Int32)), .val (.int (2 : Int32)), .val (.int (1 : Int32)), .val (.int c1)] [] _
        refine XS.iinc X17.here hx rfl (hb hby dc52_35) rfl (l' := #[.val (.ref x0), .val (.int ((1 : Int32) + (1 : Int32))), .val (.ref x2), .val (.int ((1 : Int32) + (1 : Int32))), .val (.int (2 : Int32)), .val (.int (1 : Int32)), .val (.int c1)]) rfl ?_
        show own_W p e below m T17 38 #[.val (.ref x0), .val (.int ((1 : Int32) + (1 : Int32))), .val (.ref x2), .val (.int ((1 : Int32) + (1 : Int32))), .val (.int (2 : Int32)), .val (.int (1 : Int32)), .val (.int c1)] [] _
        refine XS.iinc X17.here hx rfl (hb hby dc52_38) rfl (l' := #[.val (.ref x0), .val (.int ((1 : Int32) + (1 : Int32))), .val (.ref x2), .val (.int ((1 : Int32) + (1 : Int32))), .val (.int (2 : Int32)), .val (.int ((1 : Int32) + (1 : Int32))), .val (.int c1)]) rfl ?_
        show own_W p e below m T17 41 #[.val (.ref x0), .val (.int ((1 : Int32) + (1 : Int32))), .val (.ref x2), .val (.int ((1 : Int32) + (1 : Int32))), .val (.int (2 : Int32)), .val (.int ((1 : Int32) + (1 : Int32))), .val (.int c1)] [] _
        refine XS.goto X17.here hx rfl (pc0 := 41) (pc' := 3) rfl (hb hby dc52_41) (by decide) (by decide) ?_
        exact k)
      have p21 : ∀ t, own_W p e below m T17 3 #[.val (.ref x0), .val (.int (2 : Int32)), .val (.ref x2), .val (.int (2 : Int32)), .val (.int (2 : Int32)), .val (.int (2 : Int32)), .val (.int c1)] [] t → Steps p.tables e below S0 t := by
        have k := p20
        rw [show ((1 : Int32) + (1 : Int32)) = (2 : Int32) from by decide] at k
        exact k
      have p22 : ∀ t, own_W p e below m T17 46 #[.val (.ref x0), .val (.int (2 : Int32)), .val (.ref x2), .val (.int (2 : Int32)), .val (.int (2 : Int32)), .val (.int (2 : Int32)), .val (.int c1)] [(.int (2 : Int32))] t → Steps p.tables e below S0 t := fun t k => p21 t (by
        show own_W p e below m T17 3 #[.val (.ref x0), .val (.int (2 : Int32)), .val (.ref x2), .val (.int (2 : Int32)), .val (.int (2 : Int32)), .val (.int (2 : Int32)), .val (.int c1)] [] _
        refine XS.iload X17.here hx rfl (hb hby dc52_3) rfl ?_
        show own_W p e below m T17 5 #[.val (.ref x0), .val (.int (2 : Int32)), .val (.ref x2), .val (.int (2 : Int32)), .val (.int (2 : Int32)), .val (.int (2 : Int32)), .val (.int c1)] [(.int (2 : Int32))] _
        refine XS.iload X17.here hx rfl (hb hby dc52_5) rfl ?_
        show own_W p e below m T17 7 #[.val (.ref x0), .val (.int (2 : Int32)), .val (.ref x2), .val (.int (2 : Int32)), .val (.int (2 : Int32)), .val (.int (2 : Int32)), .val (.int c1)] [(.int (2 : Int32)), (.int (2 : Int32))] _
        refine XS.icmpYes X17.here hx rfl (pc0 := 7) (pc' := 44) rfl (hb hby dc52_7) rfl ((flt (by decide)).2.1) (by decide) (by decide) ?_
        show own_W p e below m T17 44 #[.val (.ref x0), .val (.int (2 : Int32)), .val (.ref x2), .val (.int (2 : Int32)), .val (.int (2 : Int32)), .val (.int (2 : Int32)), .val (.int c1)] [] _
        refine XS.iload X17.here hx rfl (hb hby dc52_44) rfl ?_
        exact k)
      subst hS0
      obtain ⟨fs, hr, hrun, hended, hW, hsame⟩ := X17.leave (v := some (.int (2 : Int32))) (fun h => by rw [Bd.returns] at h; cases h)
      refine ⟨_, _, p22 _ ?_, hrun, hended, _, _, rfl, ?_, ⟨_, rfl⟩, hW, hsame.mono (by decide) (by decide)⟩
      · show own_W p e below m T17 46 #[.val (.ref x0), .val (.int (2 : Int32)), .val (.ref x2), .val (.int (2 : Int32)), .val (.int (2 : Int32)), .val (.int (2 : Int32)), .val (.int c1)] [(.int (2 : Int32))] _
        exact retI X17 hx Bd.returns (hb hby dc52_46) hr
      · show Qc52 Z x0 x2 kc kb c0 c1 h0 n0 _ T17.heap _
        rw [e17]
        exact ⟨_, rfl, N17, KK17, Or.inl ⟨rfl, VV17, e0l, e1l⟩⟩
theorem dc32_0 : decode jdk_52_method_16_code 0 = .ok (.iload_n 2, 1) := by decide +kernel
theorem dc32_1 : decode jdk_52_method_16_code 1 = .ok (.newarray .byte, 2) := by decide +kernel
theorem dc32_3 : decode jdk_52_method_16_code 3 = .ok (.astore_n 3, 1) := by decide +kernel
theorem dc32_4 : decode jdk_52_method_16_code 4 = .ok (.aload_n 0, 1) := by decide +kernel
theorem dc32_5 : decode jdk_52_method_16_code 5 = .ok (.iload_n 1, 1) := by decide +kernel
theorem dc32_6 : decode jdk_52_method_16_code 6 = .ok (.aload_n 3, 1) := by decide +kernel
theorem dc32_7 : decode jdk_52_method_16_code 7 = .ok (.iconst 0, 1) := by decide +kernel
theorem dc32_8 : decode jdk_52_method_16_code 8 = .ok (.iload_n 2, 1) := by decide +kernel
theorem dc32_9 : decode jdk_52_method_16_code 9 = .ok (.invokestatic 115, 3) := by decide +kernel
theorem dc32_12 : decode jdk_52_method_16_code 12 = .ok (.istore 4, 2) := by decide +kernel
theorem dc32_14 : decode jdk_52_method_16_code 14 = .ok (.iload 4, 2) := by decide +kernel
theorem dc32_16 : decode jdk_52_method_16_code 16 = .ok (.iload_n 2, 1) := by decide +kernel
theorem dc32_17 : decode jdk_52_method_16_code 17 = .ok (.if_icmp .eq 40, 3) := by decide +kernel
theorem dc32_20 : decode jdk_52_method_16_code 20 = .ok (.aload_n 0, 1) := by decide +kernel
theorem dc32_21 : decode jdk_52_method_16_code 21 = .ok (.iload_n 1, 1) := by decide +kernel
theorem dc32_22 : decode jdk_52_method_16_code 22 = .ok (.iload_n 2, 1) := by decide +kernel
theorem dc32_23 : decode jdk_52_method_16_code 23 = .ok (.invokestatic 119, 3) := by decide +kernel
theorem dc32_26 : decode jdk_52_method_16_code 26 = .ok (.astore 5, 2) := by decide +kernel
theorem dc32_28 : decode jdk_52_method_16_code 28 = .ok (.aload 5, 2) := by decide +kernel
theorem dc32_30 : decode jdk_52_method_16_code 30 = .ok (.iload 4, 2) := by decide +kernel
theorem dc32_32 : decode jdk_52_method_16_code 32 = .ok (.invokestatic 71, 3) := by decide +kernel
theorem dc32_35 : decode jdk_52_method_16_code 35 = .ok (.sipush 255, 3) := by decide +kernel
theorem dc32_38 : decode jdk_52_method_16_code 38 = .ok (.if_icmp .gt 16, 3) := by decide +kernel
theorem dc32_54 : decode jdk_52_method_16_code 54 = .ok (.aload 5, 2) := by decide +kernel
theorem dc32_56 : decode jdk_52_method_16_code 56 = .ok (.areturn, 1) := by decide +kernel
theorem dc32_57 : decode jdk_52_method_16_code 57 = .ok (.aload_n 3, 1) := by decide +kernel
theorem dc32_58 : decode jdk_52_method_16_code 58 = .ok (.areturn, 1) := by decide +kernel
theorem pnc32 : plainName "java/lang/StringUTF16" = true := by first | (simp [plainName, overriddenIn]; done) | decide +kernel
theorem pdc32_0 : parseMethodDescriptor "([CI[BII)I" = some ⟨[(.array .char), .int, (.array .byte), .int, .int], some .int⟩ := by decide +kernel
theorem pdc32_1 : parseMethodDescriptor "([CII)[B" = some ⟨[(.array .char), .int, .int], some (.array .byte)⟩ := by decide +kernel
theorem pdc32_2 : parseMethodDescriptor "([BI)C" = some ⟨[(.array .byte), .int], some .char⟩ := by decide +kernel
theorem efc32 (m : MethodId) (x0 : Addr) : entryFrame m #[(.ref x0), (.int (0 : Int32)), (.int (2 : Int32))] 6 = mkF m 0 #[.val (.ref x0), .val (.int (0 : Int32)), .val (.int (2 : Int32)), .unset, .unset, .unset] [] := by first | (simp [entryFrame, mkF, argsToLocals, Value.category]; done) | rfl
def Qc32 (Z : State) (x0 : Addr) (kc : ClassId) (c0 : Int32) (c1 : Int32) (cs : Int32) (G : Value) (h0 : Heap) (n0 : Nat) (v : Option Value) (h : Heap) (L : List Loc) : Prop := h.size ≤ h.size ∧ ∃ (r : Addr) (kk : ClassId), v = some (.ref r) ∧ Fr n0 L ∧ Keep h0 h [] ∧ h0.size ≤ r ∧ ((Arv Z h r kk .byte (2 : Int32) [(.int (own_lo c0)), (.int (own_lo c1))] (.int (0 : Int32)) ∧ ¬ (255 : Int32) < c0 ∧ ¬ (255 : Int32) < c1) ∨ Arv Z h r kk .byte (4 : Int32) [(.int (own_hb c0)), (.int (own_lb c0)), (.int (own_hb c1)), (.int (own_lb c1))] (.int (0 : Int32)))
set_option maxRecDepth 65536 in
set_option maxHeartbeats 40000000 in
theorem rmc32 (l : Launch) (Z : State) (a0 : Array Value) (hw : ∀ d ∈ tables_1, d.before a0 Z = true) (ws : List Jvm.Cond) (x0 : Addr) (kc : ClassId) (c0 : Int32) (c1 : Int32) (cs : Int32) (G : Value) (h0 : Heap) (n0 : Nat) (Z0 : n0 ≤ h0.size) (V0 : Arv Z h0 x0 kc .char (2 : Int32) [(.int c0), (.int c1)] (.int (0 : Int32))) (ko0 : own_ok c0) (ko1 : own_ok c1) (O0 : Old Z n0 h0) (st : own_ST Z cs G) :
    MetFree l (⟨"java/lang/StringUTF16", "compress", "([CII)[B"⟩ : MethodName) (head1 (Jvm.Cond.code (⟨"java/lang/StringUTF16", "compress", "([CII)[B"⟩ : MethodName) jdk_52_method_16_code 6 (some (.array .byte)) :: ws) ({ frames := 3, cells := 2, slots := 6, locals := 40 } : Room)) (fun a U => a = #[(.ref x0), (.int (0 : Int32)), (.int (2 : Int32))] ∧ Z.Warmed39 U.vm ∧ U.heap = h0) (fun _ _ _ _ _ => True) (fun _ U o U' => ∃ v L, o = .returned v ∧ Qc32 Z x0 kc c0 c1 cs G h0 n0 v U'.heap L ∧ FrameEnd U o U' L ({ frames := 3, cells := 2, slots := 6, locals := 40 } : Room).cells ({ frames := 3, cells := 2, slots := 6, locals := 40 } : Room).slots) := by
  refine MetFree.of_bodySF (plainFor_of_name pnc32) hisR ?_
  intro p e s m args below meth c s₁ Bd hml0 hP hK
  obtain ⟨rfl, hZ, hh⟩ := hP
  have hx := Bd.exec
  have hby := Bd.bytes
  have hml : c.maxLocals = 6 := hml0
  have hown : s.vm.findClass "java/lang/StringUTF16" = some m.cls := findClass_of_methodNamed Bd.named
  have hnm := (name_of_methodNamed Bd.named Bd.method).1
  have X0 : Stand p l e ({ frames := 3, cells := 2, slots := 6, locals := 40 } : Room) s m #[(.ref x0), (.int (0 : Int32)), (.int (2 : Int32))] below meth c s₁ [] 0 0 := Stand.of_body Bd
  have e0 : s₁.heap = h0 := by rw [← hh, Bd.state]; rfl
  have N0 := Fr.nil n0
  have pre0 : ∀ t, Steps p.tables e below (s₁.setTop (mkF m 0 #[.val (.ref x0), .val (.int (0 : Int32)), .val (.int (2 : Int32)), .unset, .unset, .unset] [])) t → Steps p.tables e below (s₁.setTop (entryFrame m #[(.ref x0), (.int (0 : Int32)), (.int (2 : Int32))] 6)) t := fun t k => castTop (efc32 m x0) k
  obtain ⟨S0, hS0⟩ : ∃ z, z = (s₁.setTop (entryFrame m #[(.ref x0), (.int (0 : Int32)), (.int (2 : Int32))] 6)) := ⟨_, rfl⟩
  rw [← hS0] at pre0
  obtain ⟨sc, hcs, sa, sh, sl, sg, hG⟩ := id st
  have K0 := Keep.refl h0 []
  have p1 : ∀ t, own_W p e below m s₁ 1 #[.val (.ref x0), .val (.int (0 : Int32)), .val (.int (2 : Int32)), .unset, .unset, .unset] [(.int (2 : Int32))] t → Steps p.tables e below S0 t := fun t k => pre0 t (by
    show own_W p e below m s₁ 0 #[.val (.ref x0), .val (.int (0 : Int32)), .val (.int (2 : Int32)), .unset, .unset, .unset] [] _
    refine XS.iloadN X0.here hx rfl (hb hby dc32_0) rfl ?_
    exact k)
  obtain ⟨T2, h2, k2, X2, e2, E2, A2, st2⟩ := newP X0 hx hZ (hw _ (List.mem_of_getElem? (i := 19) rfl)) e0 (g := (mkF m 1 #[.val (.ref x0), .val (.int (0 : Int32)), .val (.int (2 : Int32)), .unset, .unset, .unset] [(.int (2 : Int32))])) rfl (hb hby dc32_1) rfl (by decide) (cap := 2) (by decide) (by decide) (by decide) (by decide)
  obtain ⟨b2, g2⟩ : ∃ z, z = h0.size := ⟨_, rfl⟩
  rw [← g2] at A2 st2
  have gn_b2 : n0 ≤ b2 := Nat.le_trans Z0 (Nat.le_of_eq g2.symm)
  have gk_b2 : h0.size ≤ b2 := Nat.le_trans K0.1 (Nat.le_of_eq g2.symm)
  have ne3 : x0 ≠ b2 := Nat.ne_of_lt (Nat.lt_of_lt_of_le V0.lt (Nat.le_of_eq g2.symm))
  have f4 := O0.ext E2
  have f5 := V0.ext E2
  have Z2 := Nat.le_trans Z0 E2.1
  have KK2 := K0.ext E2
  have VV2 : Arv Z h2 b2 k2 .byte (2 : Int32) [(.int (0 : Int32)), (.int (0 : Int32))] (.int (0 : Int32)) := (Arv.new A2 (by decide)).pad (pad_rep [] (.int (0 : Int32)) 2)
  have p6 : ∀ t, own_W p e below m T2 3 #[.val (.ref x0), .val (.int (0 : Int32)), .val (.int (2 : Int32)), .unset, .unset, .unset] [(.ref b2)] t → Steps p.tables e below S0 t := fun t k => p1 t (st2 t k)
  have p7 : ∀ t, own_W p e below m T2 9 #[.val (.ref x0), .val (.int (0 : Int32)), .val (.int (2 : Int32)), .val (.ref b2), .unset, .unset] [(.int (2 : Int32)), (.int (0 : Int32)), (.ref b2), (.int (0 : Int32)), (.ref x0)] t → Steps p.tables e below S0 t := fun t k => p6 t (by
    show own_W p e below m T2 3 #[.val (.ref x0), .val (.int (0 : Int32)), .val (.int (2 : Int32)), .unset, .unset, .unset] [(.ref b2)] _
    refine XS.astoreN X2.here hx rfl (hb hby dc32_3) rfl rfl (l' := #[.val (.ref x0), .val (.int (0 : Int32)), .val (.int (2 : Int32)), .val (.ref b2), .unset, .unset]) rfl ?_
    show own_W p e below m T2 4 #[.val (.ref x0), .val (.int (0 : Int32)), .val (.int (2 : Int32)), .val (.ref b2), .unset, .unset] [] _
    refine XS.aloadN X2.here hx rfl (hb hby dc32_4) rfl rfl ?_
    show own_W p e below m T2 5 #[.val (.ref x0), .val (.int (0 : Int32)), .val (.int (2 : Int32)), .val (.ref b2), .unset, .unset] [(.ref x0)] _
    refine XS.iloadN X2.here hx rfl (hb hby dc32_5) rfl ?_
    show own_W p e below m T2 6 #[.val (.ref x0), .val (.int (0 : Int32)), .val (.int (2 : Int32)), .val (.ref b2), .unset, .unset] [(.int (0 : Int32)), (.ref x0)] _
    refine XS.aloadN X2.here hx rfl (hb hby dc32_6) rfl rfl ?_
    show own_W p e below m T2 7 #[.val (.ref x0), .val (.int (0 : Int32)), .val (.int (2 : Int32)), .val (.ref b2), .unset, .unset] [(.ref b2), (.int (0 : Int32)), (.ref x0)] _
    refine XS.iconst X2.here hx rfl (hb hby dc32_7) ?_
    show own_W p e below m T2 8 #[.val (.ref x0), .val (.int (0 : Int32)), .val (.int (2 : Int32)), .val (.ref b2), .unset, .unset] [(.int (0 : Int32)), (.ref b2), (.int (0 : Int32)), (.ref x0)] _
    refine XS.iloadN X2.here hx rfl (hb hby dc32_8) rfl ?_
    exact k)
  obtain ⟨_, _, ⟨T8, L8, k8, n8⟩, -, X8, ⟨Lc8, hQ8, l8, y8, z8⟩, st8⟩ := Jvm.LawKit.callS X2 hx (y := (⟨"java/lang/StringUTF16", "compress", "([CI[BII)I"⟩ : MethodName)) hown (mvT hZ (hw _ (List.mem_of_getElem? (i := 95) rfl))) (mvT hZ (hw _ (List.mem_of_getElem? (i := 96) rfl))) (mvT hZ (hw _ (List.mem_of_getElem? (i := 93) rfl))) (mvT hZ (hw _ (List.mem_of_getElem? (i := 97) rfl))) (by decide) (backOf (W := 0) (rmc52 l Z a0 hw [] x0 b2 kc k2 c0 c1 h2 n0 Z2 f5 VV2 gn_b2 ne3) hZ (hw _ (List.mem_of_getElem? (i := 97) rfl)) (hw _ (List.mem_of_getElem? (i := 93) rfl)) (by decide) (by decide)) (g := (mkF m 9 #[.val (.ref x0), .val (.int (0 : Int32)), .val (.int (2 : Int32)), .val (.ref b2), .unset, .unset] [(.int (2 : Int32)), (.int (0 : Int32)), (.ref b2), (.int (0 : Int32)), (.ref x0)])) rfl (by rw [hml]; rfl) (argsL := [(.ref x0), (.int (0 : Int32)), (.ref b2), (.int (0 : Int32)), (.int (2 : Int32))]) (rest := []) (lenOf pdc32_0 rfl) rfl (by show 2 * 0 + _ ≤ _; exact Nat.le_of_eq rfl) (hb hby dc32_9) (fun _ _ => ⟨rfl, e2, (by decide : 1 + 0 ≤ _), (by decide : 2 + 0 ≤ _)⟩)
  dsimp only [Pt.U, Pt.locs, Pt.cells, Pt.slots] at X8 l8 y8 z8 st8 hQ8
  subst l8 y8 z8
  obtain ⟨r8, rfl, Nq8, K8, HC8⟩ := hQ8
  have N8 := Fr.app N0 Nq8
  have f9 := f4.keep K8 (allS gn_b2 (all0))
  have f10 := f5.keep K8 (ninS ne3 nin0)
  have Z8 := Nat.le_trans Z2 K8.1
  have KK8 := KK2.trans K8 (allS (Or.inr gk_b2) all0)
  have p11 : ∀ t, own_W p e below m T8 12 #[.val (.ref x0), .val (.int (0 : Int32)), .val (.int (2 : Int32)), .val (.ref b2), .unset, .unset] [(.int r8)] t → Steps p.tables e below S0 t := fun t k => p7 t (st8 _ k)
  rcases HC8 with ⟨qr, VC, el⟩ | hit
  · have u_ := Z0
    subst qr
    have p12 : ∀ t, own_W p e below m T8 58 #[.val (.ref x0), .val (.int (0 : Int32)), .val (.int (2 : Int32)), .val (.ref b2), .val (.int (2 : Int32)), .unset] [(.ref b2)] t → Steps p.tables e below S0 t := fun t k => p11 t (by
      show own_W p e below m T8 12 #[.val (.ref x0), .val (.int (0 : Int32)), .val (.int (2 : Int32)), .val (.ref b2), .unset, .unset] [(.int (2 : Int32))] _
      refine XS.istore X8.here hx rfl (hb hby dc32_12) rfl (l' := #[.val (.ref x0), .val (.int (0 : Int32)), .val (.int (2 : Int32)), .val (.ref b2), .val (.int (2 : Int32)), .unset]) rfl ?_
      show own_W p e below m T8 14 #[.val (.ref x0), .val (.int (0 : Int32)), .val (.int (2 : Int32)), .val (.ref b2), .val (.int (2 : Int32)), .unset] [] _
      refine XS.iload X8.here hx rfl (hb hby dc32_14) rfl ?_
      show own_W p e below m T8 16 #[.val (.ref x0), .val (.int (0 : Int32)), .val (.int (2 : Int32)), .val (.ref b2), .val (.int (2 : Int32)), .unset] [(.int (2 : Int32))] _
      refine XS.iloadN X8.here hx rfl (hb hby dc32_16) rfl ?_
      show own_W p e below m T8 17 #[.val (.ref x0), .val (.int (0 : Int32)), .val (.int (2 : Int32)), .val (.ref b2), .val (.int (2 : Int32)), .unset] [(.int (2 : Int32)), (.int (2 : Int32))] _
      refine XS.icmpYes X8.here hx rfl (pc0 := 17) (pc' := 57) rfl (hb hby dc32_17) rfl ((teq (rfl)).1) (by decide) (by decide) ?_
      show own_W p e below m T8 57 #[.val (.ref x0), .val (.int (0 : Int32)), .val (.int (2 : Int32)), .val (.ref b2), .val (.int (2 : Int32)), .unset] [] _
      refine XS.aloadN X8.here hx rfl (hb hby dc32_57) rfl rfl ?_
      exact k)
    subst hS0
    obtain ⟨fs, hr, hrun, hended, hW, hsame⟩ := X8.leave (v := some (.ref b2)) (fun h => by rw [Bd.returns] at h; cases h)
    refine ⟨_, _, p12 _ ?_, hrun, hended, _, _, rfl, ?_, ⟨_, rfl⟩, hW, hsame.mono (by decide) (by decide)⟩
    · show own_W p e below m T8 58 #[.val (.ref x0), .val (.int (0 : Int32)), .val (.int (2 : Int32)), .val (.ref b2), .val (.int (2 : Int32)), .unset] [(.ref b2)] _
      exact retOut X8 hx Bd.returns rfl (Or.inr (Or.inr (Or.inr (Or.inr ⟨rfl, rfl, rfl⟩)))) (hb hby dc32_58) hr
    · show Qc32 Z x0 kc c0 c1 cs G h0 n0 _ T8.heap _
      skip
      exact ⟨Nat.le_refl _, _, _, rfl, N8, KK8, gk_b2, Or.inl ⟨VC, el⟩⟩
  · have u_ := Z0
    obtain ⟨hrn, cx, kx, gx, jx1, jx2, ux1, ux2⟩ := own_pick2 ko0 ko1 hit
    have p13 : ∀ t, own_W p e below m T8 23 #[.val (.ref x0), .val (.int (0 : Int32)), .val (.int (2 : Int32)), .val (.ref b2), .val (.int r8), .unset] [(.int (2 : Int32)), (.int (0 : Int32)), (.ref x0)] t → Steps p.tables e below S0 t := fun t k => p11 t (by
      show own_W p e below m T8 12 #[.val (.ref x0), .val (.int (0 : Int32)), .val (.int (2 : Int32)), .val (.ref b2), .unset, .unset] [(.int r8)] _
      refine XS.istore X8.here hx rfl (hb hby dc32_12) rfl (l' := #[.val (.ref x0), .val (.int (0 : Int32)), .val (.int (2 : Int32)), .val (.ref b2), .val (.int r8), .unset]) rfl ?_
      show own_W p e below m T8 14 #[.val (.ref x0), .val (.int (0 : Int32)), .val (.int (2 : Int32)), .val (.ref b2), .val (.int r8), .unset] [] _
      refine XS.iload X8.here hx rfl (hb hby dc32_14) rfl ?_
      show own_W p e below m T8 16 #[.val (.ref x0), .val (.int (0 : Int32)), .val (.int (2 : Int32)), .val (.ref b2), .val (.int r8), .unset] [(.int r8)] _
      refine XS.iloadN X8.here hx rfl (hb hby dc32_16) rfl ?_
      show own_W p e below m T8 17 #[.val (.ref x0), .val (.int (0 : Int32)), .val (.int (2 : Int32)), .val (.ref b2), .val (.int r8), .unset] [(.int (2 : Int32)), (.int r8)] _
      refine XS.icmpNo X8.here hx rfl (hb hby dc32_17) rfl ((feq (hrn)).1) ?_
      show own_W p e below m T8 20 #[.val (.ref x0), .val (.int (0 : Int32)), .val (.int (2 : Int32)), .val (.ref b2), .val (.int r8), .unset] [] _
      refine XS.aloadN X8.here hx rfl (hb hby dc32_20) rfl rfl ?_
      show own_W p e below m T8 21 #[.val (.ref x0), .val (.int (0 : Int32)), .val (.int (2 : Int32)), .val (.ref b2), .val (.int r8), .unset] [(.ref x0)] _
      refine XS.iloadN X8.here hx rfl (hb hby dc32_21) rfl ?_
      show own_W p e below m T8 22 #[.val (.ref x0), .val (.int (0 : Int32)), .val (.int (2 : Int32)), .val (.ref b2), .val (.int r8), .unset] [(.int (0 : Int32)), (.ref x0)] _
      refine XS.iloadN X8.here hx rfl (hb hby dc32_22) rfl ?_
      exact k)
    obtain ⟨_, _, ⟨T14, L14, k14, n14⟩, -, X14, ⟨Lc14, hQ14, l14, y14, z14⟩, st14⟩ := Jvm.LawKit.callS X8 hx (y := (⟨"java/lang/StringUTF16", "toBytes", "([CII)[B"⟩ : MethodName)) hown (mvT hZ (hw _ (List.mem_of_getElem? (i := 123) rfl))) (mvT hZ (hw _ (List.mem_of_getElem? (i := 124) rfl))) (mvT hZ (hw _ (List.mem_of_getElem? (i := 93) rfl))) (mvT hZ (hw _ (List.mem_of_getElem? (i := 125) rfl))) (by decide) (backOf (W := 0) (rmtb2 l Z a0 hw [] x0 kc c0 c1 cs G T8.heap n0 Z8 f10 f9 st) hZ (hw _ (List.mem_of_getElem? (i := 125) rfl)) (hw _ (List.mem_of_getElem? (i := 93) rfl)) (by decide) (by decide)) (g := (mkF m 23 #[.val (.ref x0), .val (.int (0 : Int32)), .val (.int (2 : Int32)), .val (.ref b2), .val (.int r8), .unset] [(.int (2 : Int32)), (.int (0 : Int32)), (.ref x0)])) rfl (by rw [hml]; rfl) (argsL := [(.ref x0), (.int (0 : Int32)), (.int (2 : Int32))]) (rest := []) (lenOf pdc32_1 rfl) rfl (by show 2 * 0 + _ ≤ _; exact Nat.le_of_eq rfl) (hb hby dc32_23) (fun _ _ => ⟨rfl, rfl, (by decide : 1 + 1 ≤ _), (by decide : 2 + 4 ≤ _)⟩)
    dsimp only [Pt.U, Pt.locs, Pt.cells, Pt.slots] at X14 l14 y14 z14 st14 hQ14
    subst l14 y14 z14
    obtain ⟨r14, kk14, rfl, Nq14, K14, gr14, VR14⟩ := hQ14
    have N14 := Fr.app N8 Nq14
    have f15 := f9.keep K14 (all0)
    have f16 := f10.keep K14 nin0
    have Z14 := Nat.le_trans Z8 K14.1
    have KK14 := KK8.trans K14 (all0)
    have p17 : ∀ t, own_W p e below m T14 26 #[.val (.ref x0), .val (.int (0 : Int32)), .val (.int (2 : Int32)), .val (.ref b2), .val (.int r8), .unset] [(.ref r14)] t → Steps p.tables e below S0 t := fun t k => p13 t (st14 _ k)
    have Zb14 := Z8
    have Kb14 := KK8
    have gn_r14 : n0 ≤ r14 := Nat.le_trans Zb14 gr14
    have gk_r14 : h0.size ≤ r14 := Nat.le_trans Kb14.1 gr14
    have ne_x0_r14 : x0 ≠ r14 := Nat.ne_of_lt (Nat.lt_of_lt_of_le f10.lt gr14)
    have p18 : ∀ t, own_W p e below m T14 32 #[.val (.ref x0), .val (.int (0 : Int32)), .val (.int (2 : Int32)), .val (.ref b2), .val (.int r8), .val (.ref r14)] [(.int r8), (.ref r14)] t → Steps p.tables e below S0 t := fun t k => p17 t (by
      show own_W p e below m T14 26 #[.val (.ref x0), .val (.int (0 : Int32)), .val (.int (2 : Int32)), .val (.ref b2), .val (.int r8), .unset] [(.ref r14)] _
      refine XS.astore X14.here hx rfl (hb hby dc32_26) rfl rfl (l' := #[.val (.ref x0), .val (.int (0 : Int32)), .val (.int (2 : Int32)), .val (.ref b2), .val (.int r8), .val (.ref r14)]) rfl ?_
      show own_W p e below m T14 28 #[.val (.ref x0), .val (.int (0 : Int32)), .val (.int (2 : Int32)), .val (.ref b2), .val (.int r8), .val (.ref r14)] [] _
      refine XS.aload X14.here hx rfl (hb hby dc32_28) rfl rfl ?_
      show own_W p e below m T14 30 #[.val (.ref x0), .val (.int (0 : Int32)), .val (.int (2 : Int32)), .val (.ref b2), .val (.int r8), .val (.ref r14)] [(.ref r14)] _
      refine XS.iload X14.here hx rfl (hb hby dc32_30) rfl ?_
      exact k)
    obtain ⟨_, _, ⟨T19, L19, k19, n19⟩, -, X19, ⟨Lc19, hQ19, l19, y19, z19⟩, st19⟩ := Jvm.LawKit.callS X14 hx (y := (⟨"java/lang/StringUTF16", "getChar", "([BI)C"⟩ : MethodName)) hown (mvT hZ (hw _ (List.mem_of_getElem? (i := 120) rfl))) (mvT hZ (hw _ (List.mem_of_getElem? (i := 121) rfl))) (mvT hZ (hw _ (List.mem_of_getElem? (i := 93) rfl))) (mvT hZ (hw _ (List.mem_of_getElem? (i := 122) rfl))) (by decide) (backOf (W := 0) (rmgc l Z a0 hw [] r14 r8 kk14 (4 : Int32) [(.int (own_hb c0)), (.int (own_lb c0)), (.int (own_hb c1)), (.int (own_lb c1))] cx cs G T14.heap n0 Z14 VR14 jx1 jx2 ux1 ux2 kx f15 st) hZ (hw _ (List.mem_of_getElem? (i := 122) rfl)) (hw _ (List.mem_of_getElem? (i := 93) rfl)) (by decide) (by decide)) (g := (mkF m 32 #[.val (.ref x0), .val (.int (0 : Int32)), .val (.int (2 : Int32)), .val (.ref b2), .val (.int r8), .val (.ref r14)] [(.int r8), (.ref r14)])) rfl (by rw [hml]; rfl) (argsL := [(.ref r14), (.int r8)]) (rest := []) (lenOf pdc32_2 rfl) rfl (by show 2 * 0 + _ ≤ _; exact Nat.le_of_eq rfl) (hb hby dc32_32) (fun _ _ => ⟨rfl, rfl, (by decide : 2 + 0 ≤ _), (by decide : 6 + 0 ≤ _)⟩)
    dsimp only [Pt.U, Pt.locs, Pt.cells, Pt.slots] at X19 l19 y19 z19 st19 hQ19
    subst l19 y19 z19
    obtain ⟨rfl, Nq19, e19⟩ := hQ19
    have N19 := Fr.app N14 Nq19
    have p20 : ∀ t, own_W p e below m T19 35 #[.val (.ref x0), .val (.int (0 : Int32)), .val (.int (2 : Int32)), .val (.ref b2), .val (.int r8), .val (.ref r14)] [(.int cx)] t → Steps p.tables e below S0 t := fun t k => p18 t (st19 _ k)
    have p21 : ∀ t, own_W p e below m T19 56 #[.val (.ref x0), .val (.int (0 : Int32)), .val (.int (2 : Int32)), .val (.ref b2), .val (.int r8), .val (.ref r14)] [(.ref r14)] t → Steps p.tables e below S0 t := fun t k => p20 t (by
      show own_W p e below m T19 35 #[.val (.ref x0), .val (.int (0 : Int32)), .val (.int (2 : Int32)), .val (.ref b2), .val (.int r8), .val (.ref r14)] [(.int cx)] _
      refine XS.sipush X19.here hx rfl (hb hby dc32_35) ?_
      show own_W p e below m T19 38 #[.val (.ref x0), .val (.int (0 : Int32)), .val (.int (2 : Int32)), .val (.ref b2), .val (.int r8), .val (.ref r14)] [(.int (255 : Int32)), (.int cx)] _
      refine XS.icmpYes X19.here hx rfl (pc0 := 38) (pc' := 54) rfl (hb hby dc32_38) rfl ((tlt (gx)).2.2.1) (by decide) (by decide) ?_
      show own_W p e below m T19 54 #[.val (.ref x0), .val (.int (0 : Int32)), .val (.int (2 : Int32)), .val (.ref b2), .val (.int r8), .val (.ref r14)] [] _
      refine XS.aload X19.here hx rfl (hb hby dc32_54) rfl rfl ?_
      exact k)
    subst hS0
    obtain ⟨fs, hr, hrun, hended, hW, hsame⟩ := X19.leave (v := some (.ref r14)) (fun h => by rw [Bd.returns] at h; cases h)
    refine ⟨_, _, p21 _ ?_, hrun, hended, _, _, rfl, ?_, ⟨_, rfl⟩, hW, hsame.mono (by decide) (by decide)⟩
    · show own_W p e below m T19 56 #[.val (.ref x0), .val (.int (0 : Int32)), .val (.int (2 : Int32)), .val (.ref b2), .val (.int r8), .val (.ref r14)] [(.ref r14)] _
      exact retOut X19 hx Bd.returns rfl (Or.inr (Or.inr (Or.inr (Or.inr ⟨rfl, rfl, rfl⟩)))) (hb hby dc32_56) hr
    · show Qc32 Z x0 kc c0 c1 cs G h0 n0 _ T19.heap _
      rw [e19]
      exact ⟨Nat.le_refl _, _, _, rfl, N19, KK14, gk_r14, Or.inr VR14⟩
theorem own_pick3 {r c0 c1 c2 : Int32} (ko0 : own_ok c0) (ko1 : own_ok c1) (ko2 : own_ok c2) (h : (r = (0 : Int32) ∧ (255 : Int32) < c0) ∨ (r = (1 : Int32) ∧ (255 : Int32) < c1) ∨ (r = (2 : Int32) ∧ (255 : Int32) < c2)) : ¬ r = (3 : Int32) ∧ ∃ c : Int32, own_ok c ∧ (255 : Int32) < c ∧ (¬ (r <<< ((1 : Int32) &&& 31)) < 0 ∧ (r <<< ((1 : Int32) &&& 31)) < (6 : Int32)) ∧ (¬ ((r <<< ((1 : Int32) &&& 31)) + (1 : Int32)) < 0 ∧ ((r <<< ((1 : Int32) &&& 31)) + (1 : Int32)) < (6 : Int32)) ∧ ([(.int (own_hb c0)), (.int (own_lb c0)), (.int (own_hb c1)), (.int (own_lb c1)), (.int (own_hb c2)), (.int (own_lb c2))] : List Value).getD ((r <<< ((1 : Int32) &&& 31))).toNatClampNeg (.int (0 : Int32)) = (.int (own_hb c)) ∧ ([(.int (own_hb c0)), (.int (own_lb c0)), (.int (own_hb c1)), (.int (own_lb c1)), (.int (own_hb c2)), (.int (own_lb c2))] : List Value).getD (((r <<< ((1 : Int32) &&& 31)) + (1 : Int32))).toNatClampNeg (.int (0 : Int32)) = (.int (own_lb c)) := by
  rcases h with ⟨rfl, g⟩ | ⟨rfl, g⟩ | ⟨rfl, g⟩
  · exact ⟨by decide, c0, ko0, g, ⟨by decide, by decide⟩, ⟨by decide, by decide⟩, rfl, rfl⟩
  · exact ⟨by decide, c1, ko1, g, ⟨by decide, by decide⟩, ⟨by decide, by decide⟩, rfl, rfl⟩
  · exact ⟨by decide, c2, ko2, g, ⟨by decide, by decide⟩, ⟨by decide, by decide⟩, rfl, rfl⟩
theorem dc53_0 : decode jdk_52_method_21_code 0 = .ok (.iconst 0, 1) := by decide +kernel
theorem dc53_1 : decode jdk_52_method_21_code 1 = .ok (.istore 5, 2) := by decide +kernel
theorem dc53_3 : decode jdk_52_method_21_code 3 = .ok (.iload 5, 2) := by decide +kernel
theorem dc53_5 : decode jdk_52_method_21_code 5 = .ok (.iload 4, 2) := by decide +kernel
theorem dc53_7 : decode jdk_52_method_21_code 7 = .ok (.if_icmp .ge 37, 3) := by decide +kernel
theorem dc53_10 : decode jdk_52_method_21_code 10 = .ok (.aload_n 0, 1) := by decide +kernel
theorem dc53_11 : decode jdk_52_method_21_code 11 = .ok (.iload_n 1, 1) := by decide +kernel
theorem dc53_12 : decode jdk_52_method_21_code 12 = .ok (.caload, 1) := by decide +kernel
theorem dc53_13 : decode jdk_52_method_21_code 13 = .ok (.istore 6, 2) := by decide +kernel
theorem dc53_15 : decode jdk_52_method_21_code 15 = .ok (.iload 6, 2) := by decide +kernel
theorem dc53_17 : decode jdk_52_method_21_code 17 = .ok (.sipush 255, 3) := by decide +kernel
theorem dc53_20 : decode jdk_52_method_21_code 20 = .ok (.if_icmp .le 6, 3) := by decide +kernel
theorem dc53_23 : decode jdk_52_method_21_code 23 = .ok (.iload 5, 2) := by decide +kernel
theorem dc53_25 : decode jdk_52_method_21_code 25 = .ok (.ireturn, 1) := by decide +kernel
theorem dc53_26 : decode jdk_52_method_21_code 26 = .ok (.aload_n 2, 1) := by decide +kernel
theorem dc53_27 : decode jdk_52_method_21_code 27 = .ok (.iload_n 3, 1) := by decide +kernel
theorem dc53_28 : decode jdk_52_method_21_code 28 = .ok (.iload 6, 2) := by decide +kernel
theorem dc53_30 : decode jdk_52_method_21_code 30 = .ok (.i2b, 1) := by decide +kernel
theorem dc53_31 : decode jdk_52_method_21_code 31 = .ok (.bastore, 1) := by decide +kernel
theorem dc53_32 : decode jdk_52_method_21_code 32 = .ok (.iinc 1 1, 3) := by decide +kernel
theorem dc53_35 : decode jdk_52_method_21_code 35 = .ok (.iinc 3 1, 3) := by decide +kernel
theorem dc53_38 : decode jdk_52_method_21_code 38 = .ok (.iinc 5 1, 3) := by decide +kernel
theorem dc53_41 : decode jdk_52_method_21_code 41 = .ok (.goto (-38), 3) := by decide +kernel
theorem dc53_44 : decode jdk_52_method_21_code 44 = .ok (.iload 4, 2) := by decide +kernel
theorem dc53_46 : decode jdk_52_method_21_code 46 = .ok (.ireturn, 1) := by decide +kernel
theorem pnc53 : plainName "java/lang/StringUTF16" = true := by first | (simp [plainName, overriddenIn]; done) | decide +kernel
theorem efc53 (m : MethodId) (x0 : Addr) (x2 : Addr) : entryFrame m #[(.ref x0), (.int (0 : Int32)), (.ref x2), (.int (0 : Int32)), (.int (3 : Int32))] 7 = mkF m 0 #[.val (.ref x0), .val (.int (0 : Int32)), .val (.ref x2), .val (.int (0 : Int32)), .val (.int (3 : Int32)), .unset, .unset] [] := by first | (simp [entryFrame, mkF, argsToLocals, Value.category]; done) | rfl
def Qc53 (Z : State) (x0 : Addr) (x2 : Addr) (kc : ClassId) (kb : ClassId) (c0 : Int32) (c1 : Int32) (c2 : Int32) (h0 : Heap) (n0 : Nat) (v : Option Value) (h : Heap) (L : List Loc) : Prop := ∃ r : Int32, v = some (.int r) ∧ Fr n0 L ∧ Keep h0 h [x2] ∧ ((r = (3 : Int32) ∧ Arv Z h x2 kb .byte (3 : Int32) [(.int (own_lo c0)), (.int (own_lo c1)), (.int (own_lo c2))] (.int (0 : Int32)) ∧ ¬ (255 : Int32) < c0 ∧ ¬ (255 : Int32) < c1 ∧ ¬ (255 : Int32) < c2) ∨ ((r = (0 : Int32) ∧ (255 : Int32) < c0) ∨ (r = (1 : Int32) ∧ (255 : Int32) < c1) ∨ (r = (2 : Int32) ∧ (255 : Int32) < c2)))
set_option maxRecDepth 65536 in
set_option maxHeartbeats 40000000 in
theorem rmc53 (l : Launch) (Z : State) (a0 : Array Value) (hw : ∀ d ∈ tables_1, d.before a0 Z = true) (ws : List Jvm.Cond) (x0 : Addr) (x2 : Addr) (kc : ClassId) (kb : ClassId) (c0 : Int32) (c1 : Int32) (c2 : Int32) (h0 : Heap) (n0 : Nat) (Z0 : n0 ≤ h0.size) (V0 : Arv Z h0 x0 kc .char (3 : Int32) [(.int c0), (.int c1), (.int c2)] (.int (0 : Int32))) (V2 : Arv Z h0 x2 kb .byte (3 : Int32) [(.int (0 : Int32)), (.int (0 : Int32)), (.int (0 : Int32))] (.int (0 : Int32))) (g2 : n0 ≤ x2) (ne : x0 ≠ x2) :
    MetFree l (⟨"java/lang/StringUTF16", "compress", "([CI[BII)I"⟩ : MethodName) (head1 (Jvm.Cond.code (⟨"java/lang/StringUTF16", "compress", "([CI[BII)I"⟩ : MethodName) jdk_52_method_21_code 7 (some .int) :: ws) ({ frames := 0, cells := 0, slots := 0, locals := 0 } : Room)) (fun a U => a = #[(.ref x0), (.int (0 : Int32)), (.ref x2), (.int (0 : Int32)), (.int (3 : Int32))] ∧ Z.Warmed39 U.vm ∧ U.heap = h0) (fun _ _ _ _ _ => True) (fun _ U o U' => ∃ v L, o = .returned v ∧ Qc53 Z x0 x2 kc kb c0 c1 c2 h0 n0 v U'.heap L ∧ FrameEnd U o U' L ({ frames := 0, cells := 0, slots := 0, locals := 0 } : Room).cells ({ frames := 0, cells := 0, slots := 0, locals := 0 } : Room).slots) := by
  refine MetFree.of_bodySF (plainFor_of_name pnc53) hisR ?_
  intro p e s m args below meth c s₁ Bd hml0 hP hK
  obtain ⟨rfl, hZ, hh⟩ := hP
  have hx := Bd.exec
  have hby := Bd.bytes
  have hml : c.maxLocals = 7 := hml0
  have hown : s.vm.findClass "java/lang/StringUTF16" = some m.cls := findClass_of_methodNamed Bd.named
  have hnm := (name_of_methodNamed Bd.named Bd.method).1
  have X0 : Stand p l e ({ frames := 0, cells := 0, slots := 0, locals := 0 } : Room) s m #[(.ref x0), (.int (0 : Int32)), (.ref x2), (.int (0 : Int32)), (.int (3 : Int32))] below meth c s₁ [] 0 0 := Stand.of_body Bd
  have e0 : s₁.heap = h0 := by rw [← hh, Bd.state]; rfl
  have N0 := Fr.nil n0
  have pre0 : ∀ t, Steps p.tables e below (s₁.setTop (mkF m 0 #[.val (.ref x0), .val (.int (0 : Int32)), .val (.ref x2), .val (.int (0 : Int32)), .val (.int (3 : Int32)), .unset, .unset] [])) t → Steps p.tables e below (s₁.setTop (entryFrame m #[(.ref x0), (.int (0 : Int32)), (.ref x2), (.int (0 : Int32)), (.int (3 : Int32))] 7)) t := fun t k => castTop (efc53 m x0 x2) k
  obtain ⟨S0, hS0⟩ : ∃ z, z = (s₁.setTop (entryFrame m #[(.ref x0), (.int (0 : Int32)), (.ref x2), (.int (0 : Int32)), (.int (3 : Int32))] 7)) := ⟨_, rfl⟩
  rw [← hS0] at pre0
  have K0 := Keep.refl h0 [x2]
  have p1 : ∀ t, own_W p e below m s₁ 3 #[.val (.ref x0), .val (.int (0 : Int32)), .val (.ref x2), .val (.int (0 : Int32)), .val (.int (3 : Int32)), .val (.int (0 : Int32)), .unset] [] t → Steps p.tables e below S0 t := fun t k => pre0 t (by
    show own_W p e below m s₁ 0 #[.val (.ref x0), .val (.int (0 : Int32)), .val (.ref x2), .val (.int (0 : Int32)), .val (.int (3 : Int32)), .unset, .unset] [] _
    refine XS.iconst X0.here hx rfl (hb hby dc53_0) ?_
    show own_W p e below m s₁ 1 #[.val (.ref x0), .val (.int (0 : Int32)), .val (.ref x2), .val (.int (0 : Int32)), .val (.int (3 : Int32)), .unset, .unset] [(.int (0 : Int32))] _
    refine XS.istore X0.here hx rfl (hb hby dc53_1) rfl (l' := #[.val (.ref x0), .val (.int (0 : Int32)), .val (.ref x2), .val (.int (0 : Int32)), .val (.int (3 : Int32)), .val (.int (0 : Int32)), .unset]) rfl ?_
    exact k)
  have p2 : ∀ t, own_W p e below m s₁ 12 #[.val (.ref x0), .val (.int (0 : Int32)), .val (.ref x2), .val (.int (0 : Int32)), .val (.int (3 : Int32)), .val (.int (0 : Int32)), .unset] [(.int (0 : Int32)), (.ref x0)] t → Steps p.tables e below S0 t := fun t k => p1 t (by
    show own_W p e below m s₁ 3 #[.val (.ref x0), .val (.int (0 : Int32)), .val (.ref x2), .val (.int (0 : Int32)), .val (.int (3 : Int32)), .val (.int (0 : Int32)), .unset] [] _
    refine XS.iload X0.here hx rfl (hb hby dc53_3) rfl ?_
    show own_W p e below m s₁ 5 #[.val (.ref x0), .val (.int (0 : Int32)), .val (.ref x2), .val (.int (0 : Int32)), .val (.int (3 : Int32)), .val (.int (0 : Int32)), .unset] [(.int (0 : Int32))] _
    refine XS.iload X0.here hx rfl (hb hby dc53_5) rfl ?_
    show own_W p e below m s₁ 7 #[.val (.ref x0), .val (.int (0 : Int32)), .val (.ref x2), .val (.int (0 : Int32)), .val (.int (3 : Int32)), .val (.int (0 : Int32)), .unset] [(.int (3 : Int32)), (.int (0 : Int32))] _
    refine XS.icmpNo X0.here hx rfl (hb hby dc53_7) rfl ((tlt (by decide)).2.1) ?_
    show own_W p e below m s₁ 10 #[.val (.ref x0), .val (.int (0 : Int32)), .val (.ref x2), .val (.int (0 : Int32)), .val (.int (3 : Int32)), .val (.int (0 : Int32)), .unset] [] _
    refine XS.aloadN X0.here hx rfl (hb hby dc53_10) rfl rfl ?_
    show own_W p e below m s₁ 11 #[.val (.ref x0), .val (.int (0 : Int32)), .val (.ref x2), .val (.int (0 : Int32)), .val (.int (3 : Int32)), .val (.int (0 : Int32)), .unset] [(.ref x0)] _
    refine XS.iloadN X0.here hx rfl (hb hby dc53_11) rfl ?_
    exact k)
  obtain ⟨cl3, Ar3, q3, Sz3, Ng3, Hs3, G3⟩ := id V0
  have hin3 : ¬ ((0 : Int32) < 0 ∨ cl3.slots.size ≤ ((0 : Int32)).toNatClampNeg) := inb_of Sz3 ⟨by decide, by decide⟩
  have hat3 : cl3.slots[((0 : Int32)).toNatClampNeg]? = some (.int c0) := Hs3.at hin3 (rfl)
  have p4 : ∀ t, own_W p e below m s₁ 20 #[.val (.ref x0), .val (.int (0 : Int32)), .val (.ref x2), .val (.int (0 : Int32)), .val (.int (3 : Int32)), .val (.int (0 : Int32)), .val (.int c0)] [(.int (255 : Int32)), (.int c0)] t → Steps p.tables e below S0 t := fun t k => p2 t (by
    show own_W p e below m s₁ 12 #[.val (.ref x0), .val (.int (0 : Int32)), .val (.ref x2), .val (.int (0 : Int32)), .val (.int (3 : Int32)), .val (.int (0 : Int32)), .unset] [(.int (0 : Int32)), (.ref x0)] _
    refine X0.caload hx (j := (0 : Int32)) (v := (.int c0)) (by rw [e0]; exact Ar3.1) (State.isArrayOf_alike hZ.alike Ar3.2.1) Ar3.2.2 hin3 hat3 (g := (mkF m 12 #[.val (.ref x0), .val (.int (0 : Int32)), .val (.ref x2), .val (.int (0 : Int32)), .val (.int (3 : Int32)), .val (.int (0 : Int32)), .unset] [(.int (0 : Int32)), (.ref x0)])) rfl rfl (hb hby dc53_12) _ ?_
    show own_W p e below m s₁ 13 #[.val (.ref x0), .val (.int (0 : Int32)), .val (.ref x2), .val (.int (0 : Int32)), .val (.int (3 : Int32)), .val (.int (0 : Int32)), .unset] [(.int c0)] _
    refine XS.istore X0.here hx rfl (hb hby dc53_13) rfl (l' := #[.val (.ref x0), .val (.int (0 : Int32)), .val (.ref x2), .val (.int (0 : Int32)), .val (.int (3 : Int32)), .val (.int (0 : Int32)), .val (.int c0)]) rfl ?_
    show own_W p e below m s₁ 15 #[.val (.ref x0), .val (.int (0 : Int32)), .val (.ref x2), .val (.int (0 : Int32)), .val (.int (3 : Int32)), .val (.int (0 : Int32)), .val (.int c0)] [] _
    refine XS.iload X0.here hx rfl (hb hby dc53_15) rfl ?_
    show own_W p e below m s₁ 17 #[.val (.ref x0), .val (.int (0 : Int32)), .val (.ref x2), .val (.int (0 : Int32)), .val (.int (3 : Int32)), .val (.int (0 : Int32)), .val (.int c0)] [(.int c0)] _
    refine XS.sipush X0.here hx rfl (hb hby dc53_17) ?_
    exact k)
  by_cases e0l : (255 : Int32) < c0
  · have p5 : ∀ t, own_W p e below m s₁ 25 #[.val (.ref x0), .val (.int (0 : Int32)), .val (.ref x2), .val (.int (0 : Int32)), .val (.int (3 : Int32)), .val (.int (0 : Int32)), .val (.int c0)] [(.int (0 : Int32))] t → Steps p.tables e below S0 t := fun t k => p4 t (by
      show own_W p e below m s₁ 20 #[.val (.ref x0), .val (.int (0 : Int32)), .val (.ref x2), .val (.int (0 : Int32)), .val (.int (3 : Int32)), .val (.int (0 : Int32)), .val (.int c0)] [(.int (255 : Int32)), (.int c0)] _
      refine XS.icmpNo X0.here hx rfl (hb hby dc53_20) rfl ((tlt (e0l)).2.2.2) ?_
      show own_W p e below m s₁ 23 #[.val (.ref x0), .val (.int (0 : Int32)), .val (.ref x2), .val (.int (0 : Int32)), .val (.int (3 : Int32)), .val (.int (0 : Int32)), .val (.int c0)] [] _
      refine XS.iload X0.here hx rfl (hb hby dc53_23) rfl ?_
      exact k)
    subst hS0
    obtain ⟨fs, hr, hrun, hended, hW, hsame⟩ := X0.leave (v := some (.int (0 : Int32))) (fun h => by rw [Bd.returns] at h; cases h)
    refine ⟨_, _, p5 _ ?_, hrun, hended, _, _, rfl, ?_, ⟨_, rfl⟩, hW, hsame.mono (by decide) (by decide)⟩
    · show own_W p e below m s₁ 25 #[.val (.ref x0), .val (.int (0 : Int32)), .val (.ref x2), .val (.int (0 : Int32)), .val (.int (3 : Int32)), .val (.int (0 : Int32)), .val (.int c0)] [(.int (0 : Int32))] _
      exact retI X0 hx Bd.returns (hb hby dc53_25) hr
    · show Qc53 Z x0 x2 kc kb c0 c1 c2 h0 n0 _ s₁.heap _
      rw [e0]
      exact ⟨_, rfl, N0, K0, Or.inr (Or.inl ⟨rfl, e0l⟩)⟩
  · have p6 : ∀ t, own_W p e below m s₁ 31 #[.val (.ref x0), .val (.int (0 : Int32)), .val (.ref x2), .val (.int (0 : Int32)), .val (.int (3 : Int32)), .val (.int (0 : Int32)), .val (.int c0)] [(.int (c0.toInt8.toInt32)), (.int (0 : Int32)), (.ref x2)] t → Steps p.tables e below S0 t := fun t k => p4 t (by
      show own_W p e below m s₁ 20 #[.val (.ref x0), .val (.int (0 : Int32)), .val (.ref x2), .val (.int (0 : Int32)), .val (.int (3 : Int32)), .val (.int (0 : Int32)), .val (.int c0)] [(.int (255 : Int32)), (.int c0)] _
      refine XS.icmpYes X0.here hx rfl (pc0 := 20) (pc' := 26) rfl (hb hby dc53_20) rfl ((flt (e0l)).2.2.2) (by decide) (by decide) ?_
      show own_W p e below m s₁ 26 #[.val (.ref x0), .val (.int (0 : Int32)), .val (.ref x2), .val (.int (0 : Int32)), .val (.int (3 : Int32)), .val (.int (0 : Int32)), .val (.int c0)] [] _
      refine XS.aloadN X0.here hx rfl (hb hby dc53_26) rfl rfl ?_
      show own_W p e below m s₁ 27 #[.val (.ref x0), .val (.int (0 : Int32)), .val (.ref x2), .val (.int (0 : Int32)), .val (.int (3 : Int32)), .val (.int (0 : Int32)), .val (.int c0)] [(.ref x2)] _
      refine XS.iloadN X0.here hx rfl (hb hby dc53_27) rfl ?_
      show own_W p e below m s₁ 28 #[.val (.ref x0), .val (.int (0 : Int32)), .val (.ref x2), .val (.int (0 : Int32)), .val (.int (3 : Int32)), .val (.int (0 : Int32)), .val (.int c0)] [(.int (0 : Int32)), (.ref x2)] _
      refine XS.iload X0.here hx rfl (hb hby dc53_28) rfl ?_
      show own_W p e below m s₁ 30 #[.val (.ref x0), .val (.int (0 : Int32)), .val (.ref x2), .val (.int (0 : Int32)), .val (.int (3 : Int32)), .val (.int (0 : Int32)), .val (.int c0)] [(.int c0), (.int (0 : Int32)), (.ref x2)] _
      refine XS.i2b X0.here hx rfl (hb hby dc53_30) rfl ?_
      exact k)
    obtain ⟨cl7, Ar7, q7, Sz7, Ng7, Hs7, G7⟩ := id V2
    have hin7 : ¬ ((0 : Int32) < 0 ∨ cl7.slots.size ≤ ((0 : Int32)).toNatClampNeg) := inb_of Sz7 (⟨by decide, by decide⟩)
    obtain ⟨T7, h7, X7, e7, W7, st7⟩ := stB X0 hx hZ e0 Ar7 (j := (0 : Int32)) hin7 (g := (mkF m 31 #[.val (.ref x0), .val (.int (0 : Int32)), .val (.ref x2), .val (.int (0 : Int32)), .val (.int (3 : Int32)), .val (.int (0 : Int32)), .val (.int c0)] [(.int (c0.toInt8.toInt32)), (.int (0 : Int32)), (.ref x2)])) rfl rfl (hb hby dc53_31)
    have VV7 : Arv Z h7 x2 kb .byte (3 : Int32) [(.int (own_lo c0)), (.int (0 : Int32)), (.int (0 : Int32))] (.int (0 : Int32)) := Arv.set Ar7 q7 Sz7 Ng7 Hs7 G7 (fits_nar_byte _) W7 0 (by decide) (Nat.le_of_ble_eq_true rfl)
    have f8 := V0.other W7 ne
    have Z7 := Nat.le_trans Z0 (Keep.of_wr W7).1
    have N7 := Fr.snoc X7 N0 g2
    have KK7 := K0.wr W7 (Or.inl (List.mem_singleton.mpr rfl))
    have p9 : ∀ t, own_W p e below m T7 32 #[.val (.ref x0), .val (.int (0 : Int32)), .val (.ref x2), .val (.int (0 : Int32)), .val (.int (3 : Int32)), .val (.int (0 : Int32)), .val (.int c0)] [] t → Steps p.tables e below S0 t := fun t k => p6 t (st7 t k)
    have p10 : ∀ t, own_W p e below m T7 3 #[.val (.ref x0), .val (.int ((0 : Int32) + (1 : Int32))), .val (.ref x2), .val (.int ((0 : Int32) + (1 : Int32))), .val (.int (3 : Int32)), .val (.int ((0 : Int32) + (1 : Int32))), .val (.int c0)] [] t → Steps p.tables e below S0 t := fun t k => p9 t (by
      show own_W p e below m T7 32 #[.val (.ref x0), .val (.int (0 : Int32)), .val (.ref x2), .val (.int (0 : Int32)), .val (.int (3 : Int32)), .val (.int (0 : Int32)), .val (.int c0)] [] _
      refine XS.iinc X7.here hx rfl (hb hby dc53_32) rfl (l' := #[.val (.ref x0), .val (.int ((0 : Int32) + (1 : Int32))), .val (.ref x2), .val (.int (0 : Int32)), .val (.int (3 : Int32)), .val (.int (0 : Int32)), .val (.int c0)]) rfl ?_
      show own_W p e below m T7 35 #[.val (.ref x0), .val (.int ((0 : Int32) + (1 : Int32))), .val (.ref x2), .val (.int (0 : Int32)), .val (.int (3 : Int32)), .val (.int (0 : Int32)), .val (.int c0)] [] _
      refine XS.iinc X7.here hx rfl (hb hby dc53_35) rfl (l' := #[.val (.ref x0), .val (.int ((0 : Int32) + (1 : Int32))), .val (.ref x2), .val (.int ((0 : Int32) + (1 : Int32))), .val (.int (3 : Int32)), .val (.int (0 : Int32)), .val (.int c0)]) rfl ?_
      show own_W p e below m T7 38 #[.val (.ref x0), .val (.int ((0 : Int32) + (1 : Int32))), .val (.ref x2), .val (.int ((0 : Int32) + (1 : Int32))), .val (.int (3 : Int32)), .val (.int (0 : Int32)), .val (.int c0)] [] _
      refine XS.iinc X7.here hx rfl (hb hby dc53_38) rfl (l' := #[.val (.ref x0), .val (.int ((0 : Int32) + (1 : Int32))), .val (.ref x2), .val (.int ((0 : Int32) + (1 : Int32))), .val (.int (3 : Int32)), .val (.int ((0 : Int32) + (1 : Int32))), .val (.int c0)]) rfl ?_
      show own_W p e below m T7 41 #[.val (.ref x0), .val (.int ((0 : Int32) + (1 : Int32))), .val (.ref x2), .val (.int ((0 : Int32) + (1 : Int32))), .val (.int (3 : Int32)), .val (.int ((0 : Int32) + (1 : Int32))), .val (.int c0)] [] _
      refine XS.goto X7.here hx rfl (pc0 := 41) (pc' := 3) rfl (hb hby dc53_41) (by decide) (by decide) ?_
      exact k)
    have p11 : ∀ t, own_W p e below m T7 3 #[.val (.ref x0), .val (.int (1 : Int32)), .val (.ref x2), .val (.int (1 : Int32)), .val (.int (3 : Int32)), .val (.int (1 : Int32)), .val (.int c0)] [] t → Steps p.tables e below S0 t := by
      have k := p10
      rw [show ((0 : Int32) + (1 : Int32)) = (1 : Int32) from by decide] at k
      exact k
    have p12 : ∀ t, own_W p e below m T7 12 #[.val (.ref x0), .val (.int (1 : Int32)), .val (.ref x2), .val (.int (1 : Int32)), .val (.int (3 : Int32)), .val (.int (1 : Int32)), .val (.int c0)] [(.int (1 : Int32)), (.ref x0)] t → Steps p.tables e below S0 t := fun t k => p11 t (by
      show own_W p e below m T7 3 #[.val (.ref x0), .val (.int (1 : Int32)), .val (.ref x2), .val (.int (1 : Int32)), .val (.int (3 : Int32)), .val (.int (1 : Int32)), .val (.int c0)] [] _
      refine XS.iload X7.here hx rfl (hb hby dc53_3) rfl ?_
      show own_W p e below m T7 5 #[.val (.ref x0), .val (.int (1 : Int32)), .val (.ref x2), .val (.int (1 : Int32)), .val (.int (3 : Int32)), .val (.int (1 : Int32)), .val (.int c0)] [(.int (1 : Int32))] _
      refine XS.iload X7.here hx rfl (hb hby dc53_5) rfl ?_
      show own_W p e below m T7 7 #[.val (.ref x0), .val (.int (1 : Int32)), .val (.ref x2), .val (.int (1 : Int32)), .val (.int (3 : Int32)), .val (.int (1 : Int32)), .val (.int c0)] [(.int (3 : Int32)), (.int (1 : Int32))] _
      refine XS.icmpNo X7.here hx rfl (hb hby dc53_7) rfl ((tlt (by decide)).2.1) ?_
      show own_W p e below m T7 10 #[.val (.ref x0), .val (.int (1 : Int32)), .val (.ref x2), .val (.int (1 : Int32)), .val (.int (3 : Int32)), .val (.int (1 : Int32)), .val (.int c0)] [] _
      refine XS.aloadN X7.here hx rfl (hb hby dc53_10) rfl rfl ?_
      show own_W p e below m T7 11 #[.val (.ref x0), .val (.int (1 : Int32)), .val (.ref x2), .val (.int (1 : Int32)), .val (.int (3 : Int32)), .val (.int (1 : Int32)), .val (.int c0)] [(.ref x0)] _
      refine XS.iloadN X7.here hx rfl (hb hby dc53_11) rfl ?_
      exact k)
    obtain ⟨cl13, Ar13, q13, Sz13, Ng13, Hs13, G13⟩ := id f8
    have hin13 : ¬ ((1 : Int32) < 0 ∨ cl13.slots.size ≤ ((1 : Int32)).toNatClampNeg) := inb_of Sz13 ⟨by decide, by decide⟩
    have hat13 : cl13.slots[((1 : Int32)).toNatClampNeg]? = some (.int c1) := Hs13.at hin13 (rfl)
    have p14 : ∀ t, own_W p e below m T7 20 #[.val (.ref x0), .val (.int (1 : Int32)), .val (.ref x2), .val (.int (1 : Int32)), .val (.int (3 : Int32)), .val (.int (1 : Int32)), .val (.int c1)] [(.int (255 : Int32)), (.int c1)] t → Steps p.tables e below S0 t := fun t k => p12 t (by
      show own_W p e below m T7 12 #[.val (.ref x0), .val (.int (1 : Int32)), .val (.ref x2), .val (.int (1 : Int32)), .val (.int (3 : Int32)), .val (.int (1 : Int32)), .val (.int c0)] [(.int (1 : Int32)), (.ref x0)] _
      refine X7.caload hx (j := (1 : Int32)) (v := (.int c1)) (by rw [e7]; exact Ar13.1) (State.isArrayOf_alike hZ.alike Ar13.2.1) Ar13.2.2 hin13 hat13 (g := (mkF m 12 #[.val (.ref x0), .val (.int (1 : Int32)), .val (.ref x2), .val (.int (1 : Int32)), .val (.int (3 : Int32)), .val (.int (1 : Int32)), .val (.int c0)] [(.int (1 : Int32)), (.ref x0)])) rfl rfl (hb hby dc53_12) _ ?_
      show own_W p e below m T7 13 #[.val (.ref x0), .val (.int (1 : Int32)), .val (.ref x2), .val (.int (1 : Int32)), .val (.int (3 : Int32)), .val (.int (1 : Int32)), .val (.int c0)] [(.int c1)] _
      refine XS.istore X7.here hx rfl (hb hby dc53_13) rfl (l' := #[.val (.ref x0), .val (.int (1 : Int32)), .val (.ref x2), .val (.int (1 : Int32)), .val (.int (3 : Int32)), .val (.int (1 : Int32)), .val (.int c1)]) rfl ?_
      show own_W p e below m T7 15 #[.val (.ref x0), .val (.int (1 : Int32)), .val (.ref x2), .val (.int (1 : Int32)), .val (.int (3 : Int32)), .val (.int (1 : Int32)), .val (.int c1)] [] _
      refine XS.iload X7.here hx rfl (hb hby dc53_15) rfl ?_
      show own_W p e below m T7 17 #[.val (.ref x0), .val (.int (1 : Int32)), .val (.ref x2), .val (.int (1 : Int32)), .val (.int (3 : Int32)), .val (.int (1 : Int32)), .val (.int c1)] [(.int c1)] _
      refine XS.sipush X7.here hx rfl (hb hby dc53_17) ?_
      exact k)
    by_cases e1l : (255 : Int32) < c1
    · have p15 : ∀ t, own_W p e below m T7 25 #[.val (.ref x0), .val (.int (1 : Int32)), .val (.ref x2), .val (.int (1 : Int32)), .val (.int (3 : Int32)), .val (.int (1 : Int32)), .val (.int c1)] [(.int (1 : Int32))] t → Steps p.tables e below S0 t := fun t k => p14 t (by
        show own_W p e below m T7 20 #[.val (.ref x0), .val (.int (1 : Int32)), .val (.ref x2), .val (.int (1 : Int32)), .val (.int (3 : Int32)), .val (.int (1 : Int32)), .val (.int c1)] [(.int (255 : Int32)), (.int c1)] _
        refine XS.icmpNo X7.here hx rfl (hb hby dc53_20) rfl ((tlt (e1l)).2.2.2) ?_
        show own_W p e below m T7 23 #[.val (.ref x0), .val (.int (1 : Int32)), .val (.ref x2), .val (.int (1 : Int32)), .val (.int (3 : Int32)), .val (.int (1 : Int32)), .val (.int c1)] [] _
        refine XS.iload X7.here hx rfl (hb hby dc53_23) rfl ?_
        exact k)
      subst hS0
      obtain ⟨fs, hr, hrun, hended, hW, hsame⟩ := X7.leave (v := some (.int (1 : Int32))) (fun h => by rw [Bd.returns] at h; cases h)
      refine ⟨_, _, p15 _ ?_, hrun, hended, _, _, rfl, ?_, ⟨_, rfl⟩, hW, hsame.mono (by decide) (by decide)⟩
      · show own_W p e below m T7 25 #[.val (.ref x0), .val (.int (1 : Int32)), .val (.ref x2), .val (.int (1 : Int32)), .val (.int (3 : Int32)), .val (.int (1 : Int32)), .val (.int c1)] [(.int (1 : Int32))] _
        exact retI X7 hx Bd.returns (hb hby dc53_25) hr
      · show Qc53 Z x0 x2 kc kb c0 c1 c2 h0 n0 _ T7.heap _
        rw [e7]
        exact ⟨_, rfl, N7, KK7, Or.inr (Or.inr (Or.inl ⟨rfl, e1l⟩))⟩
    · have p16 : ∀ t, own_W p e below m T7 31 #[.val (.ref x0), .val (.int (1 : Int32)), .val (.ref x2), .val (.int (1 : Int32)), .val (.int (3 : Int32)), .val (.int (1 : Int32)), .val (.int c1)] [(.int (c1.toInt8.toInt32)), (.int (1 : Int32)), (.ref x2)] t → Steps p.tables e below S0 t := fun t k => p14 t (by
        show own_W p e below m T7 20 #[.val (.ref x0), .val (.int (1 : Int32)), .val (.ref x2), .val (.int (1 : Int32)), .val (.int (3 : Int32)), .val (.int (1 : Int32)), .val (.int c1)] [(.int (255 : Int32)), (.int c1)] _
        refine XS.icmpYes X7.here hx rfl (pc0 := 20) (pc' := 26) rfl (hb hby dc53_20) rfl ((flt (e1l)).2.2.2) (by decide) (by decide) ?_
        show own_W p e below m T7 26 #[.val (.ref x0), .val (.int (1 : Int32)), .val (.ref x2), .val (.int (1 : Int32)), .val (.int (3 : Int32)), .val (.int (1 : Int32)), .val (.int c1)] [] _
        refine XS.aloadN X7.here hx rfl (hb hby dc53_26) rfl rfl ?_
        show own_W p e below m T7 27 #[.val (.ref x0), .val (.int (1 : Int32)), .val (.ref x2), .val (.int (1 : Int32)), .val (.int (3 : Int32)), .val (.int (1 : Int32)), .val (.int c1)] [(.ref x2)] _
        refine XS.iloadN X7.here hx rfl (hb hby dc53_27) rfl ?_
        show own_W p e below m T7 28 #[.val (.ref x0), .val (.int (1 : Int32)), .val (.ref x2), .val (.int (1 : Int32)), .val (.int (3 : Int32)), .val (.int (1 : Int32)), .val (.int c1)] [(.int (1 : Int32)), (.ref x2)] _
        refine XS.iload X7.here hx rfl (hb hby dc53_28) rfl ?_
        show own_W p e below m T7 30 #[.val (.ref x0), .val (.int (1 : Int32)), .val (.ref x2), .val (.int (1 : Int32)), .val (.int (3 : Int32)), .val (.int (1 : Int32)), .val (.int c1)] [(.int c1), (.int (1 : Int32)), (.ref x2)] _
        refine XS.i2b X7.here hx rfl (hb hby dc53_30) rfl ?_
        exact k)
      obtain ⟨cl17, Ar17, q17, Sz17, Ng17, Hs17, G17⟩ := id VV7
      have hin17 : ¬ ((1 : Int32) < 0 ∨ cl17.slots.size ≤ ((1 : Int32)).toNatClampNeg) := inb_of Sz17 (⟨by decide, by decide⟩)
      obtain ⟨T17, h17, X17, e17, W17, st17⟩ := stB X7 hx hZ e7 Ar17 (j := (1 : Int32)) hin17 (g := (mkF m 31 #[.val (.ref x0), .val (.int (1 : Int32)), .val (.ref x2), .val (.int (1 : Int32)), .val (.int (3 : Int32)), .val (.int (1 : Int32)), .val (.int c1)] [(.int (c1.toInt8.toInt32)), (.int (1 : Int32)), (.ref x2)])) rfl rfl (hb hby dc53_31)
      have VV17 : Arv Z h17 x2 kb .byte (3 : Int32) [(.int (own_lo c0)), (.int (own_lo c1)), (.int (0 : Int32))] (.int (0 : Int32)) := Arv.set Ar17 q17 Sz17 Ng17 Hs17 G17 (fits_nar_byte _) W17 1 (by decide) (Nat.le_of_ble_eq_true rfl)
      have f18 := f8.other W17 ne
      have Z17 := Nat.le_trans Z7 (Keep.of_wr W17).1
      have N17 := Fr.snoc X17 N7 g2
      have KK17 := KK7.wr W17 (Or.inl (List.mem_singleton.mpr rfl))
      have p19 : ∀ t, own_W p e below m T17 32 #[.val (.ref x0), .val (.int (1 : Int32)), .val (.ref x2), .val (.int (1 : Int32)), .val (.int (3 : Int32)), .val (.int (1 : Int32)), .val (.int c1)] [] t → Steps p.tables e below S0 t := fun t k => p16 t (st17 t k)
      have p20 : ∀ t, own_W p e below m T17 3 #[.val (.ref x0), .val (.int ((1 : Int32) + (1 : Int32))), .val (.ref x2), .val (.int ((1 : Int32) + (1 : Int32))), .val (.int (3 : Int32)), .val (.int ((1 : Int32) + (1 : Int32))), .val (.int c1)] [] t → Steps p.tables e below S0 t := fun t k => p19 t (by
        show own_W p e below m T17 32 #[.val (.ref x0), .val (.int (1 : Int32)), .val (.ref x2), .val (.int (1 : Int32)), .val (.int (3 : Int32)), .val (.int (1 : Int32)), .val (.int c1)] [] _
        refine XS.iinc X17.here hx rfl (hb hby dc53_32) rfl (l' := #[.val (.ref x0), .val (.int ((1 : Int32) + (1 : Int32))), .val (.ref x2), .val (.int (1 : Int32)), .val (.int (3 : Int32)), .val (.int (1 : Int32)), .val (.int c1)]) rfl ?_
        show own_W p e below m T17 35 #[.val (.ref x0), .val (.int ((1 : Int32) + (1 : Int32))), .val (.ref x2), .val (.int (1 : Int32)), .val (.int (3 : Int32)), .val (.int (1 : Int32)), .val (.int c1)] [] _
        refine XS.iinc X17.here hx rfl (hb hby dc53_35) rfl (l' := #[.val (.ref x0), .val (.int ((1 : Int32) + (1 : Int32))), .val (.ref x2), .val (.int ((1 : Int32) + (1 : Int32))), .val (.int (3 : Int32)), .val (.int (1 : Int32)), .val (.int c1)]) rfl ?_
        show own_W p e below m T17 38 #[.val (.ref x0), .val (.int ((1 : Int32) + (1 : Int32))), .val (.ref x2), .val (.int ((1 : Int32) + (1 : Int32))), .val (.int (3 : Int32)), .val (.int (1 : Int32)), .val (.int c1)] [] _
        refine XS.iinc X17.here hx rfl (hb hby dc53_38) rfl (l' := #[.val (.ref x0), .val (.int ((1 : Int32) + (1 : Int32))), .val (.ref x2), .val (.int ((1 : Int32) + (1 : Int32))), .val (.int (3 : Int32)), .val (.int ((1 : Int32) + (1 : Int32))), .val (.int c1)]) rfl ?_
        show own_W p e below m T17 41 #[.val (.ref x0), .val (.int ((1 : Int32) + (1 : Int32))), .val (.ref x2), .val (.int ((1 : Int32) + (1 : Int32))), .val (.int (3 : Int32)), .val (.int ((1 : Int32) + (1 : Int32))), .val (.int c1)] [] _
        refine XS.goto X17.here hx rfl (pc0 := 41) (pc' := 3) rfl (hb hby dc53_41) (by decide) (by decide) ?_
        exact k)
      have p21 : ∀ t, own_W p e below m T17 3 #[.val (.ref x0), .val (.int (2 : Int32)), .val (.ref x2), .val (.int (2 : Int32)), .val (.int (3 : Int32)), .val (.int (2 : Int32)), .val (.int c1)] [] t → Steps p.tables e below S0 t := by
        have k := p20
        rw [show ((1 : Int32) + (1 : Int32)) = (2 : Int32) from by decide] at k
        exact k
      have p22 : ∀ t, own_W p e below m T17 12 #[.val (.ref x0), .val (.int (2 : Int32)), .val (.ref x2), .val (.int (2 : Int32)), .val (.int (3 : Int32)), .val (.int (2 : Int32)), .val (.int c1)] [(.int (2 : Int32)), (.ref x0)] t → Steps p.tables e below S0 t := fun t k => p21 t (by
        show own_W p e below m T17 3 #[.val (.ref x0), .val (.int (2 : Int32)), .val (.ref x2), .val (.int (2 : Int32)), .val (.int (3 : Int32)), .val (.int (2 : Int32)), .val (.int c1)] [] _
        refine XS.iload X17.here hx rfl (hb hby dc53_3) rfl ?_
        show own_W p e below m T17 5 #[.val (.ref x0), .val (.int (2 : Int32)), .val (.ref x2), .val (.int (2 : Int32)), .val (.int (3 : Int32)), .val (.int (2 : Int32)), .val (.int c1)] [(.int (2 : Int32))] _
        refine XS.iload X17.here hx rfl (hb hby dc53_5) rfl ?_
        show own_W p e below m T17 7 #[.val (.ref x0), .val (.int (2 : Int32)), .val (.ref x2), .val (.int (2 : Int32)), .val (.int (3 : Int32)), .val (.int (2 : Int32)), .val (.int c1)] [(.int (3 : Int32)), (.int (2 : Int32))] _
        refine XS.icmpNo X17.here hx rfl (hb hby dc53_7) rfl ((tlt (by decide)).2.1) ?_
        show own_W p e below m T17 10 #[.val (.ref x0), .val (.int (2 : Int32)), .val (.ref x2), .val (.int (2 : Int32)), .val (.int (3 : Int32)), .val (.int (2 : Int32)), .val (.int c1)] [] _
        refine XS.aloadN X17.here hx rfl (hb hby dc53_10) rfl rfl ?_
        show own_W p e below m T17 11 #[.val (.ref x0), .val (.int (2 : Int32)), .val (.ref x2), .val (.int (2 : Int32)), .val (.int (3 : Int32)), .val (.int (2 : Int32)), .val (.int c1)] [(.ref x0)] _
        refine XS.iloadN X17.here hx rfl (hb hby dc53_11) rfl ?_
        exact k)
      obtain ⟨cl23, Ar23, q23, Sz23, Ng23, Hs23, G23⟩ := id f18
      have hin23 : ¬ ((2 : Int32) < 0 ∨ cl23.slots.size ≤ ((2 : Int32)).toNatClampNeg) := inb_of Sz23 ⟨by decide, by decide⟩
      have hat23 : cl23.slots[((2 : Int32)).toNatClampNeg]? = some (.int c2) := Hs23.at hin23 (rfl)
      have p24 : ∀ t, own_W p e below m T17 20 #[.val (.ref x0), .val (.int (2 : Int32)), .val (.ref x2), .val (.int (2 : Int32)), .val (.int (3 : Int32)), .val (.int (2 : Int32)), .val (.int c2)] [(.int (255 : Int32)), (.int c2)] t → Steps p.tables e below S0 t := fun t k => p22 t (by
        show own_W p e below m T17 12 #[.val (.ref x0), .val (.int (2 : Int32)), .val (.ref x2), .val (.int (2 : Int32)), .val (.int (3 : Int32)), .val (.int (2 : Int32)), .val (.int c1)] [(.int (2 : Int32)), (.ref x0)] _
        refine X17.caload hx (j := (2 : Int32)) (v := (.int c2)) (by rw [e17]; exact Ar23.1) (State.isArrayOf_alike hZ.alike Ar23.2.1) Ar23.2.2 hin23 hat23 (g := (mkF m 12 #[.val (.ref x0), .val (.int (2 : Int32)), .val (.ref x2), .val (.int (2 : Int32)), .val (.int (3 : Int32)), .val (.int (2 : Int32)), .val (.int c1)] [(.int (2 : Int32)), (.ref x0)])) rfl rfl (hb hby dc53_12) _ ?_
        show own_W p e below m T17 13 #[.val (.ref x0), .val (.int (2 : Int32)), .val (.ref x2), .val (.int (2 : Int32)), .val (.int (3 : Int32)), .val (.int (2 : Int32)), .val (.int c1)] [(.int c2)] _
        refine XS.istore X17.here hx rfl (hb hby dc53_13) rfl (l' := #[.val (.ref x0), .val (.int (2 : Int32)), .val (.ref x2), .val (.int (2 : Int32)), .val (.int (3 : Int32)), .val (.int (2 : Int32)), .val (.int c2)]) rfl ?_
        show own_W p e below m T17 15 #[.val (.ref x0), .val (.int (2 : Int32)), .val (.ref x2), .val (.int (2 : Int32)), .val (.int (3 : Int32)), .val (.int (2 : Int32)), .val (.int c2)] [] _
        refine XS.iload X17.here hx rfl (hb hby dc53_15) rfl ?_
        show own_W p e below m T17 17 #[.val (.ref x0), .val (.int (2 : Int32)), .val (.ref x2), .val (.int (2 : Int32)), .val (.int (3 : Int32)), .val (.int (2 : Int32)), .val (.int c2)] [(.int c2)] _
        refine XS.sipush X17.here hx rfl (hb hby dc53_17) ?_
        exact k)
      by_cases e2l : (255 : Int32) < c2
      · have p25 : ∀ t, own_W p e below m T17 25 #[.val (.ref x0), .val (.int (2 : Int32)), .val (.ref x2), .val (.int (2 : Int32)), .val (.int (3 : Int32)), .val (.int (2 : Int32)), .val (.int c2)] [(.int (2 : Int32))] t → Steps p.tables e below S0 t := fun t k => p24 t (by
          show own_W p e below m T17 20 #[.val (.ref x0), .val (.int (2 : Int32)), .val (.ref x2), .val (.int (2 : Int32)), .val (.int (3 : Int32)), .val (.int (2 : Int32)), .val (.int c2)] [(.int (255 : Int32)), (.int c2)] _
          refine XS.icmpNo X17.here hx rfl (hb hby dc53_20) rfl ((tlt (e2l)).2.2.2) ?_
          show own_W p e below m T17 23 #[.val (.ref x0), .val (.int (2 : Int32)), .val (.ref x2), .val (.int (2 : Int32)), .val (.int (3 : Int32)), .val (.int (2 : Int32)), .val (.int c2)] [] _
          refine XS.iload X17.here hx rfl (hb hby dc53_23) rfl ?_
          exact k)
        subst hS0
        obtain ⟨fs, hr, hrun, hended, hW, hsame⟩ := X17.leave (v := some (.int (2 : Int32))) (fun h => by rw [Bd.returns] at h; cases h)
        refine ⟨_, _, p25 _ ?_, hrun, hended, _, _, rfl, ?_, ⟨_, rfl⟩, hW, hsame.mono (by decide) (by decide)⟩
        · show own_W p e below m T17 25 #[.val (.ref x0), .val (.int (2 : Int32)), .val (.ref x2), .val (.int (2 : Int32)), .val (.int (3 : Int32)), .val (.int (2 : Int32)), .val (.int c2)] [(.int (2 : Int32))] _
          exact retI X17 hx Bd.returns (hb hby dc53_25) hr
        · show Qc53 Z x0 x2 kc kb c0 c1 c2 h0 n0 _ T17.heap _
          rw [e17]
          exact ⟨_, rfl, N17, KK17, Or.inr (Or.inr (Or.inr (⟨rfl, e2l⟩)))⟩
      · have p26 : ∀ t, own_W p e below m T17 31 #[.val (.ref x0), .val (.int (2 : Int32)), .val (.ref x2), .val (.int (2 : Int32)), .val (.int (3 : Int32)), .val (.int (2 : Int32)), .val (.int c2)] [(.int (c2.toInt8.toInt32)), (.int (2 : Int32)), (.ref x2)] t → Steps p.tables e below S0 t := fun t k => p24 t (by
          show own_W p e below m T17 20 #[.val (.ref x0), .val (.int (2 : Int32)), .val (.ref x2), .val (.int (2 : Int32)), .val (.int (3 : Int32)), .val (.int (2 : Int32)), .val (.int c2)] [(.int (255 : Int32)), (.int c2)] _
          refine XS.icmpYes X17.here hx rfl (pc0 := 20) (pc' := 26) rfl (hb hby dc53_20) rfl ((flt (e2l)).2.2.2) (by decide) (by decide) ?_
          show own_W p e below m T17 26 #[.val (.ref x0), .val (.int (2 : Int32)), .val (.ref x2), .val (.int (2 : Int32)), .val (.int (3 : Int32)), .val (.int (2 : Int32)), .val (.int c2)] [] _
          refine XS.aloadN X17.here hx rfl (hb hby dc53_26) rfl rfl ?_
          show own_W p e below m T17 27 #[.val (.ref x0), .val (.int (2 : Int32)), .val (.ref x2), .val (.int (2 : Int32)), .val (.int (3 : Int32)), .val (.int (2 : Int32)), .val (.int c2)] [(.ref x2)] _
          refine XS.iloadN X17.here hx rfl (hb hby dc53_27) rfl ?_
          show own_W p e below m T17 28 #[.val (.ref x0), .val (.int (2 : Int32)), .val (.ref x2), .val (.int (2 : Int32)), .val (.int (3 : Int32)), .val (.int (2 : Int32)), .val (.int c2)] [(.int (2 : Int32)), (.ref x2)] _
          refine XS.iload X17.here hx rfl (hb hby dc53_28) rfl ?_
          show own_W p e below m T17 30 #[.val (.ref x0), .val (.int (2 : Int32)), .val (.ref x2), .val (.int (2 : Int32)), .val (.int (3 : Int32)), .val (.int (2 : Int32)), .val (.int c2)] [(.int c2), (.int (2 : Int32)), (.ref x2)] _
          refine XS.i2b X17.here hx rfl (hb hby dc53_30) rfl ?_
          exact k)
        obtain ⟨cl27, Ar27, q27, Sz27, Ng27, Hs27, G27⟩ := id VV17
        have hin27 : ¬ ((2 : Int32) < 0 ∨ cl27.slots.size ≤ ((2 : Int32)).toNatClampNeg) := inb_of Sz27 (⟨by decide, by decide⟩)
        obtain ⟨T27, h27, X27, e27, W27, st27⟩ := stB X17 hx hZ e17 Ar27 (j := (2 : Int32)) hin27 (g := (mkF m 31 #[.val (.ref x0), .val (.int (2 : Int32)), .val (.ref x2), .val (.int (2 : Int32)), .val (.int (3 : Int32)), .val (.int (2 : Int32)), .val (.int c2)] [(.int (c2.toInt8.toInt32)), (.int (2 : Int32)), (.ref x2)])) rfl rfl (hb hby dc53_31)
        have VV27 : Arv Z h27 x2 kb .byte (3 : Int32) [(.int (own_lo c0)), (.int (own_lo c1)), (.int (own_lo c2))] (.int (0 : Int32)) := Arv.set Ar27 q27 Sz27 Ng27 Hs27 G27 (fits_nar_byte _) W27 2 (by decide) (Nat.le_of_ble_eq_true rfl)
        have f28 := f18.other W27 ne
        have Z27 := Nat.le_trans Z17 (Keep.of_wr W27).1
        have N27 := Fr.snoc X27 N17 g2
        have KK27 := KK17.wr W27 (Or.inl (List.mem_singleton.mpr rfl))
        have p29 : ∀ t, own_W p e below m T27 32 #[.val (.ref x0), .val (.int (2 : Int32)), .val (.ref x2), .val (.int (2 : Int32)), .val (.int (3 : Int32)), .val (.int (2 : Int32)), .val (.int c2)] [] t → Steps p.tables e below S0 t := fun t k => p26 t (st27 t k)
        have p30 : ∀ t, own_W p e below m T27 3 #[.val (.ref x0), .val (.int ((2 : Int32) + (1 : Int32))), .val (.ref x2), .val (.int ((2 : Int32) + (1 : Int32))), .val (.int (3 : Int32)), .val (.int ((2 : Int32) + (1 : Int32))), .val (.int c2)] [] t → Steps p.tables e below S0 t := fun t k => p29 t (by
          show own_W p e below m T27 32 #[.val (.ref x0), .val (.int (2 : Int32)), .val (.ref x2), .val (.int (2 : Int32)), .val (.int (3 : Int32)), .val (.int (2 : Int32)), .val (.int c2)] [] _
          refine XS.iinc X27.here hx rfl (hb hby dc53_32) rfl (l' := #[.val (.ref x0), .val (.int ((2 : Int32) + (1 : Int32))), .val (.ref x2), .val (.int (2 : Int32)), .val (.int (3 : Int32)), .val (.int (2 : Int32)), .val (.int c2)]) rfl ?_
          show own_W p e below m T27 35 #[.val (.ref x0), .val (.int ((2 : Int32) + (1 : Int32))), .val (.ref x2), .val (.int (2 : Int32)), .val (.int (3 : Int32)), .val (.int (2 : Int32)), .val (.int c2)] [] _
          refine XS.iinc X27.here hx rfl (hb hby dc53_35) rfl (l' := #[.val (.ref x0), .val (.int ((2 : Int32) + (1 : Int32))), .val (.ref x2), .val (.int ((2 : Int32) + (1 : Int32))), .val (.int (3 : Int32)), .val (.int (2 : Int32)), .val (.int c2)]) rfl ?_
          show own_W p e below m T27 38 #[.val (.ref x0), .val (.int ((2 : Int32) + (1 : Int32))), .val (.ref x2), .val (.int ((2 : Int32) + (1 : Int32))), .val (.int (3 : Int32)), .val (.int (2 : Int32)), .val (.int c2)] [] _
          refine XS.iinc X27.here hx rfl (hb hby dc53_38) rfl (l' := #[.val (.ref x0), .val (.int ((2 : Int32) + (1 : Int32))), .val (.ref x2), .val (.int ((2 : Int32) + (1 : Int32))), .val (.int (3 : Int32)), .val (.int ((2 : Int32) + (1 : Int32))), .val (.int c2)]) rfl ?_
          show own_W p e below m T27 41 #[.val (.ref x0), .val (.int ((2 : Int32) + (1 : Int32))), .val (.ref x2), .val (.int ((2 : Int32) + (1 : Int32))), .val (.int (3 : Int32)), .val (.int ((2 : Int32) + (1 : Int32))), .val (.int c2)] [] _
          refine XS.goto X27.here hx rfl (pc0 := 41) (pc' := 3) rfl (hb hby dc53_41) (by decide) (by decide) ?_
          exact k)
        have p31 : ∀ t, own_W p e below m T27 3 #[.val (.ref x0), .val (.int (3 : Int32)), .val (.ref x2), .val (.int (3 : Int32)), .val (.int (3 : Int32)), .val (.int (3 : Int32)), .val (.int c2)] [] t → Steps p.tables e below S0 t := by
          have k := p30
          rw [show ((2 : Int32) + (1 : Int32)) = (3 : Int32) from by decide] at k
          exact k
        have p32 : ∀ t, own_W p e below m T27 46 #[.val (.ref x0), .val (.int (3 : Int32)), .val (.ref x2), .val (.int (3 : Int32)), .val (.int (3 : Int32)), .val (.int (3 : Int32)), .val (.int c2)] [(.int (3 : Int32))] t → Steps p.tables e below S0 t := fun t k => p31 t (by
          show own_W p e below m T27 3 #[.val (.ref x0), .val (.int (3 : Int32)), .val (.ref x2), .val (.int (3 : Int32)), .val (.int (3 : Int32)), .val (.int (3 : Int32)), .val (.int c2)] [] _
          refine XS.iload X27.here hx rfl (hb hby dc53_3) rfl ?_
          show own_W p e below m T27 5 #[.val (.ref x0), .val (.int (3 : Int32)), .val (.ref x2), .val (.int (3 : Int32)), .val (.int (3 : Int32)), .val (.int (3 : Int32)), .val (.int c2)] [(.int (3 : Int32))] _
          refine XS.iload X27.here hx rfl (hb hby dc53_5) rfl ?_
          show own_W p e below m T27 7 #[.val (.ref x0), .val (.int (3 : Int32)), .val (.ref x2), .val (.int (3 : Int32)), .val (.int (3 : Int32)), .val (.int (3 : Int32)), .val (.int c2)] [(.int (3 : Int32)), (.int (3 : Int32))] _
          refine XS.icmpYes X27.here hx rfl (pc0 := 7) (pc' := 44) rfl (hb hby dc53_7) rfl ((flt (by decide)).2.1) (by decide) (by decide) ?_
          show own_W p e below m T27 44 #[.val (.ref x0), .val (.int (3 : Int32)), .val (.ref x2), .val (.int (3 : Int32)), .val (.int (3 : Int32)), .val (.int (3 : Int32)), .val (.int c2)] [] _
          refine XS.iload X27.here hx rfl (hb hby dc53_44) rfl ?_
          exact k)
        subst hS0
        obtain ⟨fs, hr, hrun, hended, hW, hsame⟩ := X27.leave (v := some (.int (3 : Int32))) (fun h => by rw [Bd.returns] at h; cases h)
        refine ⟨_, _, p32 _ ?_, hrun, hended, _, _, rfl, ?_, ⟨_, rfl⟩, hW, hsame.mono (by decide) (by decide)⟩
        · show own_W p e below m T27 46 #[.val (.ref x0), .val (.int (3 : Int32)), .val (.ref x2), .val (.int (3 : Int32)), .val (.int (3 : Int32)), .val (.int (3 : Int32)), .val (.int c2)] [(.int (3 : Int32))] _
          exact retI X27 hx Bd.returns (hb hby dc53_46) hr
        · show Qc53 Z x0 x2 kc kb c0 c1 c2 h0 n0 _ T27.heap _
          rw [e27]
          exact ⟨_, rfl, N27, KK27, Or.inl ⟨rfl, VV27, e0l, e1l, e2l⟩⟩
theorem dc33_0 : decode jdk_52_method_16_code 0 = .ok (.iload_n 2, 1) := by decide +kernel
theorem dc33_1 : decode jdk_52_method_16_code 1 = .ok (.newarray .byte, 2) := by decide +kernel
theorem dc33_3 : decode jdk_52_method_16_code 3 = .ok (.astore_n 3, 1) := by decide +kernel
theorem dc33_4 : decode jdk_52_method_16_code 4 = .ok (.aload_n 0, 1) := by decide +kernel
theorem dc33_5 : decode jdk_52_method_16_code 5 = .ok (.iload_n 1, 1) := by decide +kernel
theorem dc33_6 : decode jdk_52_method_16_code 6 = .ok (.aload_n 3, 1) := by decide +kernel
theorem dc33_7 : decode jdk_52_method_16_code 7 = .ok (.iconst 0, 1) := by decide +kernel
theorem dc33_8 : decode jdk_52_method_16_code 8 = .ok (.iload_n 2, 1) := by decide +kernel
theorem dc33_9 : decode jdk_52_method_16_code 9 = .ok (.invokestatic 115, 3) := by decide +kernel
theorem dc33_12 : decode jdk_52_method_16_code 12 = .ok (.istore 4, 2) := by decide +kernel
theorem dc33_14 : decode jdk_52_method_16_code 14 = .ok (.iload 4, 2) := by decide +kernel
theorem dc33_16 : decode jdk_52_method_16_code 16 = .ok (.iload_n 2, 1) := by decide +kernel
theorem dc33_17 : decode jdk_52_method_16_code 17 = .ok (.if_icmp .eq 40, 3) := by decide +kernel
theorem dc33_20 : decode jdk_52_method_16_code 20 = .ok (.aload_n 0, 1) := by decide +kernel
theorem dc33_21 : decode jdk_52_method_16_code 21 = .ok (.iload_n 1, 1) := by decide +kernel
theorem dc33_22 : decode jdk_52_method_16_code 22 = .ok (.iload_n 2, 1) := by decide +kernel
theorem dc33_23 : decode jdk_52_method_16_code 23 = .ok (.invokestatic 119, 3) := by decide +kernel
theorem dc33_26 : decode jdk_52_method_16_code 26 = .ok (.astore 5, 2) := by decide +kernel
theorem dc33_28 : decode jdk_52_method_16_code 28 = .ok (.aload 5, 2) := by decide +kernel
theorem dc33_30 : decode jdk_52_method_16_code 30 = .ok (.iload 4, 2) := by decide +kernel
theorem dc33_32 : decode jdk_52_method_16_code 32 = .ok (.invokestatic 71, 3) := by decide +kernel
theorem dc33_35 : decode jdk_52_method_16_code 35 = .ok (.sipush 255, 3) := by decide +kernel
theorem dc33_38 : decode jdk_52_method_16_code 38 = .ok (.if_icmp .gt 16, 3) := by decide +kernel
theorem dc33_54 : decode jdk_52_method_16_code 54 = .ok (.aload 5, 2) := by decide +kernel
theorem dc33_56 : decode jdk_52_method_16_code 56 = .ok (.areturn, 1) := by decide +kernel
theorem dc33_57 : decode jdk_52_method_16_code 57 = .ok (.aload_n 3, 1) := by decide +kernel
theorem dc33_58 : decode jdk_52_method_16_code 58 = .ok (.areturn, 1) := by decide +kernel
theorem pnc33 : plainName "java/lang/StringUTF16" = true := by first | (simp [plainName, overriddenIn]; done) | decide +kernel
theorem pdc33_0 : parseMethodDescriptor "([CI[BII)I" = some ⟨[(.array .char), .int, (.array .byte), .int, .int], some .int⟩ := by decide +kernel
theorem pdc33_1 : parseMethodDescriptor "([CII)[B" = some ⟨[(.array .char), .int, .int], some (.array .byte)⟩ := by decide +kernel
theorem pdc33_2 : parseMethodDescriptor "([BI)C" = some ⟨[(.array .byte), .int], some .char⟩ := by decide +kernel
theorem efc33 (m : MethodId) (x0 : Addr) : entryFrame m #[(.ref x0), (.int (0 : Int32)), (.int (3 : Int32))] 6 = mkF m 0 #[.val (.ref x0), .val (.int (0 : Int32)), .val (.int (3 : Int32)), .unset, .unset, .unset] [] := by first | (simp [entryFrame, mkF, argsToLocals, Value.category]; done) | rfl
def Qc33 (Z : State) (x0 : Addr) (kc : ClassId) (c0 : Int32) (c1 : Int32) (c2 : Int32) (cs : Int32) (G : Value) (h0 : Heap) (n0 : Nat) (v : Option Value) (h : Heap) (L : List Loc) : Prop := h.size ≤ h.size ∧ ∃ (r : Addr) (kk : ClassId), v = some (.ref r) ∧ Fr n0 L ∧ Keep h0 h [] ∧ h0.size ≤ r ∧ ((Arv Z h r kk .byte (3 : Int32) [(.int (own_lo c0)), (.int (own_lo c1)), (.int (own_lo c2))] (.int (0 : Int32)) ∧ ¬ (255 : Int32) < c0 ∧ ¬ (255 : Int32) < c1 ∧ ¬ (255 : Int32) < c2) ∨ Arv Z h r kk .byte (6 : Int32) [(.int (own_hb c0)), (.int (own_lb c0)), (.int (own_hb c1)), (.int (own_lb c1)), (.int (own_hb c2)), (.int (own_lb c2))] (.int (0 : Int32)))
set_option maxRecDepth 65536 in
set_option maxHeartbeats 40000000 in
theorem rmc33 (l : Launch) (Z : State) (a0 : Array Value) (hw : ∀ d ∈ tables_1, d.before a0 Z = true) (ws : List Jvm.Cond) (x0 : Addr) (kc : ClassId) (c0 : Int32) (c1 : Int32) (c2 : Int32) (cs : Int32) (G : Value) (h0 : Heap) (n0 : Nat) (Z0 : n0 ≤ h0.size) (V0 : Arv Z h0 x0 kc .char (3 : Int32) [(.int c0), (.int c1), (.int c2)] (.int (0 : Int32))) (ko0 : own_ok c0) (ko1 : own_ok c1) (ko2 : own_ok c2) (O0 : Old Z n0 h0) (st : own_ST Z cs G) :
    MetFree l (⟨"java/lang/StringUTF16", "compress", "([CII)[B"⟩ : MethodName) (head1 (Jvm.Cond.code (⟨"java/lang/StringUTF16", "compress", "([CII)[B"⟩ : MethodName) jdk_52_method_16_code 6 (some (.array .byte)) :: ws) ({ frames := 3, cells := 2, slots := 9, locals := 40 } : Room)) (fun a U => a = #[(.ref x0), (.int (0 : Int32)), (.int (3 : Int32))] ∧ Z.Warmed39 U.vm ∧ U.heap = h0) (fun _ _ _ _ _ => True) (fun _ U o U' => ∃ v L, o = .returned v ∧ Qc33 Z x0 kc c0 c1 c2 cs G h0 n0 v U'.heap L ∧ FrameEnd U o U' L ({ frames := 3, cells := 2, slots := 9, locals := 40 } : Room).cells ({ frames := 3, cells := 2, slots := 9, locals := 40 } : Room).slots) := by
  refine MetFree.of_bodySF (plainFor_of_name pnc33) hisR ?_
  intro p e s m args below meth c s₁ Bd hml0 hP hK
  obtain ⟨rfl, hZ, hh⟩ := hP
  have hx := Bd.exec
  have hby := Bd.bytes
  have hml : c.maxLocals = 6 := hml0
  have hown : s.vm.findClass "java/lang/StringUTF16" = some m.cls := findClass_of_methodNamed Bd.named
  have hnm := (name_of_methodNamed Bd.named Bd.method).1
  have X0 : Stand p l e ({ frames := 3, cells := 2, slots := 9, locals := 40 } : Room) s m #[(.ref x0), (.int (0 : Int32)), (.int (3 : Int32))] below meth c s₁ [] 0 0 := Stand.of_body Bd
  have e0 : s₁.heap = h0 := by rw [← hh, Bd.state]; rfl
  have N0 := Fr.nil n0
  have pre0 : ∀ t, Steps p.tables e below (s₁.setTop (mkF m 0 #[.val (.ref x0), .val (.int (0 : Int32)), .val (.int (3 : Int32)), .unset, .unset, .unset] [])) t → Steps p.tables e below (s₁.setTop (entryFrame m #[(.ref x0), (.int (0 : Int32)), (.int (3 : Int32))] 6)) t := fun t k => castTop (efc33 m x0) k
  obtain ⟨S0, hS0⟩ : ∃ z, z = (s₁.setTop (entryFrame m #[(.ref x0), (.int (0 : Int32)), (.int (3 : Int32))] 6)) := ⟨_, rfl⟩
  rw [← hS0] at pre0
  obtain ⟨sc, hcs, sa, sh, sl, sg, hG⟩ := id st
  have K0 := Keep.refl h0 []
  have p1 : ∀ t, own_W p e below m s₁ 1 #[.val (.ref x0), .val (.int (0 : Int32)), .val (.int (3 : Int32)), .unset, .unset, .unset] [(.int (3 : Int32))] t → Steps p.tables e below S0 t := fun t k => pre0 t (by
    show own_W p e below m s₁ 0 #[.val (.ref x0), .val (.int (0 : Int32)), .val (.int (3 : Int32)), .unset, .unset, .unset] [] _
    refine XS.iloadN X0.here hx rfl (hb hby dc33_0) rfl ?_
    exact k)
  obtain ⟨T2, h2, k2, X2, e2, E2, A2, st2⟩ := newP X0 hx hZ (hw _ (List.mem_of_getElem? (i := 19) rfl)) e0 (g := (mkF m 1 #[.val (.ref x0), .val (.int (0 : Int32)), .val (.int (3 : Int32)), .unset, .unset, .unset] [(.int (3 : Int32))])) rfl (hb hby dc33_1) rfl (by decide) (cap := 3) (by decide) (by decide) (by decide) (by decide)
  obtain ⟨b2, g2⟩ : ∃ z, z = h0.size := ⟨_, rfl⟩
  rw [← g2] at A2 st2
  have gn_b2 : n0 ≤ b2 := Nat.le_trans Z0 (Nat.le_of_eq g2.symm)
  have gk_b2 : h0.size ≤ b2 := Nat.le_trans K0.1 (Nat.le_of_eq g2.symm)
  have ne3 : x0 ≠ b2 := Nat.ne_of_lt (Nat.lt_of_lt_of_le V0.lt (Nat.le_of_eq g2.symm))
  have f4 := O0.ext E2
  have f5 := V0.ext E2
  have Z2 := Nat.le_trans Z0 E2.1
  have KK2 := K0.ext E2
  have VV2 : Arv Z h2 b2 k2 .byte (3 : Int32) [(.int (0 : Int32)), (.int (0 : Int32)), (.int (0 : Int32))] (.int (0 : Int32)) := (Arv.new A2 (by decide)).pad (pad_rep [] (.int (0 : Int32)) 3)
  have p6 : ∀ t, own_W p e below m T2 3 #[.val (.ref x0), .val (.int (0 : Int32)), .val (.int (3 : Int32)), .unset, .unset, .unset] [(.ref b2)] t → Steps p.tables e below S0 t := fun t k => p1 t (st2 t k)
  have p7 : ∀ t, own_W p e below m T2 9 #[.val (.ref x0), .val (.int (0 : Int32)), .val (.int (3 : Int32)), .val (.ref b2), .unset, .unset] [(.int (3 : Int32)), (.int (0 : Int32)), (.ref b2), (.int (0 : Int32)), (.ref x0)] t → Steps p.tables e below S0 t := fun t k => p6 t (by
    show own_W p e below m T2 3 #[.val (.ref x0), .val (.int (0 : Int32)), .val (.int (3 : Int32)), .unset, .unset, .unset] [(.ref b2)] _
    refine XS.astoreN X2.here hx rfl (hb hby dc33_3) rfl rfl (l' := #[.val (.ref x0), .val (.int (0 : Int32)), .val (.int (3 : Int32)), .val (.ref b2), .unset, .unset]) rfl ?_
    show own_W p e below m T2 4 #[.val (.ref x0), .val (.int (0 : Int32)), .val (.int (3 : Int32)), .val (.ref b2), .unset, .unset] [] _
    refine XS.aloadN X2.here hx rfl (hb hby dc33_4) rfl rfl ?_
    show own_W p e below m T2 5 #[.val (.ref x0), .val (.int (0 : Int32)), .val (.int (3 : Int32)), .val (.ref b2), .unset, .unset] [(.ref x0)] _
    refine XS.iloadN X2.here hx rfl (hb hby dc33_5) rfl ?_
    show own_W p e below m T2 6 #[.val (.ref x0), .val (.int (0 : Int32)), .val (.int (3 : Int32)), .val (.ref b2), .unset, .unset] [(.int (0 : Int32)), (.ref x0)] _
    refine XS.aloadN X2.here hx rfl (hb hby dc33_6) rfl rfl ?_
    show own_W p e below m T2 7 #[.val (.ref x0), .val (.int (0 : Int32)), .val (.int (3 : Int32)), .val (.ref b2), .unset, .unset] [(.ref b2), (.int (0 : Int32)), (.ref x0)] _
    refine XS.iconst X2.here hx rfl (hb hby dc33_7) ?_
    show own_W p e below m T2 8 #[.val (.ref x0), .val (.int (0 : Int32)), .val (.int (3 : Int32)), .val (.ref b2), .unset, .unset] [(.int (0 : Int32)), (.ref b2), (.int (0 : Int32)), (.ref x0)] _
    refine XS.iloadN X2.here hx rfl (hb hby dc33_8) rfl ?_
    exact k)
  obtain ⟨_, _, ⟨T8, L8, k8, n8⟩, -, X8, ⟨Lc8, hQ8, l8, y8, z8⟩, st8⟩ := Jvm.LawKit.callS X2 hx (y := (⟨"java/lang/StringUTF16", "compress", "([CI[BII)I"⟩ : MethodName)) hown (mvT hZ (hw _ (List.mem_of_getElem? (i := 95) rfl))) (mvT hZ (hw _ (List.mem_of_getElem? (i := 96) rfl))) (mvT hZ (hw _ (List.mem_of_getElem? (i := 93) rfl))) (mvT hZ (hw _ (List.mem_of_getElem? (i := 97) rfl))) (by decide) (backOf (W := 0) (rmc53 l Z a0 hw [] x0 b2 kc k2 c0 c1 c2 h2 n0 Z2 f5 VV2 gn_b2 ne3) hZ (hw _ (List.mem_of_getElem? (i := 97) rfl)) (hw _ (List.mem_of_getElem? (i := 93) rfl)) (by decide) (by decide)) (g := (mkF m 9 #[.val (.ref x0), .val (.int (0 : Int32)), .val (.int (3 : Int32)), .val (.ref b2), .unset, .unset] [(.int (3 : Int32)), (.int (0 : Int32)), (.ref b2), (.int (0 : Int32)), (.ref x0)])) rfl (by rw [hml]; rfl) (argsL := [(.ref x0), (.int (0 : Int32)), (.ref b2), (.int (0 : Int32)), (.int (3 : Int32))]) (rest := []) (lenOf pdc33_0 rfl) rfl (by show 2 * 0 + _ ≤ _; exact Nat.le_of_eq rfl) (hb hby dc33_9) (fun _ _ => ⟨rfl, e2, (by decide : 1 + 0 ≤ _), (by decide : 3 + 0 ≤ _)⟩)
  dsimp only [Pt.U, Pt.locs, Pt.cells, Pt.slots] at X8 l8 y8 z8 st8 hQ8
  subst l8 y8 z8
  obtain ⟨r8, rfl, Nq8, K8, HC8⟩ := hQ8
  have N8 := Fr.app N0 Nq8
  have f9 := f4.keep K8 (allS gn_b2 (all0))
  have f10 := f5.keep K8 (ninS ne3 nin0)
  have Z8 := Nat.le_trans Z2 K8.1
  have KK8 := KK2.trans K8 (allS (Or.inr gk_b2) all0)
  have p11 : ∀ t, own_W p e below m T8 12 #[.val (.ref x0), .val (.int (0 : Int32)), .val (.int (3 : Int32)), .val (.ref b2), .unset, .unset] [(.int r8)] t → Steps p.tables e below S0 t := fun t k => p7 t (st8 _ k)
  rcases HC8 with ⟨qr, VC, el⟩ | hit
  · have u_ := Z0
    subst qr
    have p12 : ∀ t, own_W p e below m T8 58 #[.val (.ref x0), .val (.int (0 : Int32)), .val (.int (3 : Int32)), .val (.ref b2), .val (.int (3 : Int32)), .unset] [(.ref b2)] t → Steps p.tables e below S0 t := fun t k => p11 t (by
      show own_W p e below m T8 12 #[.val (.ref x0), .val (.int (0 : Int32)), .val (.int (3 : Int32)), .val (.ref b2), .unset, .unset] [(.int (3 : Int32))] _
      refine XS.istore X8.here hx rfl (hb hby dc33_12) rfl (l' := #[.val (.ref x0), .val (.int (0 : Int32)), .val (.int (3 : Int32)), .val (.ref b2), .val (.int (3 : Int32)), .unset]) rfl ?_
      show own_W p e below m T8 14 #[.val (.ref x0), .val (.int (0 : Int32)), .val (.int (3 : Int32)), .val (.ref b2), .val (.int (3 : Int32)), .unset] [] _
      refine XS.iload X8.here hx rfl (hb hby dc33_14) rfl ?_
      show own_W p e below m T8 16 #[.val (.ref x0), .val (.int (0 : Int32)), .val (.int (3 : Int32)), .val (.ref b2), .val (.int (3 : Int32)), .unset] [(.int (3 : Int32))] _
      refine XS.iloadN X8.here hx rfl (hb hby dc33_16) rfl ?_
      show own_W p e below m T8 17 #[.val (.ref x0), .val (.int (0 : Int32)), .val (.int (3 : Int32)), .val (.ref b2), .val (.int (3 : Int32)), .unset] [(.int (3 : Int32)), (.int (3 : Int32))] _
      refine XS.icmpYes X8.here hx rfl (pc0 := 17) (pc' := 57) rfl (hb hby dc33_17) rfl ((teq (rfl)).1) (by decide) (by decide) ?_
      show own_W p e below m T8 57 #[.val (.ref x0), .val (.int (0 : Int32)), .val (.int (3 : Int32)), .val (.ref b2), .val (.int (3 : Int32)), .unset] [] _
      refine XS.aloadN X8.here hx rfl (hb hby dc33_57) rfl rfl ?_
      exact k)
    subst hS0
    obtain ⟨fs, hr, hrun, hended, hW, hsame⟩ := X8.leave (v := some (.ref b2)) (fun h => by rw [Bd.returns] at h; cases h)
    refine ⟨_, _, p12 _ ?_, hrun, hended, _, _, rfl, ?_, ⟨_, rfl⟩, hW, hsame.mono (by decide) (by decide)⟩
    · show own_W p e below m T8 58 #[.val (.ref x0), .val (.int (0 : Int32)), .val (.int (3 : Int32)), .val (.ref b2), .val (.int (3 : Int32)), .unset] [(.ref b2)] _
      exact retOut X8 hx Bd.returns rfl (Or.inr (Or.inr (Or.inr (Or.inr ⟨rfl, rfl, rfl⟩)))) (hb hby dc33_58) hr
    · show Qc33 Z x0 kc c0 c1 c2 cs G h0 n0 _ T8.heap _
      skip
      exact ⟨Nat.le_refl _, _, _, rfl, N8, KK8, gk_b2, Or.inl ⟨VC, el⟩⟩
  · have u_ := Z0
    obtain ⟨hrn, cx, kx, gx, jx1, jx2, ux1, ux2⟩ := own_pick3 ko0 ko1 ko2 hit
    have p13 : ∀ t, own_W p e below m T8 23 #[.val (.ref x0), .val (.int (0 : Int32)), .val (.int (3 : Int32)), .val (.ref b2), .val (.int r8), .unset] [(.int (3 : Int32)), (.int (0 : Int32)), (.ref x0)] t → Steps p.tables e below S0 t := fun t k => p11 t (by
      show own_W p e below m T8 12 #[.val (.ref x0), .val (.int (0 : Int32)), .val (.int (3 : Int32)), .val (.ref b2), .unset, .unset] [(.int r8)] _
      refine XS.istore X8.here hx rfl (hb hby dc33_12) rfl (l' := #[.val (.ref x0), .val (.int (0 : Int32)), .val (.int (3 : Int32)), .val (.ref b2), .val (.int r8), .unset]) rfl ?_
      show own_W p e below m T8 14 #[.val (.ref x0), .val (.int (0 : Int32)), .val (.int (3 : Int32)), .val (.ref b2), .val (.int r8), .unset] [] _
      refine XS.iload X8.here hx rfl (hb hby dc33_14) rfl ?_
      show own_W p e below m T8 16 #[.val (.ref x0), .val (.int (0 : Int32)), .val (.int (3 : Int32)), .val (.ref b2), .val (.int r8), .unset] [(.int r8)] _
      refine XS.iloadN X8.here hx rfl (hb hby dc33_16) rfl ?_
      show own_W p e below m T8 17 #[.val (.ref x0), .val (.int (0 : Int32)), .val (.int (3 : Int32)), .val (.ref b2), .val (.int r8), .unset] [(.int (3 : Int32)), (.int r8)] _
      refine XS.icmpNo X8.here hx rfl (hb hby dc33_17) rfl ((feq (hrn)).1) ?_
      show own_W p e below m T8 20 #[.val (.ref x0), .val (.int (0 : Int32)), .val (.int (3 : Int32)), .val (.ref b2), .val (.int r8), .unset] [] _
      refine XS.aloadN X8.here hx rfl (hb hby dc33_20) rfl rfl ?_
      show own_W p e below m T8 21 #[.val (.ref x0), .val (.int (0 : Int32)), .val (.int (3 : Int32)), .val (.ref b2), .val (.int r8), .unset] [(.ref x0)] _
      refine XS.iloadN X8.here hx rfl (hb hby dc33_21) rfl ?_
      show own_W p e below m T8 22 #[.val (.ref x0), .val (.int (0 : Int32)), .val (.int (3 : Int32)), .val (.ref b2), .val (.int r8), .unset] [(.int (0 : Int32)), (.ref x0)] _
      refine XS.iloadN X8.here hx rfl (hb hby dc33_22) rfl ?_
      exact k)
    obtain ⟨_, _, ⟨T14, L14, k14, n14⟩, -, X14, ⟨Lc14, hQ14, l14, y14, z14⟩, st14⟩ := Jvm.LawKit.callS X8 hx (y := (⟨"java/lang/StringUTF16", "toBytes", "([CII)[B"⟩ : MethodName)) hown (mvT hZ (hw _ (List.mem_of_getElem? (i := 123) rfl))) (mvT hZ (hw _ (List.mem_of_getElem? (i := 124) rfl))) (mvT hZ (hw _ (List.mem_of_getElem? (i := 93) rfl))) (mvT hZ (hw _ (List.mem_of_getElem? (i := 125) rfl))) (by decide) (backOf (W := 0) (rmtb3 l Z a0 hw [] x0 kc c0 c1 c2 cs G T8.heap n0 Z8 f10 f9 st) hZ (hw _ (List.mem_of_getElem? (i := 125) rfl)) (hw _ (List.mem_of_getElem? (i := 93) rfl)) (by decide) (by decide)) (g := (mkF m 23 #[.val (.ref x0), .val (.int (0 : Int32)), .val (.int (3 : Int32)), .val (.ref b2), .val (.int r8), .unset] [(.int (3 : Int32)), (.int (0 : Int32)), (.ref x0)])) rfl (by rw [hml]; rfl) (argsL := [(.ref x0), (.int (0 : Int32)), (.int (3 : Int32))]) (rest := []) (lenOf pdc33_1 rfl) rfl (by show 2 * 0 + _ ≤ _; exact Nat.le_of_eq rfl) (hb hby dc33_23) (fun _ _ => ⟨rfl, rfl, (by decide : 1 + 1 ≤ _), (by decide : 3 + 6 ≤ _)⟩)
    dsimp only [Pt.U, Pt.locs, Pt.cells, Pt.slots] at X14 l14 y14 z14 st14 hQ14
    subst l14 y14 z14
    obtain ⟨r14, kk14, rfl, Nq14, K14, gr14, VR14⟩ := hQ14
    have N14 := Fr.app N8 Nq14
    have f15 := f9.keep K14 (all0)
    have f16 := f10.keep K14 nin0
    have Z14 := Nat.le_trans Z8 K14.1
    have KK14 := KK8.trans K14 (all0)
    have p17 : ∀ t, own_W p e below m T14 26 #[.val (.ref x0), .val (.int (0 : Int32)), .val (.int (3 : Int32)), .val (.ref b2), .val (.int r8), .unset] [(.ref r14)] t → Steps p.tables e below S0 t := fun t k => p13 t (st14 _ k)
    have Zb14 := Z8
    have Kb14 := KK8
    have gn_r14 : n0 ≤ r14 := Nat.le_trans Zb14 gr14
    have gk_r14 : h0.size ≤ r14 := Nat.le_trans Kb14.1 gr14
    have ne_x0_r14 : x0 ≠ r14 := Nat.ne_of_lt (Nat.lt_of_lt_of_le f10.lt gr14)
    have p18 : ∀ t, own_W p e below m T14 32 #[.val (.ref x0), .val (.int (0 : Int32)), .val (.int (3 : Int32)), .val (.ref b2), .val (.int r8), .val (.ref r14)] [(.int r8), (.ref r14)] t → Steps p.tables e below S0 t := fun t k => p17 t (by
      show own_W p e below m T14 26 #[.val (.ref x0), .val (.int (0 : Int32)), .val (.int (3 : Int32)), .val (.ref b2), .val (.int r8), .unset] [(.ref r14)] _
      refine XS.astore X14.here hx rfl (hb hby dc33_26) rfl rfl (l' := #[.val (.ref x0), .val (.int (0 : Int32)), .val (.int (3 : Int32)), .val (.ref b2), .val (.int r8), .val (.ref r14)]) rfl ?_
      show own_W p e below m T14 28 #[.val (.ref x0), .val (.int (0 : Int32)), .val (.int (3 : Int32)), .val (.ref b2), .val (.int r8), .val (.ref r14)] [] _
      refine XS.aload X14.here hx rfl (hb hby dc33_28) rfl rfl ?_
      show own_W p e below m T14 30 #[.val (.ref x0), .val (.int (0 : Int32)), .val (.int (3 : Int32)), .val (.ref b2), .val (.int r8), .val (.ref r14)] [(.ref r14)] _
      refine XS.iload X14.here hx rfl (hb hby dc33_30) rfl ?_
      exact k)
    obtain ⟨_, _, ⟨T19, L19, k19, n19⟩, -, X19, ⟨Lc19, hQ19, l19, y19, z19⟩, st19⟩ := Jvm.LawKit.callS X14 hx (y := (⟨"java/lang/StringUTF16", "getChar", "([BI)C"⟩ : MethodName)) hown (mvT hZ (hw _ (List.mem_of_getElem? (i := 120) rfl))) (mvT hZ (hw _ (List.mem_of_getElem? (i := 121) rfl))) (mvT hZ (hw _ (List.mem_of_getElem? (i := 93) rfl))) (mvT hZ (hw _ (List.mem_of_getElem? (i := 122) rfl))) (by decide) (backOf (W := 0) (rmgc l Z a0 hw [] r14 r8 kk14 (6 : Int32) [(.int (own_hb c0)), (.int (own_lb c0)), (.int (own_hb c1)), (.int (own_lb c1)), (.int (own_hb c2)), (.int (own_lb c2))] cx cs G T14.heap n0 Z14 VR14 jx1 jx2 ux1 ux2 kx f15 st) hZ (hw _ (List.mem_of_getElem? (i := 122) rfl)) (hw _ (List.mem_of_getElem? (i := 93) rfl)) (by decide) (by decide)) (g := (mkF m 32 #[.val (.ref x0), .val (.int (0 : Int32)), .val (.int (3 : Int32)), .val (.ref b2), .val (.int r8), .val (.ref r14)] [(.int r8), (.ref r14)])) rfl (by rw [hml]; rfl) (argsL := [(.ref r14), (.int r8)]) (rest := []) (lenOf pdc33_2 rfl) rfl (by show 2 * 0 + _ ≤ _; exact Nat.le_of_eq rfl) (hb hby dc33_32) (fun _ _ => ⟨rfl, rfl, (by decide : 2 + 0 ≤ _), (by decide : 9 + 0 ≤ _)⟩)
    dsimp only [Pt.U, Pt.locs, Pt.cells, Pt.slots] at X19 l19 y19 z19 st19 hQ19
    subst l19 y19 z19
    obtain ⟨rfl, Nq19, e19⟩ := hQ19
    have N19 := Fr.app N14 Nq19
    have p20 : ∀ t, own_W p e below m T19 35 #[.val (.ref x0), .val (.int (0 : Int32)), .val (.int (3 : Int32)), .val (.ref b2), .val (.int r8), .val (.ref r14)] [(.int cx)] t → Steps p.tables e below S0 t := fun t k => p18 t (st19 _ k)
    have p21 : ∀ t, own_W p e below m T19 56 #[.val (.ref x0), .val (.int (0 : Int32)), .val (.int (3 : Int32)), .val (.ref b2), .val (.int r8), .val (.ref r14)] [(.ref r14)] t → Steps p.tables e below S0 t := fun t k => p20 t (by
      show own_W p e below m T19 35 #[.val (.ref x0), .val (.int (0 : Int32)), .val (.int (3 : Int32)), .val (.ref b2), .val (.int r8), .val (.ref r14)] [(.int cx)] _
      refine XS.sipush X19.here hx rfl (hb hby dc33_35) ?_
      show own_W p e below m T19 38 #[.val (.ref x0), .val (.int (0 : Int32)), .val (.int (3 : Int32)), .val (.ref b2), .val (.int r8), .val (.ref r14)] [(.int (255 : Int32)), (.int cx)] _
      refine XS.icmpYes X19.here hx rfl (pc0 := 38) (pc' := 54) rfl (hb hby dc33_38) rfl ((tlt (gx)).2.2.1) (by decide) (by decide) ?_
      show own_W p e below m T19 54 #[.val (.ref x0), .val (.int (0 : Int32)), .val (.int (3 : Int32)), .val (.ref b2), .val (.int r8), .val (.ref r14)] [] _
      refine XS.aload X19.here hx rfl (hb hby dc33_54) rfl rfl ?_
      exact k)
    subst hS0
    obtain ⟨fs, hr, hrun, hended, hW, hsame⟩ := X19.leave (v := some (.ref r14)) (fun h => by rw [Bd.returns] at h; cases h)
    refine ⟨_, _, p21 _ ?_, hrun, hended, _, _, rfl, ?_, ⟨_, rfl⟩, hW, hsame.mono (by decide) (by decide)⟩
    · show own_W p e below m T19 56 #[.val (.ref x0), .val (.int (0 : Int32)), .val (.int (3 : Int32)), .val (.ref b2), .val (.int r8), .val (.ref r14)] [(.ref r14)] _
      exact retOut X19 hx Bd.returns rfl (Or.inr (Or.inr (Or.inr (Or.inr ⟨rfl, rfl, rfl⟩)))) (hb hby dc33_56) hr
    · show Qc33 Z x0 kc c0 c1 c2 cs G h0 n0 _ T19.heap _
      rw [e19]
      exact ⟨Nat.le_refl _, _, _, rfl, N19, KK14, gk_r14, Or.inr VR14⟩
theorem own_pick4 {r c0 c1 c2 c3 : Int32} (ko0 : own_ok c0) (ko1 : own_ok c1) (ko2 : own_ok c2) (ko3 : own_ok c3) (h : (r = (0 : Int32) ∧ (255 : Int32) < c0) ∨ (r = (1 : Int32) ∧ (255 : Int32) < c1) ∨ (r = (2 : Int32) ∧ (255 : Int32) < c2) ∨ (r = (3 : Int32) ∧ (255 : Int32) < c3)) : ¬ r = (4 : Int32) ∧ ∃ c : Int32, own_ok c ∧ (255 : Int32) < c ∧ (¬ (r <<< ((1 : Int32) &&& 31)) < 0 ∧ (r <<< ((1 : Int32) &&& 31)) < (8 : Int32)) ∧ (¬ ((r <<< ((1 : Int32) &&& 31)) + (1 : Int32)) < 0 ∧ ((r <<< ((1 : Int32) &&& 31)) + (1 : Int32)) < (8 : Int32)) ∧ ([(.int (own_hb c0)), (.int (own_lb c0)), (.int (own_hb c1)), (.int (own_lb c1)), (.int (own_hb c2)), (.int (own_lb c2)), (.int (own_hb c3)), (.int (own_lb c3))] : List Value).getD ((r <<< ((1 : Int32) &&& 31))).toNatClampNeg (.int (0 : Int32)) = (.int (own_hb c)) ∧ ([(.int (own_hb c0)), (.int (own_lb c0)), (.int (own_hb c1)), (.int (own_lb c1)), (.int (own_hb c2)), (.int (own_lb c2)), (.int (own_hb c3)), (.int (own_lb c3))] : List Value).getD (((r <<< ((1 : Int32) &&& 31)) + (1 : Int32))).toNatClampNeg (.int (0 : Int32)) = (.int (own_lb c)) := by
  rcases h with ⟨rfl, g⟩ | ⟨rfl, g⟩ | ⟨rfl, g⟩ | ⟨rfl, g⟩
  · exact ⟨by decide, c0, ko0, g, ⟨by decide, by decide⟩, ⟨by decide, by decide⟩, rfl, rfl⟩
  · exact ⟨by decide, c1, ko1, g, ⟨by decide, by decide⟩, ⟨by decide, by decide⟩, rfl, rfl⟩
  · exact ⟨by decide, c2, ko2, g, ⟨by decide, by decide⟩, ⟨by decide, by decide⟩, rfl, rfl⟩
  · exact ⟨by decide, c3, ko3, g, ⟨by decide, by decide⟩, ⟨by decide, by decide⟩, rfl, rfl⟩
theorem dc54_0 : decode jdk_52_method_21_code 0 = .ok (.iconst 0, 1) := by decide +kernel
theorem dc54_1 : decode jdk_52_method_21_code 1 = .ok (.istore 5, 2) := by decide +kernel
theorem dc54_3 : decode jdk_52_method_21_code 3 = .ok (.iload 5, 2) := by decide +kernel
theorem dc54_5 : decode jdk_52_method_21_code 5 = .ok (.iload 4, 2) := by decide +kernel
theorem dc54_7 : decode jdk_52_method_21_code 7 = .ok (.if_icmp .ge 37, 3) := by decide +kernel
theorem dc54_10 : decode jdk_52_method_21_code 10 = .ok (.aload_n 0, 1) := by decide +kernel
theorem dc54_11 : decode jdk_52_method_21_code 11 = .ok (.iload_n 1, 1) := by decide +kernel
theorem dc54_12 : decode jdk_52_method_21_code 12 = .ok (.caload, 1) := by decide +kernel
theorem dc54_13 : decode jdk_52_method_21_code 13 = .ok (.istore 6, 2) := by decide +kernel
theorem dc54_15 : decode jdk_52_method_21_code 15 = .ok (.iload 6, 2) := by decide +kernel
theorem dc54_17 : decode jdk_52_method_21_code 17 = .ok (.sipush 255, 3) := by decide +kernel
theorem dc54_20 : decode jdk_52_method_21_code 20 = .ok (.if_icmp .le 6, 3) := by decide +kernel
theorem dc54_23 : decode jdk_52_method_21_code 23 = .ok (.iload 5, 2) := by decide +kernel
theorem dc54_25 : decode jdk_52_method_21_code 25 = .ok (.ireturn, 1) := by decide +kernel
theorem dc54_26 : decode jdk_52_method_21_code 26 = .ok (.aload_n 2, 1) := by decide +kernel
theorem dc54_27 : decode jdk_52_method_21_code 27 = .ok (.iload_n 3, 1) := by decide +kernel
theorem dc54_28 : decode jdk_52_method_21_code 28 = .ok (.iload 6, 2) := by decide +kernel
theorem dc54_30 : decode jdk_52_method_21_code 30 = .ok (.i2b, 1) := by decide +kernel
theorem dc54_31 : decode jdk_52_method_21_code 31 = .ok (.bastore, 1) := by decide +kernel
theorem dc54_32 : decode jdk_52_method_21_code 32 = .ok (.iinc 1 1, 3) := by decide +kernel
theorem dc54_35 : decode jdk_52_method_21_code 35 = .ok (.iinc 3 1, 3) := by decide +kernel
theorem dc54_38 : decode jdk_52_method_21_code 38 = .ok (.iinc 5 1, 3) := by decide +kernel
theorem dc54_41 : decode jdk_52_method_21_code 41 = .ok (.goto (-38), 3) := by decide +kernel
theorem dc54_44 : decode jdk_52_method_21_code 44 = .ok (.iload 4, 2) := by decide +kernel
theorem dc54_46 : decode jdk_52_method_21_code 46 = .ok (.ireturn, 1) := by decide +kernel
theorem pnc54 : plainName "java/lang/StringUTF16" = true := by first | (simp [plainName, overriddenIn]; done) | decide +kernel
theorem efc54 (m : MethodId) (x0 : Addr) (x2 : Addr) : entryFrame m #[(.ref x0), (.int (0 : Int32)), (.ref x2), (.int (0 : Int32)), (.int (4 : Int32))] 7 = mkF m 0 #[.val (.ref x0), .val (.int (0 : Int32)), .val (.ref x2), .val (.int (0 : Int32)), .val (.int (4 : Int32)), .unset, .unset] [] := by first | (simp [entryFrame, mkF, argsToLocals, Value.category]; done) | rfl
def Qc54 (Z : State) (x0 : Addr) (x2 : Addr) (kc : ClassId) (kb : ClassId) (c0 : Int32) (c1 : Int32) (c2 : Int32) (c3 : Int32) (h0 : Heap) (n0 : Nat) (v : Option Value) (h : Heap) (L : List Loc) : Prop := ∃ r : Int32, v = some (.int r) ∧ Fr n0 L ∧ Keep h0 h [x2] ∧ ((r = (4 : Int32) ∧ Arv Z h x2 kb .byte (4 : Int32) [(.int (own_lo c0)), (.int (own_lo c1)), (.int (own_lo c2)), (.int (own_lo c3))] (.int (0 : Int32)) ∧ ¬ (255 : Int32) < c0 ∧ ¬ (255 : Int32) < c1 ∧ ¬ (255 : Int32) < c2 ∧ ¬ (255 : Int32) < c3) ∨ ((r = (0 : Int32) ∧ (255 : Int32) < c0) ∨ (r = (1 : Int32) ∧ (255 : Int32) < c1) ∨ (r = (2 : Int32) ∧ (255 : Int32) < c2) ∨ (r = (3 : Int32) ∧ (255 : Int32) < c3)))
set_option maxRecDepth 65536 in
set_option maxHeartbeats 40000000 in
theorem rmc54 (l : Launch) (Z : State) (a0 : Array Value) (hw : ∀ d ∈ tables_1, d.before a0 Z = true) (ws : List Jvm.Cond) (x0 : Addr) (x2 : Addr) (kc : ClassId) (kb : ClassId) (c0 : Int32) (c1 : Int32) (c2 : Int32) (c3 : Int32) (h0 : Heap) (n0 : Nat) (Z0 : n0 ≤ h0.size) (V0 : Arv Z h0 x0 kc .char (4 : Int32) [(.int c0), (.int c1), (.int c2), (.int c3)] (.int (0 : Int32))) (V2 : Arv Z h0 x2 kb .byte (4 : Int32) [(.int (0 : Int32)), (.int (0 : Int32)), (.int (0 : Int32)), (.int (0 : Int32))] (.int (0 : Int32))) (g2 : n0 ≤ x2) (ne : x0 ≠ x2) :
    MetFree l (⟨"java/lang/StringUTF16", "compress", "([CI[BII)I"⟩ : MethodName) (head1 (Jvm.Cond.code (⟨"java/lang/StringUTF16", "compress", "([CI[BII)I"⟩ : MethodName) jdk_52_method_21_code 7 (some .int) :: ws) ({ frames := 0, cells := 0, slots := 0, locals := 0 } : Room)) (fun a U => a = #[(.ref x0), (.int (0 : Int32)), (.ref x2), (.int (0 : Int32)), (.int (4 : Int32))] ∧ Z.Warmed39 U.vm ∧ U.heap = h0) (fun _ _ _ _ _ => True) (fun _ U o U' => ∃ v L, o = .returned v ∧ Qc54 Z x0 x2 kc kb c0 c1 c2 c3 h0 n0 v U'.heap L ∧ FrameEnd U o U' L ({ frames := 0, cells := 0, slots := 0, locals := 0 } : Room).cells ({ frames := 0, cells := 0, slots := 0, locals := 0 } : Room).slots) := by
  refine MetFree.of_bodySF (plainFor_of_name pnc54) hisR ?_
  intro p e s m args below meth c s₁ Bd hml0 hP hK
  obtain ⟨rfl, hZ, hh⟩ := hP
  have hx := Bd.exec
  have hby := Bd.bytes
  have hml : c.maxLocals = 7 := hml0
  have hown : s.vm.findClass "java/lang/StringUTF16" = some m.cls := findClass_of_methodNamed Bd.named
  have hnm := (name_of_methodNamed Bd.named Bd.method).1
  have X0 : Stand p l e ({ frames := 0, cells := 0, slots := 0, locals := 0 } : Room) s m #[(.ref x0), (.int (0 : Int32)), (.ref x2), (.int (0 : Int32)), (.int (4 : Int32))] below meth c s₁ [] 0 0 := Stand.of_body Bd
  have e0 : s₁.heap = h0 := by rw [← hh, Bd.state]; rfl
  have N0 := Fr.nil n0
  have pre0 : ∀ t, Steps p.tables e below (s₁.setTop (mkF m 0 #[.val (.ref x0), .val (.int (0 : Int32)), .val (.ref x2), .val (.int (0 : Int32)), .val (.int (4 : Int32)), .unset, .unset] [])) t → Steps p.tables e below (s₁.setTop (entryFrame m #[(.ref x0), (.int (0 : Int32)), (.ref x2), (.int (0 : Int32)), (.int (4 : Int32))] 7)) t := fun t k => castTop (efc54 m x0 x2) k
  obtain ⟨S0, hS0⟩ : ∃ z, z = (s₁.setTop (entryFrame m #[(.ref x0), (.int (0 : Int32)), (.ref x2), (.int (0 : Int32)), (.int (4 : Int32))] 7)) := ⟨_, rfl⟩
  rw [← hS0] at pre0
  have K0 := Keep.refl h0 [x2]
  have p1 : ∀ t, own_W p e below m s₁ 3 #[.val (.ref x0), .val (.int (0 : Int32)), .val (.ref x2), .val (.int (0 : Int32)), .val (.int (4 : Int32)), .val (.int (0 : Int32)), .unset] [] t → Steps p.tables e below S0 t := fun t k => pre0 t (by
    show own_W p e below m s₁ 0 #[.val (.ref x0), .val (.int (0 : Int32)), .val (.ref x2), .val (.int (0 : Int32)), .val (.int (4 : Int32)), .unset, .unset] [] _
    refine XS.iconst X0.here hx rfl (hb hby dc54_0) ?_
    show own_W p e below m s₁ 1 #[.val (.ref x0), .val (.int (0 : Int32)), .val (.ref x2), .val (.int (0 : Int32)), .val (.int (4 : Int32)), .unset, .unset] [(.int (0 : Int32))] _
    refine XS.istore X0.here hx rfl (hb hby dc54_1) rfl (l' := #[.val (.ref x0), .val (.int (0 : Int32)), .val (.ref x2), .val (.int (0 : Int32)), .val (.int (4 : Int32)), .val (.int (0 : Int32)), .unset]) rfl ?_
    exact k)
  have p2 : ∀ t, own_W p e below m s₁ 12 #[.val (.ref x0), .val (.int (0 : Int32)), .val (.ref x2), .val (.int (0 : Int32)), .val (.int (4 : Int32)), .val (.int (0 : Int32)), .unset] [(.int (0 : Int32)), (.ref x0)] t → Steps p.tables e below S0 t := fun t k => p1 t (by
    show own_W p e below m s₁ 3 #[.val (.ref x0), .val (.int (0 : Int32)), .val (.ref x2), .val (.int (0 : Int32)), .val (.int (4 : Int32)), .val (.int (0 : Int32)), .unset] [] _
    refine XS.iload X0.here hx rfl (hb hby dc54_3) rfl ?_
    show own_W p e below m s₁ 5 #[.val (.ref x0), .val (.int (0 : Int32)), .val (.ref x2), .val (.int (0 : Int32)), .val (.int (4 : Int32)), .val (.int (0 : Int32)), .unset] [(.int (0 : Int32))] _
    refine XS.iload X0.here hx rfl (hb hby dc54_5) rfl ?_
    show own_W p e below m s₁ 7 #[.val (.ref x0), .val (.int (0 : Int32)), .val (.ref x2), .val (.int (0 : Int32)), .val (.int (4 : Int32)), .val (.int (0 : Int32)), .unset] [(.int (4 : Int32)), (.int (0 : Int32))] _
    refine XS.icmpNo X0.here hx rfl (hb hby dc54_7) rfl ((tlt (by decide)).2.1) ?_
    show own_W p e below m s₁ 10 #[.val (.ref x0), .val (.int (0 : Int32)), .val (.ref x2), .val (.int (0 : Int32)), .val (.int (4 : Int32)), .val (.int (0 : Int32)), .unset] [] _
    refine XS.aloadN X0.here hx rfl (hb hby dc54_10) rfl rfl ?_
    show own_W p e below m s₁ 11 #[.val (.ref x0), .val (.int (0 : Int32)), .val (.ref x2), .val (.int (0 : Int32)), .val (.int (4 : Int32)), .val (.int (0 : Int32)), .unset] [(.ref x0)] _
    refine XS.iloadN X0.here hx rfl (hb hby dc54_11) rfl ?_
    exact k)
  obtain ⟨cl3, Ar3, q3, Sz3, Ng3, Hs3, G3⟩ := id V0
  have hin3 : ¬ ((0 : Int32) < 0 ∨ cl3.slots.size ≤ ((0 : Int32)).toNatClampNeg) := inb_of Sz3 ⟨by decide, by decide⟩
  have hat3 : cl3.slots[((0 : Int32)).toNatClampNeg]? = some (.int c0) := Hs3.at hin3 (rfl)
  have p4 : ∀ t, own_W p e below m s₁ 20 #[.val (.ref x0), .val (.int (0 : Int32)), .val (.ref x2), .val (.int (0 : Int32)), .val (.int (4 : Int32)), .val (.int (0 : Int32)), .val (.int c0)] [(.int (255 : Int32)), (.int c0)] t → Steps p.tables e below S0 t := fun t k => p2 t (by
    show own_W p e below m s₁ 12 #[.val (.ref x0), .val (.int (0 : Int32)), .val (.ref x2), .val (.int (0 : Int32)), .val (.int (4 : Int32)), .val (.int (0 : Int32)), .unset] [(.int (0 : Int32)), (.ref x0)] _
    refine X0.caload hx (j := (0 : Int32)) (v := (.int c0)) (by rw [e0]; exact Ar3.1) (State.isArrayOf_alike hZ.alike Ar3.2.1) Ar3.2.2 hin3 hat3 (g := (mkF m 12 #[.val (.ref x0), .val (.int (0 : Int32)), .val (.ref x2), .val (.int (0 : Int32)), .val (.int (4 : Int32)), .val (.int (0 : Int32)), .unset] [(.int (0 : Int32)), (.ref x0)])) rfl rfl (hb hby dc54_12) _ ?_
    show own_W p e below m s₁ 13 #[.val (.ref x0), .val (.int (0 : Int32)), .val (.ref x2), .val (.int (0 : Int32)), .val (.int (4 : Int32)), .val (.int (0 : Int32)), .unset] [(.int c0)] _
    refine XS.istore X0.here hx rfl (hb hby dc54_13) rfl (l' := #[.val (.ref x0), .val (.int (0 : Int32)), .val (.ref x2), .val (.int (0 : Int32)), .val (.int (4 : Int32)), .val (.int (0 : Int32)), .val (.int c0)]) rfl ?_
    show own_W p e below m s₁ 15 #[.val (.ref x0), .val (.int (0 : Int32)), .val (.ref x2), .val (.int (0 : Int32)), .val (.int (4 : Int32)), .val (.int (0 : Int32)), .val (.int c0)] [] _
    refine XS.iload X0.here hx rfl (hb hby dc54_15) rfl ?_
    show own_W p e below m s₁ 17 #[.val (.ref x0), .val (.int (0 : Int32)), .val (.ref x2), .val (.int (0 : Int32)), .val (.int (4 : Int32)), .val (.int (0 : Int32)), .val (.int c0)] [(.int c0)] _
    refine XS.sipush X0.here hx rfl (hb hby dc54_17) ?_
    exact k)
  by_cases e0l : (255 : Int32) < c0
  · have p5 : ∀ t, own_W p e below m s₁ 25 #[.val (.ref x0), .val (.int (0 : Int32)), .val (.ref x2), .val (.int (0 : Int32)), .val (.int (4 : Int32)), .val (.int (0 : Int32)), .val (.int c0)] [(.int (0 : Int32))] t → Steps p.tables e below S0 t := fun t k => p4 t (by
      show own_W p e below m s₁ 20 #[.val (.ref x0), .val (.int (0 : Int32)), .val (.ref x2), .val (.int (0 : Int32)), .val (.int (4 : Int32)), .val (.int (0 : Int32)), .val (.int c0)] [(.int (255 : Int32)), (.int c0)] _
      refine XS.icmpNo X0.here hx rfl (hb hby dc54_20) rfl ((tlt (e0l)).2.2.2) ?_
      show own_W p e below m s₁ 23 #[.val (.ref x0), .val (.int (0 : Int32)), .val (.ref x2), .val (.int (0 : Int32)), .val (.int (4 : Int32)), .val (.int (0 : Int32)), .val (.int c0)] [] _
      refine XS.iload X0.here hx rfl (hb hby dc54_23) rfl ?_
      exact k)
    subst hS0
    obtain ⟨fs, hr, hrun, hended, hW, hsame⟩ := X0.leave (v := some (.int (0 : Int32))) (fun h => by rw [Bd.returns] at h; cases h)
    refine ⟨_, _, p5 _ ?_, hrun, hended, _, _, rfl, ?_, ⟨_, rfl⟩, hW, hsame.mono (by decide) (by decide)⟩
    · show own_W p e below m s₁ 25 #[.val (.ref x0), .val (.int (0 : Int32)), .val (.ref x2), .val (.int (0 : Int32)), .val (.int (4 : Int32)), .val (.int (0 : Int32)), .val (.int c0)] [(.int (0 : Int32))] _
      exact retI X0 hx Bd.returns (hb hby dc54_25) hr
    · show Qc54 Z x0 x2 kc kb c0 c1 c2 c3 h0 n0 _ s₁.heap _
      rw [e0]
      exact ⟨_, rfl, N0, K0, Or.inr (Or.inl ⟨rfl, e0l⟩)⟩
  · have p6 : ∀ t, own_W p e below m s₁ 31 #[.val (.ref x0), .val (.int (0 : Int32)), .val (.ref x2), .val (.int (0 : Int32)), .val (.int (4 : Int32)), .val (.int (0 : Int32)), .val (.int c0)] [(.int (c0.toInt8.toInt32)), (.int (0 : Int32)), (.ref x2)] t → Steps p.tables e below S0 t := fun t k => p4 t (by
      show own_W p e below m s₁ 20 #[.val (.ref x0), .val (.int (0 : Int32)), .val (.ref x2), .val (.int (0 : Int32)), .val (.int (4 : Int32)), .val (.int (0 : Int32)), .val (.int c0)] [(.int (255 : Int32)), (.int c0)] _
      refine XS.icmpYes X0.here hx rfl (pc0 := 20) (pc' := 26) rfl (hb hby dc54_20) rfl ((flt (e0l)).2.2.2) (by decide) (by decide) ?_
      show own_W p e below m s₁ 26 #[.val (.ref x0), .val (.int (0 : Int32)), .val (.ref x2), .val (.int (0 : Int32)), .val (.int (4 : Int32)), .val (.int (0 : Int32)), .val (.int c0)] [] _
      refine XS.aloadN X0.here hx rfl (hb hby dc54_26) rfl rfl ?_
      show own_W p e below m s₁ 27 #[.val (.ref x0), .val (.int (0 : Int32)), .val (.ref x2), .val (.int (0 : Int32)), .val (.int (4 : Int32)), .val (.int (0 : Int32)), .val (.int c0)] [(.ref x2)] _
      refine XS.iloadN X0.here hx rfl (hb hby dc54_27) rfl ?_
      show own_W p e below m s₁ 28 #[.val (.ref x0), .val (.int (0 : Int32)), .val (.ref x2), .val (.int (0 : Int32)), .val (.int (4 : Int32)), .val (.int (0 : Int32)), .val (.int c0)] [(.int (0 : Int32)), (.ref x2)] _
      refine XS.iload X0.here hx rfl (hb hby dc54_28) rfl ?_
      show own_W p e below m s₁ 30 #[.val (.ref x0), .val (.int (0 : Int32)), .val (.ref x2), .val (.int (0 : Int32)), .val (.int (4 : Int32)), .val (.int (0 : Int32)), .val (.int c0)] [(.int c0), (.int (0 : Int32)), (.ref x2)] _
      refine XS.i2b X0.here hx rfl (hb hby dc54_30) rfl ?_
      exact k)
    obtain ⟨cl7, Ar7, q7, Sz7, Ng7, Hs7, G7⟩ := id V2
    have hin7 : ¬ ((0 : Int32) < 0 ∨ cl7.slots.size ≤ ((0 : Int32)).toNatClampNeg) := inb_of Sz7 (⟨by decide, by decide⟩)
    obtain ⟨T7, h7, X7, e7, W7, st7⟩ := stB X0 hx hZ e0 Ar7 (j := (0 : Int32)) hin7 (g := (mkF m 31 #[.val (.ref x0), .val (.int (0 : Int32)), .val (.ref x2), .val (.int (0 : Int32)), .val (.int (4 : Int32)), .val (.int (0 : Int32)), .val (.int c0)] [(.int (c0.toInt8.toInt32)), (.int (0 : Int32)), (.ref x2)])) rfl rfl (hb hby dc54_31)
    have VV7 : Arv Z h7 x2 kb .byte (4 : Int32) [(.int (own_lo c0)), (.int (0 : Int32)), (.int (0 : Int32)), (.int (0 : Int32))] (.int (0 : Int32)) := Arv.set Ar7 q7 Sz7 Ng7 Hs7 G7 (fits_nar_byte _) W7 0 (by decide) (Nat.le_of_ble_eq_true rfl)
    have f8 := V0.other W7 ne
    have Z7 := Nat.le_trans Z0 (Keep.of_wr W7).1
    have N7 := Fr.snoc X7 N0 g2
    have KK7 := K0.wr W7 (Or.inl (List.mem_singleton.mpr rfl))
    have p9 : ∀ t, own_W p e below m T7 32 #[.val (.ref x0), .val (.int (0 : Int32)), .val (.ref x2), .val (.int (0 : Int32)), .val (.int (4 : Int32)), .val (.int (0 : Int32)), .val (.int c0)] [] t → Steps p.tables e below S0 t := fun t k => p6 t (st7 t k)
    have p10 : ∀ t, own_W p e below m T7 3 #[.val (.ref x0), .val (.int ((0 : Int32) + (1 : Int32))), .val (.ref x2), .val (.int ((0 : Int32) + (1 : Int32))), .val (.int (4 : Int32)), .val (.int ((0 : Int32) + (1 : Int32))), .val (.int c0)] [] t → Steps p.tables e below S0 t := fun t k => p9 t (by
      show own_W p e below m T7 32 #[.val (.ref x0), .val (.int (0 : Int32)), .val (.ref x2), .val (.int (0 : Int32)), .val (.int (4 : Int32)), .val (.int (0 : Int32)), .val (.int c0)] [] _
      refine XS.iinc X7.here hx rfl (hb hby dc54_32) rfl (l' := #[.val (.ref x0), .val (.int ((0 : Int32) + (1 : Int32))), .val (.ref x2), .val (.int (0 : Int32)), .val (.int (4 : Int32)), .val (.int (0 : Int32)), .val (.int c0)]) rfl ?_
      show own_W p e below m T7 35 #[.val (.ref x0), .val (.int ((0 : Int32) + (1 : Int32))), .val (.ref x2), .val (.int (0 : Int32)), .val (.int (4 : Int32)), .val (.int (0 : Int32)), .val (.int c0)] [] _
      refine XS.iinc X7.here hx rfl (hb hby dc54_35) rfl (l' := #[.val (.ref x0), .val (.int ((0 : Int32) + (1 : Int32))), .val (.ref x2), .val (.int ((0 : Int32) + (1 : Int32))), .val (.int (4 : Int32)), .val (.int (0 : Int32)), .val (.int c0)]) rfl ?_
      show own_W p e below m T7 38 #[.val (.ref x0), .val (.int ((0 : Int32) + (1 : Int32))), .val (.ref x2), .val (.int ((0 : Int32) + (1 : Int32))), .val (.int (4 : Int32)), .val (.int (0 : Int32)), .val (.int c0)] [] _
      refine XS.iinc X7.here hx rfl (hb hby dc54_38) rfl (l' := #[.val (.ref x0), .val (.int ((0 : Int32) + (1 : Int32))), .val (.ref x2), .val (.int ((0 : Int32) + (1 : Int32))), .val (.int (4 : Int32)), .val (.int ((0 : Int32) + (1 : Int32))), .val (.int c0)]) rfl ?_
      show own_W p e below m T7 41 #[.val (.ref x0), .val (.int ((0 : Int32) + (1 : Int32))), .val (.ref x2), .val (.int ((0 : Int32) + (1 : Int32))), .val (.int (4 : Int32)), .val (.int ((0 : Int32) + (1 : Int32))), .val (.int c0)] [] _
      refine XS.goto X7.here hx rfl (pc0 := 41) (pc' := 3) rfl (hb hby dc54_41) (by decide) (by decide) ?_
      exact k)
    have p11 : ∀ t, own_W p e below m T7 3 #[.val (.ref x0), .val (.int (1 : Int32)), .val (.ref x2), .val (.int (1 : Int32)), .val (.int (4 : Int32)), .val (.int (1 : Int32)), .val (.int c0)] [] t → Steps p.tables e below S0 t := by
      have k := p10
      rw [show ((0 : Int32) + (1 : Int32)) = (1 : Int32) from by decide] at k
      exact k
    have p12 : ∀ t, own_W p e below m T7 12 #[.val (.ref x0), .val (.int (1 : Int32)), .val (.ref x2), .val (.int (1 : Int32)), .val (.int (4 : Int32)), .val (.int (1 : Int32)), .val (.int c0)] [(.int (1 : Int32)), (.ref x0)] t → Steps p.tables e below S0 t := fun t k => p11 t (by
      show own_W p e below m T7 3 #[.val (.ref x0), .val (.int (1 : Int32)), .val (.ref x2), .val (.int (1 : Int32)), .val (.int (4 : Int32)), .val (.int (1 : Int32)), .val (.int c0)] [] _
      refine XS.iload X7.here hx rfl (hb hby dc54_3) rfl ?_
      show own_W p e below m T7 5 #[.val (.ref x0), .val (.int (1 : Int32)), .val (.ref x2), .val (.int (1 : Int32)), .val (.int (4 : Int32)), .val (.int (1 : Int32)), .val (.int c0)] [(.int (1 : Int32))] _
      refine XS.iload X7.here hx rfl (hb hby dc54_5) rfl ?_
      show own_W p e below m T7 7 #[.val (.ref x0), .val (.int (1 : Int32)), .val (.ref x2), .val (.int (1 : Int32)), .val (.int (4 : Int32)), .val (.int (1 : Int32)), .val (.int c0)] [(.int (4 : Int32)), (.int (1 : Int32))] _
      refine XS.icmpNo X7.here hx rfl (hb hby dc54_7) rfl ((tlt (by decide)).2.1) ?_
      show own_W p e below m T7 10 #[.val (.ref x0), .val (.int (1 : Int32)), .val (.ref x2), .val (.int (1 : Int32)), .val (.int (4 : Int32)), .val (.int (1 : Int32)), .val (.int c0)] [] _
      refine XS.aloadN X7.here hx rfl (hb hby dc54_10) rfl rfl ?_
      show own_W p e below m T7 11 #[.val (.ref x0), .val (.int (1 : Int32)), .val (.ref x2), .val (.int (1 : Int32)), .val (.int (4 : Int32)), .val (.int (1 : Int32)), .val (.int c0)] [(.ref x0)] _
      refine XS.iloadN X7.here hx rfl (hb hby dc54_11) rfl ?_
      exact k)
    obtain ⟨cl13, Ar13, q13, Sz13, Ng13, Hs13, G13⟩ := id f8
    have hin13 : ¬ ((1 : Int32) < 0 ∨ cl13.slots.size ≤ ((1 : Int32)).toNatClampNeg) := inb_of Sz13 ⟨by decide, by decide⟩
    have hat13 : cl13.slots[((1 : Int32)).toNatClampNeg]? = some (.int c1) := Hs13.at hin13 (rfl)
    have p14 : ∀ t, own_W p e below m T7 20 #[.val (.ref x0), .val (.int (1 : Int32)), .val (.ref x2), .val (.int (1 : Int32)), .val (.int (4 : Int32)), .val (.int (1 : Int32)), .val (.int c1)] [(.int (255 : Int32)), (.int c1)] t → Steps p.tables e below S0 t := fun t k => p12 t (by
      show own_W p e below m T7 12 #[.val (.ref x0), .val (.int (1 : Int32)), .val (.ref x2), .val (.int (1 : Int32)), .val (.int (4 : Int32)), .val (.int (1 : Int32)), .val (.int c0)] [(.int (1 : Int32)), (.ref x0)] _
      refine X7.caload hx (j := (1 : Int32)) (v := (.int c1)) (by rw [e7]; exact Ar13.1) (State.isArrayOf_alike hZ.alike Ar13.2.1) Ar13.2.2 hin13 hat13 (g := (mkF m 12 #[.val (.ref x0), .val (.int (1 : Int32)), .val (.ref x2), .val (.int (1 : Int32)), .val (.int (4 : Int32)), .val (.int (1 : Int32)), .val (.int c0)] [(.int (1 : Int32)), (.ref x0)])) rfl rfl (hb hby dc54_12) _ ?_
      show own_W p e below m T7 13 #[.val (.ref x0), .val (.int (1 : Int32)), .val (.ref x2), .val (.int (1 : Int32)), .val (.int (4 : Int32)), .val (.int (1 : Int32)), .val (.int c0)] [(.int c1)] _
      refine XS.istore X7.here hx rfl (hb hby dc54_13) rfl (l' := #[.val (.ref x0), .val (.int (1 : Int32)), .val (.ref x2), .val (.int (1 : Int32)), .val (.int (4 : Int32)), .val (.int (1 : Int32)), .val (.int c1)]) rfl ?_
      show own_W p e below m T7 15 #[.val (.ref x0), .val (.int (1 : Int32)), .val (.ref x2), .val (.int (1 : Int32)), .val (.int (4 : Int32)), .val (.int (1 : Int32)), .val (.int c1)] [] _
      refine XS.iload X7.here hx rfl (hb hby dc54_15) rfl ?_
      show own_W p e below m T7 17 #[.val (.ref x0), .val (.int (1 : Int32)), .val (.ref x2), .val (.int (1 : Int32)), .val (.int (4 : Int32)), .val (.int (1 : Int32)), .val (.int c1)] [(.int c1)] _
      refine XS.sipush X7.here hx rfl (hb hby dc54_17) ?_
      exact k)
    by_cases e1l : (255 : Int32) < c1
    · have p15 : ∀ t, own_W p e below m T7 25 #[.val (.ref x0), .val (.int (1 : Int32)), .val (.ref x2), .val (.int (1 : Int32)), .val (.int (4 : Int32)), .val (.int (1 : Int32)), .val (.int c1)] [(.int (1 : Int32))] t → Steps p.tables e below S0 t := fun t k => p14 t (by
        show own_W p e below m T7 20 #[.val (.ref x0), .val (.int (1 : Int32)), .val (.ref x2), .val (.int (1 : Int32)), .val (.int (4 : Int32)), .val (.int (1 : Int32)), .val (.int c1)] [(.int (255 : Int32)), (.int c1)] _
        refine XS.icmpNo X7.here hx rfl (hb hby dc54_20) rfl ((tlt (e1l)).2.2.2) ?_
        show own_W p e below m T7 23 #[.val (.ref x0), .val (.int (1 : Int32)), .val (.ref x2), .val (.int (1 : Int32)), .val (.int (4 : Int32)), .val (.int (1 : Int32)), .val (.int c1)] [] _
        refine XS.iload X7.here hx rfl (hb hby dc54_23) rfl ?_
        exact k)
      subst hS0
      obtain ⟨fs, hr, hrun, hended, hW, hsame⟩ := X7.leave (v := some (.int (1 : Int32))) (fun h => by rw [Bd.returns] at h; cases h)
      refine ⟨_, _, p15 _ ?_, hrun, hended, _, _, rfl, ?_, ⟨_, rfl⟩, hW, hsame.mono (by decide) (by decide)⟩
      · show own_W p e below m T7 25 #[.val (.ref x0), .val (.int (1 : Int32)), .val (.ref x2), .val (.int (1 : Int32)), .val (.int (4 : Int32)), .val (.int (1 : Int32)), .val (.int c1)] [(.int (1 : Int32))] _
        exact retI X7 hx Bd.returns (hb hby dc54_25) hr
      · show Qc54 Z x0 x2 kc kb c0 c1 c2 c3 h0 n0 _ T7.heap _
        rw [e7]
        exact ⟨_, rfl, N7, KK7, Or.inr (Or.inr (Or.inl ⟨rfl, e1l⟩))⟩
    · have p16 : ∀ t, own_W p e below m T7 31 #[.val (.ref x0), .val (.int (1 : Int32)), .val (.ref x2), .val (.int (1 : Int32)), .val (.int (4 : Int32)), .val (.int (1 : Int32)), .val (.int c1)] [(.int (c1.toInt8.toInt32)), (.int (1 : Int32)), (.ref x2)] t → Steps p.tables e below S0 t := fun t k => p14 t (by
        show own_W p e below m T7 20 #[.val (.ref x0), .val (.int (1 : Int32)), .val (.ref x2), .val (.int (1 : Int32)), .val (.int (4 : Int32)), .val (.int (1 : Int32)), .val (.int c1)] [(.int (255 : Int32)), (.int c1)] _
        refine XS.icmpYes X7.here hx rfl (pc0 := 20) (pc' := 26) rfl (hb hby dc54_20) rfl ((flt (e1l)).2.2.2) (by decide) (by decide) ?_
        show own_W p e below m T7 26 #[.val (.ref x0), .val (.int (1 : Int32)), .val (.ref x2), .val (.int (1 : Int32)), .val (.int (4 : Int32)), .val (.int (1 : Int32)), .val (.int c1)] [] _
        refine XS.aloadN X7.here hx rfl (hb hby dc54_26) rfl rfl ?_
        show own_W p e below m T7 27 #[.val (.ref x0), .val (.int (1 : Int32)), .val (.ref x2), .val (.int (1 : Int32)), .val (.int (4 : Int32)), .val (.int (1 : Int32)), .val (.int c1)] [(.ref x2)] _
        refine XS.iloadN X7.here hx rfl (hb hby dc54_27) rfl ?_
        show own_W p e below m T7 28 #[.val (.ref x0), .val (.int (1 : Int32)), .val (.ref x2), .val (.int (1 : Int32)), .val (.int (4 : Int32)), .val (.int (1 : Int32)), .val (.int c1)] [(.int (1 : Int32)), (.ref x2)] _
        refine XS.iload X7.here hx rfl (hb hby dc54_28) rfl ?_
        show own_W p e below m T7 30 #[.val (.ref x0), .val (.int (1 : Int32)), .val (.ref x2), .val (.int (1 : Int32)), .val (.int (4 : Int32)), .val (.int (1 : Int32)), .val (.int c1)] [(.int c1), (.int (1 : Int32)), (.ref x2)] _
        refine XS.i2b X7.here hx rfl (hb hby dc54_30) rfl ?_
        exact k)
      obtain ⟨cl17, Ar17, q17, Sz17, Ng17, Hs17, G17⟩ := id VV7
      have hin17 : ¬ ((1 : Int32) < 0 ∨ cl17.slots.size ≤ ((1 : Int32)).toNatClampNeg) := inb_of Sz17 (⟨by decide, by decide⟩)
      obtain ⟨T17, h17, X17, e17, W17, st17⟩ := stB X7 hx hZ e7 Ar17 (j := (1 : Int32)) hin17 (g := (mkF m 31 #[.val (.ref x0), .val (.int (1 : Int32)), .val (.ref x2), .val (.int (1 : Int32)), .val (.int (4 : Int32)), .val (.int (1 : Int32)), .val (.int c1)] [(.int (c1.toInt8.toInt32)), (.int (1 : Int32)), (.ref x2)])) rfl rfl (hb hby dc54_31)
      have VV17 : Arv Z h17 x2 kb .byte (4 : Int32) [(.int (own_lo c0)), (.int (own_lo c1)), (.int (0 : Int32)), (.int (0 : Int32))] (.int (0 : Int32)) := Arv.set Ar17 q17 Sz17 Ng17 Hs17 G17 (fits_nar_byte _) W17 1 (by decide) (Nat.le_of_ble_eq_true rfl)
      have f18 := f8.other W17 ne
      have Z17 := Nat.le_trans Z7 (Keep.of_wr W17).1
      have N17 := Fr.snoc X17 N7 g2
      have KK17 := KK7.wr W17 (Or.inl (List.mem_singleton.mpr rfl))
      have p19 : ∀ t, own_W p e below m T17 32 #[.val (.ref x0), .val (.int (1 : Int32)), .val (.ref x2), .val (.int (1 : Int32)), .val (.int (4 : Int32)), .val (.int (1 : Int32)), .val (.int c1)] [] t → Steps p.tables e below S0 t := fun t k => p16 t (st17 t k)
      have p20 : ∀ t, own_W p e below m T17 3 #[.val (.ref x0), .val (.int ((1 : Int32) + (1 : Int32))), .val (.ref x2), .val (.int ((1 : Int32) + (1 : Int32))), .val (.int (4 : Int32)), .val (.int ((1 : Int32) + (1 : Int32))), .val (.int c1)] [] t → Steps p.tables e below S0 t := fun t k => p19 t (by
        show own_W p e below m T17 32 #[.val (.ref x0), .val (.int (1 : Int32)), .val (.ref x2), .val (.int (1 : Int32)), .val (.int (4 : Int32)), .val (.int (1 : Int32)), .val (.int c1)] [] _
        refine XS.iinc X17.here hx rfl (hb hby dc54_32) rfl (l' := #[.val (.ref x0), .val (.int ((1 : Int32) + (1 : Int32))), .val (.ref x2), .val (.int (1 : Int32)), .val (.int (4 : Int32)), .val (.int (1 : Int32)), .val (.int c1)]) rfl ?_
        show own_W p e below m T17 35 #[.val (.ref x0), .val (.int ((1 : Int32) + (1 : Int32))), .val (.ref x2), .val (.int (1 : Int32)), .val (.int (4 : Int32)), .val (.int (1 : Int32)), .val (.int c1)] [] _
        refine XS.iinc X17.here hx rfl (hb hby dc54_35) rfl (l' := #[.val (.ref x0), .val (.int ((1 : Int32) + (1 : Int32))), .val (.ref x2), .val (.int ((1 : Int32) + (1 : Int32))), .val (.int (4 : Int32)), .val (.int (1 : Int32)), .val (.int c1)]) rfl ?_
        show own_W p e below m T17 38 #[.val (.ref x0), .val (.int ((1 : Int32) + (1 : Int32))), .val (.ref x2), .val (.int ((1 : Int32) + (1 : Int32))), .val (.int (4 : Int32)), .val (.int (1 : Int32)), .val (.int c1)] [] _
        refine XS.iinc X17.here hx rfl (hb hby dc54_38) rfl (l' := #[.val (.ref x0), .val (.int ((1 : Int32) + (1 : Int32))), .val (.ref x2), .val (.int ((1 : Int32) + (1 : Int32))), .val (.int (4 : Int32)), .val (.int ((1 : Int32) + (1 : Int32))), .val (.int c1)]) rfl ?_
        show own_W p e below m T17 41 #[.val (.ref x0), .val (.int ((1 : Int32) + (1 : Int32))), .val (.ref x2), .val (.int ((1 : Int32) + (1 : Int32))), .val (.int (4 : Int32)), .val (.int ((1 : Int32) + (1 : Int32))), .val (.int c1)] [] _
        refine XS.goto X17.here hx rfl (pc0 := 41) (pc' := 3) rfl (hb hby dc54_41) (by decide) (by decide) ?_
        exact k)
      have p21 : ∀ t, own_W p e below m T17 3 #[.val (.ref x0), .val (.int (2 : Int32)), .val (.ref x2), .val (.int (2 : Int32)), .val (.int (4 : Int32)), .val (.int (2 : Int32)), .val (.int c1)] [] t → Steps p.tables e below S0 t := by
        have k := p20
        rw [show ((1 : Int32) + (1 : Int32)) = (2 : Int32) from by decide] at k
        exact k
      have p22 : ∀ t, own_W p e below m T17 12 #[.val (.ref x0), .val (.int (2 : Int32)), .val (.ref x2), .val (.int (2 : Int32)), .val (.int (4 : Int32)), .val (.int (2 : Int32)), .val (.int c1)] [(.int (2 : Int32)), (.ref x0)] t → Steps p.tables e below S0 t := fun t k => p21 t (by
        show own_W p e below m T17 3 #[.val (.ref x0), .val (.int (2 : Int32)), .val (.ref x2), .val (.int (2 : Int32)), .val (.int (4 : Int32)), .val (.int (2 : Int32)), .val (.int c1)] [] _
        refine XS.iload X17.here hx rfl (hb hby dc54_3) rfl ?_
        show own_W p e below m T17 5 #[.val (.ref x0), .val (.int (2 : Int32)), .val (.ref x2), .val (.int (2 : Int32)), .val (.int (4 : Int32)), .val (.int (2 : Int32)), .val (.int c1)] [(.int (2 : Int32))] _
        refine XS.iload X17.here hx rfl (hb hby dc54_5) rfl ?_
        show own_W p e below m T17 7 #[.val (.ref x0), .val (.int (2 : Int32)), .val (.ref x2), .val (.int (2 : Int32)), .val (.int (4 : Int32)), .val (.int (2 : Int32)), .val (.int c1)] [(.int (4 : Int32)), (.int (2 : Int32))] _
        refine XS.icmpNo X17.here hx rfl (hb hby dc54_7) rfl ((tlt (by decide)).2.1) ?_
        show own_W p e below m T17 10 #[.val (.ref x0), .val (.int (2 : Int32)), .val (.ref x2), .val (.int (2 : Int32)), .val (.int (4 : Int32)), .val (.int (2 : Int32)), .val (.int c1)] [] _
        refine XS.aloadN X17.here hx rfl (hb hby dc54_10) rfl rfl ?_
        show own_W p e below m T17 11 #[.val (.ref x0), .val (.int (2 : Int32)), .val (.ref x2), .val (.int (2 : Int32)), .val (.int (4 : Int32)), .val (.int (2 : Int32)), .val (.int c1)] [(.ref x0)] _
        refine XS.iloadN X17.here hx rfl (hb hby dc54_11) rfl ?_
        exact k)
      obtain ⟨cl23, Ar23, q23, Sz23, Ng23, Hs23, G23⟩ := id f18
      have hin23 : ¬ ((2 : Int32) < 0 ∨ cl23.slots.size ≤ ((2 : Int32)).toNatClampNeg) := inb_of Sz23 ⟨by decide, by decide⟩
      have hat23 : cl23.slots[((2 : Int32)).toNatClampNeg]? = some (.int c2) := Hs23.at hin23 (rfl)
      have p24 : ∀ t, own_W p e below m T17 20 #[.val (.ref x0), .val (.int (2 : Int32)), .val (.ref x2), .val (.int (2 : Int32)), .val (.int (4 : Int32)), .val (.int (2 : Int32)), .val (.int c2)] [(.int (255 : Int32)), (.int c2)] t → Steps p.tables e below S0 t := fun t k => p22 t (by
        show own_W p e below m T17 12 #[.val (.ref x0), .val (.int (2 : Int32)), .val (.ref x2), .val (.int (2 : Int32)), .val (.int (4 : Int32)), .val (.int (2 : Int32)), .val (.int c1)] [(.int (2 : Int32)), (.ref x0)] _
        refine X17.caload hx (j := (2 : Int32)) (v := (.int c2)) (by rw [e17]; exact Ar23.1) (State.isArrayOf_alike hZ.alike Ar23.2.1) Ar23.2.2 hin23 hat23 (g := (mkF m 12 #[.val (.ref x0), .val (.int (2 : Int32)), .val (.ref x2), .val (.int (2 : Int32)), .val (.int (4 : Int32)), .val (.int (2 : Int32)), .val (.int c1)] [(.int (2 : Int32)), (.ref x0)])) rfl rfl (hb hby dc54_12) _ ?_
        show own_W p e below m T17 13 #[.val (.ref x0), .val (.int (2 : Int32)), .val (.ref x2), .val (.int (2 : Int32)), .val (.int (4 : Int32)), .val (.int (2 : Int32)), .val (.int c1)] [(.int c2)] _
        refine XS.istore X17.here hx rfl (hb hby dc54_13) rfl (l' := #[.val (.ref x0), .val (.int (2 : Int32)), .val (.ref x2), .val (.int (2 : Int32)), .val (.int (4 : Int32)), .val (.int (2 : Int32)), .val (.int c2)]) rfl ?_
        show own_W p e below m T17 15 #[.val (.ref x0), .val (.int (2 : Int32)), .val (.ref x2), .val (.int (2 : Int32)), .val (.int (4 : Int32)), .val (.int (2 : Int32)), .val (.int c2)] [] _
        refine XS.iload X17.here hx rfl (hb hby dc54_15) rfl ?_
        show own_W p e below m T17 17 #[.val (.ref x0), .val (.int (2 : Int32)), .val (.ref x2), .val (.int (2 : Int32)), .val (.int (4 : Int32)), .val (.int (2 : Int32)), .val (.int c2)] [(.int c2)] _
        refine XS.sipush X17.here hx rfl (hb hby dc54_17) ?_
        exact k)
      by_cases e2l : (255 : Int32) < c2
      · have p25 : ∀ t, own_W p e below m T17 25 #[.val (.ref x0), .val (.int (2 : Int32)), .val (.ref x2), .val (.int (2 : Int32)), .val (.int (4 : Int32)), .val (.int (2 : Int32)), .val (.int c2)] [(.int (2 : Int32))] t → Steps p.tables e below S0 t := fun t k => p24 t (by
          show own_W p e below m T17 20 #[.val (.ref x0), .val (.int (2 : Int32)), .val (.ref x2), .val (.int (2 : Int32)), .val (.int (4 : Int32)), .val (.int (2 : Int32)), .val (.int c2)] [(.int (255 : Int32)), (.int c2)] _
          refine XS.icmpNo X17.here hx rfl (hb hby dc54_20) rfl ((tlt (e2l)).2.2.2) ?_
          show own_W p e below m T17 23 #[.val (.ref x0), .val (.int (2 : Int32)), .val (.ref x2), .val (.int (2 : Int32)), .val (.int (4 : Int32)), .val (.int (2 : Int32)), .val (.int c2)] [] _
          refine XS.iload X17.here hx rfl (hb hby dc54_23) rfl ?_
          exact k)
        subst hS0
        obtain ⟨fs, hr, hrun, hended, hW, hsame⟩ := X17.leave (v := some (.int (2 : Int32))) (fun h => by rw [Bd.returns] at h; cases h)
        refine ⟨_, _, p25 _ ?_, hrun, hended, _, _, rfl, ?_, ⟨_, rfl⟩, hW, hsame.mono (by decide) (by decide)⟩
        · show own_W p e below m T17 25 #[.val (.ref x0), .val (.int (2 : Int32)), .val (.ref x2), .val (.int (2 : Int32)), .val (.int (4 : Int32)), .val (.int (2 : Int32)), .val (.int c2)] [(.int (2 : Int32))] _
          exact retI X17 hx Bd.returns (hb hby dc54_25) hr
        · show Qc54 Z x0 x2 kc kb c0 c1 c2 c3 h0 n0 _ T17.heap _
          rw [e17]
          exact ⟨_, rfl, N17, KK17, Or.inr (Or.inr (Or.inr (Or.inl ⟨rfl, e2l⟩)))⟩
      · have p26 : ∀ t, own_W p e below m T17 31 #[.val (.ref x0), .val (.int (2 : Int32)), .val (.ref x2), .val (.int (2 : Int32)), .val (.int (4 : Int32)), .val (.int (2 : Int32)), .val (.int c2)] [(.int (c2.toInt8.toInt32)), (.int (2 : Int32)), (.ref x2)] t → Steps p.tables e below S0 t := fun t k => p24 t (by
          show own_W p e below m T17 20 #[.val (.ref x0), .val (.int (2 : Int32)), .val (.ref x2), .val (.int (2 : Int32)), .val (.int (4 : Int32)), .val (.int (2 : Int32)), .val (.int c2)] [(.int (255 : Int32)), (.int c2)] _
          refine XS.icmpYes X17.here hx rfl (pc0 := 20) (pc' := 26) rfl (hb hby dc54_20) rfl ((flt (e2l)).2.2.2) (by decide) (by decide) ?_
          show own_W p e below m T17 26 #[.val (.ref x0), .val (.int (2 : Int32)), .val (.ref x2), .val (.int (2 : Int32)), .val (.int (4 : Int32)), .val (.int (2 : Int32)), .val (.int c2)] [] _
          refine XS.aloadN X17.here hx rfl (hb hby dc54_26) rfl rfl ?_
          show own_W p e below m T17 27 #[.val (.ref x0), .val (.int (2 : Int32)), .val (.ref x2), .val (.int (2 : Int32)), .val (.int (4 : Int32)), .val (.int (2 : Int32)), .val (.int c2)] [(.ref x2)] _
          refine XS.iloadN X17.here hx rfl (hb hby dc54_27) rfl ?_
          show own_W p e below m T17 28 #[.val (.ref x0), .val (.int (2 : Int32)), .val (.ref x2), .val (.int (2 : Int32)), .val (.int (4 : Int32)), .val (.int (2 : Int32)), .val (.int c2)] [(.int (2 : Int32)), (.ref x2)] _
          refine XS.iload X17.here hx rfl (hb hby dc54_28) rfl ?_
          show own_W p e below m T17 30 #[.val (.ref x0), .val (.int (2 : Int32)), .val (.ref x2), .val (.int (2 : Int32)), .val (.int (4 : Int32)), .val (.int (2 : Int32)), .val (.int c2)] [(.int c2), (.int (2 : Int32)), (.ref x2)] _
          refine XS.i2b X17.here hx rfl (hb hby dc54_30) rfl ?_
          exact k)
        obtain ⟨cl27, Ar27, q27, Sz27, Ng27, Hs27, G27⟩ := id VV17
        have hin27 : ¬ ((2 : Int32) < 0 ∨ cl27.slots.size ≤ ((2 : Int32)).toNatClampNeg) := inb_of Sz27 (⟨by decide, by decide⟩)
        obtain ⟨T27, h27, X27, e27, W27, st27⟩ := stB X17 hx hZ e17 Ar27 (j := (2 : Int32)) hin27 (g := (mkF m 31 #[.val (.ref x0), .val (.int (2 : Int32)), .val (.ref x2), .val (.int (2 : Int32)), .val (.int (4 : Int32)), .val (.int (2 : Int32)), .val (.int c2)] [(.int (c2.toInt8.toInt32)), (.int (2 : Int32)), (.ref x2)])) rfl rfl (hb hby dc54_31)
        have VV27 : Arv Z h27 x2 kb .byte (4 : Int32) [(.int (own_lo c0)), (.int (own_lo c1)), (.int (own_lo c2)), (.int (0 : Int32))] (.int (0 : Int32)) := Arv.set Ar27 q27 Sz27 Ng27 Hs27 G27 (fits_nar_byte _) W27 2 (by decide) (Nat.le_of_ble_eq_true rfl)
        have f28 := f18.other W27 ne
        have Z27 := Nat.le_trans Z17 (Keep.of_wr W27).1
        have N27 := Fr.snoc X27 N17 g2
        have KK27 := KK17.wr W27 (Or.inl (List.mem_singleton.mpr rfl))
        have p29 : ∀ t, own_W p e below m T27 32 #[.val (.ref x0), .val (.int (2 : Int32)), .val (.ref x2), .val (.int (2 : Int32)), .val (.int (4 : Int32)), .val (.int (2 : Int32)), .val (.int c2)] [] t → Steps p.tables e below S0 t := fun t k => p26 t (st27 t k)
        have p30 : ∀ t, own_W p e below m T27 3 #[.val (.ref x0), .val (.int ((2 : Int32) + (1 : Int32))), .val (.ref x2), .val (.int ((2 : Int32) + (1 : Int32))), .val (.int (4 : Int32)), .val (.int ((2 : Int32) + (1 : Int32))), .val (.int c2)] [] t → Steps p.tables e below S0 t := fun t k => p29 t (by
          show own_W p e below m T27 32 #[.val (.ref x0), .val (.int (2 : Int32)), .val (.ref x2), .val (.int (2 : Int32)), .val (.int (4 : Int32)), .val (.int (2 : Int32)), .val (.int c2)] [] _
          refine XS.iinc X27.here hx rfl (hb hby dc54_32) rfl (l' := #[.val (.ref x0), .val (.int ((2 : Int32) + (1 : Int32))), .val (.ref x2), .val (.int (2 : Int32)), .val (.int (4 : Int32)), .val (.int (2 : Int32)), .val (.int c2)]) rfl ?_
          show own_W p e below m T27 35 #[.val (.ref x0), .val (.int ((2 : Int32) + (1 : Int32))), .val (.ref x2), .val (.int (2 : Int32)), .val (.int (4 : Int32)), .val (.int (2 : Int32)), .val (.int c2)] [] _
          refine XS.iinc X27.here hx rfl (hb hby dc54_35) rfl (l' := #[.val (.ref x0), .val (.int ((2 : Int32) + (1 : Int32))), .val (.ref x2), .val (.int ((2 : Int32) + (1 : Int32))), .val (.int (4 : Int32)), .val (.int (2 : Int32)), .val (.int c2)]) rfl ?_
          show own_W p e below m T27 38 #[.val (.ref x0), .val (.int ((2 : Int32) + (1 : Int32))), .val (.ref x2), .val (.int ((2 : Int32) + (1 : Int32))), .val (.int (4 : Int32)), .val (.int (2 : Int32)), .val (.int c2)] [] _
          refine XS.iinc X27.here hx rfl (hb hby dc54_38) rfl (l' := #[.val (.ref x0), .val (.int ((2 : Int32) + (1 : Int32))), .val (.ref x2), .val (.int ((2 : Int32) + (1 : Int32))), .val (.int (4 : Int32)), .val (.int ((2 : Int32) + (1 : Int32))), .val (.int c2)]) rfl ?_
          show own_W p e below m T27 41 #[.val (.ref x0), .val (.int ((2 : Int32) + (1 : Int32))), .val (.ref x2), .val (.int ((2 : Int32) + (1 : Int32))), .val (.int (4 : Int32)), .val (.int ((2 : Int32) + (1 : Int32))), .val (.int c2)] [] _
          refine XS.goto X27.here hx rfl (pc0 := 41) (pc' := 3) rfl (hb hby dc54_41) (by decide) (by decide) ?_
          exact k)
        have p31 : ∀ t, own_W p e below m T27 3 #[.val (.ref x0), .val (.int (3 : Int32)), .val (.ref x2), .val (.int (3 : Int32)), .val (.int (4 : Int32)), .val (.int (3 : Int32)), .val (.int c2)] [] t → Steps p.tables e below S0 t := by
          have k := p30
          rw [show ((2 : Int32) + (1 : Int32)) = (3 : Int32) from by decide] at k
          exact k
        have p32 : ∀ t, own_W p e below m T27 12 #[.val (.ref x0), .val (.int (3 : Int32)), .val (.ref x2), .val (.int (3 : Int32)), .val (.int (4 : Int32)), .val (.int (3 : Int32)), .val (.int c2)] [(.int (3 : Int32)), (.ref x0)] t → Steps p.tables e below S0 t := fun t k => p31 t (by
          show own_W p e below m T27 3 #[.val (.ref x0), .val (.int (3 : Int32)), .val (.ref x2), .val (.int (3 : Int32)), .val (.int (4 : Int32)), .val (.int (3 : Int32)), .val (.int c2)] [] _
          refine XS.iload X27.here hx rfl (hb hby dc54_3) rfl ?_
          show own_W p e below m T27 5 #[.val (.ref x0), .val (.int (3 : Int32)), .val (.ref x2), .val (.int (3 : Int32)), .val (.int (4 : Int32)), .val (.int (3 : Int32)), .val (.int c2)] [(.int (3 : Int32))] _
          refine XS.iload X27.here hx rfl (hb hby dc54_5) rfl ?_
          show own_W p e below m T27 7 #[.val (.ref x0), .val (.int (3 : Int32)), .val (.ref x2), .val (.int (3 : Int32)), .val (.int (4 : Int32)), .val (.int (3 : Int32)), .val (.int c2)] [(.int (4 : Int32)), (.int (3 : Int32))] _
          refine XS.icmpNo X27.here hx rfl (hb hby dc54_7) rfl ((tlt (by decide)).2.1) ?_
          show own_W p e below m T27 10 #[.val (.ref x0), .val (.int (3 : Int32)), .val (.ref x2), .val (.int (3 : Int32)), .val (.int (4 : Int32)), .val (.int (3 : Int32)), .val (.int c2)] [] _
          refine XS.aloadN X27.here hx rfl (hb hby dc54_10) rfl rfl ?_
          show own_W p e below m T27 11 #[.val (.ref x0), .val (.int (3 : Int32)), .val (.ref x2), .val (.int (3 : Int32)), .val (.int (4 : Int32)), .val (.int (3 : Int32)), .val (.int c2)] [(.ref x0)] _
          refine XS.iloadN X27.here hx rfl (hb hby dc54_11) rfl ?_
          exact k)
        obtain ⟨cl33, Ar33, q33, Sz33, Ng33, Hs33, G33⟩ := id f28
        have hin33 : ¬ ((3 : Int32) < 0 ∨ cl33.slots.size ≤ ((3 : Int32)).toNatClampNeg) := inb_of Sz33 ⟨by decide, by decide⟩
        have hat33 : cl33.slots[((3 : Int32)).toNatClampNeg]? = some (.int c3) := Hs33.at hin33 (rfl)
        have p34 : ∀ t, own_W p e below m T27 20 #[.val (.ref x0), .val (.int (3 : Int32)), .val (.ref x2), .val (.int (3 : Int32)), .val (.int (4 : Int32)), .val (.int (3 : Int32)), .val (.int c3)] [(.int (255 : Int32)), (.int c3)] t → Steps p.tables e below S0 t := fun t k => p32 t (by
          show own_W p e below m T27 12 #[.val (.ref x0), .val (.int (3 : Int32)), .val (.ref x2), .val (.int (3 : Int32)), .val (.int (4 : Int32)), .val (.int (3 : Int32)), .val (.int c2)] [(.int (3 : Int32)), (.ref x0)] _
          refine X27.caload hx (j := (3 : Int32)) (v := (.int c3)) (by rw [e27]; exact Ar33.1) (State.isArrayOf_alike hZ.alike Ar33.2.1) Ar33.2.2 hin33 hat33 (g := (mkF m 12 #[.val (.ref x0), .val (.int (3 : Int32)), .val (.ref x2), .val (.int (3 : Int32)), .val (.int (4 : Int32)), .val (.int (3 : Int32)), .val (.int c2)] [(.int (3 : Int32)), (.ref x0)])) rfl rfl (hb hby dc54_12) _ ?_
          show own_W p e below m T27 13 #[.val (.ref x0), .val (.int (3 : Int32)), .val (.ref x2), .val (.int (3 : Int32)), .val (.int (4 : Int32)), .val (.int (3 : Int32)), .val (.int c2)] [(.int c3)] _
          refine XS.istore X27.here hx rfl (hb hby dc54_13) rfl (l' := #[.val (.ref x0), .val (.int (3 : Int32)), .val (.ref x2), .val (.int (3 : Int32)), .val (.int (4 : Int32)), .val (.int (3 : Int32)), .val (.int c3)]) rfl ?_
          show own_W p e below m T27 15 #[.val (.ref x0), .val (.int (3 : Int32)), .val (.ref x2), .val (.int (3 : Int32)), .val (.int (4 : Int32)), .val (.int (3 : Int32)), .val (.int c3)] [] _
          refine XS.iload X27.here hx rfl (hb hby dc54_15) rfl ?_
          show own_W p e below m T27 17 #[.val (.ref x0), .val (.int (3 : Int32)), .val (.ref x2), .val (.int (3 : Int32)), .val (.int (4 : Int32)), .val (.int (3 : Int32)), .val (.int c3)] [(.int c3)] _
          refine XS.sipush X27.here hx rfl (hb hby dc54_17) ?_
          exact k)
        by_cases e3l : (255 : Int32) < c3
        · have p35 : ∀ t, own_W p e below m T27 25 #[.val (.ref x0), .val (.int (3 : Int32)), .val (.ref x2), .val (.int (3 : Int32)), .val (.int (4 : Int32)), .val (.int (3 : Int32)), .val (.int c3)] [(.int (3 : Int32))] t → Steps p.tables e below S0 t := fun t k => p34 t (by
            show own_W p e below m T27 20 #[.val (.ref x0), .val (.int (3 : Int32)), .val (.ref x2), .val (.int (3 : Int32)), .val (.int (4 : Int32)), .val (.int (3 : Int32)), .val (.int c3)] [(.int (255 : Int32)), (.int c3)] _
            refine XS.icmpNo X27.here hx rfl (hb hby dc54_20) rfl ((tlt (e3l)).2.2.2) ?_
            show own_W p e below m T27 23 #[.val (.ref x0), .val (.int (3 : Int32)), .val (.ref x2), .val (.int (3 : Int32)), .val (.int (4 : Int32)), .val (.int (3 : Int32)), .val (.int c3)] [] _
            refine XS.iload X27.here hx rfl (hb hby dc54_23) rfl ?_
            exact k)
          subst hS0
          obtain ⟨fs, hr, hrun, hended, hW, hsame⟩ := X27.leave (v := some (.int (3 : Int32))) (fun h => by rw [Bd.returns] at h; cases h)
          refine ⟨_, _, p35 _ ?_, hrun, hended, _, _, rfl, ?_, ⟨_, rfl⟩, hW, hsame.mono (by decide) (by decide)⟩
          · show own_W p e below m T27 25 #[.val (.ref x0), .val (.int (3 : Int32)), .val (.ref x2), .val (.int (3 : Int32)), .val (.int (4 : Int32)), .val (.int (3 : Int32)), .val (.int c3)] [(.int (3 : Int32))] _
            exact retI X27 hx Bd.returns (hb hby dc54_25) hr
          · show Qc54 Z x0 x2 kc kb c0 c1 c2 c3 h0 n0 _ T27.heap _
            rw [e27]
            exact ⟨_, rfl, N27, KK27, Or.inr (Or.inr (Or.inr (Or.inr (⟨rfl, e3l⟩))))⟩
        · have p36 : ∀ t, own_W p e below m T27 31 #[.val (.ref x0), .val (.int (3 : Int32)), .val (.ref x2), .val (.int (3 : Int32)), .val (.int (4 : Int32)), .val (.int (3 : Int32)), .val (.int c3)] [(.int (c3.toInt8.toInt32)), (.int (3 : Int32)), (.ref x2)] t → Steps p.tables e below S0 t := fun t k => p34 t (by
            show own_W p e below m T27 20 #[.val (.ref x0), .val (.int (3 : Int32)), .val (.ref x2), .val (.int (3 : Int32)), .val (.int (4 : Int32)), .val (.int (3 : Int32)), .val (.int c3)] [(.int (255 : Int32)), (.int c3)] _
            refine XS.icmpYes X27.here hx rfl (pc0 := 20) (pc' := 26) rfl (hb hby dc54_20) rfl ((flt (e3l)).2.2.2) (by decide) (by decide) ?_
            show own_W p e below m T27 26 #[.val (.ref x0), .val (.int (3 : Int32)), .val (.ref x2), .val (.int (3 : Int32)), .val (.int (4 : Int32)), .val (.int (3 : Int32)), .val (.int c3)] [] _
            refine XS.aloadN X27.here hx rfl (hb hby dc54_26) rfl rfl ?_
            show own_W p e below m T27 27 #[.val (.ref x0), .val (.int (3 : Int32)), .val (.ref x2), .val (.int (3 : Int32)), .val (.int (4 : Int32)), .val (.int (3 : Int32)), .val (.int c3)] [(.ref x2)] _
            refine XS.iloadN X27.here hx rfl (hb hby dc54_27) rfl ?_
            show own_W p e below m T27 28 #[.val (.ref x0), .val (.int (3 : Int32)), .val (.ref x2), .val (.int (3 : Int32)), .val (.int (4 : Int32)), .val (.int (3 : Int32)), .val (.int c3)] [(.int (3 : Int32)), (.ref x2)] _
            refine XS.iload X27.here hx rfl (hb hby dc54_28) rfl ?_
            show own_W p e below m T27 30 #[.val (.ref x0), .val (.int (3 : Int32)), .val (.ref x2), .val (.int (3 : Int32)), .val (.int (4 : Int32)), .val (.int (3 : Int32)), .val (.int c3)] [(.int c3), (.int (3 : Int32)), (.ref x2)] _
            refine XS.i2b X27.here hx rfl (hb hby dc54_30) rfl ?_
            exact k)
          obtain ⟨cl37, Ar37, q37, Sz37, Ng37, Hs37, G37⟩ := id VV27
          have hin37 : ¬ ((3 : Int32) < 0 ∨ cl37.slots.size ≤ ((3 : Int32)).toNatClampNeg) := inb_of Sz37 (⟨by decide, by decide⟩)
          obtain ⟨T37, h37, X37, e37, W37, st37⟩ := stB X27 hx hZ e27 Ar37 (j := (3 : Int32)) hin37 (g := (mkF m 31 #[.val (.ref x0), .val (.int (3 : Int32)), .val (.ref x2), .val (.int (3 : Int32)), .val (.int (4 : Int32)), .val (.int (3 : Int32)), .val (.int c3)] [(.int (c3.toInt8.toInt32)), (.int (3 : Int32)), (.ref x2)])) rfl rfl (hb hby dc54_31)
          have VV37 : Arv Z h37 x2 kb .byte (4 : Int32) [(.int (own_lo c0)), (.int (own_lo c1)), (.int (own_lo c2)), (.int (own_lo c3))] (.int (0 : Int32)) := Arv.set Ar37 q37 Sz37 Ng37 Hs37 G37 (fits_nar_byte _) W37 3 (by decide) (Nat.le_of_ble_eq_true rfl)
          have f38 := f28.other W37 ne
          have Z37 := Nat.le_trans Z27 (Keep.of_wr W37).1
          have N37 := Fr.snoc X37 N27 g2
          have KK37 := KK27.wr W37 (Or.inl (List.mem_singleton.mpr rfl))
          have p39 : ∀ t, own_W p e below m T37 32 #[.val (.ref x0), .val (.int (3 : Int32)), .val (.ref x2), .val (.int (3 : Int32)), .val (.int (4 : Int32)), .val (.int (3 : Int32)), .val (.int c3)] [] t → Steps p.tables e below S0 t := fun t k => p36 t (st37 t k)
          have p40 : ∀ t, own_W p e below m T37 3 #[.val (.ref x0), .val (.int ((3 : Int32) + (1 : Int32))), .val (.ref x2), .val (.int ((3 : Int32) + (1 : Int32))), .val (.int (4 : Int32)), .val (.int ((3 : Int32) + (1 : Int32))), .val (.int c3)] [] t → Steps p.tables e below S0 t := fun t k => p39 t (by
            show own_W p e below m T37 32 #[.val (.ref x0), .val (.int (3 : Int32)), .val (.ref x2), .val (.int (3 : Int32)), .val (.int (4 : Int32)), .val (.int (3 : Int32)), .val (.int c3)] [] _
            refine XS.iinc X37.here hx rfl (hb hby dc54_32) rfl (l' := #[.val (.ref x0), .val (.int ((3 : Int32) + (1 : Int32))), .val (.ref x2), .val (.int (3 : Int32)), .val (.int (4 : Int32)), .val (.int (3 : Int32)), .val (.int c3)]) rfl ?_
            show own_W p e below m T37 35 #[.val (.ref x0), .val (.int ((3 : Int32) + (1 : Int32))), .val (.ref x2), .val (.int (3 : Int32)), .val (.int (4 : Int32)), .val (.int (3 : Int32)), .val (.int c3)] [] _
            refine XS.iinc X37.here hx rfl (hb hby dc54_35) rfl (l' := #[.val (.ref x0), .val (.int ((3 : Int32) + (1 : Int32))), .val (.ref x2), .val (.int ((3 : Int32) + (1 : Int32))), .val (.int (4 : Int32)), .val (.int (3 : Int32)), .val (.int c3)]) rfl ?_
            show own_W p e below m T37 38 #[.val (.ref x0), .val (.int ((3 : Int32) + (1 : Int32))), .val (.ref x2), .val (.int ((3 : Int32) + (1 : Int32))), .val (.int (4 : Int32)), .val (.int (3 : Int32)), .val (.int c3)] [] _
            refine XS.iinc X37.here hx rfl (hb hby dc54_38) rfl (l' := #[.val (.ref x0), .val (.int ((3 : Int32) + (1 : Int32))), .val (.ref x2), .val (.int ((3 : Int32) + (1 : Int32))), .val (.int (4 : Int32)), .val (.int ((3 : Int32) + (1 : Int32))), .val (.int c3)]) rfl ?_
            show own_W p e below m T37 41 #[.val (.ref x0), .val (.int ((3 : Int32) + (1 : Int32))), .val (.ref x2), .val (.int ((3 : Int32) + (1 : Int32))), .val (.int (4 : Int32)), .val (.int ((3 : Int32) + (1 : Int32))), .val (.int c3)] [] _
            refine XS.goto X37.here hx rfl (pc0 := 41) (pc' := 3) rfl (hb hby dc54_41) (by decide) (by decide) ?_
            exact k)
          have p41 : ∀ t, own_W p e below m T37 3 #[.val (.ref x0), .val (.int (4 : Int32)), .val (.ref x2), .val (.int (4 : Int32)), .val (.int (4 : Int32)), .val (.int (4 : Int32)), .val (.int c3)] [] t → Steps p.tables e below S0 t := by
            have k := p40
            rw [show ((3 : Int32) + (1 : Int32)) = (4 : Int32) from by decide] at k
            exact k
          have p42 : ∀ t, own_W p e below m T37 46 #[.val (.ref x0), .val (.int (4 : Int32)), .val (.ref x2), .val (.int (4 : Int32)), .val (.int (4 : Int32)), .val (.int (4 : Int32)), .val (.int c3)] [(.int (4 : Int32))] t → Steps p.tables e below S0 t := fun t k => p41 t (by
            show own_W p e below m T37 3 #[.val (.ref x0), .val (.int (4 : Int32)), .val (.ref x2), .val (.int (4 : Int32)), .val (.int (4 : Int32)), .val (.int (4 : Int32)), .val (.int c3)] [] _
            refine XS.iload X37.here hx rfl (hb hby dc54_3) rfl ?_
            show own_W p e below m T37 5 #[.val (.ref x0), .val (.int (4 : Int32)), .val (.ref x2), .val (.int (4 : Int32)), .val (.int (4 : Int32)), .val (.int (4 : Int32)), .val (.int c3)] [(.int (4 : Int32))] _
            refine XS.iload X37.here hx rfl (hb hby dc54_5) rfl ?_
            show own_W p e below m T37 7 #[.val (.ref x0), .val (.int (4 : Int32)), .val (.ref x2), .val (.int (4 : Int32)), .val (.int (4 : Int32)), .val (.int (4 : Int32)), .val (.int c3)] [(.int (4 : Int32)), (.int (4 : Int32))] _
            refine XS.icmpYes X37.here hx rfl (pc0 := 7) (pc' := 44) rfl (hb hby dc54_7) rfl ((flt (by decide)).2.1) (by decide) (by decide) ?_
            show own_W p e below m T37 44 #[.val (.ref x0), .val (.int (4 : Int32)), .val (.ref x2), .val (.int (4 : Int32)), .val (.int (4 : Int32)), .val (.int (4 : Int32)), .val (.int c3)] [] _
            refine XS.iload X37.here hx rfl (hb hby dc54_44) rfl ?_
            exact k)
          subst hS0
          obtain ⟨fs, hr, hrun, hended, hW, hsame⟩ := X37.leave (v := some (.int (4 : Int32))) (fun h => by rw [Bd.returns] at h; cases h)
          refine ⟨_, _, p42 _ ?_, hrun, hended, _, _, rfl, ?_, ⟨_, rfl⟩, hW, hsame.mono (by decide) (by decide)⟩
          · show own_W p e below m T37 46 #[.val (.ref x0), .val (.int (4 : Int32)), .val (.ref x2), .val (.int (4 : Int32)), .val (.int (4 : Int32)), .val (.int (4 : Int32)), .val (.int c3)] [(.int (4 : Int32))] _
            exact retI X37 hx Bd.returns (hb hby dc54_46) hr
          · show Qc54 Z x0 x2 kc kb c0 c1 c2 c3 h0 n0 _ T37.heap _
            rw [e37]
            exact ⟨_, rfl, N37, KK37, Or.inl ⟨rfl, VV37, e0l, e1l, e2l, e3l⟩⟩
theorem dc34_0 : decode jdk_52_method_16_code 0 = .ok (.iload_n 2, 1) := by decide +kernel
theorem dc34_1 : decode jdk_52_method_16_code 1 = .ok (.newarray .byte, 2) := by decide +kernel
theorem dc34_3 : decode jdk_52_method_16_code 3 = .ok (.astore_n 3, 1) := by decide +kernel
theorem dc34_4 : decode jdk_52_method_16_code 4 = .ok (.aload_n 0, 1) := by decide +kernel
theorem dc34_5 : decode jdk_52_method_16_code 5 = .ok (.iload_n 1, 1) := by decide +kernel
theorem dc34_6 : decode jdk_52_method_16_code 6 = .ok (.aload_n 3, 1) := by decide +kernel
theorem dc34_7 : decode jdk_52_method_16_code 7 = .ok (.iconst 0, 1) := by decide +kernel
theorem dc34_8 : decode jdk_52_method_16_code 8 = .ok (.iload_n 2, 1) := by decide +kernel
theorem dc34_9 : decode jdk_52_method_16_code 9 = .ok (.invokestatic 115, 3) := by decide +kernel
theorem dc34_12 : decode jdk_52_method_16_code 12 = .ok (.istore 4, 2) := by decide +kernel
theorem dc34_14 : decode jdk_52_method_16_code 14 = .ok (.iload 4, 2) := by decide +kernel
theorem dc34_16 : decode jdk_52_method_16_code 16 = .ok (.iload_n 2, 1) := by decide +kernel
theorem dc34_17 : decode jdk_52_method_16_code 17 = .ok (.if_icmp .eq 40, 3) := by decide +kernel
theorem dc34_20 : decode jdk_52_method_16_code 20 = .ok (.aload_n 0, 1) := by decide +kernel
theorem dc34_21 : decode jdk_52_method_16_code 21 = .ok (.iload_n 1, 1) := by decide +kernel
theorem dc34_22 : decode jdk_52_method_16_code 22 = .ok (.iload_n 2, 1) := by decide +kernel
theorem dc34_23 : decode jdk_52_method_16_code 23 = .ok (.invokestatic 119, 3) := by decide +kernel
theorem dc34_26 : decode jdk_52_method_16_code 26 = .ok (.astore 5, 2) := by decide +kernel
theorem dc34_28 : decode jdk_52_method_16_code 28 = .ok (.aload 5, 2) := by decide +kernel
theorem dc34_30 : decode jdk_52_method_16_code 30 = .ok (.iload 4, 2) := by decide +kernel
theorem dc34_32 : decode jdk_52_method_16_code 32 = .ok (.invokestatic 71, 3) := by decide +kernel
theorem dc34_35 : decode jdk_52_method_16_code 35 = .ok (.sipush 255, 3) := by decide +kernel
theorem dc34_38 : decode jdk_52_method_16_code 38 = .ok (.if_icmp .gt 16, 3) := by decide +kernel
theorem dc34_54 : decode jdk_52_method_16_code 54 = .ok (.aload 5, 2) := by decide +kernel
theorem dc34_56 : decode jdk_52_method_16_code 56 = .ok (.areturn, 1) := by decide +kernel
theorem dc34_57 : decode jdk_52_method_16_code 57 = .ok (.aload_n 3, 1) := by decide +kernel
theorem dc34_58 : decode jdk_52_method_16_code 58 = .ok (.areturn, 1) := by decide +kernel
theorem pnc34 : plainName "java/lang/StringUTF16" = true := by first | (simp [plainName, overriddenIn]; done) | decide +kernel
theorem pdc34_0 : parseMethodDescriptor "([CI[BII)I" = some ⟨[(.array .char), .int, (.array .byte), .int, .int], some .int⟩ := by decide +kernel
theorem pdc34_1 : parseMethodDescriptor "([CII)[B" = some ⟨[(.array .char), .int, .int], some (.array .byte)⟩ := by decide +kernel
theorem pdc34_2 : parseMethodDescriptor "([BI)C" = some ⟨[(.array .byte), .int], some .char⟩ := by decide +kernel
theorem efc34 (m : MethodId) (x0 : Addr) : entryFrame m #[(.ref x0), (.int (0 : Int32)), (.int (4 : Int32))] 6 = mkF m 0 #[.val (.ref x0), .val (.int (0 : Int32)), .val (.int (4 : Int32)), .unset, .unset, .unset] [] := by first | (simp [entryFrame, mkF, argsToLocals, Value.category]; done) | rfl
def Qc34 (Z : State) (x0 : Addr) (kc : ClassId) (c0 : Int32) (c1 : Int32) (c2 : Int32) (c3 : Int32) (cs : Int32) (G : Value) (h0 : Heap) (n0 : Nat) (v : Option Value) (h : Heap) (L : List Loc) : Prop := h.size ≤ h.size ∧ ∃ (r : Addr) (kk : ClassId), v = some (.ref r) ∧ Fr n0 L ∧ Keep h0 h [] ∧ h0.size ≤ r ∧ ((Arv Z h r kk .byte (4 : Int32) [(.int (own_lo c0)), (.int (own_lo c1)), (.int (own_lo c2)), (.int (own_lo c3))] (.int (0 : Int32)) ∧ ¬ (255 : Int32) < c0 ∧ ¬ (255 : Int32) < c1 ∧ ¬ (255 : Int32) < c2 ∧ ¬ (255 : Int32) < c3) ∨ Arv Z h r kk .byte (8 : Int32) [(.int (own_hb c0)), (.int (own_lb c0)), (.int (own_hb c1)), (.int (own_lb c1)), (.int (own_hb c2)), (.int (own_lb c2)), (.int (own_hb c3)), (.int (own_lb c3))] (.int (0 : Int32)))
set_option maxRecDepth 65536 in
set_option maxHeartbeats 40000000 in
theorem rmc34 (l : Launch) (Z : State) (a0 : Array Value) (hw : ∀ d ∈ tables_1, d.before a0 Z = true) (ws : List Jvm.Cond) (x0 : Addr) (kc : ClassId) (c0 : Int32) (c1 : Int32) (c2 : Int32) (c3 : Int32) (cs : Int32) (G : Value) (h0 : Heap) (n0 : Nat) (Z0 : n0 ≤ h0.size) (V0 : Arv Z h0 x0 kc .char (4 : Int32) [(.int c0), (.int c1), (.int c2), (.int c3)] (.int (0 : Int32))) (ko0 : own_ok c0) (ko1 : own_ok c1) (ko2 : own_ok c2) (ko3 : own_ok c3) (O0 : Old Z n0 h0) (st : own_ST Z cs G) :
    MetFree l (⟨"java/lang/StringUTF16", "compress", "([CII)[B"⟩ : MethodName) (head1 (Jvm.Cond.code (⟨"java/lang/StringUTF16", "compress", "([CII)[B"⟩ : MethodName) jdk_52_method_16_code 6 (some (.array .byte)) :: ws) ({ frames := 3, cells := 2, slots := 12, locals := 40 } : Room)) (fun a U => a = #[(.ref x0), (.int (0 : Int32)), (.int (4 : Int32))] ∧ Z.Warmed39 U.vm ∧ U.heap = h0) (fun _ _ _ _ _ => True) (fun _ U o U' => ∃ v L, o = .returned v ∧ Qc34 Z x0 kc c0 c1 c2 c3 cs G h0 n0 v U'.heap L ∧ FrameEnd U o U' L ({ frames := 3, cells := 2, slots := 12, locals := 40 } : Room).cells ({ frames := 3, cells := 2, slots := 12, locals := 40 } : Room).slots) := by
  refine MetFree.of_bodySF (plainFor_of_name pnc34) hisR ?_
  intro p e s m args below meth c s₁ Bd hml0 hP hK
  obtain ⟨rfl, hZ, hh⟩ := hP
  have hx := Bd.exec
  have hby := Bd.bytes
  have hml : c.maxLocals = 6 := hml0
  have hown : s.vm.findClass "java/lang/StringUTF16" = some m.cls := findClass_of_methodNamed Bd.named
  have hnm := (name_of_methodNamed Bd.named Bd.method).1
  have X0 : Stand p l e ({ frames := 3, cells := 2, slots := 12, locals := 40 } : Room) s m #[(.ref x0), (.int (0 : Int32)), (.int (4 : Int32))] below meth c s₁ [] 0 0 := Stand.of_body Bd
  have e0 : s₁.heap = h0 := by rw [← hh, Bd.state]; rfl
  have N0 := Fr.nil n0
  have pre0 : ∀ t, Steps p.tables e below (s₁.setTop (mkF m 0 #[.val (.ref x0), .val (.int (0 : Int32)), .val (.int (4 : Int32)), .unset, .unset, .unset] [])) t → Steps p.tables e below (s₁.setTop (entryFrame m #[(.ref x0), (.int (0 : Int32)), (.int (4 : Int32))] 6)) t := fun t k => castTop (efc34 m x0) k
  obtain ⟨S0, hS0⟩ : ∃ z, z = (s₁.setTop (entryFrame m #[(.ref x0), (.int (0 : Int32)), (.int (4 : Int32))] 6)) := ⟨_, rfl⟩
  rw [← hS0] at pre0
  obtain ⟨sc, hcs, sa, sh, sl, sg, hG⟩ := id st
  have K0 := Keep.refl h0 []
  have p1 : ∀ t, own_W p e below m s₁ 1 #[.val (.ref x0), .val (.int (0 : Int32)), .val (.int (4 : Int32)), .unset, .unset, .unset] [(.int (4 : Int32))] t → Steps p.tables e below S0 t := fun t k => pre0 t (by
    show own_W p e below m s₁ 0 #[.val (.ref x0), .val (.int (0 : Int32)), .val (.int (4 : Int32)), .unset, .unset, .unset] [] _
    refine XS.iloadN X0.here hx rfl (hb hby dc34_0) rfl ?_
    exact k)
  obtain ⟨T2, h2, k2, X2, e2, E2, A2, st2⟩ := newP X0 hx hZ (hw _ (List.mem_of_getElem? (i := 19) rfl)) e0 (g := (mkF m 1 #[.val (.ref x0), .val (.int (0 : Int32)), .val (.int (4 : Int32)), .unset, .unset, .unset] [(.int (4 : Int32))])) rfl (hb hby dc34_1) rfl (by decide) (cap := 4) (by decide) (by decide) (by decide) (by decide)
  obtain ⟨b2, g2⟩ : ∃ z, z = h0.size := ⟨_, rfl⟩
  rw [← g2] at A2 st2
  have gn_b2 : n0 ≤ b2 := Nat.le_trans Z0 (Nat.le_of_eq g2.symm)
  have gk_b2 : h0.size ≤ b2 := Nat.le_trans K0.1 (Nat.le_of_eq g2.symm)
  have ne3 : x0 ≠ b2 := Nat.ne_of_lt (Nat.lt_of_lt_of_le V0.lt (Nat.le_of_eq g2.symm))
  have f4 := O0.ext E2
  have f5 := V0.ext E2
  have Z2 := Nat.le_trans Z0 E2.1
  have KK2 := K0.ext E2
  have VV2 : Arv Z h2 b2 k2 .byte (4 : Int32) [(.int (0 : Int32)), (.int (0 : Int32)), (.int (0 : Int32)), (.int (0 : Int32))] (.int (0 : Int32)) := (Arv.new A2 (by decide)).pad (pad_rep [] (.int (0 : Int32)) 4)
  have p6 : ∀ t, own_W p e below m T2 3 #[.val (.ref x0), .val (.int (0 : Int32)), .val (.int (4 : Int32)), .unset, .unset, .unset] [(.ref b2)] t → Steps p.tables e below S0 t := fun t k => p1 t (st2 t k)
  have p7 : ∀ t, own_W p e below m T2 9 #[.val (.ref x0), .val (.int (0 : Int32)), .val (.int (4 : Int32)), .val (.ref b2), .unset, .unset] [(.int (4 : Int32)), (.int (0 : Int32)), (.ref b2), (.int (0 : Int32)), (.ref x0)] t → Steps p.tables e below S0 t := fun t k => p6 t (by
    show own_W p e below m T2 3 #[.val (.ref x0), .val (.int (0 : Int32)), .val (.int (4 : Int32)), .unset, .unset, .unset] [(.ref b2)] _
    refine XS.astoreN X2.here hx rfl (hb hby dc34_3) rfl rfl (l' := #[.val (.ref x0), .val (.int (0 : Int32)), .val (.int (4 : Int32)), .val (.ref b2), .unset, .unset]) rfl ?_
    show own_W p e below m T2 4 #[.val (.ref x0), .val (.int (0 : Int32)), .val (.int (4 : Int32)), .val (.ref b2), .unset, .unset] [] _
    refine XS.aloadN X2.here hx rfl (hb hby dc34_4) rfl rfl ?_
    show own_W p e below m T2 5 #[.val (.ref x0), .val (.int (0 : Int32)), .val (.int (4 : Int32)), .val (.ref b2), .unset, .unset] [(.ref x0)] _
    refine XS.iloadN X2.here hx rfl (hb hby dc34_5) rfl ?_
    show own_W p e below m T2 6 #[.val (.ref x0), .val (.int (0 : Int32)), .val (.int (4 : Int32)), .val (.ref b2), .unset, .unset] [(.int (0 : Int32)), (.ref x0)] _
    refine XS.aloadN X2.here hx rfl (hb hby dc34_6) rfl rfl ?_
    show own_W p e below m T2 7 #[.val (.ref x0), .val (.int (0 : Int32)), .val (.int (4 : Int32)), .val (.ref b2), .unset, .unset] [(.ref b2), (.int (0 : Int32)), (.ref x0)] _
    refine XS.iconst X2.here hx rfl (hb hby dc34_7) ?_
    show own_W p e below m T2 8 #[.val (.ref x0), .val (.int (0 : Int32)), .val (.int (4 : Int32)), .val (.ref b2), .unset, .unset] [(.int (0 : Int32)), (.ref b2), (.int (0 : Int32)), (.ref x0)] _
    refine XS.iloadN X2.here hx rfl (hb hby dc34_8) rfl ?_
    exact k)
  obtain ⟨_, _, ⟨T8, L8, k8, n8⟩, -, X8, ⟨Lc8, hQ8, l8, y8, z8⟩, st8⟩ := Jvm.LawKit.callS X2 hx (y := (⟨"java/lang/StringUTF16", "compress", "([CI[BII)I"⟩ : MethodName)) hown (mvT hZ (hw _ (List.mem_of_getElem? (i := 95) rfl))) (mvT hZ (hw _ (List.mem_of_getElem? (i := 96) rfl))) (mvT hZ (hw _ (List.mem_of_getElem? (i := 93) rfl))) (mvT hZ (hw _ (List.mem_of_getElem? (i := 97) rfl))) (by decide) (backOf (W := 0) (rmc54 l Z a0 hw [] x0 b2 kc k2 c0 c1 c2 c3 h2 n0 Z2 f5 VV2 gn_b2 ne3) hZ (hw _ (List.mem_of_getElem? (i := 97) rfl)) (hw _ (List.mem_of_getElem? (i := 93) rfl)) (by decide) (by decide)) (g := (mkF m 9 #[.val (.ref x0), .val (.int (0 : Int32)), .val (.int (4 : Int32)), .val (.ref b2), .unset, .unset] [(.int (4 : Int32)), (.int (0 : Int32)), (.ref b2), (.int (0 : Int32)), (.ref x0)])) rfl (by rw [hml]; rfl) (argsL := [(.ref x0), (.int (0 : Int32)), (.ref b2), (.int (0 : Int32)), (.int (4 : Int32))]) (rest := []) (lenOf pdc34_0 rfl) rfl (by show 2 * 0 + _ ≤ _; exact Nat.le_of_eq rfl) (hb hby dc34_9) (fun _ _ => ⟨rfl, e2, (by decide : 1 + 0 ≤ _), (by decide : 4 + 0 ≤ _)⟩)
  dsimp only [Pt.U, Pt.locs, Pt.cells, Pt.slots] at X8 l8 y8 z8 st8 hQ8
  subst l8 y8 z8
  obtain ⟨r8, rfl, Nq8, K8, HC8⟩ := hQ8
  have N8 := Fr.app N0 Nq8
  have f9 := f4.keep K8 (allS gn_b2 (all0))
  have f10 := f5.keep K8 (ninS ne3 nin0)
  have Z8 := Nat.le_trans Z2 K8.1
  have KK8 := KK2.trans K8 (allS (Or.inr gk_b2) all0)
  have p11 : ∀ t, own_W p e below m T8 12 #[.val (.ref x0), .val (.int (0 : Int32)), .val (.int (4 : Int32)), .val (.ref b2), .unset, .unset] [(.int r8)] t → Steps p.tables e below S0 t := fun t k => p7 t (st8 _ k)
  rcases HC8 with ⟨qr, VC, el⟩ | hit
  · have u_ := Z0
    subst qr
    have p12 : ∀ t, own_W p e below m T8 58 #[.val (.ref x0), .val (.int (0 : Int32)), .val (.int (4 : Int32)), .val (.ref b2), .val (.int (4 : Int32)), .unset] [(.ref b2)] t → Steps p.tables e below S0 t := fun t k => p11 t (by
      show own_W p e below m T8 12 #[.val (.ref x0), .val (.int (0 : Int32)), .val (.int (4 : Int32)), .val (.ref b2), .unset, .unset] [(.int (4 : Int32))] _
      refine XS.istore X8.here hx rfl (hb hby dc34_12) rfl (l' := #[.val (.ref x0), .val (.int (0 : Int32)), .val (.int (4 : Int32)), .val (.ref b2), .val (.int (4 : Int32)), .unset]) rfl ?_
      show own_W p e below m T8 14 #[.val (.ref x0), .val (.int (0 : Int32)), .val (.int (4 : Int32)), .val (.ref b2), .val (.int (4 : Int32)), .unset] [] _
      refine XS.iload X8.here hx rfl (hb hby dc34_14) rfl ?_
      show own_W p e below m T8 16 #[.val (.ref x0), .val (.int (0 : Int32)), .val (.int (4 : Int32)), .val (.ref b2), .val (.int (4 : Int32)), .unset] [(.int (4 : Int32))] _
      refine XS.iloadN X8.here hx rfl (hb hby dc34_16) rfl ?_
      show own_W p e below m T8 17 #[.val (.ref x0), .val (.int (0 : Int32)), .val (.int (4 : Int32)), .val (.ref b2), .val (.int (4 : Int32)), .unset] [(.int (4 : Int32)), (.int (4 : Int32))] _
      refine XS.icmpYes X8.here hx rfl (pc0 := 17) (pc' := 57) rfl (hb hby dc34_17) rfl ((teq (rfl)).1) (by decide) (by decide) ?_
      show own_W p e below m T8 57 #[.val (.ref x0), .val (.int (0 : Int32)), .val (.int (4 : Int32)), .val (.ref b2), .val (.int (4 : Int32)), .unset] [] _
      refine XS.aloadN X8.here hx rfl (hb hby dc34_57) rfl rfl ?_
      exact k)
    subst hS0
    obtain ⟨fs, hr, hrun, hended, hW, hsame⟩ := X8.leave (v := some (.ref b2)) (fun h => by rw [Bd.returns] at h; cases h)
    refine ⟨_, _, p12 _ ?_, hrun, hended, _, _, rfl, ?_, ⟨_, rfl⟩, hW, hsame.mono (by decide) (by decide)⟩
    · show own_W p e below m T8 58 #[.val (.ref x0), .val (.int (0 : Int32)), .val (.int (4 : Int32)), .val (.ref b2), .val (.int (4 : Int32)), .unset] [(.ref b2)] _
      exact retOut X8 hx Bd.returns rfl (Or.inr (Or.inr (Or.inr (Or.inr ⟨rfl, rfl, rfl⟩)))) (hb hby dc34_58) hr
    · show Qc34 Z x0 kc c0 c1 c2 c3 cs G h0 n0 _ T8.heap _
      skip
      exact ⟨Nat.le_refl _, _, _, rfl, N8, KK8, gk_b2, Or.inl ⟨VC, el⟩⟩
  · have u_ := Z0
    obtain ⟨hrn, cx, kx, gx, jx1, jx2, ux1, ux2⟩ := own_pick4 ko0 ko1 ko2 ko3 hit
    have p13 : ∀ t, own_W p e below m T8 23 #[.val (.ref x0), .val (.int (0 : Int32)), .val (.int (4 : Int32)), .val (.ref b2), .val (.int r8), .unset] [(.int (4 : Int32)), (.int (0 : Int32)), (.ref x0)] t → Steps p.tables e below S0 t := fun t k => p11 t (by
      show own_W p e below m T8 12 #[.val (.ref x0), .val (.int (0 : Int32)), .val (.int (4 : Int32)), .val (.ref b2), .unset, .unset] [(.int r8)] _
      refine XS.istore X8.here hx rfl (hb hby dc34_12) rfl (l' := #[.val (.ref x0), .val (.int (0 : Int32)), .val (.int (4 : Int32)), .val (.ref b2), .val (.int r8), .unset]) rfl ?_
      show own_W p e below m T8 14 #[.val (.ref x0), .val (.int (0 : Int32)), .val (.int (4 : Int32)), .val (.ref b2), .val (.int r8), .unset] [] _
      refine XS.iload X8.here hx rfl (hb hby dc34_14) rfl ?_
      show own_W p e below m T8 16 #[.val (.ref x0), .val (.int (0 : Int32)), .val (.int (4 : Int32)), .val (.ref b2), .val (.int r8), .unset] [(.int r8)] _
      refine XS.iloadN X8.here hx rfl (hb hby dc34_16) rfl ?_
      show own_W p e below m T8 17 #[.val (.ref x0), .val (.int (0 : Int32)), .val (.int (4 : Int32)), .val (.ref b2), .val (.int r8), .unset] [(.int (4 : Int32)), (.int r8)] _
      refine XS.icmpNo X8.here hx rfl (hb hby dc34_17) rfl ((feq (hrn)).1) ?_
      show own_W p e below m T8 20 #[.val (.ref x0), .val (.int (0 : Int32)), .val (.int (4 : Int32)), .val (.ref b2), .val (.int r8), .unset] [] _
      refine XS.aloadN X8.here hx rfl (hb hby dc34_20) rfl rfl ?_
      show own_W p e below m T8 21 #[.val (.ref x0), .val (.int (0 : Int32)), .val (.int (4 : Int32)), .val (.ref b2), .val (.int r8), .unset] [(.ref x0)] _
      refine XS.iloadN X8.here hx rfl (hb hby dc34_21) rfl ?_
      show own_W p e below m T8 22 #[.val (.ref x0), .val (.int (0 : Int32)), .val (.int (4 : Int32)), .val (.ref b2), .val (.int r8), .unset] [(.int (0 : Int32)), (.ref x0)] _
      refine XS.iloadN X8.here hx rfl (hb hby dc34_22) rfl ?_
      exact k)
    obtain ⟨_, _, ⟨T14, L14, k14, n14⟩, -, X14, ⟨Lc14, hQ14, l14, y14, z14⟩, st14⟩ := Jvm.LawKit.callS X8 hx (y := (⟨"java/lang/StringUTF16", "toBytes", "([CII)[B"⟩ : MethodName)) hown (mvT hZ (hw _ (List.mem_of_getElem? (i := 123) rfl))) (mvT hZ (hw _ (List.mem_of_getElem? (i := 124) rfl))) (mvT hZ (hw _ (List.mem_of_getElem? (i := 93) rfl))) (mvT hZ (hw _ (List.mem_of_getElem? (i := 125) rfl))) (by decide) (backOf (W := 0) (rmtb4 l Z a0 hw [] x0 kc c0 c1 c2 c3 cs G T8.heap n0 Z8 f10 f9 st) hZ (hw _ (List.mem_of_getElem? (i := 125) rfl)) (hw _ (List.mem_of_getElem? (i := 93) rfl)) (by decide) (by decide)) (g := (mkF m 23 #[.val (.ref x0), .val (.int (0 : Int32)), .val (.int (4 : Int32)), .val (.ref b2), .val (.int r8), .unset] [(.int (4 : Int32)), (.int (0 : Int32)), (.ref x0)])) rfl (by rw [hml]; rfl) (argsL := [(.ref x0), (.int (0 : Int32)), (.int (4 : Int32))]) (rest := []) (lenOf pdc34_1 rfl) rfl (by show 2 * 0 + _ ≤ _; exact Nat.le_of_eq rfl) (hb hby dc34_23) (fun _ _ => ⟨rfl, rfl, (by decide : 1 + 1 ≤ _), (by decide : 4 + 8 ≤ _)⟩)
    dsimp only [Pt.U, Pt.locs, Pt.cells, Pt.slots] at X14 l14 y14 z14 st14 hQ14
    subst l14 y14 z14
    obtain ⟨r14, kk14, rfl, Nq14, K14, gr14, VR14⟩ := hQ14
    have N14 := Fr.app N8 Nq14
    have f15 := f9.keep K14 (all0)
    have f16 := f10.keep K14 nin0
    have Z14 := Nat.le_trans Z8 K14.1
    have KK14 := KK8.trans K14 (all0)
    have p17 : ∀ t, own_W p e below m T14 26 #[.val (.ref x0), .val (.int (0 : Int32)), .val (.int (4 : Int32)), .val (.ref b2), .val (.int r8), .unset] [(.ref r14)] t → Steps p.tables e below S0 t := fun t k => p13 t (st14 _ k)
    have Zb14 := Z8
    have Kb14 := KK8
    have gn_r14 : n0 ≤ r14 := Nat.le_trans Zb14 gr14
    have gk_r14 : h0.size ≤ r14 := Nat.le_trans Kb14.1 gr14
    have ne_x0_r14 : x0 ≠ r14 := Nat.ne_of_lt (Nat.lt_of_lt_of_le f10.lt gr14)
    have p18 : ∀ t, own_W p e below m T14 32 #[.val (.ref x0), .val (.int (0 : Int32)), .val (.int (4 : Int32)), .val (.ref b2), .val (.int r8), .val (.ref r14)] [(.int r8), (.ref r14)] t → Steps p.tables e below S0 t := fun t k => p17 t (by
      show own_W p e below m T14 26 #[.val (.ref x0), .val (.int (0 : Int32)), .val (.int (4 : Int32)), .val (.ref b2), .val (.int r8), .unset] [(.ref r14)] _
      refine XS.astore X14.here hx rfl (hb hby dc34_26) rfl rfl (l' := #[.val (.ref x0), .val (.int (0 : Int32)), .val (.int (4 : Int32)), .val (.ref b2), .val (.int r8), .val (.ref r14)]) rfl ?_
      show own_W p e below m T14 28 #[.val (.ref x0), .val (.int (0 : Int32)), .val (.int (4 : Int32)), .val (.ref b2), .val (.int r8), .val (.ref r14)] [] _
      refine XS.aload X14.here hx rfl (hb hby dc34_28) rfl rfl ?_
      show own_W p e below m T14 30 #[.val (.ref x0), .val (.int (0 : Int32)), .val (.int (4 : Int32)), .val (.ref b2), .val (.int r8), .val (.ref r14)] [(.ref r14)] _
      refine XS.iload X14.here hx rfl (hb hby dc34_30) rfl ?_
      exact k)
    obtain ⟨_, _, ⟨T19, L19, k19, n19⟩, -, X19, ⟨Lc19, hQ19, l19, y19, z19⟩, st19⟩ := Jvm.LawKit.callS X14 hx (y := (⟨"java/lang/StringUTF16", "getChar", "([BI)C"⟩ : MethodName)) hown (mvT hZ (hw _ (List.mem_of_getElem? (i := 120) rfl))) (mvT hZ (hw _ (List.mem_of_getElem? (i := 121) rfl))) (mvT hZ (hw _ (List.mem_of_getElem? (i := 93) rfl))) (mvT hZ (hw _ (List.mem_of_getElem? (i := 122) rfl))) (by decide) (backOf (W := 0) (rmgc l Z a0 hw [] r14 r8 kk14 (8 : Int32) [(.int (own_hb c0)), (.int (own_lb c0)), (.int (own_hb c1)), (.int (own_lb c1)), (.int (own_hb c2)), (.int (own_lb c2)), (.int (own_hb c3)), (.int (own_lb c3))] cx cs G T14.heap n0 Z14 VR14 jx1 jx2 ux1 ux2 kx f15 st) hZ (hw _ (List.mem_of_getElem? (i := 122) rfl)) (hw _ (List.mem_of_getElem? (i := 93) rfl)) (by decide) (by decide)) (g := (mkF m 32 #[.val (.ref x0), .val (.int (0 : Int32)), .val (.int (4 : Int32)), .val (.ref b2), .val (.int r8), .val (.ref r14)] [(.int r8), (.ref r14)])) rfl (by rw [hml]; rfl) (argsL := [(.ref r14), (.int r8)]) (rest := []) (lenOf pdc34_2 rfl) rfl (by show 2 * 0 + _ ≤ _; exact Nat.le_of_eq rfl) (hb hby dc34_32) (fun _ _ => ⟨rfl, rfl, (by decide : 2 + 0 ≤ _), (by decide : 12 + 0 ≤ _)⟩)
    dsimp only [Pt.U, Pt.locs, Pt.cells, Pt.slots] at X19 l19 y19 z19 st19 hQ19
    subst l19 y19 z19
    obtain ⟨rfl, Nq19, e19⟩ := hQ19
    have N19 := Fr.app N14 Nq19
    have p20 : ∀ t, own_W p e below m T19 35 #[.val (.ref x0), .val (.int (0 : Int32)), .val (.int (4 : Int32)), .val (.ref b2), .val (.int r8), .val (.ref r14)] [(.int cx)] t → Steps p.tables e below S0 t := fun t k => p18 t (st19 _ k)
    have p21 : ∀ t, own_W p e below m T19 56 #[.val (.ref x0), .val (.int (0 : Int32)), .val (.int (4 : Int32)), .val (.ref b2), .val (.int r8), .val (.ref r14)] [(.ref r14)] t → Steps p.tables e below S0 t := fun t k => p20 t (by
      show own_W p e below m T19 35 #[.val (.ref x0), .val (.int (0 : Int32)), .val (.int (4 : Int32)), .val (.ref b2), .val (.int r8), .val (.ref r14)] [(.int cx)] _
      refine XS.sipush X19.here hx rfl (hb hby dc34_35) ?_
      show own_W p e below m T19 38 #[.val (.ref x0), .val (.int (0 : Int32)), .val (.int (4 : Int32)), .val (.ref b2), .val (.int r8), .val (.ref r14)] [(.int (255 : Int32)), (.int cx)] _
      refine XS.icmpYes X19.here hx rfl (pc0 := 38) (pc' := 54) rfl (hb hby dc34_38) rfl ((tlt (gx)).2.2.1) (by decide) (by decide) ?_
      show own_W p e below m T19 54 #[.val (.ref x0), .val (.int (0 : Int32)), .val (.int (4 : Int32)), .val (.ref b2), .val (.int r8), .val (.ref r14)] [] _
      refine XS.aload X19.here hx rfl (hb hby dc34_54) rfl rfl ?_
      exact k)
    subst hS0
    obtain ⟨fs, hr, hrun, hended, hW, hsame⟩ := X19.leave (v := some (.ref r14)) (fun h => by rw [Bd.returns] at h; cases h)
    refine ⟨_, _, p21 _ ?_, hrun, hended, _, _, rfl, ?_, ⟨_, rfl⟩, hW, hsame.mono (by decide) (by decide)⟩
    · show own_W p e below m T19 56 #[.val (.ref x0), .val (.int (0 : Int32)), .val (.int (4 : Int32)), .val (.ref b2), .val (.int r8), .val (.ref r14)] [(.ref r14)] _
      exact retOut X19 hx Bd.returns rfl (Or.inr (Or.inr (Or.inr (Or.inr ⟨rfl, rfl, rfl⟩)))) (hb hby dc34_56) hr
    · show Qc34 Z x0 kc c0 c1 c2 c3 cs G h0 n0 _ T19.heap _
      rw [e19]
      exact ⟨Nat.le_refl _, _, _, rfl, N19, KK14, gk_r14, Or.inr VR14⟩
theorem di42_0 : decode jdk_42_method_149_code 0 = .ok (.aload_n 0, 1) := by decide +kernel
theorem di42_1 : decode jdk_42_method_149_code 1 = .ok (.invokespecial 1, 3) := by decide +kernel
theorem di42_4 : decode jdk_42_method_149_code 4 = .ok (.iload_n 3, 1) := by decide +kernel
theorem di42_5 : decode jdk_42_method_149_code 5 = .ok (.ifCond .ne 22, 3) := by decide +kernel
theorem di42_27 : decode jdk_42_method_149_code 27 = .ok (.getstatic 38, 3) := by decide +kernel
theorem di42_30 : decode jdk_42_method_149_code 30 = .ok (.ifCond .eq 28, 3) := by decide +kernel
theorem di42_33 : decode jdk_42_method_149_code 33 = .ok (.aload_n 1, 1) := by decide +kernel
theorem di42_34 : decode jdk_42_method_149_code 34 = .ok (.iload_n 2, 1) := by decide +kernel
theorem di42_35 : decode jdk_42_method_149_code 35 = .ok (.iload_n 3, 1) := by decide +kernel
theorem di42_36 : decode jdk_42_method_149_code 36 = .ok (.invokestatic 177, 3) := by decide +kernel
theorem di42_39 : decode jdk_42_method_149_code 39 = .ok (.astore 5, 2) := by decide +kernel
theorem di42_41 : decode jdk_42_method_149_code 41 = .ok (.aload_n 0, 1) := by decide +kernel
theorem di42_42 : decode jdk_42_method_149_code 42 = .ok (.aload 5, 2) := by decide +kernel
theorem di42_44 : decode jdk_42_method_149_code 44 = .ok (.iload_n 3, 1) := by decide +kernel
theorem di42_45 : decode jdk_42_method_149_code 45 = .ok (.invokestatic 47, 3) := by decide +kernel
theorem di42_48 : decode jdk_42_method_149_code 48 = .ok (.putfield 15, 3) := by decide +kernel
theorem di42_51 : decode jdk_42_method_149_code 51 = .ok (.aload_n 0, 1) := by decide +kernel
theorem di42_52 : decode jdk_42_method_149_code 52 = .ok (.aload 5, 2) := by decide +kernel
theorem di42_54 : decode jdk_42_method_149_code 54 = .ok (.putfield 9, 3) := by decide +kernel
theorem di42_57 : decode jdk_42_method_149_code 57 = .ok (.return_, 1) := by decide +kernel
theorem pni42 : plainName "java/lang/String" = true := by first | (simp [plainName, overriddenIn]; done) | decide +kernel
theorem pdi42_0 : parseMethodDescriptor "([CII)[B" = some ⟨[(.array .char), .int, .int], some (.array .byte)⟩ := by decide +kernel
theorem pdi42_1 : parseMethodDescriptor "([BI)B" = some ⟨[(.array .byte), .int], some .byte⟩ := by decide +kernel
theorem efi42 (m : MethodId) (x0 : Addr) (x1 : Addr) : entryFrame m #[(.ref x0), (.ref x1), (.int (0 : Int32)), (.int (2 : Int32)), .null] 6 = mkF m 0 #[.val (.ref x0), .val (.ref x1), .val (.int (0 : Int32)), .val (.int (2 : Int32)), .val .null, .unset] [] := by first | (simp [entryFrame, mkF, argsToLocals, Value.category]; done) | rfl
def Qi42 (Z : State) (x0 : Addr) (x1 : Addr) (kc : ClassId) (c0 : Int32) (c1 : Int32) (cs : Int32) (G : Value) (h0 : Heap) (n0 : Nat) (v : Option Value) (h : Heap) (L : List Loc) : Prop := v = none ∧ Fr n0 L ∧ Keep h0 h [x0] ∧ ∃ (t : Addr) (kk : ClassId), Fld Z h x0 "java/lang/String" "value" "[B" (.ref t) ∧ ((Fld Z h x0 "java/lang/String" "coder" "B" (.int (0 : Int32)) ∧ Arv Z h t kk .byte (2 : Int32) [(.int (own_lo c0)), (.int (own_lo c1))] (.int (0 : Int32)) ∧ ¬ (255 : Int32) < c0 ∧ ¬ (255 : Int32) < c1) ∨ (Fld Z h x0 "java/lang/String" "coder" "B" (.int (1 : Int32)) ∧ Arv Z h t kk .byte (4 : Int32) [(.int (own_hb c0)), (.int (own_lb c0)), (.int (own_hb c1)), (.int (own_lb c1))] (.int (0 : Int32))))
set_option maxRecDepth 65536 in
set_option maxHeartbeats 40000000 in
theorem rmi42 (l : Launch) (Z : State) (a0 : Array Value) (hw : ∀ d ∈ tables_1, d.before a0 Z = true) (ws : List Jvm.Cond) (x0 : Addr) (x1 : Addr) (kc : ClassId) (c0 : Int32) (c1 : Int32) (cs : Int32) (G : Value) (h0 : Heap) (n0 : Nat) (Z0 : n0 ≤ h0.size) (E0 : Exa Z h0 x0 "java/lang/String") (F1 : Fld Z h0 x0 "java/lang/String" "coder" "B" (.int (0 : Int32))) (F2 : Fld Z h0 x0 "java/lang/String" "value" "[B" .null) (g0 : n0 ≤ x0) (V1 : Arv Z h0 x1 kc .char (2 : Int32) [(.int c0), (.int c1)] (.int (0 : Int32))) (nx : x0 ≠ x1) (ko0 : own_ok c0) (ko1 : own_ok c1) (O0 : Old Z n0 h0) (st : own_ST Z cs G) :
    MetFree l (⟨"java/lang/String", "<init>", "([CIILjava/lang/Void;)V"⟩ : MethodName) (head1 (Jvm.Cond.code (⟨"java/lang/String", "<init>", "([CIILjava/lang/Void;)V"⟩ : MethodName) jdk_42_method_149_code 6 none :: ws) ({ frames := 4, cells := 2, slots := 6, locals := 57 } : Room)) (fun a U => a = #[(.ref x0), (.ref x1), (.int (0 : Int32)), (.int (2 : Int32)), .null] ∧ Z.Warmed39 U.vm ∧ U.heap = h0) (fun _ _ _ _ _ => True) (fun _ U o U' => ∃ v L, o = .returned v ∧ Qi42 Z x0 x1 kc c0 c1 cs G h0 n0 v U'.heap L ∧ FrameEnd U o U' L ({ frames := 4, cells := 2, slots := 6, locals := 57 } : Room).cells ({ frames := 4, cells := 2, slots := 6, locals := 57 } : Room).slots) := by
  refine MetFree.of_bodySF (plainFor_of_name pni42) hisR ?_
  intro p e s m args below meth c s₁ Bd hml0 hP hK
  obtain ⟨rfl, hZ, hh⟩ := hP
  have hx := Bd.exec
  have hby := Bd.bytes
  have hml : c.maxLocals = 6 := hml0
  have hown : s.vm.findClass "java/lang/String" = some m.cls := findClass_of_methodNamed Bd.named
  have hnm := (name_of_methodNamed Bd.named Bd.method).1
  have X0 : Stand p l e ({ frames := 4, cells := 2, slots := 6, locals := 57 } : Room) s m #[(.ref x0), (.ref x1), (.int (0 : Int32)), (.int (2 : Int32)), .null] below meth c s₁ [] 0 0 := Stand.of_body Bd
  have e0 : s₁.heap = h0 := by rw [← hh, Bd.state]; rfl
  have N0 := Fr.nil n0
  have pre0 : ∀ t, Steps p.tables e below (s₁.setTop (mkF m 0 #[.val (.ref x0), .val (.ref x1), .val (.int (0 : Int32)), .val (.int (2 : Int32)), .val .null, .unset] [])) t → Steps p.tables e below (s₁.setTop (entryFrame m #[(.ref x0), (.ref x1), (.int (0 : Int32)), (.int (2 : Int32)), .null] 6)) t := fun t k => castTop (efi42 m x0 x1) k
  obtain ⟨S0, hS0⟩ : ∃ z, z = (s₁.setTop (entryFrame m #[(.ref x0), (.ref x1), (.int (0 : Int32)), (.int (2 : Int32)), .null] 6)) := ⟨_, rfl⟩
  rw [← hS0] at pre0
  obtain ⟨sc, hcs, sa, sh, sl, sg, hG⟩ := id st
  have K0 := Keep.refl h0 [x0]
  have p1 : ∀ t, own_W p e below m s₁ 1 #[.val (.ref x0), .val (.ref x1), .val (.int (0 : Int32)), .val (.int (2 : Int32)), .val .null, .unset] [(.ref x0)] t → Steps p.tables e below S0 t := fun t k => pre0 t (by
    show own_W p e below m s₁ 0 #[.val (.ref x0), .val (.ref x1), .val (.int (0 : Int32)), .val (.int (2 : Int32)), .val .null, .unset] [] _
    refine XS.aloadN X0.here hx rfl (hb hby di42_0) rfl rfl ?_
    exact k)
  obtain ⟨T2, X2, e2, st2⟩ := initO X0 hx hZ hown (hw _ (List.mem_of_getElem? (i := 24) rfl)) (hw _ (List.mem_of_getElem? (i := 25) rfl)) (hw _ (List.mem_of_getElem? (i := 26) rfl)) e0 (g := (mkF m 1 #[.val (.ref x0), .val (.ref x1), .val (.int (0 : Int32)), .val (.int (2 : Int32)), .val .null, .unset] [(.ref x0)])) rfl (by rw [hml]; rfl) rfl (hb hby di42_1) (by decide) (W := 0) (by show 2 * 0 + _ ≤ _; exact Nat.le_of_eq rfl) (by decide)
  have p3 : ∀ t, own_W p e below m T2 4 #[.val (.ref x0), .val (.ref x1), .val (.int (0 : Int32)), .val (.int (2 : Int32)), .val .null, .unset] [] t → Steps p.tables e below S0 t := fun t k => p1 t (st2 t k)
  have p4 : ∀ t, own_W p e below m T2 27 #[.val (.ref x0), .val (.ref x1), .val (.int (0 : Int32)), .val (.int (2 : Int32)), .val .null, .unset] [] t → Steps p.tables e below S0 t := fun t k => p3 t (by
    show own_W p e below m T2 4 #[.val (.ref x0), .val (.ref x1), .val (.int (0 : Int32)), .val (.int (2 : Int32)), .val .null, .unset] [] _
    refine XS.iloadN X2.here hx rfl (hb hby di42_4) rfl ?_
    show own_W p e below m T2 5 #[.val (.ref x0), .val (.ref x1), .val (.int (0 : Int32)), .val (.int (2 : Int32)), .val .null, .unset] [(.int (2 : Int32))] _
    refine XS.ifYes X2.here hx rfl (pc0 := 5) (pc' := 27) rfl (hb hby di42_5) rfl ((if0 _ _).trans (feq (by decide)).2) (by decide) (by decide) ?_
    exact k)
  have Sz5 := sc.ext O0.2
  obtain ⟨T5, X5, e5, st5⟩ := getS2 X2 hx hZ hown (host := "") (Or.inl (hw _ (List.mem_of_getElem? (i := 9) rfl))) Via.refl e2 Sz5 (g := (mkF m 27 #[.val (.ref x0), .val (.ref x1), .val (.int (0 : Int32)), .val (.int (2 : Int32)), .val .null, .unset] [])) rfl (hb hby di42_27)
  have p6 : ∀ t, own_W p e below m T5 30 #[.val (.ref x0), .val (.ref x1), .val (.int (0 : Int32)), .val (.int (2 : Int32)), .val .null, .unset] [(.int cs)] t → Steps p.tables e below S0 t := fun t k => p4 t (st5 t k)
  have p7 : ∀ t, own_W p e below m T5 36 #[.val (.ref x0), .val (.ref x1), .val (.int (0 : Int32)), .val (.int (2 : Int32)), .val .null, .unset] [(.int (2 : Int32)), (.int (0 : Int32)), (.ref x1)] t → Steps p.tables e below S0 t := fun t k => p6 t (by
    show own_W p e below m T5 30 #[.val (.ref x0), .val (.ref x1), .val (.int (0 : Int32)), .val (.int (2 : Int32)), .val .null, .unset] [(.int cs)] _
    refine XS.ifNo X5.here hx rfl (hb hby di42_30) rfl ((if0 _ _).trans (feq (hcs)).1) ?_
    show own_W p e below m T5 33 #[.val (.ref x0), .val (.ref x1), .val (.int (0 : Int32)), .val (.int (2 : Int32)), .val .null, .unset] [] _
    refine XS.aloadN X5.here hx rfl (hb hby di42_33) rfl rfl ?_
    show own_W p e below m T5 34 #[.val (.ref x0), .val (.ref x1), .val (.int (0 : Int32)), .val (.int (2 : Int32)), .val .null, .unset] [(.ref x1)] _
    refine XS.iloadN X5.here hx rfl (hb hby di42_34) rfl ?_
    show own_W p e below m T5 35 #[.val (.ref x0), .val (.ref x1), .val (.int (0 : Int32)), .val (.int (2 : Int32)), .val .null, .unset] [(.int (0 : Int32)), (.ref x1)] _
    refine XS.iloadN X5.here hx rfl (hb hby di42_35) rfl ?_
    exact k)
  obtain ⟨_, _, ⟨T8, L8, k8, n8⟩, -, X8, ⟨Lc8, hQ8, l8, y8, z8⟩, st8⟩ := Jvm.LawKit.callS X5 hx (y := (⟨"java/lang/StringUTF16", "compress", "([CII)[B"⟩ : MethodName)) hown (mvT hZ (hw _ (List.mem_of_getElem? (i := 91) rfl))) (mvT hZ (hw _ (List.mem_of_getElem? (i := 92) rfl))) (mvT hZ (hw _ (List.mem_of_getElem? (i := 93) rfl))) (mvT hZ (hw _ (List.mem_of_getElem? (i := 94) rfl))) (by decide) (backOf (W := 0) (rmc32 l Z a0 hw [] x1 kc c0 c1 cs G h0 n0 Z0 V1 ko0 ko1 O0 st) hZ (hw _ (List.mem_of_getElem? (i := 94) rfl)) (hw _ (List.mem_of_getElem? (i := 93) rfl)) (by decide) (by decide)) (g := (mkF m 36 #[.val (.ref x0), .val (.ref x1), .val (.int (0 : Int32)), .val (.int (2 : Int32)), .val .null, .unset] [(.int (2 : Int32)), (.int (0 : Int32)), (.ref x1)])) rfl (by rw [hml]; rfl) (argsL := [(.ref x1), (.int (0 : Int32)), (.int (2 : Int32))]) (rest := []) (lenOf pdi42_0 rfl) rfl (by show 2 * 0 + _ ≤ _; exact Nat.le_of_eq rfl) (hb hby di42_36) (fun _ _ => ⟨rfl, e5, (by decide : 0 + 2 ≤ _), (by decide : 0 + 6 ≤ _)⟩)
  dsimp only [Pt.U, Pt.locs, Pt.cells, Pt.slots] at X8 l8 y8 z8 st8 hQ8
  subst l8 y8 z8
  obtain ⟨-, r8, kk8, rfl, Nq8, K8, gr8, HC8⟩ := hQ8
  have N8 := Fr.app N0 Nq8
  have f9 := O0.keep K8 (all0)
  have f10 := E0.keep K8
  have f11 := F1.keep K8 nin0
  have f12 := F2.keep K8 nin0
  have f13 := V1.keep K8 nin0
  have Z8 := Nat.le_trans Z0 K8.1
  have KK8 := K0.trans K8 (all0)
  have p14 : ∀ t, own_W p e below m T8 39 #[.val (.ref x0), .val (.ref x1), .val (.int (0 : Int32)), .val (.int (2 : Int32)), .val .null, .unset] [(.ref r8)] t → Steps p.tables e below S0 t := fun t k => p7 t (st8 _ k)
  have Zb8 := Z0
  have Kb8 := K0
  have gn_r8 : n0 ≤ r8 := Nat.le_trans Zb8 gr8
  have gk_r8 : h0.size ≤ r8 := Nat.le_trans Kb8.1 gr8
  have ne_x0_r8 : x0 ≠ r8 := Nat.ne_of_lt (Nat.lt_of_lt_of_le F2.lt gr8)
  have ne_x1_r8 : x1 ≠ r8 := Nat.ne_of_lt (Nat.lt_of_lt_of_le V1.lt gr8)
  rcases HC8 with ⟨VR8, el⟩ | VR8
  · have u_ := Z0
    have p15 : ∀ t, own_W p e below m T8 45 #[.val (.ref x0), .val (.ref x1), .val (.int (0 : Int32)), .val (.int (2 : Int32)), .val .null, .val (.ref r8)] [(.int (2 : Int32)), (.ref r8), (.ref x0)] t → Steps p.tables e below S0 t := fun t k => p14 t (by
      show own_W p e below m T8 39 #[.val (.ref x0), .val (.ref x1), .val (.int (0 : Int32)), .val (.int (2 : Int32)), .val .null, .unset] [(.ref r8)] _
      refine XS.astore X8.here hx rfl (hb hby di42_39) rfl rfl (l' := #[.val (.ref x0), .val (.ref x1), .val (.int (0 : Int32)), .val (.int (2 : Int32)), .val .null, .val (.ref r8)]) rfl ?_
      show own_W p e below m T8 41 #[.val (.ref x0), .val (.ref x1), .val (.int (0 : Int32)), .val (.int (2 : Int32)), .val .null, .val (.ref r8)] [] _
      refine XS.aloadN X8.here hx rfl (hb hby di42_41) rfl rfl ?_
      show own_W p e below m T8 42 #[.val (.ref x0), .val (.ref x1), .val (.int (0 : Int32)), .val (.int (2 : Int32)), .val .null, .val (.ref r8)] [(.ref x0)] _
      refine XS.aload X8.here hx rfl (hb hby di42_42) rfl rfl ?_
      show own_W p e below m T8 44 #[.val (.ref x0), .val (.ref x1), .val (.int (0 : Int32)), .val (.int (2 : Int32)), .val .null, .val (.ref r8)] [(.ref r8), (.ref x0)] _
      refine XS.iloadN X8.here hx rfl (hb hby di42_44) rfl ?_
      exact k)
    obtain ⟨_, _, ⟨T16, L16, k16, n16⟩, -, X16, ⟨Lc16, hQ16, l16, y16, z16⟩, st16⟩ := Jvm.LawKit.callS X8 hx (y := (⟨"java/lang/StringUTF16", "coderFromArrayLen", "([BI)B"⟩ : MethodName)) hown (mvT hZ (hw _ (List.mem_of_getElem? (i := 98) rfl))) (mvT hZ (hw _ (List.mem_of_getElem? (i := 99) rfl))) (mvT hZ (hw _ (List.mem_of_getElem? (i := 93) rfl))) (mvT hZ (hw _ (List.mem_of_getElem? (i := 100) rfl))) (by decide) (backOf (W := 1) (rmcf l Z a0 hw [] r8 (2 : Int32) kk8 (2 : Int32) [(.int (own_lo c0)), (.int (own_lo c1))] (0 : Int32) T8.heap n0 Z8 VR8 (by decide)) hZ (hw _ (List.mem_of_getElem? (i := 100) rfl)) (hw _ (List.mem_of_getElem? (i := 93) rfl)) (by decide) (by decide)) (g := (mkF m 45 #[.val (.ref x0), .val (.ref x1), .val (.int (0 : Int32)), .val (.int (2 : Int32)), .val .null, .val (.ref r8)] [(.int (2 : Int32)), (.ref r8), (.ref x0)])) rfl (by rw [hml]; rfl) (argsL := [(.ref r8), (.int (2 : Int32))]) (rest := [(.ref x0)]) (lenOf pdi42_1 rfl) rfl (by show 2 * 0 + _ ≤ _; exact Nat.le_of_eq rfl) (hb hby di42_45) (fun _ _ => ⟨rfl, rfl, (by decide : 2 + 0 ≤ _), (by decide : 6 + 0 ≤ _)⟩)
    dsimp only [Pt.U, Pt.locs, Pt.cells, Pt.slots] at X16 l16 y16 z16 st16 hQ16
    subst l16 y16 z16
    obtain ⟨rfl, Nq16, e16⟩ := hQ16
    have N16 := Fr.app N8 Nq16
    have p17 : ∀ t, own_W p e below m T16 48 #[.val (.ref x0), .val (.ref x1), .val (.int (0 : Int32)), .val (.int (2 : Int32)), .val .null, .val (.ref r8)] [(.int (0 : Int32)), (.ref x0)] t → Steps p.tables e below S0 t := fun t k => p15 t (st16 _ k)
    obtain ⟨T18, h18, X18, e18, W18, st18⟩ := putF X16 hx hZ hown (host := "") (Or.inl (hw _ (List.mem_of_getElem? (i := 29) rfl))) Via.refl e16 f11 f10 (Or.inr ⟨(hw _ (List.mem_of_getElem? (i := 30) rfl)), rfl, hnm⟩) (hw _ (List.mem_of_getElem? (i := 15) rfl)) (ty := .byte) (by decide) rfl rfl (g := (mkF m 48 #[.val (.ref x0), .val (.ref x1), .val (.int (0 : Int32)), .val (.int (2 : Int32)), .val .null, .val (.ref r8)] [(.int (0 : Int32)), (.ref x0)])) rfl rfl (hb hby di42_48)
    have f19 := f11.same W18
    have f20 := f9.wr W18 g0
    have f21 := f10.wr W18
    have f22 := f12.other W18 (Or.inr (slot_ne (Or.inr (hw _ (List.mem_of_getElem? (i := 28) rfl))) (Or.inr (hw _ (List.mem_of_getElem? (i := 30) rfl))) (by decide) (t := (.array .byte)) (t' := .byte) (by decide) (by decide)))
    have f23 := f13.other W18 (Ne.symm nx)
    have f24 := VR8.other W18 (Ne.symm ne_x0_r8)
    have Z18 := Nat.le_trans Z8 (Keep.of_wr W18).1
    have N18 := Fr.snoc X18 N16 g0
    have KK18 := KK8.wr W18 (Or.inl (List.mem_singleton.mpr rfl))
    have p25 : ∀ t, own_W p e below m T18 51 #[.val (.ref x0), .val (.ref x1), .val (.int (0 : Int32)), .val (.int (2 : Int32)), .val .null, .val (.ref r8)] [] t → Steps p.tables e below S0 t := fun t k => p17 t (st18 t k)
    have p26 : ∀ t, own_W p e below m T18 54 #[.val (.ref x0), .val (.ref x1), .val (.int (0 : Int32)), .val (.int (2 : Int32)), .val .null, .val (.ref r8)] [(.ref r8), (.ref x0)] t → Steps p.tables e below S0 t := fun t k => p25 t (by
      show own_W p e below m T18 51 #[.val (.ref x0), .val (.ref x1), .val (.int (0 : Int32)), .val (.int (2 : Int32)), .val .null, .val (.ref r8)] [] _
      refine XS.aloadN X18.here hx rfl (hb hby di42_51) rfl rfl ?_
      show own_W p e below m T18 52 #[.val (.ref x0), .val (.ref x1), .val (.int (0 : Int32)), .val (.int (2 : Int32)), .val .null, .val (.ref r8)] [(.ref x0)] _
      refine XS.aload X18.here hx rfl (hb hby di42_52) rfl rfl ?_
      exact k)
    obtain ⟨T27, h27, X27, e27, W27, st27⟩ := putF X18 hx hZ hown (host := "") (Or.inl (hw _ (List.mem_of_getElem? (i := 27) rfl))) Via.refl e18 f22 f21 (Or.inr ⟨(hw _ (List.mem_of_getElem? (i := 28) rfl)), rfl, hnm⟩) (hw _ (List.mem_of_getElem? (i := 15) rfl)) (ty := (.array .byte)) (by decide) rfl rfl (g := (mkF m 54 #[.val (.ref x0), .val (.ref x1), .val (.int (0 : Int32)), .val (.int (2 : Int32)), .val .null, .val (.ref r8)] [(.ref r8), (.ref x0)])) rfl rfl (hb hby di42_54)
    have f28 := f22.same W27
    have f29 := f20.wr W27 g0
    have f30 := f21.wr W27
    have f31 := f23.other W27 (Ne.symm nx)
    have f32 := f24.other W27 (Ne.symm ne_x0_r8)
    have f33 := f19.other W27 (Or.inr (slot_ne (Or.inr (hw _ (List.mem_of_getElem? (i := 30) rfl))) (Or.inr (hw _ (List.mem_of_getElem? (i := 28) rfl))) (by decide) (t := .byte) (t' := (.array .byte)) (by decide) (by decide)))
    have Z27 := Nat.le_trans Z18 (Keep.of_wr W27).1
    have N27 := Fr.snoc X27 N18 g0
    have KK27 := KK18.wr W27 (Or.inl (List.mem_singleton.mpr rfl))
    have p34 : ∀ t, own_W p e below m T27 57 #[.val (.ref x0), .val (.ref x1), .val (.int (0 : Int32)), .val (.int (2 : Int32)), .val .null, .val (.ref r8)] [] t → Steps p.tables e below S0 t := fun t k => p26 t (st27 t k)
    subst hS0
    obtain ⟨fs, hr, hrun, hended, hW, hsame⟩ := X27.leave (v := none) (fun _ => rfl)
    refine ⟨_, _, p34 _ ?_, hrun, hended, _, _, rfl, ?_, ⟨_, rfl⟩, hW, hsame.mono (by decide) (by decide)⟩
    · show own_W p e below m T27 57 #[.val (.ref x0), .val (.ref x1), .val (.int (0 : Int32)), .val (.int (2 : Int32)), .val .null, .val (.ref r8)] [] _
      exact X27.returnOut hx Bd.returns (hb hby di42_57) hr
    · show Qi42 Z x0 x1 kc c0 c1 cs G h0 n0 _ T27.heap _
      rw [e27]
      exact ⟨rfl, N27, KK27, _, _, f28, Or.inl ⟨f33, f32, el⟩⟩
  · have u_ := Z0
    have p35 : ∀ t, own_W p e below m T8 45 #[.val (.ref x0), .val (.ref x1), .val (.int (0 : Int32)), .val (.int (2 : Int32)), .val .null, .val (.ref r8)] [(.int (2 : Int32)), (.ref r8), (.ref x0)] t → Steps p.tables e below S0 t := fun t k => p14 t (by
      show own_W p e below m T8 39 #[.val (.ref x0), .val (.ref x1), .val (.int (0 : Int32)), .val (.int (2 : Int32)), .val .null, .unset] [(.ref r8)] _
      refine XS.astore X8.here hx rfl (hb hby di42_39) rfl rfl (l' := #[.val (.ref x0), .val (.ref x1), .val (.int (0 : Int32)), .val (.int (2 : Int32)), .val .null, .val (.ref r8)]) rfl ?_
      show own_W p e below m T8 41 #[.val (.ref x0), .val (.ref x1), .val (.int (0 : Int32)), .val (.int (2 : Int32)), .val .null, .val (.ref r8)] [] _
      refine XS.aloadN X8.here hx rfl (hb hby di42_41) rfl rfl ?_
      show own_W p e below m T8 42 #[.val (.ref x0), .val (.ref x1), .val (.int (0 : Int32)), .val (.int (2 : Int32)), .val .null, .val (.ref r8)] [(.ref x0)] _
      refine XS.aload X8.here hx rfl (hb hby di42_42) rfl rfl ?_
      show own_W p e below m T8 44 #[.val (.ref x0), .val (.ref x1), .val (.int (0 : Int32)), .val (.int (2 : Int32)), .val .null, .val (.ref r8)] [(.ref r8), (.ref x0)] _
      refine XS.iloadN X8.here hx rfl (hb hby di42_44) rfl ?_
      exact k)
    obtain ⟨_, _, ⟨T36, L36, k36, n36⟩, -, X36, ⟨Lc36, hQ36, l36, y36, z36⟩, st36⟩ := Jvm.LawKit.callS X8 hx (y := (⟨"java/lang/StringUTF16", "coderFromArrayLen", "([BI)B"⟩ : MethodName)) hown (mvT hZ (hw _ (List.mem_of_getElem? (i := 98) rfl))) (mvT hZ (hw _ (List.mem_of_getElem? (i := 99) rfl))) (mvT hZ (hw _ (List.mem_of_getElem? (i := 93) rfl))) (mvT hZ (hw _ (List.mem_of_getElem? (i := 100) rfl))) (by decide) (backOf (W := 1) (rmcf l Z a0 hw [] r8 (2 : Int32) kk8 (4 : Int32) [(.int (own_hb c0)), (.int (own_lb c0)), (.int (own_hb c1)), (.int (own_lb c1))] (1 : Int32) T8.heap n0 Z8 VR8 (by decide)) hZ (hw _ (List.mem_of_getElem? (i := 100) rfl)) (hw _ (List.mem_of_getElem? (i := 93) rfl)) (by decide) (by decide)) (g := (mkF m 45 #[.val (.ref x0), .val (.ref x1), .val (.int (0 : Int32)), .val (.int (2 : Int32)), .val .null, .val (.ref r8)] [(.int (2 : Int32)), (.ref r8), (.ref x0)])) rfl (by rw [hml]; rfl) (argsL := [(.ref r8), (.int (2 : Int32))]) (rest := [(.ref x0)]) (lenOf pdi42_1 rfl) rfl (by show 2 * 0 + _ ≤ _; exact Nat.le_of_eq rfl) (hb hby di42_45) (fun _ _ => ⟨rfl, rfl, (by decide : 2 + 0 ≤ _), (by decide : 6 + 0 ≤ _)⟩)
    dsimp only [Pt.U, Pt.locs, Pt.cells, Pt.slots] at X36 l36 y36 z36 st36 hQ36
    subst l36 y36 z36
    obtain ⟨rfl, Nq36, e36⟩ := hQ36
    have N36 := Fr.app N8 Nq36
    have p37 : ∀ t, own_W p e below m T36 48 #[.val (.ref x0), .val (.ref x1), .val (.int (0 : Int32)), .val (.int (2 : Int32)), .val .null, .val (.ref r8)] [(.int (1 : Int32)), (.ref x0)] t → Steps p.tables e below S0 t := fun t k => p35 t (st36 _ k)
    obtain ⟨T38, h38, X38, e38, W38, st38⟩ := putF X36 hx hZ hown (host := "") (Or.inl (hw _ (List.mem_of_getElem? (i := 29) rfl))) Via.refl e36 f11 f10 (Or.inr ⟨(hw _ (List.mem_of_getElem? (i := 30) rfl)), rfl, hnm⟩) (hw _ (List.mem_of_getElem? (i := 15) rfl)) (ty := .byte) (by decide) rfl rfl (g := (mkF m 48 #[.val (.ref x0), .val (.ref x1), .val (.int (0 : Int32)), .val (.int (2 : Int32)), .val .null, .val (.ref r8)] [(.int (1 : Int32)), (.ref x0)])) rfl rfl (hb hby di42_48)
    have f39 := f11.same W38
    have f40 := f9.wr W38 g0
    have f41 := f10.wr W38
    have f42 := f12.other W38 (Or.inr (slot_ne (Or.inr (hw _ (List.mem_of_getElem? (i := 28) rfl))) (Or.inr (hw _ (List.mem_of_getElem? (i := 30) rfl))) (by decide) (t := (.array .byte)) (t' := .byte) (by decide) (by decide)))
    have f43 := f13.other W38 (Ne.symm nx)
    have f44 := VR8.other W38 (Ne.symm ne_x0_r8)
    have Z38 := Nat.le_trans Z8 (Keep.of_wr W38).1
    have N38 := Fr.snoc X38 N36 g0
    have KK38 := KK8.wr W38 (Or.inl (List.mem_singleton.mpr rfl))
    have p45 : ∀ t, own_W p e below m T38 51 #[.val (.ref x0), .val (.ref x1), .val (.int (0 : Int32)), .val (.int (2 : Int32)), .val .null, .val (.ref r8)] [] t → Steps p.tables e below S0 t := fun t k => p37 t (st38 t k)
    have p46 : ∀ t, own_W p e below m T38 54 #[.val (.ref x0), .val (.ref x1), .val (.int (0 : Int32)), .val (.int (2 : Int32)), .val .null, .val (.ref r8)] [(.ref r8), (.ref x0)] t → Steps p.tables e below S0 t := fun t k => p45 t (by
      show own_W p e below m T38 51 #[.val (.ref x0), .val (.ref x1), .val (.int (0 : Int32)), .val (.int (2 : Int32)), .val .null, .val (.ref r8)] [] _
      refine XS.aloadN X38.here hx rfl (hb hby di42_51) rfl rfl ?_
      show own_W p e below m T38 52 #[.val (.ref x0), .val (.ref x1), .val (.int (0 : Int32)), .val (.int (2 : Int32)), .val .null, .val (.ref r8)] [(.ref x0)] _
      refine XS.aload X38.here hx rfl (hb hby di42_52) rfl rfl ?_
      exact k)
    obtain ⟨T47, h47, X47, e47, W47, st47⟩ := putF X38 hx hZ hown (host := "") (Or.inl (hw _ (List.mem_of_getElem? (i := 27) rfl))) Via.refl e38 f42 f41 (Or.inr ⟨(hw _ (List.mem_of_getElem? (i := 28) rfl)), rfl, hnm⟩) (hw _ (List.mem_of_getElem? (i := 15) rfl)) (ty := (.array .byte)) (by decide) rfl rfl (g := (mkF m 54 #[.val (.ref x0), .val (.ref x1), .val (.int (0 : Int32)), .val (.int (2 : Int32)), .val .null, .val (.ref r8)] [(.ref r8), (.ref x0)])) rfl rfl (hb hby di42_54)
    have f48 := f42.same W47
    have f49 := f40.wr W47 g0
    have f50 := f41.wr W47
    have f51 := f43.other W47 (Ne.symm nx)
    have f52 := f44.other W47 (Ne.symm ne_x0_r8)
    have f53 := f39.other W47 (Or.inr (slot_ne (Or.inr (hw _ (List.mem_of_getElem? (i := 30) rfl))) (Or.inr (hw _ (List.mem_of_getElem? (i := 28) rfl))) (by decide) (t := .byte) (t' := (.array .byte)) (by decide) (by decide)))
    have Z47 := Nat.le_trans Z38 (Keep.of_wr W47).1
    have N47 := Fr.snoc X47 N38 g0
    have KK47 := KK38.wr W47 (Or.inl (List.mem_singleton.mpr rfl))
    have p54 : ∀ t, own_W p e below m T47 57 #[.val (.ref x0), .val (.ref x1), .val (.int (0 : Int32)), .val (.int (2 : Int32)), .val .null, .val (.ref r8)] [] t → Steps p.tables e below S0 t := fun t k => p46 t (st47 t k)
    subst hS0
    obtain ⟨fs, hr, hrun, hended, hW, hsame⟩ := X47.leave (v := none) (fun _ => rfl)
    refine ⟨_, _, p54 _ ?_, hrun, hended, _, _, rfl, ?_, ⟨_, rfl⟩, hW, hsame.mono (by decide) (by decide)⟩
    · show own_W p e below m T47 57 #[.val (.ref x0), .val (.ref x1), .val (.int (0 : Int32)), .val (.int (2 : Int32)), .val .null, .val (.ref r8)] [] _
      exact X47.returnOut hx Bd.returns (hb hby di42_57) hr
    · show Qi42 Z x0 x1 kc c0 c1 cs G h0 n0 _ T47.heap _
      rw [e47]
      exact ⟨rfl, N47, KK47, _, _, f48, Or.inr ⟨f53, f52⟩⟩
theorem di12_0 : decode jdk_42_method_3_code 0 = .ok (.aload_n 0, 1) := by decide +kernel
theorem di12_1 : decode jdk_42_method_3_code 1 = .ok (.aload_n 1, 1) := by decide +kernel
theorem di12_2 : decode jdk_42_method_3_code 2 = .ok (.iconst 0, 1) := by decide +kernel
theorem di12_3 : decode jdk_42_method_3_code 3 = .ok (.aload_n 1, 1) := by decide +kernel
theorem di12_4 : decode jdk_42_method_3_code 4 = .ok (.arraylength, 1) := by decide +kernel
theorem di12_5 : decode jdk_42_method_3_code 5 = .ok (.aconst_null, 1) := by decide +kernel
theorem di12_6 : decode jdk_42_method_3_code 6 = .ok (.invokespecial 27, 3) := by decide +kernel
theorem di12_9 : decode jdk_42_method_3_code 9 = .ok (.return_, 1) := by decide +kernel
theorem pni12 : plainName "java/lang/String" = true := by first | (simp [plainName, overriddenIn]; done) | decide +kernel
theorem pdi12_0 : parseMethodDescriptor "([CIILjava/lang/Void;)V" = some ⟨[(.array .char), .int, .int, (.object "java/lang/Void")], none⟩ := by decide +kernel
theorem efi12 (m : MethodId) (x0 : Addr) (x1 : Addr) : entryFrame m #[(.ref x0), (.ref x1)] 2 = mkF m 0 #[.val (.ref x0), .val (.ref x1)] [] := by first | (simp [entryFrame, mkF, argsToLocals, Value.category]; done) | rfl
def Qi12 (Z : State) (x0 : Addr) (x1 : Addr) (kc : ClassId) (c0 : Int32) (c1 : Int32) (cs : Int32) (G : Value) (h0 : Heap) (n0 : Nat) (v : Option Value) (h : Heap) (L : List Loc) : Prop := v = none ∧ Fr n0 L ∧ Keep h0 h [x0] ∧ ∃ (t : Addr) (kk : ClassId), Fld Z h x0 "java/lang/String" "value" "[B" (.ref t) ∧ ((Fld Z h x0 "java/lang/String" "coder" "B" (.int (0 : Int32)) ∧ Arv Z h t kk .byte (2 : Int32) [(.int (own_lo c0)), (.int (own_lo c1))] (.int (0 : Int32)) ∧ ¬ (255 : Int32) < c0 ∧ ¬ (255 : Int32) < c1) ∨ (Fld Z h x0 "java/lang/String" "coder" "B" (.int (1 : Int32)) ∧ Arv Z h t kk .byte (4 : Int32) [(.int (own_hb c0)), (.int (own_lb c0)), (.int (own_hb c1)), (.int (own_lb c1))] (.int (0 : Int32))))
set_option maxRecDepth 65536 in
set_option maxHeartbeats 40000000 in
theorem rmi12 (l : Launch) (Z : State) (a0 : Array Value) (hw : ∀ d ∈ tables_1, d.before a0 Z = true) (ws : List Jvm.Cond) (x0 : Addr) (x1 : Addr) (kc : ClassId) (c0 : Int32) (c1 : Int32) (cs : Int32) (G : Value) (h0 : Heap) (n0 : Nat) (Z0 : n0 ≤ h0.size) (E0 : Exa Z h0 x0 "java/lang/String") (F1 : Fld Z h0 x0 "java/lang/String" "coder" "B" (.int (0 : Int32))) (F2 : Fld Z h0 x0 "java/lang/String" "value" "[B" .null) (g0 : n0 ≤ x0) (V1 : Arv Z h0 x1 kc .char (2 : Int32) [(.int c0), (.int c1)] (.int (0 : Int32))) (nx : x0 ≠ x1) (ko0 : own_ok c0) (ko1 : own_ok c1) (O0 : Old Z n0 h0) (st : own_ST Z cs G) :
    MetFree l (⟨"java/lang/String", "<init>", "([C)V"⟩ : MethodName) (head1 (Jvm.Cond.code (⟨"java/lang/String", "<init>", "([C)V"⟩ : MethodName) jdk_42_method_3_code 2 none :: ws) ({ frames := 5, cells := 2, slots := 6, locals := 74 } : Room)) (fun a U => a = #[(.ref x0), (.ref x1)] ∧ Z.Warmed39 U.vm ∧ U.heap = h0) (fun _ _ _ _ _ => True) (fun _ U o U' => ∃ v L, o = .returned v ∧ Qi12 Z x0 x1 kc c0 c1 cs G h0 n0 v U'.heap L ∧ FrameEnd U o U' L ({ frames := 5, cells := 2, slots := 6, locals := 74 } : Room).cells ({ frames := 5, cells := 2, slots := 6, locals := 74 } : Room).slots) := by
  refine MetFree.of_bodySF (plainFor_of_name pni12) hisR ?_
  intro p e s m args below meth c s₁ Bd hml0 hP hK
  obtain ⟨rfl, hZ, hh⟩ := hP
  have hx := Bd.exec
  have hby := Bd.bytes
  have hml : c.maxLocals = 2 := hml0
  have hown : s.vm.findClass "java/lang/String" = some m.cls := findClass_of_methodNamed Bd.named
  have hnm := (name_of_methodNamed Bd.named Bd.method).1
  have X0 : Stand p l e ({ frames := 5, cells := 2, slots := 6, locals := 74 } : Room) s m #[(.ref x0), (.ref x1)] below meth c s₁ [] 0 0 := Stand.of_body Bd
  have e0 : s₁.heap = h0 := by rw [← hh, Bd.state]; rfl
  have N0 := Fr.nil n0
  have pre0 : ∀ t, Steps p.tables e below (s₁.setTop (mkF m 0 #[.val (.ref x0), .val (.ref x1)] [])) t → Steps p.tables e below (s₁.setTop (entryFrame m #[(.ref x0), (.ref x1)] 2)) t := fun t k => castTop (efi12 m x0 x1) k
  obtain ⟨S0, hS0⟩ : ∃ z, z = (s₁.setTop (entryFrame m #[(.ref x0), (.ref x1)] 2)) := ⟨_, rfl⟩
  rw [← hS0] at pre0
  obtain ⟨sc, hcs, sa, sh, sl, sg, hG⟩ := id st
  have K0 := Keep.refl h0 [x0]
  have p1 : ∀ t, own_W p e below m s₁ 4 #[.val (.ref x0), .val (.ref x1)] [(.ref x1), (.int (0 : Int32)), (.ref x1), (.ref x0)] t → Steps p.tables e below S0 t := fun t k => pre0 t (by
    show own_W p e below m s₁ 0 #[.val (.ref x0), .val (.ref x1)] [] _
    refine XS.aloadN X0.here hx rfl (hb hby di12_0) rfl rfl ?_
    show own_W p e below m s₁ 1 #[.val (.ref x0), .val (.ref x1)] [(.ref x0)] _
    refine XS.aloadN X0.here hx rfl (hb hby di12_1) rfl rfl ?_
    show own_W p e below m s₁ 2 #[.val (.ref x0), .val (.ref x1)] [(.ref x1), (.ref x0)] _
    refine XS.iconst X0.here hx rfl (hb hby di12_2) ?_
    show own_W p e below m s₁ 3 #[.val (.ref x0), .val (.ref x1)] [(.int (0 : Int32)), (.ref x1), (.ref x0)] _
    refine XS.aloadN X0.here hx rfl (hb hby di12_3) rfl rfl ?_
    exact k)
  obtain ⟨cl2, Ar2, -, Sz2, Ng2, -, -⟩ := id V1
  have p3 : ∀ t, own_W p e below m s₁ 6 #[.val (.ref x0), .val (.ref x1)] [.null, (.int (2 : Int32)), (.int (0 : Int32)), (.ref x1), (.ref x0)] t → Steps p.tables e below S0 t := fun t k => p1 t (by
    show own_W p e below m s₁ 4 #[.val (.ref x0), .val (.ref x1)] [(.ref x1), (.int (0 : Int32)), (.ref x1), (.ref x0)] _
    refine X0.arraylength hx (by rw [e0]; exact Ar2.1) (State.isArrayOf_alike hZ.alike Ar2.2.1) (g := (mkF m 4 #[.val (.ref x0), .val (.ref x1)] [(.ref x1), (.int (0 : Int32)), (.ref x1), (.ref x0)])) rfl rfl (hb hby di12_4) _ ?_
    rw [len_of Sz2 Ng2]
    show own_W p e below m s₁ 5 #[.val (.ref x0), .val (.ref x1)] [(.int (2 : Int32)), (.int (0 : Int32)), (.ref x1), (.ref x0)] _
    refine XS.aconstNull X0.here hx rfl (hb hby di12_5) ?_
    exact k)
  obtain ⟨_, _, ⟨T4, L4, k4, n4⟩, -, X4, ⟨Lc4, hQ4, l4, y4, z4⟩, st4⟩ := X0.specialBack hx (y := (⟨"java/lang/String", "<init>", "([CIILjava/lang/Void;)V"⟩ : MethodName)) rfl hown (mvT hZ (hw _ (List.mem_of_getElem? (i := 88) rfl))) (mvT hZ (hw _ (List.mem_of_getElem? (i := 89) rfl))) (mvT hZ (hw _ (List.mem_of_getElem? (i := 90) rfl))) (by decide) (backOf (W := 0) (rmi42 l Z a0 hw [] x0 x1 kc c0 c1 cs G h0 n0 Z0 E0 F1 F2 g0 V1 nx ko0 ko1 O0 st) hZ (hw _ (List.mem_of_getElem? (i := 90) rfl)) (hw _ (List.mem_of_getElem? (i := 7) rfl)) (by decide) (by decide)) (g := (mkF m 6 #[.val (.ref x0), .val (.ref x1)] [.null, (.int (2 : Int32)), (.int (0 : Int32)), (.ref x1), (.ref x0)])) rfl (by rw [hml]; rfl) (Steps.refl _) (a := x0) (argsL := [(.ref x1), (.int (0 : Int32)), (.int (2 : Int32)), .null]) (rest := []) (lenOf pdi12_0 rfl) rfl (by show 2 * 0 + _ ≤ _; exact Nat.le_of_eq rfl) (hb hby di12_6) (fun _ _ => ⟨rfl, e0, (by decide : 0 + 2 ≤ _), (by decide : 0 + 6 ≤ _)⟩)
  dsimp only [Pt.U, Pt.locs, Pt.cells, Pt.slots] at X4 l4 y4 z4 st4 hQ4
  subst l4 y4 z4
  obtain ⟨rfl, Nq4, K4, HQ4⟩ := hQ4
  have N4 := Fr.app N0 Nq4
  have f5 := O0.keep K4 (allS g0 (all0))
  have f6 := E0.keep K4
  have f7 := V1.keep K4 (ninS (Ne.symm nx) nin0)
  have Z4 := Nat.le_trans Z0 K4.1
  have KK4 := K0.trans K4 (allS (Or.inl (List.mem_singleton.mpr rfl)) all0)
  have p8 : ∀ t, own_W p e below m T4 9 #[.val (.ref x0), .val (.ref x1)] [] t → Steps p.tables e below S0 t := fun t k => p3 t (st4.trans k)
  subst hS0
  obtain ⟨fs, hr, hrun, hended, hW, hsame⟩ := X4.leave (v := none) (fun _ => rfl)
  refine ⟨_, _, p8 _ ?_, hrun, hended, _, _, rfl, ?_, ⟨_, rfl⟩, hW, hsame.mono (by decide) (by decide)⟩
  · show own_W p e below m T4 9 #[.val (.ref x0), .val (.ref x1)] [] _
    exact X4.returnOut hx Bd.returns (hb hby di12_9) hr
  · show Qi12 Z x0 x1 kc c0 c1 cs G h0 n0 _ T4.heap _
    skip
    exact ⟨rfl, N4, KK4, HQ4⟩
theorem di43_0 : decode jdk_42_method_149_code 0 = .ok (.aload_n 0, 1) := by decide +kernel
theorem di43_1 : decode jdk_42_method_149_code 1 = .ok (.invokespecial 1, 3) := by decide +kernel
theorem di43_4 : decode jdk_42_method_149_code 4 = .ok (.iload_n 3, 1) := by decide +kernel
theorem di43_5 : decode jdk_42_method_149_code 5 = .ok (.ifCond .ne 22, 3) := by decide +kernel
theorem di43_27 : decode jdk_42_method_149_code 27 = .ok (.getstatic 38, 3) := by decide +kernel
theorem di43_30 : decode jdk_42_method_149_code 30 = .ok (.ifCond .eq 28, 3) := by decide +kernel
theorem di43_33 : decode jdk_42_method_149_code 33 = .ok (.aload_n 1, 1) := by decide +kernel
theorem di43_34 : decode jdk_42_method_149_code 34 = .ok (.iload_n 2, 1) := by decide +kernel
theorem di43_35 : decode jdk_42_method_149_code 35 = .ok (.iload_n 3, 1) := by decide +kernel
theorem di43_36 : decode jdk_42_method_149_code 36 = .ok (.invokestatic 177, 3) := by decide +kernel
theorem di43_39 : decode jdk_42_method_149_code 39 = .ok (.astore 5, 2) := by decide +kernel
theorem di43_41 : decode jdk_42_method_149_code 41 = .ok (.aload_n 0, 1) := by decide +kernel
theorem di43_42 : decode jdk_42_method_149_code 42 = .ok (.aload 5, 2) := by decide +kernel
theorem di43_44 : decode jdk_42_method_149_code 44 = .ok (.iload_n 3, 1) := by decide +kernel
theorem di43_45 : decode jdk_42_method_149_code 45 = .ok (.invokestatic 47, 3) := by decide +kernel
theorem di43_48 : decode jdk_42_method_149_code 48 = .ok (.putfield 15, 3) := by decide +kernel
theorem di43_51 : decode jdk_42_method_149_code 51 = .ok (.aload_n 0, 1) := by decide +kernel
theorem di43_52 : decode jdk_42_method_149_code 52 = .ok (.aload 5, 2) := by decide +kernel
theorem di43_54 : decode jdk_42_method_149_code 54 = .ok (.putfield 9, 3) := by decide +kernel
theorem di43_57 : decode jdk_42_method_149_code 57 = .ok (.return_, 1) := by decide +kernel
theorem pni43 : plainName "java/lang/String" = true := by first | (simp [plainName, overriddenIn]; done) | decide +kernel
theorem pdi43_0 : parseMethodDescriptor "([CII)[B" = some ⟨[(.array .char), .int, .int], some (.array .byte)⟩ := by decide +kernel
theorem pdi43_1 : parseMethodDescriptor "([BI)B" = some ⟨[(.array .byte), .int], some .byte⟩ := by decide +kernel
theorem efi43 (m : MethodId) (x0 : Addr) (x1 : Addr) : entryFrame m #[(.ref x0), (.ref x1), (.int (0 : Int32)), (.int (3 : Int32)), .null] 6 = mkF m 0 #[.val (.ref x0), .val (.ref x1), .val (.int (0 : Int32)), .val (.int (3 : Int32)), .val .null, .unset] [] := by first | (simp [entryFrame, mkF, argsToLocals, Value.category]; done) | rfl
def Qi43 (Z : State) (x0 : Addr) (x1 : Addr) (kc : ClassId) (c0 : Int32) (c1 : Int32) (c2 : Int32) (cs : Int32) (G : Value) (h0 : Heap) (n0 : Nat) (v : Option Value) (h : Heap) (L : List Loc) : Prop := v = none ∧ Fr n0 L ∧ Keep h0 h [x0] ∧ ∃ (t : Addr) (kk : ClassId), Fld Z h x0 "java/lang/String" "value" "[B" (.ref t) ∧ ((Fld Z h x0 "java/lang/String" "coder" "B" (.int (0 : Int32)) ∧ Arv Z h t kk .byte (3 : Int32) [(.int (own_lo c0)), (.int (own_lo c1)), (.int (own_lo c2))] (.int (0 : Int32)) ∧ ¬ (255 : Int32) < c0 ∧ ¬ (255 : Int32) < c1 ∧ ¬ (255 : Int32) < c2) ∨ (Fld Z h x0 "java/lang/String" "coder" "B" (.int (1 : Int32)) ∧ Arv Z h t kk .byte (6 : Int32) [(.int (own_hb c0)), (.int (own_lb c0)), (.int (own_hb c1)), (.int (own_lb c1)), (.int (own_hb c2)), (.int (own_lb c2))] (.int (0 : Int32))))
set_option maxRecDepth 65536 in
set_option maxHeartbeats 40000000 in
theorem rmi43 (l : Launch) (Z : State) (a0 : Array Value) (hw : ∀ d ∈ tables_1, d.before a0 Z = true) (ws : List Jvm.Cond) (x0 : Addr) (x1 : Addr) (kc : ClassId) (c0 : Int32) (c1 : Int32) (c2 : Int32) (cs : Int32) (G : Value) (h0 : Heap) (n0 : Nat) (Z0 : n0 ≤ h0.size) (E0 : Exa Z h0 x0 "java/lang/String") (F1 : Fld Z h0 x0 "java/lang/String" "coder" "B" (.int (0 : Int32))) (F2 : Fld Z h0 x0 "java/lang/String" "value" "[B" .null) (g0 : n0 ≤ x0) (V1 : Arv Z h0 x1 kc .char (3 : Int32) [(.int c0), (.int c1), (.int c2)] (.int (0 : Int32))) (nx : x0 ≠ x1) (ko0 : own_ok c0) (ko1 : own_ok c1) (ko2 : own_ok c2) (O0 : Old Z n0 h0) (st : own_ST Z cs G) :
    MetFree l (⟨"java/lang/String", "<init>", "([CIILjava/lang/Void;)V"⟩ : MethodName) (head1 (Jvm.Cond.code (⟨"java/lang/String", "<init>", "([CIILjava/lang/Void;)V"⟩ : MethodName) jdk_42_method_149_code 6 none :: ws) ({ frames := 4, cells := 2, slots := 9, locals := 57 } : Room)) (fun a U => a = #[(.ref x0), (.ref x1), (.int (0 : Int32)), (.int (3 : Int32)), .null] ∧ Z.Warmed39 U.vm ∧ U.heap = h0) (fun _ _ _ _ _ => True) (fun _ U o U' => ∃ v L, o = .returned v ∧ Qi43 Z x0 x1 kc c0 c1 c2 cs G h0 n0 v U'.heap L ∧ FrameEnd U o U' L ({ frames := 4, cells := 2, slots := 9, locals := 57 } : Room).cells ({ frames := 4, cells := 2, slots := 9, locals := 57 } : Room).slots) := by
  refine MetFree.of_bodySF (plainFor_of_name pni43) hisR ?_
  intro p e s m args below meth c s₁ Bd hml0 hP hK
  obtain ⟨rfl, hZ, hh⟩ := hP
  have hx := Bd.exec
  have hby := Bd.bytes
  have hml : c.maxLocals = 6 := hml0
  have hown : s.vm.findClass "java/lang/String" = some m.cls := findClass_of_methodNamed Bd.named
  have hnm := (name_of_methodNamed Bd.named Bd.method).1
  have X0 : Stand p l e ({ frames := 4, cells := 2, slots := 9, locals := 57 } : Room) s m #[(.ref x0), (.ref x1), (.int (0 : Int32)), (.int (3 : Int32)), .null] below meth c s₁ [] 0 0 := Stand.of_body Bd
  have e0 : s₁.heap = h0 := by rw [← hh, Bd.state]; rfl
  have N0 := Fr.nil n0
  have pre0 : ∀ t, Steps p.tables e below (s₁.setTop (mkF m 0 #[.val (.ref x0), .val (.ref x1), .val (.int (0 : Int32)), .val (.int (3 : Int32)), .val .null, .unset] [])) t → Steps p.tables e below (s₁.setTop (entryFrame m #[(.ref x0), (.ref x1), (.int (0 : Int32)), (.int (3 : Int32)), .null] 6)) t := fun t k => castTop (efi43 m x0 x1) k
  obtain ⟨S0, hS0⟩ : ∃ z, z = (s₁.setTop (entryFrame m #[(.ref x0), (.ref x1), (.int (0 : Int32)), (.int (3 : Int32)), .null] 6)) := ⟨_, rfl⟩
  rw [← hS0] at pre0
  obtain ⟨sc, hcs, sa, sh, sl, sg, hG⟩ := id st
  have K0 := Keep.refl h0 [x0]
  have p1 : ∀ t, own_W p e below m s₁ 1 #[.val (.ref x0), .val (.ref x1), .val (.int (0 : Int32)), .val (.int (3 : Int32)), .val .null, .unset] [(.ref x0)] t → Steps p.tables e below S0 t := fun t k => pre0 t (by
    show own_W p e below m s₁ 0 #[.val (.ref x0), .val (.ref x1), .val (.int (0 : Int32)), .val (.int (3 : Int32)), .val .null, .unset] [] _
    refine XS.aloadN X0.here hx rfl (hb hby di43_0) rfl rfl ?_
    exact k)
  obtain ⟨T2, X2, e2, st2⟩ := initO X0 hx hZ hown (hw _ (List.mem_of_getElem? (i := 24) rfl)) (hw _ (List.mem_of_getElem? (i := 25) rfl)) (hw _ (List.mem_of_getElem? (i := 26) rfl)) e0 (g := (mkF m 1 #[.val (.ref x0), .val (.ref x1), .val (.int (0 : Int32)), .val (.int (3 : Int32)), .val .null, .unset] [(.ref x0)])) rfl (by rw [hml]; rfl) rfl (hb hby di43_1) (by decide) (W := 0) (by show 2 * 0 + _ ≤ _; exact Nat.le_of_eq rfl) (by decide)
  have p3 : ∀ t, own_W p e below m T2 4 #[.val (.ref x0), .val (.ref x1), .val (.int (0 : Int32)), .val (.int (3 : Int32)), .val .null, .unset] [] t → Steps p.tables e below S0 t := fun t k => p1 t (st2 t k)
  have p4 : ∀ t, own_W p e below m T2 27 #[.val (.ref x0), .val (.ref x1), .val (.int (0 : Int32)), .val (.int (3 : Int32)), .val .null, .unset] [] t → Steps p.tables e below S0 t := fun t k => p3 t (by
    show own_W p e below m T2 4 #[.val (.ref x0), .val (.ref x1), .val (.int (0 : Int32)), .val (.int (3 : Int32)), .val .null, .unset] [] _
    refine XS.iloadN X2.here hx rfl (hb hby di43_4) rfl ?_
    show own_W p e below m T2 5 #[.val (.ref x0), .val (.ref x1), .val (.int (0 : Int32)), .val (.int (3 : Int32)), .val .null, .unset] [(.int (3 : Int32))] _
    refine XS.ifYes X2.here hx rfl (pc0 := 5) (pc' := 27) rfl (hb hby di43_5) rfl ((if0 _ _).trans (feq (by decide)).2) (by decide) (by decide) ?_
    exact k)
  have Sz5 := sc.ext O0.2
  obtain ⟨T5, X5, e5, st5⟩ := getS2 X2 hx hZ hown (host := "") (Or.inl (hw _ (List.mem_of_getElem? (i := 9) rfl))) Via.refl e2 Sz5 (g := (mkF m 27 #[.val (.ref x0), .val (.ref x1), .val (.int (0 : Int32)), .val (.int (3 : Int32)), .val .null, .unset] [])) rfl (hb hby di43_27)
  have p6 : ∀ t, own_W p e below m T5 30 #[.val (.ref x0), .val (.ref x1), .val (.int (0 : Int32)), .val (.int (3 : Int32)), .val .null, .unset] [(.int cs)] t → Steps p.tables e below S0 t := fun t k => p4 t (st5 t k)
  have p7 : ∀ t, own_W p e below m T5 36 #[.val (.ref x0), .val (.ref x1), .val (.int (0 : Int32)), .val (.int (3 : Int32)), .val .null, .unset] [(.int (3 : Int32)), (.int (0 : Int32)), (.ref x1)] t → Steps p.tables e below S0 t := fun t k => p6 t (by
    show own_W p e below m T5 30 #[.val (.ref x0), .val (.ref x1), .val (.int (0 : Int32)), .val (.int (3 : Int32)), .val .null, .unset] [(.int cs)] _
    refine XS.ifNo X5.here hx rfl (hb hby di43_30) rfl ((if0 _ _).trans (feq (hcs)).1) ?_
    show own_W p e below m T5 33 #[.val (.ref x0), .val (.ref x1), .val (.int (0 : Int32)), .val (.int (3 : Int32)), .val .null, .unset] [] _
    refine XS.aloadN X5.here hx rfl (hb hby di43_33) rfl rfl ?_
    show own_W p e below m T5 34 #[.val (.ref x0), .val (.ref x1), .val (.int (0 : Int32)), .val (.int (3 : Int32)), .val .null, .unset] [(.ref x1)] _
    refine XS.iloadN X5.here hx rfl (hb hby di43_34) rfl ?_
    show own_W p e below m T5 35 #[.val (.ref x0), .val (.ref x1), .val (.int (0 : Int32)), .val (.int (3 : Int32)), .val .null, .unset] [(.int (0 : Int32)), (.ref x1)] _
    refine XS.iloadN X5.here hx rfl (hb hby di43_35) rfl ?_
    exact k)
  obtain ⟨_, _, ⟨T8, L8, k8, n8⟩, -, X8, ⟨Lc8, hQ8, l8, y8, z8⟩, st8⟩ := Jvm.LawKit.callS X5 hx (y := (⟨"java/lang/StringUTF16", "compress", "([CII)[B"⟩ : MethodName)) hown (mvT hZ (hw _ (List.mem_of_getElem? (i := 91) rfl))) (mvT hZ (hw _ (List.mem_of_getElem? (i := 92) rfl))) (mvT hZ (hw _ (List.mem_of_getElem? (i := 93) rfl))) (mvT hZ (hw _ (List.mem_of_getElem? (i := 94) rfl))) (by decide) (backOf (W := 0) (rmc33 l Z a0 hw [] x1 kc c0 c1 c2 cs G h0 n0 Z0 V1 ko0 ko1 ko2 O0 st) hZ (hw _ (List.mem_of_getElem? (i := 94) rfl)) (hw _ (List.mem_of_getElem? (i := 93) rfl)) (by decide) (by decide)) (g := (mkF m 36 #[.val (.ref x0), .val (.ref x1), .val (.int (0 : Int32)), .val (.int (3 : Int32)), .val .null, .unset] [(.int (3 : Int32)), (.int (0 : Int32)), (.ref x1)])) rfl (by rw [hml]; rfl) (argsL := [(.ref x1), (.int (0 : Int32)), (.int (3 : Int32))]) (rest := []) (lenOf pdi43_0 rfl) rfl (by show 2 * 0 + _ ≤ _; exact Nat.le_of_eq rfl) (hb hby di43_36) (fun _ _ => ⟨rfl, e5, (by decide : 0 + 2 ≤ _), (by decide : 0 + 9 ≤ _)⟩)
  dsimp only [Pt.U, Pt.locs, Pt.cells, Pt.slots] at X8 l8 y8 z8 st8 hQ8
  subst l8 y8 z8
  obtain ⟨-, r8, kk8, rfl, Nq8, K8, gr8, HC8⟩ := hQ8
  have N8 := Fr.app N0 Nq8
  have f9 := O0.keep K8 (all0)
  have f10 := E0.keep K8
  have f11 := F1.keep K8 nin0
  have f12 := F2.keep K8 nin0
  have f13 := V1.keep K8 nin0
  have Z8 := Nat.le_trans Z0 K8.1
  have KK8 := K0.trans K8 (all0)
  have p14 : ∀ t, own_W p e below m T8 39 #[.val (.ref x0), .val (.ref x1), .val (.int (0 : Int32)), .val (.int (3 : Int32)), .val .null, .unset] [(.ref r8)] t → Steps p.tables e below S0 t := fun t k => p7 t (st8 _ k)
  have Zb8 := Z0
  have Kb8 := K0
  have gn_r8 : n0 ≤ r8 := Nat.le_trans Zb8 gr8
  have gk_r8 : h0.size ≤ r8 := Nat.le_trans Kb8.1 gr8
  have ne_x0_r8 : x0 ≠ r8 := Nat.ne_of_lt (Nat.lt_of_lt_of_le F2.lt gr8)
  have ne_x1_r8 : x1 ≠ r8 := Nat.ne_of_lt (Nat.lt_of_lt_of_le V1.lt gr8)
  rcases HC8 with ⟨VR8, el⟩ | VR8
  · have u_ := Z0
    have p15 : ∀ t, own_W p e below m T8 45 #[.val (.ref x0), .val (.ref x1), .val (.int (0 : Int32)), .val (.int (3 : Int32)), .val .null, .val (.ref r8)] [(.int (3 : Int32)), (.ref r8), (.ref x0)] t → Steps p.tables e below S0 t := fun t k => p14 t (by
      show own_W p e below m T8 39 #[.val (.ref x0), .val (.ref x1), .val (.int (0 : Int32)), .val (.int (3 : Int32)), .val .null, .unset] [(.ref r8)] _
      refine XS.astore X8.here hx rfl (hb hby di43_39) rfl rfl (l' := #[.val (.ref x0), .val (.ref x1), .val (.int (0 : Int32)), .val (.int (3 : Int32)), .val .null, .val (.ref r8)]) rfl ?_
      show own_W p e below m T8 41 #[.val (.ref x0), .val (.ref x1), .val (.int (0 : Int32)), .val (.int (3 : Int32)), .val .null, .val (.ref r8)] [] _
      refine XS.aloadN X8.here hx rfl (hb hby di43_41) rfl rfl ?_
      show own_W p e below m T8 42 #[.val (.ref x0), .val (.ref x1), .val (.int (0 : Int32)), .val (.int (3 : Int32)), .val .null, .val (.ref r8)] [(.ref x0)] _
      refine XS.aload X8.here hx rfl (hb hby di43_42) rfl rfl ?_
      show own_W p e below m T8 44 #[.val (.ref x0), .val (.ref x1), .val (.int (0 : Int32)), .val (.int (3 : Int32)), .val .null, .val (.ref r8)] [(.ref r8), (.ref x0)] _
      refine XS.iloadN X8.here hx rfl (hb hby di43_44) rfl ?_
      exact k)
    obtain ⟨_, _, ⟨T16, L16, k16, n16⟩, -, X16, ⟨Lc16, hQ16, l16, y16, z16⟩, st16⟩ := Jvm.LawKit.callS X8 hx (y := (⟨"java/lang/StringUTF16", "coderFromArrayLen", "([BI)B"⟩ : MethodName)) hown (mvT hZ (hw _ (List.mem_of_getElem? (i := 98) rfl))) (mvT hZ (hw _ (List.mem_of_getElem? (i := 99) rfl))) (mvT hZ (hw _ (List.mem_of_getElem? (i := 93) rfl))) (mvT hZ (hw _ (List.mem_of_getElem? (i := 100) rfl))) (by decide) (backOf (W := 1) (rmcf l Z a0 hw [] r8 (3 : Int32) kk8 (3 : Int32) [(.int (own_lo c0)), (.int (own_lo c1)), (.int (own_lo c2))] (0 : Int32) T8.heap n0 Z8 VR8 (by decide)) hZ (hw _ (List.mem_of_getElem? (i := 100) rfl)) (hw _ (List.mem_of_getElem? (i := 93) rfl)) (by decide) (by decide)) (g := (mkF m 45 #[.val (.ref x0), .val (.ref x1), .val (.int (0 : Int32)), .val (.int (3 : Int32)), .val .null, .val (.ref r8)] [(.int (3 : Int32)), (.ref r8), (.ref x0)])) rfl (by rw [hml]; rfl) (argsL := [(.ref r8), (.int (3 : Int32))]) (rest := [(.ref x0)]) (lenOf pdi43_1 rfl) rfl (by show 2 * 0 + _ ≤ _; exact Nat.le_of_eq rfl) (hb hby di43_45) (fun _ _ => ⟨rfl, rfl, (by decide : 2 + 0 ≤ _), (by decide : 9 + 0 ≤ _)⟩)
    dsimp only [Pt.U, Pt.locs, Pt.cells, Pt.slots] at X16 l16 y16 z16 st16 hQ16
    subst l16 y16 z16
    obtain ⟨rfl, Nq16, e16⟩ := hQ16
    have N16 := Fr.app N8 Nq16
    have p17 : ∀ t, own_W p e below m T16 48 #[.val (.ref x0), .val (.ref x1), .val (.int (0 : Int32)), .val (.int (3 : Int32)), .val .null, .val (.ref r8)] [(.int (0 : Int32)), (.ref x0)] t → Steps p.tables e below S0 t := fun t k => p15 t (st16 _ k)
    obtain ⟨T18, h18, X18, e18, W18, st18⟩ := putF X16 hx hZ hown (host := "") (Or.inl (hw _ (List.mem_of_getElem? (i := 29) rfl))) Via.refl e16 f11 f10 (Or.inr ⟨(hw _ (List.mem_of_getElem? (i := 30) rfl)), rfl, hnm⟩) (hw _ (List.mem_of_getElem? (i := 15) rfl)) (ty := .byte) (by decide) rfl rfl (g := (mkF m 48 #[.val (.ref x0), .val (.ref x1), .val (.int (0 : Int32)), .val (.int (3 : Int32)), .val .null, .val (.ref r8)] [(.int (0 : Int32)), (.ref x0)])) rfl rfl (hb hby di43_48)
    have f19 := f11.same W18
    have f20 := f9.wr W18 g0
    have f21 := f10.wr W18
    have f22 := f12.other W18 (Or.inr (slot_ne (Or.inr (hw _ (List.mem_of_getElem? (i := 28) rfl))) (Or.inr (hw _ (List.mem_of_getElem? (i := 30) rfl))) (by decide) (t := (.array .byte)) (t' := .byte) (by decide) (by decide)))
    have f23 := f13.other W18 (Ne.symm nx)
    have f24 := VR8.other W18 (Ne.symm ne_x0_r8)
    have Z18 := Nat.le_trans Z8 (Keep.of_wr W18).1
    have N18 := Fr.snoc X18 N16 g0
    have KK18 := KK8.wr W18 (Or.inl (List.mem_singleton.mpr rfl))
    have p25 : ∀ t, own_W p e below m T18 51 #[.val (.ref x0), .val (.ref x1), .val (.int (0 : Int32)), .val (.int (3 : Int32)), .val .null, .val (.ref r8)] [] t → Steps p.tables e below S0 t := fun t k => p17 t (st18 t k)
    have p26 : ∀ t, own_W p e below m T18 54 #[.val (.ref x0), .val (.ref x1), .val (.int (0 : Int32)), .val (.int (3 : Int32)), .val .null, .val (.ref r8)] [(.ref r8), (.ref x0)] t → Steps p.tables e below S0 t := fun t k => p25 t (by
      show own_W p e below m T18 51 #[.val (.ref x0), .val (.ref x1), .val (.int (0 : Int32)), .val (.int (3 : Int32)), .val .null, .val (.ref r8)] [] _
      refine XS.aloadN X18.here hx rfl (hb hby di43_51) rfl rfl ?_
      show own_W p e below m T18 52 #[.val (.ref x0), .val (.ref x1), .val (.int (0 : Int32)), .val (.int (3 : Int32)), .val .null, .val (.ref r8)] [(.ref x0)] _
      refine XS.aload X18.here hx rfl (hb hby di43_52) rfl rfl ?_
      exact k)
    obtain ⟨T27, h27, X27, e27, W27, st27⟩ := putF X18 hx hZ hown (host := "") (Or.inl (hw _ (List.mem_of_getElem? (i := 27) rfl))) Via.refl e18 f22 f21 (Or.inr ⟨(hw _ (List.mem_of_getElem? (i := 28) rfl)), rfl, hnm⟩) (hw _ (List.mem_of_getElem? (i := 15) rfl)) (ty := (.array .byte)) (by decide) rfl rfl (g := (mkF m 54 #[.val (.ref x0), .val (.ref x1), .val (.int (0 : Int32)), .val (.int (3 : Int32)), .val .null, .val (.ref r8)] [(.ref r8), (.ref x0)])) rfl rfl (hb hby di43_54)
    have f28 := f22.same W27
    have f29 := f20.wr W27 g0
    have f30 := f21.wr W27
    have f31 := f23.other W27 (Ne.symm nx)
    have f32 := f24.other W27 (Ne.symm ne_x0_r8)
    have f33 := f19.other W27 (Or.inr (slot_ne (Or.inr (hw _ (List.mem_of_getElem? (i := 30) rfl))) (Or.inr (hw _ (List.mem_of_getElem? (i := 28) rfl))) (by decide) (t := .byte) (t' := (.array .byte)) (by decide) (by decide)))
    have Z27 := Nat.le_trans Z18 (Keep.of_wr W27).1
    have N27 := Fr.snoc X27 N18 g0
    have KK27 := KK18.wr W27 (Or.inl (List.mem_singleton.mpr rfl))
    have p34 : ∀ t, own_W p e below m T27 57 #[.val (.ref x0), .val (.ref x1), .val (.int (0 : Int32)), .val (.int (3 : Int32)), .val .null, .val (.ref r8)] [] t → Steps p.tables e below S0 t := fun t k => p26 t (st27 t k)
    subst hS0
    obtain ⟨fs, hr, hrun, hended, hW, hsame⟩ := X27.leave (v := none) (fun _ => rfl)
    refine ⟨_, _, p34 _ ?_, hrun, hended, _, _, rfl, ?_, ⟨_, rfl⟩, hW, hsame.mono (by decide) (by decide)⟩
    · show own_W p e below m T27 57 #[.val (.ref x0), .val (.ref x1), .val (.int (0 : Int32)), .val (.int (3 : Int32)), .val .null, .val (.ref r8)] [] _
      exact X27.returnOut hx Bd.returns (hb hby di43_57) hr
    · show Qi43 Z x0 x1 kc c0 c1 c2 cs G h0 n0 _ T27.heap _
      rw [e27]
      exact ⟨rfl, N27, KK27, _, _, f28, Or.inl ⟨f33, f32, el⟩⟩
  · have u_ := Z0
    have p35 : ∀ t, own_W p e below m T8 45 #[.val (.ref x0), .val (.ref x1), .val (.int (0 : Int32)), .val (.int (3 : Int32)), .val .null, .val (.ref r8)] [(.int (3 : Int32)), (.ref r8), (.ref x0)] t → Steps p.tables e below S0 t := fun t k => p14 t (by
      show own_W p e below m T8 39 #[.val (.ref x0), .val (.ref x1), .val (.int (0 : Int32)), .val (.int (3 : Int32)), .val .null, .unset] [(.ref r8)] _
      refine XS.astore X8.here hx rfl (hb hby di43_39) rfl rfl (l' := #[.val (.ref x0), .val (.ref x1), .val (.int (0 : Int32)), .val (.int (3 : Int32)), .val .null, .val (.ref r8)]) rfl ?_
      show own_W p e below m T8 41 #[.val (.ref x0), .val (.ref x1), .val (.int (0 : Int32)), .val (.int (3 : Int32)), .val .null, .val (.ref r8)] [] _
      refine XS.aloadN X8.here hx rfl (hb hby di43_41) rfl rfl ?_
      show own_W p e below m T8 42 #[.val (.ref x0), .val (.ref x1), .val (.int (0 : Int32)), .val (.int (3 : Int32)), .val .null, .val (.ref r8)] [(.ref x0)] _
      refine XS.aload X8.here hx rfl (hb hby di43_42) rfl rfl ?_
      show own_W p e below m T8 44 #[.val (.ref x0), .val (.ref x1), .val (.int (0 : Int32)), .val (.int (3 : Int32)), .val .null, .val (.ref r8)] [(.ref r8), (.ref x0)] _
      refine XS.iloadN X8.here hx rfl (hb hby di43_44) rfl ?_
      exact k)
    obtain ⟨_, _, ⟨T36, L36, k36, n36⟩, -, X36, ⟨Lc36, hQ36, l36, y36, z36⟩, st36⟩ := Jvm.LawKit.callS X8 hx (y := (⟨"java/lang/StringUTF16", "coderFromArrayLen", "([BI)B"⟩ : MethodName)) hown (mvT hZ (hw _ (List.mem_of_getElem? (i := 98) rfl))) (mvT hZ (hw _ (List.mem_of_getElem? (i := 99) rfl))) (mvT hZ (hw _ (List.mem_of_getElem? (i := 93) rfl))) (mvT hZ (hw _ (List.mem_of_getElem? (i := 100) rfl))) (by decide) (backOf (W := 1) (rmcf l Z a0 hw [] r8 (3 : Int32) kk8 (6 : Int32) [(.int (own_hb c0)), (.int (own_lb c0)), (.int (own_hb c1)), (.int (own_lb c1)), (.int (own_hb c2)), (.int (own_lb c2))] (1 : Int32) T8.heap n0 Z8 VR8 (by decide)) hZ (hw _ (List.mem_of_getElem? (i := 100) rfl)) (hw _ (List.mem_of_getElem? (i := 93) rfl)) (by decide) (by decide)) (g := (mkF m 45 #[.val (.ref x0), .val (.ref x1), .val (.int (0 : Int32)), .val (.int (3 : Int32)), .val .null, .val (.ref r8)] [(.int (3 : Int32)), (.ref r8), (.ref x0)])) rfl (by rw [hml]; rfl) (argsL := [(.ref r8), (.int (3 : Int32))]) (rest := [(.ref x0)]) (lenOf pdi43_1 rfl) rfl (by show 2 * 0 + _ ≤ _; exact Nat.le_of_eq rfl) (hb hby di43_45) (fun _ _ => ⟨rfl, rfl, (by decide : 2 + 0 ≤ _), (by decide : 9 + 0 ≤ _)⟩)
    dsimp only [Pt.U, Pt.locs, Pt.cells, Pt.slots] at X36 l36 y36 z36 st36 hQ36
    subst l36 y36 z36
    obtain ⟨rfl, Nq36, e36⟩ := hQ36
    have N36 := Fr.app N8 Nq36
    have p37 : ∀ t, own_W p e below m T36 48 #[.val (.ref x0), .val (.ref x1), .val (.int (0 : Int32)), .val (.int (3 : Int32)), .val .null, .val (.ref r8)] [(.int (1 : Int32)), (.ref x0)] t → Steps p.tables e below S0 t := fun t k => p35 t (st36 _ k)
    obtain ⟨T38, h38, X38, e38, W38, st38⟩ := putF X36 hx hZ hown (host := "") (Or.inl (hw _ (List.mem_of_getElem? (i := 29) rfl))) Via.refl e36 f11 f10 (Or.inr ⟨(hw _ (List.mem_of_getElem? (i := 30) rfl)), rfl, hnm⟩) (hw _ (List.mem_of_getElem? (i := 15) rfl)) (ty := .byte) (by decide) rfl rfl (g := (mkF m 48 #[.val (.ref x0), .val (.ref x1), .val (.int (0 : Int32)), .val (.int (3 : Int32)), .val .null, .val (.ref r8)] [(.int (1 : Int32)), (.ref x0)])) rfl rfl (hb hby di43_48)
    have f39 := f11.same W38
    have f40 := f9.wr W38 g0
    have f41 := f10.wr W38
    have f42 := f12.other W38 (Or.inr (slot_ne (Or.inr (hw _ (List.mem_of_getElem? (i := 28) rfl))) (Or.inr (hw _ (List.mem_of_getElem? (i := 30) rfl))) (by decide) (t := (.array .byte)) (t' := .byte) (by decide) (by decide)))
    have f43 := f13.other W38 (Ne.symm nx)
    have f44 := VR8.other W38 (Ne.symm ne_x0_r8)
    have Z38 := Nat.le_trans Z8 (Keep.of_wr W38).1
    have N38 := Fr.snoc X38 N36 g0
    have KK38 := KK8.wr W38 (Or.inl (List.mem_singleton.mpr rfl))
    have p45 : ∀ t, own_W p e below m T38 51 #[.val (.ref x0), .val (.ref x1), .val (.int (0 : Int32)), .val (.int (3 : Int32)), .val .null, .val (.ref r8)] [] t → Steps p.tables e below S0 t := fun t k => p37 t (st38 t k)
    have p46 : ∀ t, own_W p e below m T38 54 #[.val (.ref x0), .val (.ref x1), .val (.int (0 : Int32)), .val (.int (3 : Int32)), .val .null, .val (.ref r8)] [(.ref r8), (.ref x0)] t → Steps p.tables e below S0 t := fun t k => p45 t (by
      show own_W p e below m T38 51 #[.val (.ref x0), .val (.ref x1), .val (.int (0 : Int32)), .val (.int (3 : Int32)), .val .null, .val (.ref r8)] [] _
      refine XS.aloadN X38.here hx rfl (hb hby di43_51) rfl rfl ?_
      show own_W p e below m T38 52 #[.val (.ref x0), .val (.ref x1), .val (.int (0 : Int32)), .val (.int (3 : Int32)), .val .null, .val (.ref r8)] [(.ref x0)] _
      refine XS.aload X38.here hx rfl (hb hby di43_52) rfl rfl ?_
      exact k)
    obtain ⟨T47, h47, X47, e47, W47, st47⟩ := putF X38 hx hZ hown (host := "") (Or.inl (hw _ (List.mem_of_getElem? (i := 27) rfl))) Via.refl e38 f42 f41 (Or.inr ⟨(hw _ (List.mem_of_getElem? (i := 28) rfl)), rfl, hnm⟩) (hw _ (List.mem_of_getElem? (i := 15) rfl)) (ty := (.array .byte)) (by decide) rfl rfl (g := (mkF m 54 #[.val (.ref x0), .val (.ref x1), .val (.int (0 : Int32)), .val (.int (3 : Int32)), .val .null, .val (.ref r8)] [(.ref r8), (.ref x0)])) rfl rfl (hb hby di43_54)
    have f48 := f42.same W47
    have f49 := f40.wr W47 g0
    have f50 := f41.wr W47
    have f51 := f43.other W47 (Ne.symm nx)
    have f52 := f44.other W47 (Ne.symm ne_x0_r8)
    have f53 := f39.other W47 (Or.inr (slot_ne (Or.inr (hw _ (List.mem_of_getElem? (i := 30) rfl))) (Or.inr (hw _ (List.mem_of_getElem? (i := 28) rfl))) (by decide) (t := .byte) (t' := (.array .byte)) (by decide) (by decide)))
    have Z47 := Nat.le_trans Z38 (Keep.of_wr W47).1
    have N47 := Fr.snoc X47 N38 g0
    have KK47 := KK38.wr W47 (Or.inl (List.mem_singleton.mpr rfl))
    have p54 : ∀ t, own_W p e below m T47 57 #[.val (.ref x0), .val (.ref x1), .val (.int (0 : Int32)), .val (.int (3 : Int32)), .val .null, .val (.ref r8)] [] t → Steps p.tables e below S0 t := fun t k => p46 t (st47 t k)
    subst hS0
    obtain ⟨fs, hr, hrun, hended, hW, hsame⟩ := X47.leave (v := none) (fun _ => rfl)
    refine ⟨_, _, p54 _ ?_, hrun, hended, _, _, rfl, ?_, ⟨_, rfl⟩, hW, hsame.mono (by decide) (by decide)⟩
    · show own_W p e below m T47 57 #[.val (.ref x0), .val (.ref x1), .val (.int (0 : Int32)), .val (.int (3 : Int32)), .val .null, .val (.ref r8)] [] _
      exact X47.returnOut hx Bd.returns (hb hby di43_57) hr
    · show Qi43 Z x0 x1 kc c0 c1 c2 cs G h0 n0 _ T47.heap _
      rw [e47]
      exact ⟨rfl, N47, KK47, _, _, f48, Or.inr ⟨f53, f52⟩⟩
theorem di13_0 : decode jdk_42_method_3_code 0 = .ok (.aload_n 0, 1) := by decide +kernel
theorem di13_1 : decode jdk_42_method_3_code 1 = .ok (.aload_n 1, 1) := by decide +kernel
theorem di13_2 : decode jdk_42_method_3_code 2 = .ok (.iconst 0, 1) := by decide +kernel
theorem di13_3 : decode jdk_42_method_3_code 3 = .ok (.aload_n 1, 1) := by decide +kernel
theorem di13_4 : decode jdk_42_method_3_code 4 = .ok (.arraylength, 1) := by decide +kernel
theorem di13_5 : decode jdk_42_method_3_code 5 = .ok (.aconst_null, 1) := by decide +kernel
theorem di13_6 : decode jdk_42_method_3_code 6 = .ok (.invokespecial 27, 3) := by decide +kernel
theorem di13_9 : decode jdk_42_method_3_code 9 = .ok (.return_, 1) := by decide +kernel
theorem pni13 : plainName "java/lang/String" = true := by first | (simp [plainName, overriddenIn]; done) | decide +kernel
theorem pdi13_0 : parseMethodDescriptor "([CIILjava/lang/Void;)V" = some ⟨[(.array .char), .int, .int, (.object "java/lang/Void")], none⟩ := by decide +kernel
theorem efi13 (m : MethodId) (x0 : Addr) (x1 : Addr) : entryFrame m #[(.ref x0), (.ref x1)] 2 = mkF m 0 #[.val (.ref x0), .val (.ref x1)] [] := by first | (simp [entryFrame, mkF, argsToLocals, Value.category]; done) | rfl
def Qi13 (Z : State) (x0 : Addr) (x1 : Addr) (kc : ClassId) (c0 : Int32) (c1 : Int32) (c2 : Int32) (cs : Int32) (G : Value) (h0 : Heap) (n0 : Nat) (v : Option Value) (h : Heap) (L : List Loc) : Prop := v = none ∧ Fr n0 L ∧ Keep h0 h [x0] ∧ ∃ (t : Addr) (kk : ClassId), Fld Z h x0 "java/lang/String" "value" "[B" (.ref t) ∧ ((Fld Z h x0 "java/lang/String" "coder" "B" (.int (0 : Int32)) ∧ Arv Z h t kk .byte (3 : Int32) [(.int (own_lo c0)), (.int (own_lo c1)), (.int (own_lo c2))] (.int (0 : Int32)) ∧ ¬ (255 : Int32) < c0 ∧ ¬ (255 : Int32) < c1 ∧ ¬ (255 : Int32) < c2) ∨ (Fld Z h x0 "java/lang/String" "coder" "B" (.int (1 : Int32)) ∧ Arv Z h t kk .byte (6 : Int32) [(.int (own_hb c0)), (.int (own_lb c0)), (.int (own_hb c1)), (.int (own_lb c1)), (.int (own_hb c2)), (.int (own_lb c2))] (.int (0 : Int32))))
set_option maxRecDepth 65536 in
set_option maxHeartbeats 40000000 in
theorem rmi13 (l : Launch) (Z : State) (a0 : Array Value) (hw : ∀ d ∈ tables_1, d.before a0 Z = true) (ws : List Jvm.Cond) (x0 : Addr) (x1 : Addr) (kc : ClassId) (c0 : Int32) (c1 : Int32) (c2 : Int32) (cs : Int32) (G : Value) (h0 : Heap) (n0 : Nat) (Z0 : n0 ≤ h0.size) (E0 : Exa Z h0 x0 "java/lang/String") (F1 : Fld Z h0 x0 "java/lang/String" "coder" "B" (.int (0 : Int32))) (F2 : Fld Z h0 x0 "java/lang/String" "value" "[B" .null) (g0 : n0 ≤ x0) (V1 : Arv Z h0 x1 kc .char (3 : Int32) [(.int c0), (.int c1), (.int c2)] (.int (0 : Int32))) (nx : x0 ≠ x1) (ko0 : own_ok c0) (ko1 : own_ok c1) (ko2 : own_ok c2) (O0 : Old Z n0 h0) (st : own_ST Z cs G) :
    MetFree l (⟨"java/lang/String", "<init>", "([C)V"⟩ : MethodName) (head1 (Jvm.Cond.code (⟨"java/lang/String", "<init>", "([C)V"⟩ : MethodName) jdk_42_method_3_code 2 none :: ws) ({ frames := 5, cells := 2, slots := 9, locals := 74 } : Room)) (fun a U => a = #[(.ref x0), (.ref x1)] ∧ Z.Warmed39 U.vm ∧ U.heap = h0) (fun _ _ _ _ _ => True) (fun _ U o U' => ∃ v L, o = .returned v ∧ Qi13 Z x0 x1 kc c0 c1 c2 cs G h0 n0 v U'.heap L ∧ FrameEnd U o U' L ({ frames := 5, cells := 2, slots := 9, locals := 74 } : Room).cells ({ frames := 5, cells := 2, slots := 9, locals := 74 } : Room).slots) := by
  refine MetFree.of_bodySF (plainFor_of_name pni13) hisR ?_
  intro p e s m args below meth c s₁ Bd hml0 hP hK
  obtain ⟨rfl, hZ, hh⟩ := hP
  have hx := Bd.exec
  have hby := Bd.bytes
  have hml : c.maxLocals = 2 := hml0
  have hown : s.vm.findClass "java/lang/String" = some m.cls := findClass_of_methodNamed Bd.named
  have hnm := (name_of_methodNamed Bd.named Bd.method).1
  have X0 : Stand p l e ({ frames := 5, cells := 2, slots := 9, locals := 74 } : Room) s m #[(.ref x0), (.ref x1)] below meth c s₁ [] 0 0 := Stand.of_body Bd
  have e0 : s₁.heap = h0 := by rw [← hh, Bd.state]; rfl
  have N0 := Fr.nil n0
  have pre0 : ∀ t, Steps p.tables e below (s₁.setTop (mkF m 0 #[.val (.ref x0), .val (.ref x1)] [])) t → Steps p.tables e below (s₁.setTop (entryFrame m #[(.ref x0), (.ref x1)] 2)) t := fun t k => castTop (efi13 m x0 x1) k
  obtain ⟨S0, hS0⟩ : ∃ z, z = (s₁.setTop (entryFrame m #[(.ref x0), (.ref x1)] 2)) := ⟨_, rfl⟩
  rw [← hS0] at pre0
  obtain ⟨sc, hcs, sa, sh, sl, sg, hG⟩ := id st
  have K0 := Keep.refl h0 [x0]
  have p1 : ∀ t, own_W p e below m s₁ 4 #[.val (.ref x0), .val (.ref x1)] [(.ref x1), (.int (0 : Int32)), (.ref x1), (.ref x0)] t → Steps p.tables e below S0 t := fun t k => pre0 t (by
    show own_W p e below m s₁ 0 #[.val (.ref x0), .val (.ref x1)] [] _
    refine XS.aloadN X0.here hx rfl (hb hby di13_0) rfl rfl ?_
    show own_W p e below m s₁ 1 #[.val (.ref x0), .val (.ref x1)] [(.ref x0)] _
    refine XS.aloadN X0.here hx rfl (hb hby di13_1) rfl rfl ?_
    show own_W p e below m s₁ 2 #[.val (.ref x0), .val (.ref x1)] [(.ref x1), (.ref x0)] _
    refine XS.iconst X0.here hx rfl (hb hby di13_2) ?_
    show own_W p e below m s₁ 3 #[.val (.ref x0), .val (.ref x1)] [(.int (0 : Int32)), (.ref x1), (.ref x0)] _
    refine XS.aloadN X0.here hx rfl (hb hby di13_3) rfl rfl ?_
    exact k)
  obtain ⟨cl2, Ar2, -, Sz2, Ng2, -, -⟩ := id V1
  have p3 : ∀ t, own_W p e below m s₁ 6 #[.val (.ref x0), .val (.ref x1)] [.null, (.int (3 : Int32)), (.int (0 : Int32)), (.ref x1), (.ref x0)] t → Steps p.tables e below S0 t := fun t k => p1 t (by
    show own_W p e below m s₁ 4 #[.val (.ref x0), .val (.ref x1)] [(.ref x1), (.int (0 : Int32)), (.ref x1), (.ref x0)] _
    refine X0.arraylength hx (by rw [e0]; exact Ar2.1) (State.isArrayOf_alike hZ.alike Ar2.2.1) (g := (mkF m 4 #[.val (.ref x0), .val (.ref x1)] [(.ref x1), (.int (0 : Int32)), (.ref x1), (.ref x0)])) rfl rfl (hb hby di13_4) _ ?_
    rw [len_of Sz2 Ng2]
    show own_W p e below m s₁ 5 #[.val (.ref x0), .val (.ref x1)] [(.int (3 : Int32)), (.int (0 : Int32)), (.ref x1), (.ref x0)] _
    refine XS.aconstNull X0.here hx rfl (hb hby di13_5) ?_
    exact k)
  obtain ⟨_, _, ⟨T4, L4, k4, n4⟩, -, X4, ⟨Lc4, hQ4, l4, y4, z4⟩, st4⟩ := X0.specialBack hx (y := (⟨"java/lang/String", "<init>", "([CIILjava/lang/Void;)V"⟩ : MethodName)) rfl hown (mvT hZ (hw _ (List.mem_of_getElem? (i := 88) rfl))) (mvT hZ (hw _ (List.mem_of_getElem? (i := 89) rfl))) (mvT hZ (hw _ (List.mem_of_getElem? (i := 90) rfl))) (by decide) (backOf (W := 0) (rmi43 l Z a0 hw [] x0 x1 kc c0 c1 c2 cs G h0 n0 Z0 E0 F1 F2 g0 V1 nx ko0 ko1 ko2 O0 st) hZ (hw _ (List.mem_of_getElem? (i := 90) rfl)) (hw _ (List.mem_of_getElem? (i := 7) rfl)) (by decide) (by decide)) (g := (mkF m 6 #[.val (.ref x0), .val (.ref x1)] [.null, (.int (3 : Int32)), (.int (0 : Int32)), (.ref x1), (.ref x0)])) rfl (by rw [hml]; rfl) (Steps.refl _) (a := x0) (argsL := [(.ref x1), (.int (0 : Int32)), (.int (3 : Int32)), .null]) (rest := []) (lenOf pdi13_0 rfl) rfl (by show 2 * 0 + _ ≤ _; exact Nat.le_of_eq rfl) (hb hby di13_6) (fun _ _ => ⟨rfl, e0, (by decide : 0 + 2 ≤ _), (by decide : 0 + 9 ≤ _)⟩)
  dsimp only [Pt.U, Pt.locs, Pt.cells, Pt.slots] at X4 l4 y4 z4 st4 hQ4
  subst l4 y4 z4
  obtain ⟨rfl, Nq4, K4, HQ4⟩ := hQ4
  have N4 := Fr.app N0 Nq4
  have f5 := O0.keep K4 (allS g0 (all0))
  have f6 := E0.keep K4
  have f7 := V1.keep K4 (ninS (Ne.symm nx) nin0)
  have Z4 := Nat.le_trans Z0 K4.1
  have KK4 := K0.trans K4 (allS (Or.inl (List.mem_singleton.mpr rfl)) all0)
  have p8 : ∀ t, own_W p e below m T4 9 #[.val (.ref x0), .val (.ref x1)] [] t → Steps p.tables e below S0 t := fun t k => p3 t (st4.trans k)
  subst hS0
  obtain ⟨fs, hr, hrun, hended, hW, hsame⟩ := X4.leave (v := none) (fun _ => rfl)
  refine ⟨_, _, p8 _ ?_, hrun, hended, _, _, rfl, ?_, ⟨_, rfl⟩, hW, hsame.mono (by decide) (by decide)⟩
  · show own_W p e below m T4 9 #[.val (.ref x0), .val (.ref x1)] [] _
    exact X4.returnOut hx Bd.returns (hb hby di13_9) hr
  · show Qi13 Z x0 x1 kc c0 c1 c2 cs G h0 n0 _ T4.heap _
    skip
    exact ⟨rfl, N4, KK4, HQ4⟩
theorem di44_0 : decode jdk_42_method_149_code 0 = .ok (.aload_n 0, 1) := by decide +kernel
theorem di44_1 : decode jdk_42_method_149_code 1 = .ok (.invokespecial 1, 3) := by decide +kernel
theorem di44_4 : decode jdk_42_method_149_code 4 = .ok (.iload_n 3, 1) := by decide +kernel
theorem di44_5 : decode jdk_42_method_149_code 5 = .ok (.ifCond .ne 22, 3) := by decide +kernel
theorem di44_27 : decode jdk_42_method_149_code 27 = .ok (.getstatic 38, 3) := by decide +kernel
theorem di44_30 : decode jdk_42_method_149_code 30 = .ok (.ifCond .eq 28, 3) := by decide +kernel
theorem di44_33 : decode jdk_42_method_149_code 33 = .ok (.aload_n 1, 1) := by decide +kernel
theorem di44_34 : decode jdk_42_method_149_code 34 = .ok (.iload_n 2, 1) := by decide +kernel
theorem di44_35 : decode jdk_42_method_149_code 35 = .ok (.iload_n 3, 1) := by decide +kernel
theorem di44_36 : decode jdk_42_method_149_code 36 = .ok (.invokestatic 177, 3) := by decide +kernel
theorem di44_39 : decode jdk_42_method_149_code 39 = .ok (.astore 5, 2) := by decide +kernel
theorem di44_41 : decode jdk_42_method_149_code 41 = .ok (.aload_n 0, 1) := by decide +kernel
theorem di44_42 : decode jdk_42_method_149_code 42 = .ok (.aload 5, 2) := by decide +kernel
theorem di44_44 : decode jdk_42_method_149_code 44 = .ok (.iload_n 3, 1) := by decide +kernel
theorem di44_45 : decode jdk_42_method_149_code 45 = .ok (.invokestatic 47, 3) := by decide +kernel
theorem di44_48 : decode jdk_42_method_149_code 48 = .ok (.putfield 15, 3) := by decide +kernel
theorem di44_51 : decode jdk_42_method_149_code 51 = .ok (.aload_n 0, 1) := by decide +kernel
theorem di44_52 : decode jdk_42_method_149_code 52 = .ok (.aload 5, 2) := by decide +kernel
theorem di44_54 : decode jdk_42_method_149_code 54 = .ok (.putfield 9, 3) := by decide +kernel
theorem di44_57 : decode jdk_42_method_149_code 57 = .ok (.return_, 1) := by decide +kernel
theorem pni44 : plainName "java/lang/String" = true := by first | (simp [plainName, overriddenIn]; done) | decide +kernel
theorem pdi44_0 : parseMethodDescriptor "([CII)[B" = some ⟨[(.array .char), .int, .int], some (.array .byte)⟩ := by decide +kernel
theorem pdi44_1 : parseMethodDescriptor "([BI)B" = some ⟨[(.array .byte), .int], some .byte⟩ := by decide +kernel
theorem efi44 (m : MethodId) (x0 : Addr) (x1 : Addr) : entryFrame m #[(.ref x0), (.ref x1), (.int (0 : Int32)), (.int (4 : Int32)), .null] 6 = mkF m 0 #[.val (.ref x0), .val (.ref x1), .val (.int (0 : Int32)), .val (.int (4 : Int32)), .val .null, .unset] [] := by first | (simp [entryFrame, mkF, argsToLocals, Value.category]; done) | rfl
def Qi44 (Z : State) (x0 : Addr) (x1 : Addr) (kc : ClassId) (c0 : Int32) (c1 : Int32) (c2 : Int32) (c3 : Int32) (cs : Int32) (G : Value) (h0 : Heap) (n0 : Nat) (v : Option Value) (h : Heap) (L : List Loc) : Prop := v = none ∧ Fr n0 L ∧ Keep h0 h [x0] ∧ ∃ (t : Addr) (kk : ClassId), Fld Z h x0 "java/lang/String" "value" "[B" (.ref t) ∧ ((Fld Z h x0 "java/lang/String" "coder" "B" (.int (0 : Int32)) ∧ Arv Z h t kk .byte (4 : Int32) [(.int (own_lo c0)), (.int (own_lo c1)), (.int (own_lo c2)), (.int (own_lo c3))] (.int (0 : Int32)) ∧ ¬ (255 : Int32) < c0 ∧ ¬ (255 : Int32) < c1 ∧ ¬ (255 : Int32) < c2 ∧ ¬ (255 : Int32) < c3) ∨ (Fld Z h x0 "java/lang/String" "coder" "B" (.int (1 : Int32)) ∧ Arv Z h t kk .byte (8 : Int32) [(.int (own_hb c0)), (.int (own_lb c0)), (.int (own_hb c1)), (.int (own_lb c1)), (.int (own_hb c2)), (.int (own_lb c2)), (.int (own_hb c3)), (.int (own_lb c3))] (.int (0 : Int32))))
set_option maxRecDepth 65536 in
set_option maxHeartbeats 40000000 in
theorem rmi44 (l : Launch) (Z : State) (a0 : Array Value) (hw : ∀ d ∈ tables_1, d.before a0 Z = true) (ws : List Jvm.Cond) (x0 : Addr) (x1 : Addr) (kc : ClassId) (c0 : Int32) (c1 : Int32) (c2 : Int32) (c3 : Int32) (cs : Int32) (G : Value) (h0 : Heap) (n0 : Nat) (Z0 : n0 ≤ h0.size) (E0 : Exa Z h0 x0 "java/lang/String") (F1 : Fld Z h0 x0 "java/lang/String" "coder" "B" (.int (0 : Int32))) (F2 : Fld Z h0 x0 "java/lang/String" "value" "[B" .null) (g0 : n0 ≤ x0) (V1 : Arv Z h0 x1 kc .char (4 : Int32) [(.int c0), (.int c1), (.int c2), (.int c3)] (.int (0 : Int32))) (nx : x0 ≠ x1) (ko0 : own_ok c0) (ko1 : own_ok c1) (ko2 : own_ok c2) (ko3 : own_ok c3) (O0 : Old Z n0 h0) (st : own_ST Z cs G) :
    MetFree l (⟨"java/lang/String", "<init>", "([CIILjava/lang/Void;)V"⟩ : MethodName) (head1 (Jvm.Cond.code (⟨"java/lang/String", "<init>", "([CIILjava/lang/Void;)V"⟩ : MethodName) jdk_42_method_149_code 6 none :: ws) ({ frames := 4, cells := 2, slots := 12, locals := 57 } : Room)) (fun a U => a = #[(.ref x0), (.ref x1), (.int (0 : Int32)), (.int (4 : Int32)), .null] ∧ Z.Warmed39 U.vm ∧ U.heap = h0) (fun _ _ _ _ _ => True) (fun _ U o U' => ∃ v L, o = .returned v ∧ Qi44 Z x0 x1 kc c0 c1 c2 c3 cs G h0 n0 v U'.heap L ∧ FrameEnd U o U' L ({ frames := 4, cells := 2, slots := 12, locals := 57 } : Room).cells ({ frames := 4, cells := 2, slots := 12, locals := 57 } : Room).slots) := by
  refine MetFree.of_bodySF (plainFor_of_name pni44) hisR ?_
  intro p e s m args below meth c s₁ Bd hml0 hP hK
  obtain ⟨rfl, hZ, hh⟩ := hP
  have hx := Bd.exec
  have hby := Bd.bytes
  have hml : c.maxLocals = 6 := hml0
  have hown : s.vm.findClass "java/lang/String" = some m.cls := findClass_of_methodNamed Bd.named
  have hnm := (name_of_methodNamed Bd.named Bd.method).1
  have X0 : Stand p l e ({ frames := 4, cells := 2, slots := 12, locals := 57 } : Room) s m #[(.ref x0), (.ref x1), (.int (0 : Int32)), (.int (4 : Int32)), .null] below meth c s₁ [] 0 0 := Stand.of_body Bd
  have e0 : s₁.heap = h0 := by rw [← hh, Bd.state]; rfl
  have N0 := Fr.nil n0
  have pre0 : ∀ t, Steps p.tables e below (s₁.setTop (mkF m 0 #[.val (.ref x0), .val (.ref x1), .val (.int (0 : Int32)), .val (.int (4 : Int32)), .val .null, .unset] [])) t → Steps p.tables e below (s₁.setTop (entryFrame m #[(.ref x0), (.ref x1), (.int (0 : Int32)), (.int (4 : Int32)), .null] 6)) t := fun t k => castTop (efi44 m x0 x1) k
  obtain ⟨S0, hS0⟩ : ∃ z, z = (s₁.setTop (entryFrame m #[(.ref x0), (.ref x1), (.int (0 : Int32)), (.int (4 : Int32)), .null] 6)) := ⟨_, rfl⟩
  rw [← hS0] at pre0
  obtain ⟨sc, hcs, sa, sh, sl, sg, hG⟩ := id st
  have K0 := Keep.refl h0 [x0]
  have p1 : ∀ t, own_W p e below m s₁ 1 #[.val (.ref x0), .val (.ref x1), .val (.int (0 : Int32)), .val (.int (4 : Int32)), .val .null, .unset] [(.ref x0)] t → Steps p.tables e below S0 t := fun t k => pre0 t (by
    show own_W p e below m s₁ 0 #[.val (.ref x0), .val (.ref x1), .val (.int (0 : Int32)), .val (.int (4 : Int32)), .val .null, .unset] [] _
    refine XS.aloadN X0.here hx rfl (hb hby di44_0) rfl rfl ?_
    exact k)
  obtain ⟨T2, X2, e2, st2⟩ := initO X0 hx hZ hown (hw _ (List.mem_of_getElem? (i := 24) rfl)) (hw _ (List.mem_of_getElem? (i := 25) rfl)) (hw _ (List.mem_of_getElem? (i := 26) rfl)) e0 (g := (mkF m 1 #[.val (.ref x0), .val (.ref x1), .val (.int (0 : Int32)), .val (.int (4 : Int32)), .val .null, .unset] [(.ref x0)])) rfl (by rw [hml]; rfl) rfl (hb hby di44_1) (by decide) (W := 0) (by show 2 * 0 + _ ≤ _; exact Nat.le_of_eq rfl) (by decide)
  have p3 : ∀ t, own_W p e below m T2 4 #[.val (.ref x0), .val (.ref x1), .val (.int (0 : Int32)), .val (.int (4 : Int32)), .val .null, .unset] [] t → Steps p.tables e below S0 t := fun t k => p1 t (st2 t k)
  have p4 : ∀ t, own_W p e below m T2 27 #[.val (.ref x0), .val (.ref x1), .val (.int (0 : Int32)), .val (.int (4 : Int32)), .val .null, .unset] [] t → Steps p.tables e below S0 t := fun t k => p3 t (by
    show own_W p e below m T2 4 #[.val (.ref x0), .val (.ref x1), .val (.int (0 : Int32)), .val (.int (4 : Int32)), .val .null, .unset] [] _
    refine XS.iloadN X2.here hx rfl (hb hby di44_4) rfl ?_
    show own_W p e below m T2 5 #[.val (.ref x0), .val (.ref x1), .val (.int (0 : Int32)), .val (.int (4 : Int32)), .val .null, .unset] [(.int (4 : Int32))] _
    refine XS.ifYes X2.here hx rfl (pc0 := 5) (pc' := 27) rfl (hb hby di44_5) rfl ((if0 _ _).trans (feq (by decide)).2) (by decide) (by decide) ?_
    exact k)
  have Sz5 := sc.ext O0.2
  obtain ⟨T5, X5, e5, st5⟩ := getS2 X2 hx hZ hown (host := "") (Or.inl (hw _ (List.mem_of_getElem? (i := 9) rfl))) Via.refl e2 Sz5 (g := (mkF m 27 #[.val (.ref x0), .val (.ref x1), .val (.int (0 : Int32)), .val (.int (4 : Int32)), .val .null, .unset] [])) rfl (hb hby di44_27)
  have p6 : ∀ t, own_W p e below m T5 30 #[.val (.ref x0), .val (.ref x1), .val (.int (0 : Int32)), .val (.int (4 : Int32)), .val .null, .unset] [(.int cs)] t → Steps p.tables e below S0 t := fun t k => p4 t (st5 t k)
  have p7 : ∀ t, own_W p e below m T5 36 #[.val (.ref x0), .val (.ref x1), .val (.int (0 : Int32)), .val (.int (4 : Int32)), .val .null, .unset] [(.int (4 : Int32)), (.int (0 : Int32)), (.ref x1)] t → Steps p.tables e below S0 t := fun t k => p6 t (by
    show own_W p e below m T5 30 #[.val (.ref x0), .val (.ref x1), .val (.int (0 : Int32)), .val (.int (4 : Int32)), .val .null, .unset] [(.int cs)] _
    refine XS.ifNo X5.here hx rfl (hb hby di44_30) rfl ((if0 _ _).trans (feq (hcs)).1) ?_
    show own_W p e below m T5 33 #[.val (.ref x0), .val (.ref x1), .val (.int (0 : Int32)), .val (.int (4 : Int32)), .val .null, .unset] [] _
    refine XS.aloadN X5.here hx rfl (hb hby di44_33) rfl rfl ?_
    show own_W p e below m T5 34 #[.val (.ref x0), .val (.ref x1), .val (.int (0 : Int32)), .val (.int (4 : Int32)), .val .null, .unset] [(.ref x1)] _
    refine XS.iloadN X5.here hx rfl (hb hby di44_34) rfl ?_
    show own_W p e below m T5 35 #[.val (.ref x0), .val (.ref x1), .val (.int (0 : Int32)), .val (.int (4 : Int32)), .val .null, .unset] [(.int (0 : Int32)), (.ref x1)] _
    refine XS.iloadN X5.here hx rfl (hb hby di44_35) rfl ?_
    exact k)
  obtain ⟨_, _, ⟨T8, L8, k8, n8⟩, -, X8, ⟨Lc8, hQ8, l8, y8, z8⟩, st8⟩ := Jvm.LawKit.callS X5 hx (y := (⟨"java/lang/StringUTF16", "compress", "([CII)[B"⟩ : MethodName)) hown (mvT hZ (hw _ (List.mem_of_getElem? (i := 91) rfl))) (mvT hZ (hw _ (List.mem_of_getElem? (i := 92) rfl))) (mvT hZ (hw _ (List.mem_of_getElem? (i := 93) rfl))) (mvT hZ (hw _ (List.mem_of_getElem? (i := 94) rfl))) (by decide) (backOf (W := 0) (rmc34 l Z a0 hw [] x1 kc c0 c1 c2 c3 cs G h0 n0 Z0 V1 ko0 ko1 ko2 ko3 O0 st) hZ (hw _ (List.mem_of_getElem? (i := 94) rfl)) (hw _ (List.mem_of_getElem? (i := 93) rfl)) (by decide) (by decide)) (g := (mkF m 36 #[.val (.ref x0), .val (.ref x1), .val (.int (0 : Int32)), .val (.int (4 : Int32)), .val .null, .unset] [(.int (4 : Int32)), (.int (0 : Int32)), (.ref x1)])) rfl (by rw [hml]; rfl) (argsL := [(.ref x1), (.int (0 : Int32)), (.int (4 : Int32))]) (rest := []) (lenOf pdi44_0 rfl) rfl (by show 2 * 0 + _ ≤ _; exact Nat.le_of_eq rfl) (hb hby di44_36) (fun _ _ => ⟨rfl, e5, (by decide : 0 + 2 ≤ _), (by decide : 0 + 12 ≤ _)⟩)
  dsimp only [Pt.U, Pt.locs, Pt.cells, Pt.slots] at X8 l8 y8 z8 st8 hQ8
  subst l8 y8 z8
  obtain ⟨-, r8, kk8, rfl, Nq8, K8, gr8, HC8⟩ := hQ8
  have N8 := Fr.app N0 Nq8
  have f9 := O0.keep K8 (all0)
  have f10 := E0.keep K8
  have f11 := F1.keep K8 nin0
  have f12 := F2.keep K8 nin0
  have f13 := V1.keep K8 nin0
  have Z8 := Nat.le_trans Z0 K8.1
  have KK8 := K0.trans K8 (all0)
  have p14 : ∀ t, own_W p e below m T8 39 #[.val (.ref x0), .val (.ref x1), .val (.int (0 : Int32)), .val (.int (4 : Int32)), .val .null, .unset] [(.ref r8)] t → Steps p.tables e below S0 t := fun t k => p7 t (st8 _ k)
  have Zb8 := Z0
  have Kb8 := K0
  have gn_r8 : n0 ≤ r8 := Nat.le_trans Zb8 gr8
  have gk_r8 : h0.size ≤ r8 := Nat.le_trans Kb8.1 gr8
  have ne_x0_r8 : x0 ≠ r8 := Nat.ne_of_lt (Nat.lt_of_lt_of_le F2.lt gr8)
  have ne_x1_r8 : x1 ≠ r8 := Nat.ne_of_lt (Nat.lt_of_lt_of_le V1.lt gr8)
  rcases HC8 with ⟨VR8, el⟩ | VR8
  · have u_ := Z0
    have p15 : ∀ t, own_W p e below m T8 45 #[.val (.ref x0), .val (.ref x1), .val (.int (0 : Int32)), .val (.int (4 : Int32)), .val .null, .val (.ref r8)] [(.int (4 : Int32)), (.ref r8), (.ref x0)] t → Steps p.tables e below S0 t := fun t k => p14 t (by
      show own_W p e below m T8 39 #[.val (.ref x0), .val (.ref x1), .val (.int (0 : Int32)), .val (.int (4 : Int32)), .val .null, .unset] [(.ref r8)] _
      refine XS.astore X8.here hx rfl (hb hby di44_39) rfl rfl (l' := #[.val (.ref x0), .val (.ref x1), .val (.int (0 : Int32)), .val (.int (4 : Int32)), .val .null, .val (.ref r8)]) rfl ?_
      show own_W p e below m T8 41 #[.val (.ref x0), .val (.ref x1), .val (.int (0 : Int32)), .val (.int (4 : Int32)), .val .null, .val (.ref r8)] [] _
      refine XS.aloadN X8.here hx rfl (hb hby di44_41) rfl rfl ?_
      show own_W p e below m T8 42 #[.val (.ref x0), .val (.ref x1), .val (.int (0 : Int32)), .val (.int (4 : Int32)), .val .null, .val (.ref r8)] [(.ref x0)] _
      refine XS.aload X8.here hx rfl (hb hby di44_42) rfl rfl ?_
      show own_W p e below m T8 44 #[.val (.ref x0), .val (.ref x1), .val (.int (0 : Int32)), .val (.int (4 : Int32)), .val .null, .val (.ref r8)] [(.ref r8), (.ref x0)] _
      refine XS.iloadN X8.here hx rfl (hb hby di44_44) rfl ?_
      exact k)
    obtain ⟨_, _, ⟨T16, L16, k16, n16⟩, -, X16, ⟨Lc16, hQ16, l16, y16, z16⟩, st16⟩ := Jvm.LawKit.callS X8 hx (y := (⟨"java/lang/StringUTF16", "coderFromArrayLen", "([BI)B"⟩ : MethodName)) hown (mvT hZ (hw _ (List.mem_of_getElem? (i := 98) rfl))) (mvT hZ (hw _ (List.mem_of_getElem? (i := 99) rfl))) (mvT hZ (hw _ (List.mem_of_getElem? (i := 93) rfl))) (mvT hZ (hw _ (List.mem_of_getElem? (i := 100) rfl))) (by decide) (backOf (W := 1) (rmcf l Z a0 hw [] r8 (4 : Int32) kk8 (4 : Int32) [(.int (own_lo c0)), (.int (own_lo c1)), (.int (own_lo c2)), (.int (own_lo c3))] (0 : Int32) T8.heap n0 Z8 VR8 (by decide)) hZ (hw _ (List.mem_of_getElem? (i := 100) rfl)) (hw _ (List.mem_of_getElem? (i := 93) rfl)) (by decide) (by decide)) (g := (mkF m 45 #[.val (.ref x0), .val (.ref x1), .val (.int (0 : Int32)), .val (.int (4 : Int32)), .val .null, .val (.ref r8)] [(.int (4 : Int32)), (.ref r8), (.ref x0)])) rfl (by rw [hml]; rfl) (argsL := [(.ref r8), (.int (4 : Int32))]) (rest := [(.ref x0)]) (lenOf pdi44_1 rfl) rfl (by show 2 * 0 + _ ≤ _; exact Nat.le_of_eq rfl) (hb hby di44_45) (fun _ _ => ⟨rfl, rfl, (by decide : 2 + 0 ≤ _), (by decide : 12 + 0 ≤ _)⟩)
    dsimp only [Pt.U, Pt.locs, Pt.cells, Pt.slots] at X16 l16 y16 z16 st16 hQ16
    subst l16 y16 z16
    obtain ⟨rfl, Nq16, e16⟩ := hQ16
    have N16 := Fr.app N8 Nq16
    have p17 : ∀ t, own_W p e below m T16 48 #[.val (.ref x0), .val (.ref x1), .val (.int (0 : Int32)), .val (.int (4 : Int32)), .val .null, .val (.ref r8)] [(.int (0 : Int32)), (.ref x0)] t → Steps p.tables e below S0 t := fun t k => p15 t (st16 _ k)
    obtain ⟨T18, h18, X18, e18, W18, st18⟩ := putF X16 hx hZ hown (host := "") (Or.inl (hw _ (List.mem_of_getElem? (i := 29) rfl))) Via.refl e16 f11 f10 (Or.inr ⟨(hw _ (List.mem_of_getElem? (i := 30) rfl)), rfl, hnm⟩) (hw _ (List.mem_of_getElem? (i := 15) rfl)) (ty := .byte) (by decide) rfl rfl (g := (mkF m 48 #[.val (.ref x0), .val (.ref x1), .val (.int (0 : Int32)), .val (.int (4 : Int32)), .val .null, .val (.ref r8)] [(.int (0 : Int32)), (.ref x0)])) rfl rfl (hb hby di44_48)
    have f19 := f11.same W18
    have f20 := f9.wr W18 g0
    have f21 := f10.wr W18
    have f22 := f12.other W18 (Or.inr (slot_ne (Or.inr (hw _ (List.mem_of_getElem? (i := 28) rfl))) (Or.inr (hw _ (List.mem_of_getElem? (i := 30) rfl))) (by decide) (t := (.array .byte)) (t' := .byte) (by decide) (by decide)))
    have f23 := f13.other W18 (Ne.symm nx)
    have f24 := VR8.other W18 (Ne.symm ne_x0_r8)
    have Z18 := Nat.le_trans Z8 (Keep.of_wr W18).1
    have N18 := Fr.snoc X18 N16 g0
    have KK18 := KK8.wr W18 (Or.inl (List.mem_singleton.mpr rfl))
    have p25 : ∀ t, own_W p e below m T18 51 #[.val (.ref x0), .val (.ref x1), .val (.int (0 : Int32)), .val (.int (4 : Int32)), .val .null, .val (.ref r8)] [] t → Steps p.tables e below S0 t := fun t k => p17 t (st18 t k)
    have p26 : ∀ t, own_W p e below m T18 54 #[.val (.ref x0), .val (.ref x1), .val (.int (0 : Int32)), .val (.int (4 : Int32)), .val .null, .val (.ref r8)] [(.ref r8), (.ref x0)] t → Steps p.tables e below S0 t := fun t k => p25 t (by
      show own_W p e below m T18 51 #[.val (.ref x0), .val (.ref x1), .val (.int (0 : Int32)), .val (.int (4 : Int32)), .val .null, .val (.ref r8)] [] _
      refine XS.aloadN X18.here hx rfl (hb hby di44_51) rfl rfl ?_
      show own_W p e below m T18 52 #[.val (.ref x0), .val (.ref x1), .val (.int (0 : Int32)), .val (.int (4 : Int32)), .val .null, .val (.ref r8)] [(.ref x0)] _
      refine XS.aload X18.here hx rfl (hb hby di44_52) rfl rfl ?_
      exact k)
    obtain ⟨T27, h27, X27, e27, W27, st27⟩ := putF X18 hx hZ hown (host := "") (Or.inl (hw _ (List.mem_of_getElem? (i := 27) rfl))) Via.refl e18 f22 f21 (Or.inr ⟨(hw _ (List.mem_of_getElem? (i := 28) rfl)), rfl, hnm⟩) (hw _ (List.mem_of_getElem? (i := 15) rfl)) (ty := (.array .byte)) (by decide) rfl rfl (g := (mkF m 54 #[.val (.ref x0), .val (.ref x1), .val (.int (0 : Int32)), .val (.int (4 : Int32)), .val .null, .val (.ref r8)] [(.ref r8), (.ref x0)])) rfl rfl (hb hby di44_54)
    have f28 := f22.same W27
    have f29 := f20.wr W27 g0
    have f30 := f21.wr W27
    have f31 := f23.other W27 (Ne.symm nx)
    have f32 := f24.other W27 (Ne.symm ne_x0_r8)
    have f33 := f19.other W27 (Or.inr (slot_ne (Or.inr (hw _ (List.mem_of_getElem? (i := 30) rfl))) (Or.inr (hw _ (List.mem_of_getElem? (i := 28) rfl))) (by decide) (t := .byte) (t' := (.array .byte)) (by decide) (by decide)))
    have Z27 := Nat.le_trans Z18 (Keep.of_wr W27).1
    have N27 := Fr.snoc X27 N18 g0
    have KK27 := KK18.wr W27 (Or.inl (List.mem_singleton.mpr rfl))
    have p34 : ∀ t, own_W p e below m T27 57 #[.val (.ref x0), .val (.ref x1), .val (.int (0 : Int32)), .val (.int (4 : Int32)), .val .null, .val (.ref r8)] [] t → Steps p.tables e below S0 t := fun t k => p26 t (st27 t k)
    subst hS0
    obtain ⟨fs, hr, hrun, hended, hW, hsame⟩ := X27.leave (v := none) (fun _ => rfl)
    refine ⟨_, _, p34 _ ?_, hrun, hended, _, _, rfl, ?_, ⟨_, rfl⟩, hW, hsame.mono (by decide) (by decide)⟩
    · show own_W p e below m T27 57 #[.val (.ref x0), .val (.ref x1), .val (.int (0 : Int32)), .val (.int (4 : Int32)), .val .null, .val (.ref r8)] [] _
      exact X27.returnOut hx Bd.returns (hb hby di44_57) hr
    · show Qi44 Z x0 x1 kc c0 c1 c2 c3 cs G h0 n0 _ T27.heap _
      rw [e27]
      exact ⟨rfl, N27, KK27, _, _, f28, Or.inl ⟨f33, f32, el⟩⟩
  · have u_ := Z0
    have p35 : ∀ t, own_W p e below m T8 45 #[.val (.ref x0), .val (.ref x1), .val (.int (0 : Int32)), .val (.int (4 : Int32)), .val .null, .val (.ref r8)] [(.int (4 : Int32)), (.ref r8), (.ref x0)] t → Steps p.tables e below S0 t := fun t k => p14 t (by
      show own_W p e below m T8 39 #[.val (.ref x0), .val (.ref x1), .val (.int (0 : Int32)), .val (.int (4 : Int32)), .val .null, .unset] [(.ref r8)] _
      refine XS.astore X8.here hx rfl (hb hby di44_39) rfl rfl (l' := #[.val (.ref x0), .val (.ref x1), .val (.int (0 : Int32)), .val (.int (4 : Int32)), .val .null, .val (.ref r8)]) rfl ?_
      show own_W p e below m T8 41 #[.val (.ref x0), .val (.ref x1), .val (.int (0 : Int32)), .val (.int (4 : Int32)), .val .null, .val (.ref r8)] [] _
      refine XS.aloadN X8.here hx rfl (hb hby di44_41) rfl rfl ?_
      show own_W p e below m T8 42 #[.val (.ref x0), .val (.ref x1), .val (.int (0 : Int32)), .val (.int (4 : Int32)), .val .null, .val (.ref r8)] [(.ref x0)] _
      refine XS.aload X8.here hx rfl (hb hby di44_42) rfl rfl ?_
      show own_W p e below m T8 44 #[.val (.ref x0), .val (.ref x1), .val (.int (0 : Int32)), .val (.int (4 : Int32)), .val .null, .val (.ref r8)] [(.ref r8), (.ref x0)] _
      refine XS.iloadN X8.here hx rfl (hb hby di44_44) rfl ?_
      exact k)
    obtain ⟨_, _, ⟨T36, L36, k36, n36⟩, -, X36, ⟨Lc36, hQ36, l36, y36, z36⟩, st36⟩ := Jvm.LawKit.callS X8 hx (y := (⟨"java/lang/StringUTF16", "coderFromArrayLen", "([BI)B"⟩ : MethodName)) hown (mvT hZ (hw _ (List.mem_of_getElem? (i := 98) rfl))) (mvT hZ (hw _ (List.mem_of_getElem? (i := 99) rfl))) (mvT hZ (hw _ (List.mem_of_getElem? (i := 93) rfl))) (mvT hZ (hw _ (List.mem_of_getElem? (i := 100) rfl))) (by decide) (backOf (W := 1) (rmcf l Z a0 hw [] r8 (4 : Int32) kk8 (8 : Int32) [(.int (own_hb c0)), (.int (own_lb c0)), (.int (own_hb c1)), (.int (own_lb c1)), (.int (own_hb c2)), (.int (own_lb c2)), (.int (own_hb c3)), (.int (own_lb c3))] (1 : Int32) T8.heap n0 Z8 VR8 (by decide)) hZ (hw _ (List.mem_of_getElem? (i := 100) rfl)) (hw _ (List.mem_of_getElem? (i := 93) rfl)) (by decide) (by decide)) (g := (mkF m 45 #[.val (.ref x0), .val (.ref x1), .val (.int (0 : Int32)), .val (.int (4 : Int32)), .val .null, .val (.ref r8)] [(.int (4 : Int32)), (.ref r8), (.ref x0)])) rfl (by rw [hml]; rfl) (argsL := [(.ref r8), (.int (4 : Int32))]) (rest := [(.ref x0)]) (lenOf pdi44_1 rfl) rfl (by show 2 * 0 + _ ≤ _; exact Nat.le_of_eq rfl) (hb hby di44_45) (fun _ _ => ⟨rfl, rfl, (by decide : 2 + 0 ≤ _), (by decide : 12 + 0 ≤ _)⟩)
    dsimp only [Pt.U, Pt.locs, Pt.cells, Pt.slots] at X36 l36 y36 z36 st36 hQ36
    subst l36 y36 z36
    obtain ⟨rfl, Nq36, e36⟩ := hQ36
    have N36 := Fr.app N8 Nq36
    have p37 : ∀ t, own_W p e below m T36 48 #[.val (.ref x0), .val (.ref x1), .val (.int (0 : Int32)), .val (.int (4 : Int32)), .val .null, .val (.ref r8)] [(.int (1 : Int32)), (.ref x0)] t → Steps p.tables e below S0 t := fun t k => p35 t (st36 _ k)
    obtain ⟨T38, h38, X38, e38, W38, st38⟩ := putF X36 hx hZ hown (host := "") (Or.inl (hw _ (List.mem_of_getElem? (i := 29) rfl))) Via.refl e36 f11 f10 (Or.inr ⟨(hw _ (List.mem_of_getElem? (i := 30) rfl)), rfl, hnm⟩) (hw _ (List.mem_of_getElem? (i := 15) rfl)) (ty := .byte) (by decide) rfl rfl (g := (mkF m 48 #[.val (.ref x0), .val (.ref x1), .val (.int (0 : Int32)), .val (.int (4 : Int32)), .val .null, .val (.ref r8)] [(.int (1 : Int32)), (.ref x0)])) rfl rfl (hb hby di44_48)
    have f39 := f11.same W38
    have f40 := f9.wr W38 g0
    have f41 := f10.wr W38
    have f42 := f12.other W38 (Or.inr (slot_ne (Or.inr (hw _ (List.mem_of_getElem? (i := 28) rfl))) (Or.inr (hw _ (List.mem_of_getElem? (i := 30) rfl))) (by decide) (t := (.array .byte)) (t' := .byte) (by decide) (by decide)))
    have f43 := f13.other W38 (Ne.symm nx)
    have f44 := VR8.other W38 (Ne.symm ne_x0_r8)
    have Z38 := Nat.le_trans Z8 (Keep.of_wr W38).1
    have N38 := Fr.snoc X38 N36 g0
    have KK38 := KK8.wr W38 (Or.inl (List.mem_singleton.mpr rfl))
    have p45 : ∀ t, own_W p e below m T38 51 #[.val (.ref x0), .val (.ref x1), .val (.int (0 : Int32)), .val (.int (4 : Int32)), .val .null, .val (.ref r8)] [] t → Steps p.tables e below S0 t := fun t k => p37 t (st38 t k)
    have p46 : ∀ t, own_W p e below m T38 54 #[.val (.ref x0), .val (.ref x1), .val (.int (0 : Int32)), .val (.int (4 : Int32)), .val .null, .val (.ref r8)] [(.ref r8), (.ref x0)] t → Steps p.tables e below S0 t := fun t k => p45 t (by
      show own_W p e below m T38 51 #[.val (.ref x0), .val (.ref x1), .val (.int (0 : Int32)), .val (.int (4 : Int32)), .val .null, .val (.ref r8)] [] _
      refine XS.aloadN X38.here hx rfl (hb hby di44_51) rfl rfl ?_
      show own_W p e below m T38 52 #[.val (.ref x0), .val (.ref x1), .val (.int (0 : Int32)), .val (.int (4 : Int32)), .val .null, .val (.ref r8)] [(.ref x0)] _
      refine XS.aload X38.here hx rfl (hb hby di44_52) rfl rfl ?_
      exact k)
    obtain ⟨T47, h47, X47, e47, W47, st47⟩ := putF X38 hx hZ hown (host := "") (Or.inl (hw _ (List.mem_of_getElem? (i := 27) rfl))) Via.refl e38 f42 f41 (Or.inr ⟨(hw _ (List.mem_of_getElem? (i := 28) rfl)), rfl, hnm⟩) (hw _ (List.mem_of_getElem? (i := 15) rfl)) (ty := (.array .byte)) (by decide) rfl rfl (g := (mkF m 54 #[.val (.ref x0), .val (.ref x1), .val (.int (0 : Int32)), .val (.int (4 : Int32)), .val .null, .val (.ref r8)] [(.ref r8), (.ref x0)])) rfl rfl (hb hby di44_54)
    have f48 := f42.same W47
    have f49 := f40.wr W47 g0
    have f50 := f41.wr W47
    have f51 := f43.other W47 (Ne.symm nx)
    have f52 := f44.other W47 (Ne.symm ne_x0_r8)
    have f53 := f39.other W47 (Or.inr (slot_ne (Or.inr (hw _ (List.mem_of_getElem? (i := 30) rfl))) (Or.inr (hw _ (List.mem_of_getElem? (i := 28) rfl))) (by decide) (t := .byte) (t' := (.array .byte)) (by decide) (by decide)))
    have Z47 := Nat.le_trans Z38 (Keep.of_wr W47).1
    have N47 := Fr.snoc X47 N38 g0
    have KK47 := KK38.wr W47 (Or.inl (List.mem_singleton.mpr rfl))
    have p54 : ∀ t, own_W p e below m T47 57 #[.val (.ref x0), .val (.ref x1), .val (.int (0 : Int32)), .val (.int (4 : Int32)), .val .null, .val (.ref r8)] [] t → Steps p.tables e below S0 t := fun t k => p46 t (st47 t k)
    subst hS0
    obtain ⟨fs, hr, hrun, hended, hW, hsame⟩ := X47.leave (v := none) (fun _ => rfl)
    refine ⟨_, _, p54 _ ?_, hrun, hended, _, _, rfl, ?_, ⟨_, rfl⟩, hW, hsame.mono (by decide) (by decide)⟩
    · show own_W p e below m T47 57 #[.val (.ref x0), .val (.ref x1), .val (.int (0 : Int32)), .val (.int (4 : Int32)), .val .null, .val (.ref r8)] [] _
      exact X47.returnOut hx Bd.returns (hb hby di44_57) hr
    · show Qi44 Z x0 x1 kc c0 c1 c2 c3 cs G h0 n0 _ T47.heap _
      rw [e47]
      exact ⟨rfl, N47, KK47, _, _, f48, Or.inr ⟨f53, f52⟩⟩
theorem di14_0 : decode jdk_42_method_3_code 0 = .ok (.aload_n 0, 1) := by decide +kernel
theorem di14_1 : decode jdk_42_method_3_code 1 = .ok (.aload_n 1, 1) := by decide +kernel
theorem di14_2 : decode jdk_42_method_3_code 2 = .ok (.iconst 0, 1) := by decide +kernel
theorem di14_3 : decode jdk_42_method_3_code 3 = .ok (.aload_n 1, 1) := by decide +kernel
theorem di14_4 : decode jdk_42_method_3_code 4 = .ok (.arraylength, 1) := by decide +kernel
theorem di14_5 : decode jdk_42_method_3_code 5 = .ok (.aconst_null, 1) := by decide +kernel
theorem di14_6 : decode jdk_42_method_3_code 6 = .ok (.invokespecial 27, 3) := by decide +kernel
theorem di14_9 : decode jdk_42_method_3_code 9 = .ok (.return_, 1) := by decide +kernel
theorem pni14 : plainName "java/lang/String" = true := by first | (simp [plainName, overriddenIn]; done) | decide +kernel
theorem pdi14_0 : parseMethodDescriptor "([CIILjava/lang/Void;)V" = some ⟨[(.array .char), .int, .int, (.object "java/lang/Void")], none⟩ := by decide +kernel
theorem efi14 (m : MethodId) (x0 : Addr) (x1 : Addr) : entryFrame m #[(.ref x0), (.ref x1)] 2 = mkF m 0 #[.val (.ref x0), .val (.ref x1)] [] := by first | (simp [entryFrame, mkF, argsToLocals, Value.category]; done) | rfl
def Qi14 (Z : State) (x0 : Addr) (x1 : Addr) (kc : ClassId) (c0 : Int32) (c1 : Int32) (c2 : Int32) (c3 : Int32) (cs : Int32) (G : Value) (h0 : Heap) (n0 : Nat) (v : Option Value) (h : Heap) (L : List Loc) : Prop := v = none ∧ Fr n0 L ∧ Keep h0 h [x0] ∧ ∃ (t : Addr) (kk : ClassId), Fld Z h x0 "java/lang/String" "value" "[B" (.ref t) ∧ ((Fld Z h x0 "java/lang/String" "coder" "B" (.int (0 : Int32)) ∧ Arv Z h t kk .byte (4 : Int32) [(.int (own_lo c0)), (.int (own_lo c1)), (.int (own_lo c2)), (.int (own_lo c3))] (.int (0 : Int32)) ∧ ¬ (255 : Int32) < c0 ∧ ¬ (255 : Int32) < c1 ∧ ¬ (255 : Int32) < c2 ∧ ¬ (255 : Int32) < c3) ∨ (Fld Z h x0 "java/lang/String" "coder" "B" (.int (1 : Int32)) ∧ Arv Z h t kk .byte (8 : Int32) [(.int (own_hb c0)), (.int (own_lb c0)), (.int (own_hb c1)), (.int (own_lb c1)), (.int (own_hb c2)), (.int (own_lb c2)), (.int (own_hb c3)), (.int (own_lb c3))] (.int (0 : Int32))))
set_option maxRecDepth 65536 in
set_option maxHeartbeats 40000000 in
theorem rmi14 (l : Launch) (Z : State) (a0 : Array Value) (hw : ∀ d ∈ tables_1, d.before a0 Z = true) (ws : List Jvm.Cond) (x0 : Addr) (x1 : Addr) (kc : ClassId) (c0 : Int32) (c1 : Int32) (c2 : Int32) (c3 : Int32) (cs : Int32) (G : Value) (h0 : Heap) (n0 : Nat) (Z0 : n0 ≤ h0.size) (E0 : Exa Z h0 x0 "java/lang/String") (F1 : Fld Z h0 x0 "java/lang/String" "coder" "B" (.int (0 : Int32))) (F2 : Fld Z h0 x0 "java/lang/String" "value" "[B" .null) (g0 : n0 ≤ x0) (V1 : Arv Z h0 x1 kc .char (4 : Int32) [(.int c0), (.int c1), (.int c2), (.int c3)] (.int (0 : Int32))) (nx : x0 ≠ x1) (ko0 : own_ok c0) (ko1 : own_ok c1) (ko2 : own_ok c2) (ko3 : own_ok c3) (O0 : Old Z n0 h0) (st : own_ST Z cs G) :
    MetFree l (⟨"java/lang/String", "<init>", "([C)V"⟩ : MethodName) (head1 (Jvm.Cond.code (⟨"java/lang/String", "<init>", "([C)V"⟩ : MethodName) jdk_42_method_3_code 2 none :: ws) ({ frames := 5, cells := 2, slots := 12, locals := 74 } : Room)) (fun a U => a = #[(.ref x0), (.ref x1)] ∧ Z.Warmed39 U.vm ∧ U.heap = h0) (fun _ _ _ _ _ => True) (fun _ U o U' => ∃ v L, o = .returned v ∧ Qi14 Z x0 x1 kc c0 c1 c2 c3 cs G h0 n0 v U'.heap L ∧ FrameEnd U o U' L ({ frames := 5, cells := 2, slots := 12, locals := 74 } : Room).cells ({ frames := 5, cells := 2, slots := 12, locals := 74 } : Room).slots) := by
  refine MetFree.of_bodySF (plainFor_of_name pni14) hisR ?_
  intro p e s m args below meth c s₁ Bd hml0 hP hK
  obtain ⟨rfl, hZ, hh⟩ := hP
  have hx := Bd.exec
  have hby := Bd.bytes
  have hml : c.maxLocals = 2 := hml0
  have hown : s.vm.findClass "java/lang/String" = some m.cls := findClass_of_methodNamed Bd.named
  have hnm := (name_of_methodNamed Bd.named Bd.method).1
  have X0 : Stand p l e ({ frames := 5, cells := 2, slots := 12, locals := 74 } : Room) s m #[(.ref x0), (.ref x1)] below meth c s₁ [] 0 0 := Stand.of_body Bd
  have e0 : s₁.heap = h0 := by rw [← hh, Bd.state]; rfl
  have N0 := Fr.nil n0
  have pre0 : ∀ t, Steps p.tables e below (s₁.setTop (mkF m 0 #[.val (.ref x0), .val (.ref x1)] [])) t → Steps p.tables e below (s₁.setTop (entryFrame m #[(.ref x0), (.ref x1)] 2)) t := fun t k => castTop (efi14 m x0 x1) k
  obtain ⟨S0, hS0⟩ : ∃ z, z = (s₁.setTop (entryFrame m #[(.ref x0), (.ref x1)] 2)) := ⟨_, rfl⟩
  rw [← hS0] at pre0
  obtain ⟨sc, hcs, sa, sh, sl, sg, hG⟩ := id st
  have K0 := Keep.refl h0 [x0]
  have p1 : ∀ t, own_W p e below m s₁ 4 #[.val (.ref x0), .val (.ref x1)] [(.ref x1), (.int (0 : Int32)), (.ref x1), (.ref x0)] t → Steps p.tables e below S0 t := fun t k => pre0 t (by
    show own_W p e below m s₁ 0 #[.val (.ref x0), .val (.ref x1)] [] _
    refine XS.aloadN X0.here hx rfl (hb hby di14_0) rfl rfl ?_
    show own_W p e below m s₁ 1 #[.val (.ref x0), .val (.ref x1)] [(.ref x0)] _
    refine XS.aloadN X0.here hx rfl (hb hby di14_1) rfl rfl ?_
    show own_W p e below m s₁ 2 #[.val (.ref x0), .val (.ref x1)] [(.ref x1), (.ref x0)] _
    refine XS.iconst X0.here hx rfl (hb hby di14_2) ?_
    show own_W p e below m s₁ 3 #[.val (.ref x0), .val (.ref x1)] [(.int (0 : Int32)), (.ref x1), (.ref x0)] _
    refine XS.aloadN X0.here hx rfl (hb hby di14_3) rfl rfl ?_
    exact k)
  obtain ⟨cl2, Ar2, -, Sz2, Ng2, -, -⟩ := id V1
  have p3 : ∀ t, own_W p e below m s₁ 6 #[.val (.ref x0), .val (.ref x1)] [.null, (.int (4 : Int32)), (.int (0 : Int32)), (.ref x1), (.ref x0)] t → Steps p.tables e below S0 t := fun t k => p1 t (by
    show own_W p e below m s₁ 4 #[.val (.ref x0), .val (.ref x1)] [(.ref x1), (.int (0 : Int32)), (.ref x1), (.ref x0)] _
    refine X0.arraylength hx (by rw [e0]; exact Ar2.1) (State.isArrayOf_alike hZ.alike Ar2.2.1) (g := (mkF m 4 #[.val (.ref x0), .val (.ref x1)] [(.ref x1), (.int (0 : Int32)), (.ref x1), (.ref x0)])) rfl rfl (hb hby di14_4) _ ?_
    rw [len_of Sz2 Ng2]
    show own_W p e below m s₁ 5 #[.val (.ref x0), .val (.ref x1)] [(.int (4 : Int32)), (.int (0 : Int32)), (.ref x1), (.ref x0)] _
    refine XS.aconstNull X0.here hx rfl (hb hby di14_5) ?_
    exact k)
  obtain ⟨_, _, ⟨T4, L4, k4, n4⟩, -, X4, ⟨Lc4, hQ4, l4, y4, z4⟩, st4⟩ := X0.specialBack hx (y := (⟨"java/lang/String", "<init>", "([CIILjava/lang/Void;)V"⟩ : MethodName)) rfl hown (mvT hZ (hw _ (List.mem_of_getElem? (i := 88) rfl))) (mvT hZ (hw _ (List.mem_of_getElem? (i := 89) rfl))) (mvT hZ (hw _ (List.mem_of_getElem? (i := 90) rfl))) (by decide) (backOf (W := 0) (rmi44 l Z a0 hw [] x0 x1 kc c0 c1 c2 c3 cs G h0 n0 Z0 E0 F1 F2 g0 V1 nx ko0 ko1 ko2 ko3 O0 st) hZ (hw _ (List.mem_of_getElem? (i := 90) rfl)) (hw _ (List.mem_of_getElem? (i := 7) rfl)) (by decide) (by decide)) (g := (mkF m 6 #[.val (.ref x0), .val (.ref x1)] [.null, (.int (4 : Int32)), (.int (0 : Int32)), (.ref x1), (.ref x0)])) rfl (by rw [hml]; rfl) (Steps.refl _) (a := x0) (argsL := [(.ref x1), (.int (0 : Int32)), (.int (4 : Int32)), .null]) (rest := []) (lenOf pdi14_0 rfl) rfl (by show 2 * 0 + _ ≤ _; exact Nat.le_of_eq rfl) (hb hby di14_6) (fun _ _ => ⟨rfl, e0, (by decide : 0 + 2 ≤ _), (by decide : 0 + 12 ≤ _)⟩)
  dsimp only [Pt.U, Pt.locs, Pt.cells, Pt.slots] at X4 l4 y4 z4 st4 hQ4
  subst l4 y4 z4
  obtain ⟨rfl, Nq4, K4, HQ4⟩ := hQ4
  have N4 := Fr.app N0 Nq4
  have f5 := O0.keep K4 (allS g0 (all0))
  have f6 := E0.keep K4
  have f7 := V1.keep K4 (ninS (Ne.symm nx) nin0)
  have Z4 := Nat.le_trans Z0 K4.1
  have KK4 := K0.trans K4 (allS (Or.inl (List.mem_singleton.mpr rfl)) all0)
  have p8 : ∀ t, own_W p e below m T4 9 #[.val (.ref x0), .val (.ref x1)] [] t → Steps p.tables e below S0 t := fun t k => p3 t (st4.trans k)
  subst hS0
  obtain ⟨fs, hr, hrun, hended, hW, hsame⟩ := X4.leave (v := none) (fun _ => rfl)
  refine ⟨_, _, p8 _ ?_, hrun, hended, _, _, rfl, ?_, ⟨_, rfl⟩, hW, hsame.mono (by decide) (by decide)⟩
  · show own_W p e below m T4 9 #[.val (.ref x0), .val (.ref x1)] [] _
    exact X4.returnOut hx Bd.returns (hb hby di14_9) hr
  · show Qi14 Z x0 x1 kc c0 c1 c2 c3 cs G h0 n0 _ T4.heap _
    skip
    exact ⟨rfl, N4, KK4, HQ4⟩
theorem dco0_0 : decode jdk_42_method_152_code 0 = .ok (.getstatic 38, 3) := by decide +kernel
theorem dco0_3 : decode jdk_42_method_152_code 3 = .ok (.ifCond .eq 10, 3) := by decide +kernel
theorem dco0_6 : decode jdk_42_method_152_code 6 = .ok (.aload_n 0, 1) := by decide +kernel
theorem dco0_7 : decode jdk_42_method_152_code 7 = .ok (.getfield 15, 3) := by decide +kernel
theorem dco0_10 : decode jdk_42_method_152_code 10 = .ok (.goto 4, 3) := by decide +kernel
theorem dco0_14 : decode jdk_42_method_152_code 14 = .ok (.ireturn, 1) := by decide +kernel
theorem pnco0 : plainName "java/lang/String" = true := by first | (simp [plainName, overriddenIn]; done) | decide +kernel
theorem efco0 (m : MethodId) (x0 : Addr) : entryFrame m #[(.ref x0)] 1 = mkF m 0 #[.val (.ref x0)] [] := by first | (simp [entryFrame, mkF, argsToLocals, Value.category]; done) | rfl
def Qco0 (Z : State) (x0 : Addr) (cs : Int32) (G : Value) (h0 : Heap) (n0 : Nat) (v : Option Value) (h : Heap) (L : List Loc) : Prop := v = some (.int (0 : Int32)) ∧ Fr n0 L ∧ h = h0
set_option maxRecDepth 65536 in
set_option maxHeartbeats 40000000 in
theorem rmco0 (l : Launch) (Z : State) (a0 : Array Value) (hw : ∀ d ∈ tables_1, d.before a0 Z = true) (ws : List Jvm.Cond) (x0 : Addr) (cs : Int32) (G : Value) (h0 : Heap) (n0 : Nat) (Z0 : n0 ≤ h0.size) (F1 : Fld Z h0 x0 "java/lang/String" "coder" "B" (.int (0 : Int32))) (O0 : Old Z n0 h0) (st : own_ST Z cs G) :
    MetFree l (⟨"java/lang/String", "coder", "()B"⟩ : MethodName) (head1 (Jvm.Cond.code (⟨"java/lang/String", "coder", "()B"⟩ : MethodName) jdk_42_method_152_code 1 (some .byte) :: ws) ({ frames := 0, cells := 0, slots := 0, locals := 0 } : Room)) (fun a U => a = #[(.ref x0)] ∧ Z.Warmed39 U.vm ∧ U.heap = h0) (fun _ _ _ _ _ => True) (fun _ U o U' => ∃ v L, o = .returned v ∧ Qco0 Z x0 cs G h0 n0 v U'.heap L ∧ FrameEnd U o U' L ({ frames := 0, cells := 0, slots := 0, locals := 0 } : Room).cells ({ frames := 0, cells := 0, slots := 0, locals := 0 } : Room).slots) := by
  refine MetFree.of_bodySF (plainFor_of_name pnco0) hisR ?_
  intro p e s m args below meth c s₁ Bd hml0 hP hK
  obtain ⟨rfl, hZ, hh⟩ := hP
  have hx := Bd.exec
  have hby := Bd.bytes
  have hml : c.maxLocals = 1 := hml0
  have hown : s.vm.findClass "java/lang/String" = some m.cls := findClass_of_methodNamed Bd.named
  have hnm := (name_of_methodNamed Bd.named Bd.method).1
  have X0 : Stand p l e ({ frames := 0, cells := 0, slots := 0, locals := 0 } : Room) s m #[(.ref x0)] below meth c s₁ [] 0 0 := Stand.of_body Bd
  have e0 : s₁.heap = h0 := by rw [← hh, Bd.state]; rfl
  have N0 := Fr.nil n0
  have pre0 : ∀ t, Steps p.tables e below (s₁.setTop (mkF m 0 #[.val (.ref x0)] [])) t → Steps p.tables e below (s₁.setTop (entryFrame m #[(.ref x0)] 1)) t := fun t k => castTop (efco0 m x0) k
  obtain ⟨S0, hS0⟩ : ∃ z, z = (s₁.setTop (entryFrame m #[(.ref x0)] 1)) := ⟨_, rfl⟩
  rw [← hS0] at pre0
  obtain ⟨sc, hcs, sa, sh, sl, sg, hG⟩ := id st
  have Sz1 := sc.ext O0.2
  obtain ⟨T1, X1, e1, st1⟩ := getS2 X0 hx hZ hown (host := "") (Or.inl (hw _ (List.mem_of_getElem? (i := 9) rfl))) Via.refl e0 Sz1 (g := (mkF m 0 #[.val (.ref x0)] [])) rfl (hb hby dco0_0)
  have p2 : ∀ t, own_W p e below m T1 3 #[.val (.ref x0)] [(.int cs)] t → Steps p.tables e below S0 t := fun t k => pre0 t (st1 t k)
  have p3 : ∀ t, own_W p e below m T1 7 #[.val (.ref x0)] [(.ref x0)] t → Steps p.tables e below S0 t := fun t k => p2 t (by
    show own_W p e below m T1 3 #[.val (.ref x0)] [(.int cs)] _
    refine XS.ifNo X1.here hx rfl (hb hby dco0_3) rfl ((if0 _ _).trans (feq (hcs)).1) ?_
    show own_W p e below m T1 6 #[.val (.ref x0)] [] _
    refine XS.aloadN X1.here hx rfl (hb hby dco0_6) rfl rfl ?_
    exact k)
  obtain ⟨T4, X4, e4, st4⟩ := getF X1 hx hZ hown (host := "") (Or.inl (hw _ (List.mem_of_getElem? (i := 29) rfl))) Via.refl e1 F1 (g := (mkF m 7 #[.val (.ref x0)] [(.ref x0)])) rfl rfl (hb hby dco0_7)
  have p5 : ∀ t, own_W p e below m T4 10 #[.val (.ref x0)] [(.int (0 : Int32))] t → Steps p.tables e below S0 t := fun t k => p3 t (st4 t k)
  have p6 : ∀ t, own_W p e below m T4 14 #[.val (.ref x0)] [(.int (0 : Int32))] t → Steps p.tables e below S0 t := fun t k => p5 t (by
    show own_W p e below m T4 10 #[.val (.ref x0)] [(.int (0 : Int32))] _
    refine XS.goto X4.here hx rfl (pc0 := 10) (pc' := 14) rfl (hb hby dco0_10) (by decide) (by decide) ?_
    exact k)
  subst hS0
  obtain ⟨fs, hr, hrun, hended, hW, hsame⟩ := X4.leave (v := some (.int (0 : Int32))) (fun h => by rw [Bd.returns] at h; cases h)
  refine ⟨_, _, p6 _ ?_, hrun, hended, _, _, rfl, ?_, ⟨_, rfl⟩, hW, hsame.mono (by decide) (by decide)⟩
  · show own_W p e below m T4 14 #[.val (.ref x0)] [(.int (0 : Int32))] _
    exact retN X4 hx (t := .byte) Bd.returns (by simp) (hb hby dco0_14) hr
  · show Qco0 Z x0 cs G h0 n0 _ T4.heap _
    rw [e4]
    exact ⟨rfl, N0, rfl⟩
theorem dil0_0 : decode jdk_42_method_154_code 0 = .ok (.getstatic 38, 3) := by decide +kernel
theorem dil0_3 : decode jdk_42_method_154_code 3 = .ok (.ifCond .eq 14, 3) := by decide +kernel
theorem dil0_6 : decode jdk_42_method_154_code 6 = .ok (.aload_n 0, 1) := by decide +kernel
theorem dil0_7 : decode jdk_42_method_154_code 7 = .ok (.getfield 15, 3) := by decide +kernel
theorem dil0_10 : decode jdk_42_method_154_code 10 = .ok (.ifCond .ne 7, 3) := by decide +kernel
theorem dil0_13 : decode jdk_42_method_154_code 13 = .ok (.iconst 1, 1) := by decide +kernel
theorem dil0_14 : decode jdk_42_method_154_code 14 = .ok (.goto 4, 3) := by decide +kernel
theorem dil0_18 : decode jdk_42_method_154_code 18 = .ok (.ireturn, 1) := by decide +kernel
theorem pnil0 : plainName "java/lang/String" = true := by first | (simp [plainName, overriddenIn]; done) | decide +kernel
theorem efil0 (m : MethodId) (x0 : Addr) : entryFrame m #[(.ref x0)] 1 = mkF m 0 #[.val (.ref x0)] [] := by first | (simp [entryFrame, mkF, argsToLocals, Value.category]; done) | rfl
def Qil0 (Z : State) (x0 : Addr) (cs : Int32) (G : Value) (h0 : Heap) (n0 : Nat) (v : Option Value) (h : Heap) (L : List Loc) : Prop := v = some (.int (1 : Int32)) ∧ Fr n0 L ∧ h = h0
set_option maxRecDepth 65536 in
set_option maxHeartbeats 40000000 in
theorem rmil0 (l : Launch) (Z : State) (a0 : Array Value) (hw : ∀ d ∈ tables_1, d.before a0 Z = true) (ws : List Jvm.Cond) (x0 : Addr) (cs : Int32) (G : Value) (h0 : Heap) (n0 : Nat) (Z0 : n0 ≤ h0.size) (F1 : Fld Z h0 x0 "java/lang/String" "coder" "B" (.int (0 : Int32))) (O0 : Old Z n0 h0) (st : own_ST Z cs G) :
    MetFree l (⟨"java/lang/String", "isLatin1", "()Z"⟩ : MethodName) (head1 (Jvm.Cond.code (⟨"java/lang/String", "isLatin1", "()Z"⟩ : MethodName) jdk_42_method_154_code 1 (some .boolean) :: ws) ({ frames := 0, cells := 0, slots := 0, locals := 0 } : Room)) (fun a U => a = #[(.ref x0)] ∧ Z.Warmed39 U.vm ∧ U.heap = h0) (fun _ _ _ _ _ => True) (fun _ U o U' => ∃ v L, o = .returned v ∧ Qil0 Z x0 cs G h0 n0 v U'.heap L ∧ FrameEnd U o U' L ({ frames := 0, cells := 0, slots := 0, locals := 0 } : Room).cells ({ frames := 0, cells := 0, slots := 0, locals := 0 } : Room).slots) := by
  refine MetFree.of_bodySF (plainFor_of_name pnil0) hisR ?_
  intro p e s m args below meth c s₁ Bd hml0 hP hK
  obtain ⟨rfl, hZ, hh⟩ := hP
  have hx := Bd.exec
  have hby := Bd.bytes
  have hml : c.maxLocals = 1 := hml0
  have hown : s.vm.findClass "java/lang/String" = some m.cls := findClass_of_methodNamed Bd.named
  have hnm := (name_of_methodNamed Bd.named Bd.method).1
  have X0 : Stand p l e ({ frames := 0, cells := 0, slots := 0, locals := 0 } : Room) s m #[(.ref x0)] below meth c s₁ [] 0 0 := Stand.of_body Bd
  have e0 : s₁.heap = h0 := by rw [← hh, Bd.state]; rfl
  have N0 := Fr.nil n0
  have pre0 : ∀ t, Steps p.tables e below (s₁.setTop (mkF m 0 #[.val (.ref x0)] [])) t → Steps p.tables e below (s₁.setTop (entryFrame m #[(.ref x0)] 1)) t := fun t k => castTop (efil0 m x0) k
  obtain ⟨S0, hS0⟩ : ∃ z, z = (s₁.setTop (entryFrame m #[(.ref x0)] 1)) := ⟨_, rfl⟩
  rw [← hS0] at pre0
  obtain ⟨sc, hcs, sa, sh, sl, sg, hG⟩ := id st
  have Sz1 := sc.ext O0.2
  obtain ⟨T1, X1, e1, st1⟩ := getS2 X0 hx hZ hown (host := "") (Or.inl (hw _ (List.mem_of_getElem? (i := 9) rfl))) Via.refl e0 Sz1 (g := (mkF m 0 #[.val (.ref x0)] [])) rfl (hb hby dil0_0)
  have p2 : ∀ t, own_W p e below m T1 3 #[.val (.ref x0)] [(.int cs)] t → Steps p.tables e below S0 t := fun t k => pre0 t (st1 t k)
  have p3 : ∀ t, own_W p e below m T1 7 #[.val (.ref x0)] [(.ref x0)] t → Steps p.tables e below S0 t := fun t k => p2 t (by
    show own_W p e below m T1 3 #[.val (.ref x0)] [(.int cs)] _
    refine XS.ifNo X1.here hx rfl (hb hby dil0_3) rfl ((if0 _ _).trans (feq (hcs)).1) ?_
    show own_W p e below m T1 6 #[.val (.ref x0)] [] _
    refine XS.aloadN X1.here hx rfl (hb hby dil0_6) rfl rfl ?_
    exact k)
  obtain ⟨T4, X4, e4, st4⟩ := getF X1 hx hZ hown (host := "") (Or.inl (hw _ (List.mem_of_getElem? (i := 29) rfl))) Via.refl e1 F1 (g := (mkF m 7 #[.val (.ref x0)] [(.ref x0)])) rfl rfl (hb hby dil0_7)
  have p5 : ∀ t, own_W p e below m T4 10 #[.val (.ref x0)] [(.int (0 : Int32))] t → Steps p.tables e below S0 t := fun t k => p3 t (st4 t k)
  have p6 : ∀ t, own_W p e below m T4 18 #[.val (.ref x0)] [(.int (1 : Int32))] t → Steps p.tables e below S0 t := fun t k => p5 t (by
    show own_W p e below m T4 10 #[.val (.ref x0)] [(.int (0 : Int32))] _
    refine XS.ifNo X4.here hx rfl (hb hby dil0_10) rfl ((if0 _ _).trans (teq (rfl)).2) ?_
    show own_W p e below m T4 13 #[.val (.ref x0)] [] _
    refine XS.iconst X4.here hx rfl (hb hby dil0_13) ?_
    show own_W p e below m T4 14 #[.val (.ref x0)] [(.int (1 : Int32))] _
    refine XS.goto X4.here hx rfl (pc0 := 14) (pc' := 18) rfl (hb hby dil0_14) (by decide) (by decide) ?_
    exact k)
  subst hS0
  obtain ⟨fs, hr, hrun, hended, hW, hsame⟩ := X4.leave (v := some (.int (1 : Int32))) (fun h => by rw [Bd.returns] at h; cases h)
  refine ⟨_, _, p6 _ ?_, hrun, hended, _, _, rfl, ?_, ⟨_, rfl⟩, hW, hsame.mono (by decide) (by decide)⟩
  · show own_W p e below m T4 18 #[.val (.ref x0)] [(.int (1 : Int32))] _
    exact retN X4 hx (t := .boolean) Bd.returns (by simp) (hb hby dil0_18) hr
  · show Qil0 Z x0 cs G h0 n0 _ T4.heap _
    rw [e4]
    exact ⟨rfl, N0, rfl⟩
theorem dco1_0 : decode jdk_42_method_152_code 0 = .ok (.getstatic 38, 3) := by decide +kernel
theorem dco1_3 : decode jdk_42_method_152_code 3 = .ok (.ifCond .eq 10, 3) := by decide +kernel
theorem dco1_6 : decode jdk_42_method_152_code 6 = .ok (.aload_n 0, 1) := by decide +kernel
theorem dco1_7 : decode jdk_42_method_152_code 7 = .ok (.getfield 15, 3) := by decide +kernel
theorem dco1_10 : decode jdk_42_method_152_code 10 = .ok (.goto 4, 3) := by decide +kernel
theorem dco1_14 : decode jdk_42_method_152_code 14 = .ok (.ireturn, 1) := by decide +kernel
theorem pnco1 : plainName "java/lang/String" = true := by first | (simp [plainName, overriddenIn]; done) | decide +kernel
theorem efco1 (m : MethodId) (x0 : Addr) : entryFrame m #[(.ref x0)] 1 = mkF m 0 #[.val (.ref x0)] [] := by first | (simp [entryFrame, mkF, argsToLocals, Value.category]; done) | rfl
def Qco1 (Z : State) (x0 : Addr) (cs : Int32) (G : Value) (h0 : Heap) (n0 : Nat) (v : Option Value) (h : Heap) (L : List Loc) : Prop := v = some (.int (1 : Int32)) ∧ Fr n0 L ∧ h = h0
set_option maxRecDepth 65536 in
set_option maxHeartbeats 40000000 in
theorem rmco1 (l : Launch) (Z : State) (a0 : Array Value) (hw : ∀ d ∈ tables_1, d.before a0 Z = true) (ws : List Jvm.Cond) (x0 : Addr) (cs : Int32) (G : Value) (h0 : Heap) (n0 : Nat) (Z0 : n0 ≤ h0.size) (F1 : Fld Z h0 x0 "java/lang/String" "coder" "B" (.int (1 : Int32))) (O0 : Old Z n0 h0) (st : own_ST Z cs G) :
    MetFree l (⟨"java/lang/String", "coder", "()B"⟩ : MethodName) (head1 (Jvm.Cond.code (⟨"java/lang/String", "coder", "()B"⟩ : MethodName) jdk_42_method_152_code 1 (some .byte) :: ws) ({ frames := 0, cells := 0, slots := 0, locals := 0 } : Room)) (fun a U => a = #[(.ref x0)] ∧ Z.Warmed39 U.vm ∧ U.heap = h0) (fun _ _ _ _ _ => True) (fun _ U o U' => ∃ v L, o = .returned v ∧ Qco1 Z x0 cs G h0 n0 v U'.heap L ∧ FrameEnd U o U' L ({ frames := 0, cells := 0, slots := 0, locals := 0 } : Room).cells ({ frames := 0, cells := 0, slots := 0, locals := 0 } : Room).slots) := by
  refine MetFree.of_bodySF (plainFor_of_name pnco1) hisR ?_
  intro p e s m args below meth c s₁ Bd hml0 hP hK
  obtain ⟨rfl, hZ, hh⟩ := hP
  have hx := Bd.exec
  have hby := Bd.bytes
  have hml : c.maxLocals = 1 := hml0
  have hown : s.vm.findClass "java/lang/String" = some m.cls := findClass_of_methodNamed Bd.named
  have hnm := (name_of_methodNamed Bd.named Bd.method).1
  have X0 : Stand p l e ({ frames := 0, cells := 0, slots := 0, locals := 0 } : Room) s m #[(.ref x0)] below meth c s₁ [] 0 0 := Stand.of_body Bd
  have e0 : s₁.heap = h0 := by rw [← hh, Bd.state]; rfl
  have N0 := Fr.nil n0
  have pre0 : ∀ t, Steps p.tables e below (s₁.setTop (mkF m 0 #[.val (.ref x0)] [])) t → Steps p.tables e below (s₁.setTop (entryFrame m #[(.ref x0)] 1)) t := fun t k => castTop (efco1 m x0) k
  obtain ⟨S0, hS0⟩ : ∃ z, z = (s₁.setTop (entryFrame m #[(.ref x0)] 1)) := ⟨_, rfl⟩
  rw [← hS0] at pre0
  obtain ⟨sc, hcs, sa, sh, sl, sg, hG⟩ := id st
  have Sz1 := sc.ext O0.2
  obtain ⟨T1, X1, e1, st1⟩ := getS2 X0 hx hZ hown (host := "") (Or.inl (hw _ (List.mem_of_getElem? (i := 9) rfl))) Via.refl e0 Sz1 (g := (mkF m 0 #[.val (.ref x0)] [])) rfl (hb hby dco1_0)
  have p2 : ∀ t, own_W p e below m T1 3 #[.val (.ref x0)] [(.int cs)] t → Steps p.tables e below S0 t := fun t k => pre0 t (st1 t k)
  have p3 : ∀ t, own_W p e below m T1 7 #[.val (.ref x0)] [(.ref x0)] t → Steps p.tables e below S0 t := fun t k => p2 t (by
    show own_W p e below m T1 3 #[.val (.ref x0)] [(.int cs)] _
    refine XS.ifNo X1.here hx rfl (hb hby dco1_3) rfl ((if0 _ _).trans (feq (hcs)).1) ?_
    show own_W p e below m T1 6 #[.val (.ref x0)] [] _
    refine XS.aloadN X1.here hx rfl (hb hby dco1_6) rfl rfl ?_
    exact k)
  obtain ⟨T4, X4, e4, st4⟩ := getF X1 hx hZ hown (host := "") (Or.inl (hw _ (List.mem_of_getElem? (i := 29) rfl))) Via.refl e1 F1 (g := (mkF m 7 #[.val (.ref x0)] [(.ref x0)])) rfl rfl (hb hby dco1_7)
  have p5 : ∀ t, own_W p e below m T4 10 #[.val (.ref x0)] [(.int (1 : Int32))] t → Steps p.tables e below S0 t := fun t k => p3 t (st4 t k)
  have p6 : ∀ t, own_W p e below m T4 14 #[.val (.ref x0)] [(.int (1 : Int32))] t → Steps p.tables e below S0 t := fun t k => p5 t (by
    show own_W p e below m T4 10 #[.val (.ref x0)] [(.int (1 : Int32))] _
    refine XS.goto X4.here hx rfl (pc0 := 10) (pc' := 14) rfl (hb hby dco1_10) (by decide) (by decide) ?_
    exact k)
  subst hS0
  obtain ⟨fs, hr, hrun, hended, hW, hsame⟩ := X4.leave (v := some (.int (1 : Int32))) (fun h => by rw [Bd.returns] at h; cases h)
  refine ⟨_, _, p6 _ ?_, hrun, hended, _, _, rfl, ?_, ⟨_, rfl⟩, hW, hsame.mono (by decide) (by decide)⟩
  · show own_W p e below m T4 14 #[.val (.ref x0)] [(.int (1 : Int32))] _
    exact retN X4 hx (t := .byte) Bd.returns (by simp) (hb hby dco1_14) hr
  · show Qco1 Z x0 cs G h0 n0 _ T4.heap _
    rw [e4]
    exact ⟨rfl, N0, rfl⟩
theorem dil1_0 : decode jdk_42_method_154_code 0 = .ok (.getstatic 38, 3) := by decide +kernel
theorem dil1_3 : decode jdk_42_method_154_code 3 = .ok (.ifCond .eq 14, 3) := by decide +kernel
theorem dil1_6 : decode jdk_42_method_154_code 6 = .ok (.aload_n 0, 1) := by decide +kernel
theorem dil1_7 : decode jdk_42_method_154_code 7 = .ok (.getfield 15, 3) := by decide +kernel
theorem dil1_10 : decode jdk_42_method_154_code 10 = .ok (.ifCond .ne 7, 3) := by decide +kernel
theorem dil1_17 : decode jdk_42_method_154_code 17 = .ok (.iconst 0, 1) := by decide +kernel
theorem dil1_18 : decode jdk_42_method_154_code 18 = .ok (.ireturn, 1) := by decide +kernel
theorem pnil1 : plainName "java/lang/String" = true := by first | (simp [plainName, overriddenIn]; done) | decide +kernel
theorem efil1 (m : MethodId) (x0 : Addr) : entryFrame m #[(.ref x0)] 1 = mkF m 0 #[.val (.ref x0)] [] := by first | (simp [entryFrame, mkF, argsToLocals, Value.category]; done) | rfl
def Qil1 (Z : State) (x0 : Addr) (cs : Int32) (G : Value) (h0 : Heap) (n0 : Nat) (v : Option Value) (h : Heap) (L : List Loc) : Prop := v = some (.int (0 : Int32)) ∧ Fr n0 L ∧ h = h0
set_option maxRecDepth 65536 in
set_option maxHeartbeats 40000000 in
theorem rmil1 (l : Launch) (Z : State) (a0 : Array Value) (hw : ∀ d ∈ tables_1, d.before a0 Z = true) (ws : List Jvm.Cond) (x0 : Addr) (cs : Int32) (G : Value) (h0 : Heap) (n0 : Nat) (Z0 : n0 ≤ h0.size) (F1 : Fld Z h0 x0 "java/lang/String" "coder" "B" (.int (1 : Int32))) (O0 : Old Z n0 h0) (st : own_ST Z cs G) :
    MetFree l (⟨"java/lang/String", "isLatin1", "()Z"⟩ : MethodName) (head1 (Jvm.Cond.code (⟨"java/lang/String", "isLatin1", "()Z"⟩ : MethodName) jdk_42_method_154_code 1 (some .boolean) :: ws) ({ frames := 0, cells := 0, slots := 0, locals := 0 } : Room)) (fun a U => a = #[(.ref x0)] ∧ Z.Warmed39 U.vm ∧ U.heap = h0) (fun _ _ _ _ _ => True) (fun _ U o U' => ∃ v L, o = .returned v ∧ Qil1 Z x0 cs G h0 n0 v U'.heap L ∧ FrameEnd U o U' L ({ frames := 0, cells := 0, slots := 0, locals := 0 } : Room).cells ({ frames := 0, cells := 0, slots := 0, locals := 0 } : Room).slots) := by
  refine MetFree.of_bodySF (plainFor_of_name pnil1) hisR ?_
  intro p e s m args below meth c s₁ Bd hml0 hP hK
  obtain ⟨rfl, hZ, hh⟩ := hP
  have hx := Bd.exec
  have hby := Bd.bytes
  have hml : c.maxLocals = 1 := hml0
  have hown : s.vm.findClass "java/lang/String" = some m.cls := findClass_of_methodNamed Bd.named
  have hnm := (name_of_methodNamed Bd.named Bd.method).1
  have X0 : Stand p l e ({ frames := 0, cells := 0, slots := 0, locals := 0 } : Room) s m #[(.ref x0)] below meth c s₁ [] 0 0 := Stand.of_body Bd
  have e0 : s₁.heap = h0 := by rw [← hh, Bd.state]; rfl
  have N0 := Fr.nil n0
  have pre0 : ∀ t, Steps p.tables e below (s₁.setTop (mkF m 0 #[.val (.ref x0)] [])) t → Steps p.tables e below (s₁.setTop (entryFrame m #[(.ref x0)] 1)) t := fun t k => castTop (efil1 m x0) k
  obtain ⟨S0, hS0⟩ : ∃ z, z = (s₁.setTop (entryFrame m #[(.ref x0)] 1)) := ⟨_, rfl⟩
  rw [← hS0] at pre0
  obtain ⟨sc, hcs, sa, sh, sl, sg, hG⟩ := id st
  have Sz1 := sc.ext O0.2
  obtain ⟨T1, X1, e1, st1⟩ := getS2 X0 hx hZ hown (host := "") (Or.inl (hw _ (List.mem_of_getElem? (i := 9) rfl))) Via.refl e0 Sz1 (g := (mkF m 0 #[.val (.ref x0)] [])) rfl (hb hby dil1_0)
  have p2 : ∀ t, own_W p e below m T1 3 #[.val (.ref x0)] [(.int cs)] t → Steps p.tables e below S0 t := fun t k => pre0 t (st1 t k)
  have p3 : ∀ t, own_W p e below m T1 7 #[.val (.ref x0)] [(.ref x0)] t → Steps p.tables e below S0 t := fun t k => p2 t (by
    show own_W p e below m T1 3 #[.val (.ref x0)] [(.int cs)] _
    refine XS.ifNo X1.here hx rfl (hb hby dil1_3) rfl ((if0 _ _).trans (feq (hcs)).1) ?_
    show own_W p e below m T1 6 #[.val (.ref x0)] [] _
    refine XS.aloadN X1.here hx rfl (hb hby dil1_6) rfl rfl ?_
    exact k)
  obtain ⟨T4, X4, e4, st4⟩ := getF X1 hx hZ hown (host := "") (Or.inl (hw _ (List.mem_of_getElem? (i := 29) rfl))) Via.refl e1 F1 (g := (mkF m 7 #[.val (.ref x0)] [(.ref x0)])) rfl rfl (hb hby dil1_7)
  have p5 : ∀ t, own_W p e below m T4 10 #[.val (.ref x0)] [(.int (1 : Int32))] t → Steps p.tables e below S0 t := fun t k => p3 t (st4 t k)
  have p6 : ∀ t, own_W p e below m T4 18 #[.val (.ref x0)] [(.int (0 : Int32))] t → Steps p.tables e below S0 t := fun t k => p5 t (by
    show own_W p e below m T4 10 #[.val (.ref x0)] [(.int (1 : Int32))] _
    refine XS.ifYes X4.here hx rfl (pc0 := 10) (pc' := 17) rfl (hb hby dil1_10) rfl ((if0 _ _).trans (feq (by decide)).2) (by decide) (by decide) ?_
    show own_W p e below m T4 17 #[.val (.ref x0)] [] _
    refine XS.iconst X4.here hx rfl (hb hby dil1_17) ?_
    exact k)
  subst hS0
  obtain ⟨fs, hr, hrun, hended, hW, hsame⟩ := X4.leave (v := some (.int (0 : Int32))) (fun h => by rw [Bd.returns] at h; cases h)
  refine ⟨_, _, p6 _ ?_, hrun, hended, _, _, rfl, ?_, ⟨_, rfl⟩, hW, hsame.mono (by decide) (by decide)⟩
  · show own_W p e below m T4 18 #[.val (.ref x0)] [(.int (0 : Int32))] _
    exact retN X4 hx (t := .boolean) Bd.returns (by simp) (hb hby dil1_18) hr
  · show Qil1 Z x0 cs G h0 n0 _ T4.heap _
    rw [e4]
    exact ⟨rfl, N0, rfl⟩
theorem dii_0 : decode jdk_89_method_89_code 0 = .ok (.iload_n 0, 1) := by decide +kernel
theorem dii_1 : decode jdk_89_method_89_code 1 = .ok (.sipush 159, 3) := by decide +kernel
theorem dii_4 : decode jdk_89_method_89_code 4 = .ok (.if_icmp .gt 19, 3) := by decide +kernel
theorem dii_7 : decode jdk_89_method_89_code 7 = .ok (.iload_n 0, 1) := by decide +kernel
theorem dii_8 : decode jdk_89_method_89_code 8 = .ok (.bipush 127, 2) := by decide +kernel
theorem dii_10 : decode jdk_89_method_89_code 10 = .ok (.if_icmp .ge 9, 3) := by decide +kernel
theorem dii_13 : decode jdk_89_method_89_code 13 = .ok (.iload_n 0, 1) := by decide +kernel
theorem dii_14 : decode jdk_89_method_89_code 14 = .ok (.iconst 5, 1) := by decide +kernel
theorem dii_15 : decode jdk_89_method_89_code 15 = .ok (.iushr, 1) := by decide +kernel
theorem dii_16 : decode jdk_89_method_89_code 16 = .ok (.ifCond .ne 7, 3) := by decide +kernel
theorem dii_23 : decode jdk_89_method_89_code 23 = .ok (.iconst 0, 1) := by decide +kernel
theorem dii_24 : decode jdk_89_method_89_code 24 = .ok (.ireturn, 1) := by decide +kernel
theorem pnii : plainName "java/lang/Character" = true := by first | (simp [plainName, overriddenIn]; done) | decide +kernel
theorem efii (m : MethodId) (x0 : Int32) : entryFrame m #[(.int x0)] 1 = mkF m 0 #[.val (.int x0)] [] := by first | (simp [entryFrame, mkF, argsToLocals, Value.category]; done) | rfl
def Qii (Z : State) (x0 : Int32) (h0 : Heap) (n0 : Nat) (v : Option Value) (h : Heap) (L : List Loc) : Prop := v = some (.int (0 : Int32)) ∧ Fr n0 L ∧ h = h0
set_option maxRecDepth 65536 in
set_option maxHeartbeats 40000000 in
theorem rmii (l : Launch) (Z : State) (a0 : Array Value) (hw : ∀ d ∈ tables_1, d.before a0 Z = true) (ws : List Jvm.Cond) (x0 : Int32) (h0 : Heap) (n0 : Nat) (Z0 : n0 ≤ h0.size) (kx : own_ok x0) :
    MetFree l (⟨"java/lang/Character", "isISOControl", "(I)Z"⟩ : MethodName) (head1 (Jvm.Cond.code (⟨"java/lang/Character", "isISOControl", "(I)Z"⟩ : MethodName) jdk_89_method_89_code 1 (some .boolean) :: ws) ({ frames := 0, cells := 0, slots := 0, locals := 0 } : Room)) (fun a U => a = #[(.int x0)] ∧ Z.Warmed39 U.vm ∧ U.heap = h0) (fun _ _ _ _ _ => True) (fun _ U o U' => ∃ v L, o = .returned v ∧ Qii Z x0 h0 n0 v U'.heap L ∧ FrameEnd U o U' L ({ frames := 0, cells := 0, slots := 0, locals := 0 } : Room).cells ({ frames := 0, cells := 0, slots := 0, locals := 0 } : Room).slots) := by
  refine MetFree.of_bodySF (plainFor_of_name pnii) hisR ?_
  intro p e s m args below meth c s₁ Bd hml0 hP hK
  obtain ⟨rfl, hZ, hh⟩ := hP
  have hx := Bd.exec
  have hby := Bd.bytes
  have hml : c.maxLocals = 1 := hml0
  have hown : s.vm.findClass "java/lang/Character" = some m.cls := findClass_of_methodNamed Bd.named
  have hnm := (name_of_methodNamed Bd.named Bd.method).1
  have X0 : Stand p l e ({ frames := 0, cells := 0, slots := 0, locals := 0 } : Room) s m #[(.int x0)] below meth c s₁ [] 0 0 := Stand.of_body Bd
  have e0 : s₁.heap = h0 := by rw [← hh, Bd.state]; rfl
  have N0 := Fr.nil n0
  have pre0 : ∀ t, Steps p.tables e below (s₁.setTop (mkF m 0 #[.val (.int x0)] [])) t → Steps p.tables e below (s₁.setTop (entryFrame m #[(.int x0)] 1)) t := fun t k => castTop (efii m x0) k
  obtain ⟨S0, hS0⟩ : ∃ z, z = (s₁.setTop (entryFrame m #[(.int x0)] 1)) := ⟨_, rfl⟩
  rw [← hS0] at pre0
  have p1 : ∀ t, own_W p e below m s₁ 4 #[.val (.int x0)] [(.int (159 : Int32)), (.int x0)] t → Steps p.tables e below S0 t := fun t k => pre0 t (by
    show own_W p e below m s₁ 0 #[.val (.int x0)] [] _
    refine XS.iloadN X0.here hx rfl (hb hby dii_0) rfl ?_
    show own_W p e below m s₁ 1 #[.val (.int x0)] [(.int x0)] _
    refine XS.sipush X0.here hx rfl (hb hby dii_1) ?_
    exact k)
  by_cases hc4 : (159 : Int32) < x0
  · have p2 : ∀ t, own_W p e below m s₁ 24 #[.val (.int x0)] [(.int (0 : Int32))] t → Steps p.tables e below S0 t := fun t k => p1 t (by
      show own_W p e below m s₁ 4 #[.val (.int x0)] [(.int (159 : Int32)), (.int x0)] _
      refine XS.icmpYes X0.here hx rfl (pc0 := 4) (pc' := 23) rfl (hb hby dii_4) rfl ((tlt (hc4)).2.2.1) (by decide) (by decide) ?_
      show own_W p e below m s₁ 23 #[.val (.int x0)] [] _
      refine XS.iconst X0.here hx rfl (hb hby dii_23) ?_
      exact k)
    subst hS0
    obtain ⟨fs, hr, hrun, hended, hW, hsame⟩ := X0.leave (v := some (.int (0 : Int32))) (fun h => by rw [Bd.returns] at h; cases h)
    refine ⟨_, _, p2 _ ?_, hrun, hended, _, _, rfl, ?_, ⟨_, rfl⟩, hW, hsame.mono (by decide) (by decide)⟩
    · show own_W p e below m s₁ 24 #[.val (.int x0)] [(.int (0 : Int32))] _
      exact retN X0 hx (t := .boolean) Bd.returns (by simp) (hb hby dii_24) hr
    · show Qii Z x0 h0 n0 _ s₁.heap _
      rw [e0]
      exact ⟨rfl, N0, rfl⟩
  · have p3 : ∀ t, own_W p e below m s₁ 24 #[.val (.int x0)] [(.int (0 : Int32))] t → Steps p.tables e below S0 t := fun t k => p1 t (by
      show own_W p e below m s₁ 4 #[.val (.int x0)] [(.int (159 : Int32)), (.int x0)] _
      refine XS.icmpNo X0.here hx rfl (hb hby dii_4) rfl ((flt (hc4)).2.2.1) ?_
      show own_W p e below m s₁ 7 #[.val (.int x0)] [] _
      refine XS.iloadN X0.here hx rfl (hb hby dii_7) rfl ?_
      show own_W p e below m s₁ 8 #[.val (.int x0)] [(.int x0)] _
      refine XS.bipush X0.here hx rfl (hb hby dii_8) ?_
      show own_W p e below m s₁ 10 #[.val (.int x0)] [(.int (127 : Int32)), (.int x0)] _
      refine XS.icmpNo X0.here hx rfl (hb hby dii_10) rfl ((tlt (own_iso1 kx hc4)).2.1) ?_
      show own_W p e below m s₁ 13 #[.val (.int x0)] [] _
      refine XS.iloadN X0.here hx rfl (hb hby dii_13) rfl ?_
      show own_W p e below m s₁ 14 #[.val (.int x0)] [(.int x0)] _
      refine XS.iconst X0.here hx rfl (hb hby dii_14) ?_
      show own_W p e below m s₁ 15 #[.val (.int x0)] [(.int (5 : Int32)), (.int x0)] _
      refine XS.iushr X0.here hx rfl (hb hby dii_15) rfl ?_
      show own_W p e below m s₁ 16 #[.val (.int x0)] [(.int ((x0.toUInt32 >>> ((5 : Int32) &&& 31).toUInt32).toInt32))] _
      refine XS.ifYes X0.here hx rfl (pc0 := 16) (pc' := 23) rfl (hb hby dii_16) rfl ((if0 _ _).trans (feq (own_iso2 kx hc4)).2) (by decide) (by decide) ?_
      show own_W p e below m s₁ 23 #[.val (.int x0)] [] _
      refine XS.iconst X0.here hx rfl (hb hby dii_23) ?_
      exact k)
    subst hS0
    obtain ⟨fs, hr, hrun, hended, hW, hsame⟩ := X0.leave (v := some (.int (0 : Int32))) (fun h => by rw [Bd.returns] at h; cases h)
    refine ⟨_, _, p3 _ ?_, hrun, hended, _, _, rfl, ?_, ⟨_, rfl⟩, hW, hsame.mono (by decide) (by decide)⟩
    · show own_W p e below m s₁ 24 #[.val (.int x0)] [(.int (0 : Int32))] _
      exact retN X0 hx (t := .boolean) Bd.returns (by simp) (hb hby dii_24) hr
    · show Qii Z x0 h0 n0 _ s₁.heap _
      rw [e0]
      exact ⟨rfl, N0, rfl⟩
theorem dic_0 : decode jdk_89_method_88_code 0 = .ok (.iload_n 0, 1) := by decide +kernel
theorem dic_1 : decode jdk_89_method_88_code 1 = .ok (.invokestatic 266, 3) := by decide +kernel
theorem dic_4 : decode jdk_89_method_88_code 4 = .ok (.ireturn, 1) := by decide +kernel
theorem pnic : plainName "java/lang/Character" = true := by first | (simp [plainName, overriddenIn]; done) | decide +kernel
theorem pdic_0 : parseMethodDescriptor "(I)Z" = some ⟨[.int], some .boolean⟩ := by decide +kernel
theorem efic (m : MethodId) (x0 : Int32) : entryFrame m #[(.int x0)] 1 = mkF m 0 #[.val (.int x0)] [] := by first | (simp [entryFrame, mkF, argsToLocals, Value.category]; done) | rfl
def Qic (Z : State) (x0 : Int32) (h0 : Heap) (n0 : Nat) (v : Option Value) (h : Heap) (L : List Loc) : Prop := v = some (.int (0 : Int32)) ∧ Fr n0 L ∧ h = h0
set_option maxRecDepth 65536 in
set_option maxHeartbeats 40000000 in
theorem rmic (l : Launch) (Z : State) (a0 : Array Value) (hw : ∀ d ∈ tables_1, d.before a0 Z = true) (ws : List Jvm.Cond) (x0 : Int32) (h0 : Heap) (n0 : Nat) (Z0 : n0 ≤ h0.size) (kx : own_ok x0) :
    MetFree l (⟨"java/lang/Character", "isISOControl", "(C)Z"⟩ : MethodName) (head1 (Jvm.Cond.code (⟨"java/lang/Character", "isISOControl", "(C)Z"⟩ : MethodName) jdk_89_method_88_code 1 (some .boolean) :: ws) ({ frames := 1, cells := 0, slots := 0, locals := 12 } : Room)) (fun a U => a = #[(.int x0)] ∧ Z.Warmed39 U.vm ∧ U.heap = h0) (fun _ _ _ _ _ => True) (fun _ U o U' => ∃ v L, o = .returned v ∧ Qic Z x0 h0 n0 v U'.heap L ∧ FrameEnd U o U' L ({ frames := 1, cells := 0, slots := 0, locals := 12 } : Room).cells ({ frames := 1, cells := 0, slots := 0, locals := 12 } : Room).slots) := by
  refine MetFree.of_bodySF (plainFor_of_name pnic) hisR ?_
  intro p e s m args below meth c s₁ Bd hml0 hP hK
  obtain ⟨rfl, hZ, hh⟩ := hP
  have hx := Bd.exec
  have hby := Bd.bytes
  have hml : c.maxLocals = 1 := hml0
  have hown : s.vm.findClass "java/lang/Character" = some m.cls := findClass_of_methodNamed Bd.named
  have hnm := (name_of_methodNamed Bd.named Bd.method).1
  have X0 : Stand p l e ({ frames := 1, cells := 0, slots := 0, locals := 12 } : Room) s m #[(.int x0)] below meth c s₁ [] 0 0 := Stand.of_body Bd
  have e0 : s₁.heap = h0 := by rw [← hh, Bd.state]; rfl
  have N0 := Fr.nil n0
  have pre0 : ∀ t, Steps p.tables e below (s₁.setTop (mkF m 0 #[.val (.int x0)] [])) t → Steps p.tables e below (s₁.setTop (entryFrame m #[(.int x0)] 1)) t := fun t k => castTop (efic m x0) k
  obtain ⟨S0, hS0⟩ : ∃ z, z = (s₁.setTop (entryFrame m #[(.int x0)] 1)) := ⟨_, rfl⟩
  rw [← hS0] at pre0
  have p1 : ∀ t, own_W p e below m s₁ 1 #[.val (.int x0)] [(.int x0)] t → Steps p.tables e below S0 t := fun t k => pre0 t (by
    show own_W p e below m s₁ 0 #[.val (.int x0)] [] _
    refine XS.iloadN X0.here hx rfl (hb hby dic_0) rfl ?_
    exact k)
  obtain ⟨_, _, ⟨T2, L2, k2, n2⟩, -, X2, ⟨Lc2, hQ2, l2, y2, z2⟩, st2⟩ := Jvm.LawKit.callS X0 hx (y := (⟨"java/lang/Character", "isISOControl", "(I)Z"⟩ : MethodName)) hown (mvT hZ (hw _ (List.mem_of_getElem? (i := 75) rfl))) (mvT hZ (hw _ (List.mem_of_getElem? (i := 76) rfl))) (mvT hZ (hw _ (List.mem_of_getElem? (i := 73) rfl))) (mvT hZ (hw _ (List.mem_of_getElem? (i := 77) rfl))) (by decide) (backOf (W := 0) (rmii l Z a0 hw [] x0  h0 n0 Z0 kx) hZ (hw _ (List.mem_of_getElem? (i := 77) rfl)) (hw _ (List.mem_of_getElem? (i := 73) rfl)) (by decide) (by decide)) (g := (mkF m 1 #[.val (.int x0)] [(.int x0)])) rfl (by rw [hml]; rfl) (argsL := [(.int x0)]) (rest := []) (lenOf pdic_0 rfl) rfl (by show 2 * 0 + _ ≤ _; exact Nat.le_of_eq rfl) (hb hby dic_1) (fun _ _ => ⟨rfl, e0, (by decide : 0 + 0 ≤ _), (by decide : 0 + 0 ≤ _)⟩)
  dsimp only [Pt.U, Pt.locs, Pt.cells, Pt.slots] at X2 l2 y2 z2 st2 hQ2
  subst l2 y2 z2
  obtain ⟨rfl, Nq2, e2⟩ := hQ2
  have N2 := Fr.app N0 Nq2
  have p3 : ∀ t, own_W p e below m T2 4 #[.val (.int x0)] [(.int (0 : Int32))] t → Steps p.tables e below S0 t := fun t k => p1 t (st2 _ k)
  subst hS0
  obtain ⟨fs, hr, hrun, hended, hW, hsame⟩ := X2.leave (v := some (.int (0 : Int32))) (fun h => by rw [Bd.returns] at h; cases h)
  refine ⟨_, _, p3 _ ?_, hrun, hended, _, _, rfl, ?_, ⟨_, rfl⟩, hW, hsame.mono (by decide) (by decide)⟩
  · show own_W p e below m T2 4 #[.val (.int x0)] [(.int (0 : Int32))] _
    exact retN X2 hx (t := .boolean) Bd.returns (by simp) (hb hby dic_4) hr
  · show Qic Z x0 h0 n0 _ T2.heap _
    rw [e2]
    exact ⟨rfl, N2, rfl⟩
theorem dpn_0 : decode jdk_41_method_11_code 0 = .ok (.iload_n 0, 1) := by decide +kernel
theorem dpn_1 : decode jdk_41_method_11_code 1 = .ok (.ifCond .lt 8, 3) := by decide +kernel
theorem dpn_4 : decode jdk_41_method_11_code 4 = .ok (.iload_n 0, 1) := by decide +kernel
theorem dpn_5 : decode jdk_41_method_11_code 5 = .ok (.iload_n 1, 1) := by decide +kernel
theorem dpn_6 : decode jdk_41_method_11_code 6 = .ok (.if_icmp .lt 10, 3) := by decide +kernel
theorem dpn_16 : decode jdk_41_method_11_code 16 = .ok (.iload_n 0, 1) := by decide +kernel
theorem dpn_17 : decode jdk_41_method_11_code 17 = .ok (.ireturn, 1) := by decide +kernel
theorem pnpn : plainName "jdk/internal/util/Preconditions" = true := by first | (simp [plainName, overriddenIn]; done) | decide +kernel
theorem efpn (m : MethodId) (x0 : Int32) (x1 : Int32) : entryFrame m #[(.int x0), (.int x1), .null] 3 = mkF m 0 #[.val (.int x0), .val (.int x1), .val .null] [] := by first | (simp [entryFrame, mkF, argsToLocals, Value.category]; done) | rfl
def Qpn (Z : State) (x0 : Int32) (x1 : Int32) (h0 : Heap) (n0 : Nat) (v : Option Value) (h : Heap) (L : List Loc) : Prop := v = some (.int x0) ∧ Fr n0 L ∧ h = h0
set_option maxRecDepth 65536 in
set_option maxHeartbeats 40000000 in
theorem rmpn (l : Launch) (Z : State) (a0 : Array Value) (hw : ∀ d ∈ tables_1, d.before a0 Z = true) (ws : List Jvm.Cond) (x0 : Int32) (x1 : Int32) (h0 : Heap) (n0 : Nat) (Z0 : n0 ≤ h0.size) (jj : (¬ x0 < 0 ∧ x0 < x1)) :
    MetFree l (⟨"jdk/internal/util/Preconditions", "checkIndex", "(IILjava/util/function/BiFunction;)I"⟩ : MethodName) (head1 (Jvm.Cond.code (⟨"jdk/internal/util/Preconditions", "checkIndex", "(IILjava/util/function/BiFunction;)I"⟩ : MethodName) jdk_41_method_11_code 3 (some .int) :: ws) ({ frames := 0, cells := 0, slots := 0, locals := 0 } : Room)) (fun a U => a = #[(.int x0), (.int x1), .null] ∧ Z.Warmed39 U.vm ∧ U.heap = h0) (fun _ _ _ _ _ => True) (fun _ U o U' => ∃ v L, o = .returned v ∧ Qpn Z x0 x1 h0 n0 v U'.heap L ∧ FrameEnd U o U' L ({ frames := 0, cells := 0, slots := 0, locals := 0 } : Room).cells ({ frames := 0, cells := 0, slots := 0, locals := 0 } : Room).slots) := by
  refine MetFree.of_bodySF (plainFor_of_name pnpn) hisR ?_
  intro p e s m args below meth c s₁ Bd hml0 hP hK
  obtain ⟨rfl, hZ, hh⟩ := hP
  have hx := Bd.exec
  have hby := Bd.bytes
  have hml : c.maxLocals = 3 := hml0
  have hown : s.vm.findClass "jdk/internal/util/Preconditions" = some m.cls := findClass_of_methodNamed Bd.named
  have hnm := (name_of_methodNamed Bd.named Bd.method).1
  have X0 : Stand p l e ({ frames := 0, cells := 0, slots := 0, locals := 0 } : Room) s m #[(.int x0), (.int x1), .null] below meth c s₁ [] 0 0 := Stand.of_body Bd
  have e0 : s₁.heap = h0 := by rw [← hh, Bd.state]; rfl
  have N0 := Fr.nil n0
  have pre0 : ∀ t, Steps p.tables e below (s₁.setTop (mkF m 0 #[.val (.int x0), .val (.int x1), .val .null] [])) t → Steps p.tables e below (s₁.setTop (entryFrame m #[(.int x0), (.int x1), .null] 3)) t := fun t k => castTop (efpn m x0 x1) k
  obtain ⟨S0, hS0⟩ : ∃ z, z = (s₁.setTop (entryFrame m #[(.int x0), (.int x1), .null] 3)) := ⟨_, rfl⟩
  rw [← hS0] at pre0
  have p1 : ∀ t, own_W p e below m s₁ 17 #[.val (.int x0), .val (.int x1), .val .null] [(.int x0)] t → Steps p.tables e below S0 t := fun t k => pre0 t (by
    show own_W p e below m s₁ 0 #[.val (.int x0), .val (.int x1), .val .null] [] _
    refine XS.iloadN X0.here hx rfl (hb hby dpn_0) rfl ?_
    show own_W p e below m s₁ 1 #[.val (.int x0), .val (.int x1), .val .null] [(.int x0)] _
    refine XS.ifNo X0.here hx rfl (hb hby dpn_1) rfl ((if0 _ _).trans (flt (jj.1)).1) ?_
    show own_W p e below m s₁ 4 #[.val (.int x0), .val (.int x1), .val .null] [] _
    refine XS.iloadN X0.here hx rfl (hb hby dpn_4) rfl ?_
    show own_W p e below m s₁ 5 #[.val (.int x0), .val (.int x1), .val .null] [(.int x0)] _
    refine XS.iloadN X0.here hx rfl (hb hby dpn_5) rfl ?_
    show own_W p e below m s₁ 6 #[.val (.int x0), .val (.int x1), .val .null] [(.int x1), (.int x0)] _
    refine XS.icmpYes X0.here hx rfl (pc0 := 6) (pc' := 16) rfl (hb hby dpn_6) rfl ((tlt (jj.2)).1) (by decide) (by decide) ?_
    show own_W p e below m s₁ 16 #[.val (.int x0), .val (.int x1), .val .null] [] _
    refine XS.iloadN X0.here hx rfl (hb hby dpn_16) rfl ?_
    exact k)
  subst hS0
  obtain ⟨fs, hr, hrun, hended, hW, hsame⟩ := X0.leave (v := some (.int x0)) (fun h => by rw [Bd.returns] at h; cases h)
  refine ⟨_, _, p1 _ ?_, hrun, hended, _, _, rfl, ?_, ⟨_, rfl⟩, hW, hsame.mono (by decide) (by decide)⟩
  · show own_W p e below m s₁ 17 #[.val (.int x0), .val (.int x1), .val .null] [(.int x0)] _
    exact retI X0 hx Bd.returns (hb hby dpn_17) hr
  · show Qpn Z x0 x1 h0 n0 _ s₁.heap _
    rw [e0]
    exact ⟨rfl, N0, rfl⟩
theorem dpr_0 : decode jdk_41_method_11_code 0 = .ok (.iload_n 0, 1) := by decide +kernel
theorem dpr_1 : decode jdk_41_method_11_code 1 = .ok (.ifCond .lt 8, 3) := by decide +kernel
theorem dpr_4 : decode jdk_41_method_11_code 4 = .ok (.iload_n 0, 1) := by decide +kernel
theorem dpr_5 : decode jdk_41_method_11_code 5 = .ok (.iload_n 1, 1) := by decide +kernel
theorem dpr_6 : decode jdk_41_method_11_code 6 = .ok (.if_icmp .lt 10, 3) := by decide +kernel
theorem dpr_16 : decode jdk_41_method_11_code 16 = .ok (.iload_n 0, 1) := by decide +kernel
theorem dpr_17 : decode jdk_41_method_11_code 17 = .ok (.ireturn, 1) := by decide +kernel
theorem pnpr : plainName "jdk/internal/util/Preconditions" = true := by first | (simp [plainName, overriddenIn]; done) | decide +kernel
theorem efpr (m : MethodId) (x0 : Int32) (x1 : Int32) (x2 : Addr) : entryFrame m #[(.int x0), (.int x1), (.ref x2)] 3 = mkF m 0 #[.val (.int x0), .val (.int x1), .val (.ref x2)] [] := by first | (simp [entryFrame, mkF, argsToLocals, Value.category]; done) | rfl
def Qpr (Z : State) (x0 : Int32) (x1 : Int32) (x2 : Addr) (h0 : Heap) (n0 : Nat) (v : Option Value) (h : Heap) (L : List Loc) : Prop := v = some (.int x0) ∧ Fr n0 L ∧ h = h0
set_option maxRecDepth 65536 in
set_option maxHeartbeats 40000000 in
theorem rmpr (l : Launch) (Z : State) (a0 : Array Value) (hw : ∀ d ∈ tables_1, d.before a0 Z = true) (ws : List Jvm.Cond) (x0 : Int32) (x1 : Int32) (x2 : Addr) (h0 : Heap) (n0 : Nat) (Z0 : n0 ≤ h0.size) (jj : (¬ x0 < 0 ∧ x0 < x1)) :
    MetFree l (⟨"jdk/internal/util/Preconditions", "checkIndex", "(IILjava/util/function/BiFunction;)I"⟩ : MethodName) (head1 (Jvm.Cond.code (⟨"jdk/internal/util/Preconditions", "checkIndex", "(IILjava/util/function/BiFunction;)I"⟩ : MethodName) jdk_41_method_11_code 3 (some .int) :: ws) ({ frames := 0, cells := 0, slots := 0, locals := 0 } : Room)) (fun a U => a = #[(.int x0), (.int x1), (.ref x2)] ∧ Z.Warmed39 U.vm ∧ U.heap = h0) (fun _ _ _ _ _ => True) (fun _ U o U' => ∃ v L, o = .returned v ∧ Qpr Z x0 x1 x2 h0 n0 v U'.heap L ∧ FrameEnd U o U' L ({ frames := 0, cells := 0, slots := 0, locals := 0 } : Room).cells ({ frames := 0, cells := 0, slots := 0, locals := 0 } : Room).slots) := by
  refine MetFree.of_bodySF (plainFor_of_name pnpr) hisR ?_
  intro p e s m args below meth c s₁ Bd hml0 hP hK
  obtain ⟨rfl, hZ, hh⟩ := hP
  have hx := Bd.exec
  have hby := Bd.bytes
  have hml : c.maxLocals = 3 := hml0
  have hown : s.vm.findClass "jdk/internal/util/Preconditions" = some m.cls := findClass_of_methodNamed Bd.named
  have hnm := (name_of_methodNamed Bd.named Bd.method).1
  have X0 : Stand p l e ({ frames := 0, cells := 0, slots := 0, locals := 0 } : Room) s m #[(.int x0), (.int x1), (.ref x2)] below meth c s₁ [] 0 0 := Stand.of_body Bd
  have e0 : s₁.heap = h0 := by rw [← hh, Bd.state]; rfl
  have N0 := Fr.nil n0
  have pre0 : ∀ t, Steps p.tables e below (s₁.setTop (mkF m 0 #[.val (.int x0), .val (.int x1), .val (.ref x2)] [])) t → Steps p.tables e below (s₁.setTop (entryFrame m #[(.int x0), (.int x1), (.ref x2)] 3)) t := fun t k => castTop (efpr m x0 x1 x2) k
  obtain ⟨S0, hS0⟩ : ∃ z, z = (s₁.setTop (entryFrame m #[(.int x0), (.int x1), (.ref x2)] 3)) := ⟨_, rfl⟩
  rw [← hS0] at pre0
  have p1 : ∀ t, own_W p e below m s₁ 17 #[.val (.int x0), .val (.int x1), .val (.ref x2)] [(.int x0)] t → Steps p.tables e below S0 t := fun t k => pre0 t (by
    show own_W p e below m s₁ 0 #[.val (.int x0), .val (.int x1), .val (.ref x2)] [] _
    refine XS.iloadN X0.here hx rfl (hb hby dpr_0) rfl ?_
    show own_W p e below m s₁ 1 #[.val (.int x0), .val (.int x1), .val (.ref x2)] [(.int x0)] _
    refine XS.ifNo X0.here hx rfl (hb hby dpr_1) rfl ((if0 _ _).trans (flt (jj.1)).1) ?_
    show own_W p e below m s₁ 4 #[.val (.int x0), .val (.int x1), .val (.ref x2)] [] _
    refine XS.iloadN X0.here hx rfl (hb hby dpr_4) rfl ?_
    show own_W p e below m s₁ 5 #[.val (.int x0), .val (.int x1), .val (.ref x2)] [(.int x0)] _
    refine XS.iloadN X0.here hx rfl (hb hby dpr_5) rfl ?_
    show own_W p e below m s₁ 6 #[.val (.int x0), .val (.int x1), .val (.ref x2)] [(.int x1), (.int x0)] _
    refine XS.icmpYes X0.here hx rfl (pc0 := 6) (pc' := 16) rfl (hb hby dpr_6) rfl ((tlt (jj.2)).1) (by decide) (by decide) ?_
    show own_W p e below m s₁ 16 #[.val (.int x0), .val (.int x1), .val (.ref x2)] [] _
    refine XS.iloadN X0.here hx rfl (hb hby dpr_16) rfl ?_
    exact k)
  subst hS0
  obtain ⟨fs, hr, hrun, hended, hW, hsame⟩ := X0.leave (v := some (.int x0)) (fun h => by rw [Bd.returns] at h; cases h)
  refine ⟨_, _, p1 _ ?_, hrun, hended, _, _, rfl, ?_, ⟨_, rfl⟩, hW, hsame.mono (by decide) (by decide)⟩
  · show own_W p e below m s₁ 17 #[.val (.int x0), .val (.int x1), .val (.ref x2)] [(.int x0)] _
    exact retI X0 hx Bd.returns (hb hby dpr_17) hr
  · show Qpr Z x0 x1 x2 h0 n0 _ s₁.heap _
    rw [e0]
    exact ⟨rfl, N0, rfl⟩
theorem dci_0 : decode jdk_42_method_155_code 0 = .ok (.iload_n 0, 1) := by decide +kernel
theorem dci_1 : decode jdk_42_method_155_code 1 = .ok (.iload_n 1, 1) := by decide +kernel
theorem dci_2 : decode jdk_42_method_155_code 2 = .ok (.getstatic 1053, 3) := by decide +kernel
theorem dci_5 : decode jdk_42_method_155_code 5 = .ok (.invokestatic 1059, 3) := by decide +kernel
theorem dci_8 : decode jdk_42_method_155_code 8 = .ok (.pop, 1) := by decide +kernel
theorem dci_9 : decode jdk_42_method_155_code 9 = .ok (.return_, 1) := by decide +kernel
theorem pnci : plainName "java/lang/String" = true := by first | (simp [plainName, overriddenIn]; done) | decide +kernel
theorem pdci_0 : parseMethodDescriptor "(IILjava/util/function/BiFunction;)I" = some ⟨[.int, .int, (.object "java/util/function/BiFunction")], some .int⟩ := by decide +kernel
theorem efci (m : MethodId) (x0 : Int32) (x1 : Int32) : entryFrame m #[(.int x0), (.int x1)] 2 = mkF m 0 #[.val (.int x0), .val (.int x1)] [] := by first | (simp [entryFrame, mkF, argsToLocals, Value.category]; done) | rfl
def Qci (Z : State) (x0 : Int32) (x1 : Int32) (cs : Int32) (G : Value) (h0 : Heap) (n0 : Nat) (v : Option Value) (h : Heap) (L : List Loc) : Prop := v = none ∧ Fr n0 L ∧ h = h0
set_option maxRecDepth 65536 in
set_option maxHeartbeats 40000000 in
theorem rmci (l : Launch) (Z : State) (a0 : Array Value) (hw : ∀ d ∈ tables_1, d.before a0 Z = true) (ws : List Jvm.Cond) (x0 : Int32) (x1 : Int32) (cs : Int32) (G : Value) (h0 : Heap) (n0 : Nat) (Z0 : n0 ≤ h0.size) (jj : (¬ x0 < 0 ∧ x0 < x1)) (O0 : Old Z n0 h0) (st : own_ST Z cs G) :
    MetFree l (⟨"java/lang/String", "checkIndex", "(II)V"⟩ : MethodName) (head1 (Jvm.Cond.code (⟨"java/lang/String", "checkIndex", "(II)V"⟩ : MethodName) jdk_42_method_155_code 2 none :: ws) ({ frames := 1, cells := 0, slots := 0, locals := 14 } : Room)) (fun a U => a = #[(.int x0), (.int x1)] ∧ Z.Warmed39 U.vm ∧ U.heap = h0) (fun _ _ _ _ _ => True) (fun _ U o U' => ∃ v L, o = .returned v ∧ Qci Z x0 x1 cs G h0 n0 v U'.heap L ∧ FrameEnd U o U' L ({ frames := 1, cells := 0, slots := 0, locals := 14 } : Room).cells ({ frames := 1, cells := 0, slots := 0, locals := 14 } : Room).slots) := by
  refine MetFree.of_bodySF (plainFor_of_name pnci) hisR ?_
  intro p e s m args below meth c s₁ Bd hml0 hP hK
  obtain ⟨rfl, hZ, hh⟩ := hP
  have hx := Bd.exec
  have hby := Bd.bytes
  have hml : c.maxLocals = 2 := hml0
  have hown : s.vm.findClass "java/lang/String" = some m.cls := findClass_of_methodNamed Bd.named
  have hnm := (name_of_methodNamed Bd.named Bd.method).1
  have X0 : Stand p l e ({ frames := 1, cells := 0, slots := 0, locals := 14 } : Room) s m #[(.int x0), (.int x1)] below meth c s₁ [] 0 0 := Stand.of_body Bd
  have e0 : s₁.heap = h0 := by rw [← hh, Bd.state]; rfl
  have N0 := Fr.nil n0
  have pre0 : ∀ t, Steps p.tables e below (s₁.setTop (mkF m 0 #[.val (.int x0), .val (.int x1)] [])) t → Steps p.tables e below (s₁.setTop (entryFrame m #[(.int x0), (.int x1)] 2)) t := fun t k => castTop (efci m x0 x1) k
  obtain ⟨S0, hS0⟩ : ∃ z, z = (s₁.setTop (entryFrame m #[(.int x0), (.int x1)] 2)) := ⟨_, rfl⟩
  rw [← hS0] at pre0
  obtain ⟨sc, hcs, sa, sh, sl, sg, hG⟩ := id st
  rcases ref_cases hG with hgn | ⟨gf, hgn⟩
  · have S_g := sg.ext O0.2
    rw [hgn] at S_g
    have p1 : ∀ t, own_W p e below m s₁ 2 #[.val (.int x0), .val (.int x1)] [(.int x1), (.int x0)] t → Steps p.tables e below S0 t := fun t k => pre0 t (by
      show own_W p e below m s₁ 0 #[.val (.int x0), .val (.int x1)] [] _
      refine XS.iloadN X0.here hx rfl (hb hby dci_0) rfl ?_
      show own_W p e below m s₁ 1 #[.val (.int x0), .val (.int x1)] [(.int x0)] _
      refine XS.iloadN X0.here hx rfl (hb hby dci_1) rfl ?_
      exact k)
    obtain ⟨T2, X2, e2, st2⟩ := getS2 X0 hx hZ hown (host := "") (Or.inl (hw _ (List.mem_of_getElem? (i := 66) rfl))) Via.refl e0 S_g (g := (mkF m 2 #[.val (.int x0), .val (.int x1)] [(.int x1), (.int x0)])) rfl (hb hby dci_2)
    have p3 : ∀ t, own_W p e below m T2 5 #[.val (.int x0), .val (.int x1)] [.null, (.int x1), (.int x0)] t → Steps p.tables e below S0 t := fun t k => p1 t (st2 t k)
    obtain ⟨_, _, ⟨T4, L4, k4, n4⟩, -, X4, ⟨Lc4, hQ4, l4, y4, z4⟩, st4⟩ := Jvm.LawKit.callS X2 hx (y := (⟨"jdk/internal/util/Preconditions", "checkIndex", "(IILjava/util/function/BiFunction;)I"⟩ : MethodName)) hown (mvT hZ (hw _ (List.mem_of_getElem? (i := 68) rfl))) (mvT hZ (hw _ (List.mem_of_getElem? (i := 69) rfl))) (mvT hZ (hw _ (List.mem_of_getElem? (i := 67) rfl))) (mvT hZ (hw _ (List.mem_of_getElem? (i := 70) rfl))) (by decide) (backOf (W := 0) (rmpn l Z a0 hw [] x0 x1  h0 n0 Z0 jj) hZ (hw _ (List.mem_of_getElem? (i := 70) rfl)) (hw _ (List.mem_of_getElem? (i := 67) rfl)) (by decide) (by decide)) (g := (mkF m 5 #[.val (.int x0), .val (.int x1)] [.null, (.int x1), (.int x0)])) rfl (by rw [hml]; rfl) (argsL := [(.int x0), (.int x1), .null]) (rest := []) (lenOf pdci_0 rfl) rfl (by show 2 * 0 + _ ≤ _; exact Nat.le_of_eq rfl) (hb hby dci_5) (fun _ _ => ⟨rfl, e2, (by decide : 0 + 0 ≤ _), (by decide : 0 + 0 ≤ _)⟩)
    dsimp only [Pt.U, Pt.locs, Pt.cells, Pt.slots] at X4 l4 y4 z4 st4 hQ4
    subst l4 y4 z4
    obtain ⟨rfl, Nq4, e4⟩ := hQ4
    have N4 := Fr.app N0 Nq4
    have p5 : ∀ t, own_W p e below m T4 8 #[.val (.int x0), .val (.int x1)] [(.int x0)] t → Steps p.tables e below S0 t := fun t k => p3 t (st4 _ k)
    have p6 : ∀ t, own_W p e below m T4 9 #[.val (.int x0), .val (.int x1)] [] t → Steps p.tables e below S0 t := fun t k => p5 t (by
      show own_W p e below m T4 8 #[.val (.int x0), .val (.int x1)] [(.int x0)] _
      refine XS.pop X4.here hx rfl (hb hby dci_8) rfl rfl ?_
      exact k)
    subst hS0
    obtain ⟨fs, hr, hrun, hended, hW, hsame⟩ := X4.leave (v := none) (fun _ => rfl)
    refine ⟨_, _, p6 _ ?_, hrun, hended, _, _, rfl, ?_, ⟨_, rfl⟩, hW, hsame.mono (by decide) (by decide)⟩
    · show own_W p e below m T4 9 #[.val (.int x0), .val (.int x1)] [] _
      exact X4.returnOut hx Bd.returns (hb hby dci_9) hr
    · show Qci Z x0 x1 cs G h0 n0 _ T4.heap _
      rw [e4]
      exact ⟨rfl, N4, rfl⟩
  · have S_g := sg.ext O0.2
    rw [hgn] at S_g
    have p7 : ∀ t, own_W p e below m s₁ 2 #[.val (.int x0), .val (.int x1)] [(.int x1), (.int x0)] t → Steps p.tables e below S0 t := fun t k => pre0 t (by
      show own_W p e below m s₁ 0 #[.val (.int x0), .val (.int x1)] [] _
      refine XS.iloadN X0.here hx rfl (hb hby dci_0) rfl ?_
      show own_W p e below m s₁ 1 #[.val (.int x0), .val (.int x1)] [(.int x0)] _
      refine XS.iloadN X0.here hx rfl (hb hby dci_1) rfl ?_
      exact k)
    obtain ⟨T8, X8, e8, st8⟩ := getS2 X0 hx hZ hown (host := "") (Or.inl (hw _ (List.mem_of_getElem? (i := 66) rfl))) Via.refl e0 S_g (g := (mkF m 2 #[.val (.int x0), .val (.int x1)] [(.int x1), (.int x0)])) rfl (hb hby dci_2)
    have p9 : ∀ t, own_W p e below m T8 5 #[.val (.int x0), .val (.int x1)] [(.ref gf), (.int x1), (.int x0)] t → Steps p.tables e below S0 t := fun t k => p7 t (st8 t k)
    obtain ⟨_, _, ⟨T10, L10, k10, n10⟩, -, X10, ⟨Lc10, hQ10, l10, y10, z10⟩, st10⟩ := Jvm.LawKit.callS X8 hx (y := (⟨"jdk/internal/util/Preconditions", "checkIndex", "(IILjava/util/function/BiFunction;)I"⟩ : MethodName)) hown (mvT hZ (hw _ (List.mem_of_getElem? (i := 68) rfl))) (mvT hZ (hw _ (List.mem_of_getElem? (i := 69) rfl))) (mvT hZ (hw _ (List.mem_of_getElem? (i := 67) rfl))) (mvT hZ (hw _ (List.mem_of_getElem? (i := 70) rfl))) (by decide) (backOf (W := 0) (rmpr l Z a0 hw [] x0 x1 gf  h0 n0 Z0 jj) hZ (hw _ (List.mem_of_getElem? (i := 70) rfl)) (hw _ (List.mem_of_getElem? (i := 67) rfl)) (by decide) (by decide)) (g := (mkF m 5 #[.val (.int x0), .val (.int x1)] [(.ref gf), (.int x1), (.int x0)])) rfl (by rw [hml]; rfl) (argsL := [(.int x0), (.int x1), (.ref gf)]) (rest := []) (lenOf pdci_0 rfl) rfl (by show 2 * 0 + _ ≤ _; exact Nat.le_of_eq rfl) (hb hby dci_5) (fun _ _ => ⟨rfl, e8, (by decide : 0 + 0 ≤ _), (by decide : 0 + 0 ≤ _)⟩)
    dsimp only [Pt.U, Pt.locs, Pt.cells, Pt.slots] at X10 l10 y10 z10 st10 hQ10
    subst l10 y10 z10
    obtain ⟨rfl, Nq10, e10⟩ := hQ10
    have N10 := Fr.app N0 Nq10
    have p11 : ∀ t, own_W p e below m T10 8 #[.val (.int x0), .val (.int x1)] [(.int x0)] t → Steps p.tables e below S0 t := fun t k => p9 t (st10 _ k)
    have p12 : ∀ t, own_W p e below m T10 9 #[.val (.int x0), .val (.int x1)] [] t → Steps p.tables e below S0 t := fun t k => p11 t (by
      show own_W p e below m T10 8 #[.val (.int x0), .val (.int x1)] [(.int x0)] _
      refine XS.pop X10.here hx rfl (hb hby dci_8) rfl rfl ?_
      exact k)
    subst hS0
    obtain ⟨fs, hr, hrun, hended, hW, hsame⟩ := X10.leave (v := none) (fun _ => rfl)
    refine ⟨_, _, p12 _ ?_, hrun, hended, _, _, rfl, ?_, ⟨_, rfl⟩, hW, hsame.mono (by decide) (by decide)⟩
    · show own_W p e below m T10 9 #[.val (.int x0), .val (.int x1)] [] _
      exact X10.returnOut hx Bd.returns (hb hby dci_9) hr
    · show Qci Z x0 x1 cs G h0 n0 _ T10.heap _
      rw [e10]
      exact ⟨rfl, N10, rfl⟩
theorem dlc_0 : decode jdk_43_method_2_code 0 = .ok (.iload_n 1, 1) := by decide +kernel
theorem dlc_1 : decode jdk_43_method_2_code 1 = .ok (.aload_n 0, 1) := by decide +kernel
theorem dlc_2 : decode jdk_43_method_2_code 2 = .ok (.arraylength, 1) := by decide +kernel
theorem dlc_3 : decode jdk_43_method_2_code 3 = .ok (.invokestatic 9, 3) := by decide +kernel
theorem dlc_6 : decode jdk_43_method_2_code 6 = .ok (.aload_n 0, 1) := by decide +kernel
theorem dlc_7 : decode jdk_43_method_2_code 7 = .ok (.iload_n 1, 1) := by decide +kernel
theorem dlc_8 : decode jdk_43_method_2_code 8 = .ok (.baload, 1) := by decide +kernel
theorem dlc_9 : decode jdk_43_method_2_code 9 = .ok (.sipush 255, 3) := by decide +kernel
theorem dlc_12 : decode jdk_43_method_2_code 12 = .ok (.iand, 1) := by decide +kernel
theorem dlc_13 : decode jdk_43_method_2_code 13 = .ok (.i2c, 1) := by decide +kernel
theorem dlc_14 : decode jdk_43_method_2_code 14 = .ok (.ireturn, 1) := by decide +kernel
theorem pnlc : plainName "java/lang/StringLatin1" = true := by first | (simp [plainName, overriddenIn]; done) | decide +kernel
theorem pdlc_0 : parseMethodDescriptor "(II)V" = some ⟨[.int, .int], none⟩ := by decide +kernel
theorem eflc (m : MethodId) (x0 : Addr) (x1 : Int32) : entryFrame m #[(.ref x0), (.int x1)] 2 = mkF m 0 #[.val (.ref x0), .val (.int x1)] [] := by first | (simp [entryFrame, mkF, argsToLocals, Value.category]; done) | rfl
def Qlc (Z : State) (x0 : Addr) (x1 : Int32) (kb : ClassId) (N : Int32) (vs : List Value) (ch : Int32) (cs : Int32) (G : Value) (h0 : Heap) (n0 : Nat) (v : Option Value) (h : Heap) (L : List Loc) : Prop := v = some (.int ch) ∧ Fr n0 L ∧ h = h0
set_option maxRecDepth 65536 in
set_option maxHeartbeats 40000000 in
theorem rmlc (l : Launch) (Z : State) (a0 : Array Value) (hw : ∀ d ∈ tables_1, d.before a0 Z = true) (ws : List Jvm.Cond) (x0 : Addr) (x1 : Int32) (kb : ClassId) (N : Int32) (vs : List Value) (ch : Int32) (cs : Int32) (G : Value) (h0 : Heap) (n0 : Nat) (Z0 : n0 ≤ h0.size) (V0 : Arv Z h0 x0 kb .byte N vs (.int (0 : Int32))) (jj : (¬ x1 < 0 ∧ x1 < N)) (uu : (vs : List Value).getD (x1).toNatClampNeg (.int (0 : Int32)) = (.int (own_lo ch))) (ki : own_ok ch) (li : ¬ (255 : Int32) < ch) (O0 : Old Z n0 h0) (st : own_ST Z cs G) :
    MetFree l (⟨"java/lang/StringLatin1", "charAt", "([BI)C"⟩ : MethodName) (head1 (Jvm.Cond.code (⟨"java/lang/StringLatin1", "charAt", "([BI)C"⟩ : MethodName) jdk_43_method_2_code 2 (some .char) :: ws) ({ frames := 2, cells := 0, slots := 0, locals := 27 } : Room)) (fun a U => a = #[(.ref x0), (.int x1)] ∧ Z.Warmed39 U.vm ∧ U.heap = h0) (fun _ _ _ _ _ => True) (fun _ U o U' => ∃ v L, o = .returned v ∧ Qlc Z x0 x1 kb N vs ch cs G h0 n0 v U'.heap L ∧ FrameEnd U o U' L ({ frames := 2, cells := 0, slots := 0, locals := 27 } : Room).cells ({ frames := 2, cells := 0, slots := 0, locals := 27 } : Room).slots) := by
  refine MetFree.of_bodySF (plainFor_of_name pnlc) hisR ?_
  intro p e s m args below meth c s₁ Bd hml0 hP hK
  obtain ⟨rfl, hZ, hh⟩ := hP
  have hx := Bd.exec
  have hby := Bd.bytes
  have hml : c.maxLocals = 2 := hml0
  have hown : s.vm.findClass "java/lang/StringLatin1" = some m.cls := findClass_of_methodNamed Bd.named
  have hnm := (name_of_methodNamed Bd.named Bd.method).1
  have X0 : Stand p l e ({ frames := 2, cells := 0, slots := 0, locals := 27 } : Room) s m #[(.ref x0), (.int x1)] below meth c s₁ [] 0 0 := Stand.of_body Bd
  have e0 : s₁.heap = h0 := by rw [← hh, Bd.state]; rfl
  have N0 := Fr.nil n0
  have pre0 : ∀ t, Steps p.tables e below (s₁.setTop (mkF m 0 #[.val (.ref x0), .val (.int x1)] [])) t → Steps p.tables e below (s₁.setTop (entryFrame m #[(.ref x0), (.int x1)] 2)) t := fun t k => castTop (eflc m x0 x1) k
  obtain ⟨S0, hS0⟩ : ∃ z, z = (s₁.setTop (entryFrame m #[(.ref x0), (.int x1)] 2)) := ⟨_, rfl⟩
  rw [← hS0] at pre0
  obtain ⟨sc, hcs, sa, sh, sl, sg, hG⟩ := id st
  have p1 : ∀ t, own_W p e below m s₁ 2 #[.val (.ref x0), .val (.int x1)] [(.ref x0), (.int x1)] t → Steps p.tables e below S0 t := fun t k => pre0 t (by
    show own_W p e below m s₁ 0 #[.val (.ref x0), .val (.int x1)] [] _
    refine XS.iloadN X0.here hx rfl (hb hby dlc_0) rfl ?_
    show own_W p e below m s₁ 1 #[.val (.ref x0), .val (.int x1)] [(.int x1)] _
    refine XS.aloadN X0.here hx rfl (hb hby dlc_1) rfl rfl ?_
    exact k)
  obtain ⟨cl2, Ar2, -, Sz2, Ng2, -, -⟩ := id V0
  have p3 : ∀ t, own_W p e below m s₁ 3 #[.val (.ref x0), .val (.int x1)] [(.int N), (.int x1)] t → Steps p.tables e below S0 t := fun t k => p1 t (by
    show own_W p e below m s₁ 2 #[.val (.ref x0), .val (.int x1)] [(.ref x0), (.int x1)] _
    refine X0.arraylength hx (by rw [e0]; exact Ar2.1) (State.isArrayOf_alike hZ.alike Ar2.2.1) (g := (mkF m 2 #[.val (.ref x0), .val (.int x1)] [(.ref x0), (.int x1)])) rfl rfl (hb hby dlc_2) _ ?_
    rw [len_of Sz2 Ng2]
    exact k)
  obtain ⟨_, _, ⟨T4, L4, k4, n4⟩, -, X4, ⟨Lc4, hQ4, l4, y4, z4⟩, st4⟩ := Jvm.LawKit.callS X0 hx (y := (⟨"java/lang/String", "checkIndex", "(II)V"⟩ : MethodName)) hown (mvT hZ (hw _ (List.mem_of_getElem? (i := 63) rfl))) (mvT hZ (hw _ (List.mem_of_getElem? (i := 64) rfl))) (mvT hZ (hw _ (List.mem_of_getElem? (i := 7) rfl))) (mvT hZ (hw _ (List.mem_of_getElem? (i := 65) rfl))) (by decide) (backOf (W := 0) (rmci l Z a0 hw [] x1 N cs G h0 n0 Z0 jj O0 st) hZ (hw _ (List.mem_of_getElem? (i := 65) rfl)) (hw _ (List.mem_of_getElem? (i := 7) rfl)) (by decide) (by decide)) (g := (mkF m 3 #[.val (.ref x0), .val (.int x1)] [(.int N), (.int x1)])) rfl (by rw [hml]; rfl) (argsL := [(.int x1), (.int N)]) (rest := []) (lenOf pdlc_0 rfl) rfl (by show 2 * 0 + _ ≤ _; exact Nat.le_of_eq rfl) (hb hby dlc_3) (fun _ _ => ⟨rfl, e0, (by decide : 0 + 0 ≤ _), (by decide : 0 + 0 ≤ _)⟩)
  dsimp only [Pt.U, Pt.locs, Pt.cells, Pt.slots] at X4 l4 y4 z4 st4 hQ4
  subst l4 y4 z4
  obtain ⟨rfl, Nq4, e4⟩ := hQ4
  have N4 := Fr.app N0 Nq4
  have p5 : ∀ t, own_W p e below m T4 6 #[.val (.ref x0), .val (.int x1)] [] t → Steps p.tables e below S0 t := fun t k => p3 t (st4 _ k)
  have p6 : ∀ t, own_W p e below m T4 8 #[.val (.ref x0), .val (.int x1)] [(.int x1), (.ref x0)] t → Steps p.tables e below S0 t := fun t k => p5 t (by
    show own_W p e below m T4 6 #[.val (.ref x0), .val (.int x1)] [] _
    refine XS.aloadN X4.here hx rfl (hb hby dlc_6) rfl rfl ?_
    show own_W p e below m T4 7 #[.val (.ref x0), .val (.int x1)] [(.ref x0)] _
    refine XS.iloadN X4.here hx rfl (hb hby dlc_7) rfl ?_
    exact k)
  obtain ⟨cl7, Ar7, q7, Sz7, Ng7, Hs7, G7⟩ := id V0
  have hin7 : ¬ (x1 < 0 ∨ cl7.slots.size ≤ (x1).toNatClampNeg) := inb_of Sz7 jj
  have hat7 : cl7.slots[(x1).toNatClampNeg]? = some (.int (own_lo ch)) := Hs7.at hin7 (uu)
  have p8 : ∀ t, own_W p e below m T4 14 #[.val (.ref x0), .val (.int x1)] [(.int (((own_lo ch) &&& (255 : Int32)).toUInt32.toUInt16.toUInt32.toInt32))] t → Steps p.tables e below S0 t := fun t k => p6 t (by
    show own_W p e below m T4 8 #[.val (.ref x0), .val (.int x1)] [(.int x1), (.ref x0)] _
    refine X4.baloadBytes hx (j := x1) (v := (.int (own_lo ch))) (by rw [e4]; exact Ar7.1) (State.isArrayOf_alike hZ.alike Ar7.2.1) Ar7.2.2 hin7 hat7 (g := (mkF m 8 #[.val (.ref x0), .val (.int x1)] [(.int x1), (.ref x0)])) rfl rfl (hb hby dlc_8) _ ?_
    show own_W p e below m T4 9 #[.val (.ref x0), .val (.int x1)] [(.int (own_lo ch))] _
    refine XS.sipush X4.here hx rfl (hb hby dlc_9) ?_
    show own_W p e below m T4 12 #[.val (.ref x0), .val (.int x1)] [(.int (255 : Int32)), (.int (own_lo ch))] _
    refine XS.iand X4.here hx rfl (hb hby dlc_12) rfl ?_
    show own_W p e below m T4 13 #[.val (.ref x0), .val (.int x1)] [(.int ((own_lo ch) &&& (255 : Int32)))] _
    refine XS.i2c X4.here hx rfl (hb hby dlc_13) rfl ?_
    exact k)
  subst hS0
  obtain ⟨fs, hr, hrun, hended, hW, hsame⟩ := X4.leave (v := some (.int (nar .char (((own_lo ch) &&& (255 : Int32)).toUInt32.toUInt16.toUInt32.toInt32)))) (fun h => by rw [Bd.returns] at h; cases h)
  refine ⟨_, _, p8 _ ?_, hrun, hended, _, _, rfl, ?_, ⟨_, rfl⟩, hW, hsame.mono (by decide) (by decide)⟩
  · show own_W p e below m T4 14 #[.val (.ref x0), .val (.int x1)] [(.int (((own_lo ch) &&& (255 : Int32)).toUInt32.toUInt16.toUInt32.toInt32))] _
    exact retN X4 hx (t := .char) Bd.returns (by simp) (hb hby dlc_14) hr
  · show Qlc Z x0 x1 kb N vs ch cs G h0 n0 _ T4.heap _
    rw [e4]
    exact ⟨congrArg (fun z => some (Value.int z)) (own_lat ki li), N4, rfl⟩
theorem dul_0 : decode jdk_52_method_6_code 0 = .ok (.aload_n 0, 1) := by decide +kernel
theorem dul_1 : decode jdk_52_method_6_code 1 = .ok (.arraylength, 1) := by decide +kernel
theorem dul_2 : decode jdk_52_method_6_code 2 = .ok (.iconst 1, 1) := by decide +kernel
theorem dul_3 : decode jdk_52_method_6_code 3 = .ok (.ishr, 1) := by decide +kernel
theorem dul_4 : decode jdk_52_method_6_code 4 = .ok (.ireturn, 1) := by decide +kernel
theorem pnul : plainName "java/lang/StringUTF16" = true := by first | (simp [plainName, overriddenIn]; done) | decide +kernel
theorem eful (m : MethodId) (x0 : Addr) : entryFrame m #[(.ref x0)] 1 = mkF m 0 #[.val (.ref x0)] [] := by first | (simp [entryFrame, mkF, argsToLocals, Value.category]; done) | rfl
def Qul (Z : State) (x0 : Addr) (kb : ClassId) (N : Int32) (vs : List Value) (h0 : Heap) (n0 : Nat) (v : Option Value) (h : Heap) (L : List Loc) : Prop := v = some (.int (N >>> ((1 : Int32) &&& 31))) ∧ Fr n0 L ∧ h = h0
set_option maxRecDepth 65536 in
set_option maxHeartbeats 40000000 in
theorem rmul (l : Launch) (Z : State) (a0 : Array Value) (hw : ∀ d ∈ tables_1, d.before a0 Z = true) (ws : List Jvm.Cond) (x0 : Addr) (kb : ClassId) (N : Int32) (vs : List Value) (h0 : Heap) (n0 : Nat) (Z0 : n0 ≤ h0.size) (V0 : Arv Z h0 x0 kb .byte N vs (.int (0 : Int32))) :
    MetFree l (⟨"java/lang/StringUTF16", "length", "([B)I"⟩ : MethodName) (head1 (Jvm.Cond.code (⟨"java/lang/StringUTF16", "length", "([B)I"⟩ : MethodName) jdk_52_method_6_code 1 (some .int) :: ws) ({ frames := 0, cells := 0, slots := 0, locals := 0 } : Room)) (fun a U => a = #[(.ref x0)] ∧ Z.Warmed39 U.vm ∧ U.heap = h0) (fun _ _ _ _ _ => True) (fun _ U o U' => ∃ v L, o = .returned v ∧ Qul Z x0 kb N vs h0 n0 v U'.heap L ∧ FrameEnd U o U' L ({ frames := 0, cells := 0, slots := 0, locals := 0 } : Room).cells ({ frames := 0, cells := 0, slots := 0, locals := 0 } : Room).slots) := by
  refine MetFree.of_bodySF (plainFor_of_name pnul) hisR ?_
  intro p e s m args below meth c s₁ Bd hml0 hP hK
  obtain ⟨rfl, hZ, hh⟩ := hP
  have hx := Bd.exec
  have hby := Bd.bytes
  have hml : c.maxLocals = 1 := hml0
  have hown : s.vm.findClass "java/lang/StringUTF16" = some m.cls := findClass_of_methodNamed Bd.named
  have hnm := (name_of_methodNamed Bd.named Bd.method).1
  have X0 : Stand p l e ({ frames := 0, cells := 0, slots := 0, locals := 0 } : Room) s m #[(.ref x0)] below meth c s₁ [] 0 0 := Stand.of_body Bd
  have e0 : s₁.heap = h0 := by rw [← hh, Bd.state]; rfl
  have N0 := Fr.nil n0
  have pre0 : ∀ t, Steps p.tables e below (s₁.setTop (mkF m 0 #[.val (.ref x0)] [])) t → Steps p.tables e below (s₁.setTop (entryFrame m #[(.ref x0)] 1)) t := fun t k => castTop (eful m x0) k
  obtain ⟨S0, hS0⟩ : ∃ z, z = (s₁.setTop (entryFrame m #[(.ref x0)] 1)) := ⟨_, rfl⟩
  rw [← hS0] at pre0
  have p1 : ∀ t, own_W p e below m s₁ 1 #[.val (.ref x0)] [(.ref x0)] t → Steps p.tables e below S0 t := fun t k => pre0 t (by
    show own_W p e below m s₁ 0 #[.val (.ref x0)] [] _
    refine XS.aloadN X0.here hx rfl (hb hby dul_0) rfl rfl ?_
    exact k)
  obtain ⟨cl2, Ar2, -, Sz2, Ng2, -, -⟩ := id V0
  have p3 : ∀ t, own_W p e below m s₁ 4 #[.val (.ref x0)] [(.int (N >>> ((1 : Int32) &&& 31)))] t → Steps p.tables e below S0 t := fun t k => p1 t (by
    show own_W p e below m s₁ 1 #[.val (.ref x0)] [(.ref x0)] _
    refine X0.arraylength hx (by rw [e0]; exact Ar2.1) (State.isArrayOf_alike hZ.alike Ar2.2.1) (g := (mkF m 1 #[.val (.ref x0)] [(.ref x0)])) rfl rfl (hb hby dul_1) _ ?_
    rw [len_of Sz2 Ng2]
    show own_W p e below m s₁ 2 #[.val (.ref x0)] [(.int N)] _
    refine XS.iconst X0.here hx rfl (hb hby dul_2) ?_
    show own_W p e below m s₁ 3 #[.val (.ref x0)] [(.int (1 : Int32)), (.int N)] _
    refine XS.ishr X0.here hx rfl (hb hby dul_3) rfl ?_
    exact k)
  subst hS0
  obtain ⟨fs, hr, hrun, hended, hW, hsame⟩ := X0.leave (v := some (.int (N >>> ((1 : Int32) &&& 31)))) (fun h => by rw [Bd.returns] at h; cases h)
  refine ⟨_, _, p3 _ ?_, hrun, hended, _, _, rfl, ?_, ⟨_, rfl⟩, hW, hsame.mono (by decide) (by decide)⟩
  · show own_W p e below m s₁ 4 #[.val (.ref x0)] [(.int (N >>> ((1 : Int32) &&& 31)))] _
    exact retI X0 hx Bd.returns (hb hby dul_4) hr
  · show Qul Z x0 kb N vs h0 n0 _ s₁.heap _
    rw [e0]
    exact ⟨rfl, N0, rfl⟩
theorem duc_0 : decode jdk_52_method_91_code 0 = .ok (.iload_n 0, 1) := by decide +kernel
theorem duc_1 : decode jdk_52_method_91_code 1 = .ok (.aload_n 1, 1) := by decide +kernel
theorem duc_2 : decode jdk_52_method_91_code 2 = .ok (.invokestatic 48, 3) := by decide +kernel
theorem duc_5 : decode jdk_52_method_91_code 5 = .ok (.invokestatic 414, 3) := by decide +kernel
theorem duc_8 : decode jdk_52_method_91_code 8 = .ok (.return_, 1) := by decide +kernel
theorem pnuc : plainName "java/lang/StringUTF16" = true := by first | (simp [plainName, overriddenIn]; done) | decide +kernel
theorem pduc_0 : parseMethodDescriptor "([B)I" = some ⟨[(.array .byte)], some .int⟩ := by decide +kernel
theorem pduc_1 : parseMethodDescriptor "(II)V" = some ⟨[.int, .int], none⟩ := by decide +kernel
theorem efuc (m : MethodId) (x0 : Int32) (x1 : Addr) : entryFrame m #[(.int x0), (.ref x1)] 2 = mkF m 0 #[.val (.int x0), .val (.ref x1)] [] := by first | (simp [entryFrame, mkF, argsToLocals, Value.category]; done) | rfl
def Quc (Z : State) (x0 : Int32) (x1 : Addr) (kb : ClassId) (N : Int32) (vs : List Value) (cs : Int32) (G : Value) (h0 : Heap) (n0 : Nat) (v : Option Value) (h : Heap) (L : List Loc) : Prop := v = none ∧ Fr n0 L ∧ h = h0
set_option maxRecDepth 65536 in
set_option maxHeartbeats 40000000 in
theorem rmuc (l : Launch) (Z : State) (a0 : Array Value) (hw : ∀ d ∈ tables_1, d.before a0 Z = true) (ws : List Jvm.Cond) (x0 : Int32) (x1 : Addr) (kb : ClassId) (N : Int32) (vs : List Value) (cs : Int32) (G : Value) (h0 : Heap) (n0 : Nat) (Z0 : n0 ≤ h0.size) (V0 : Arv Z h0 x1 kb .byte N vs (.int (0 : Int32))) (jj : (¬ x0 < 0 ∧ x0 < (N >>> ((1 : Int32) &&& 31)))) (O0 : Old Z n0 h0) (st : own_ST Z cs G) :
    MetFree l (⟨"java/lang/StringUTF16", "checkIndex", "(I[B)V"⟩ : MethodName) (head1 (Jvm.Cond.code (⟨"java/lang/StringUTF16", "checkIndex", "(I[B)V"⟩ : MethodName) jdk_52_method_91_code 2 none :: ws) ({ frames := 2, cells := 0, slots := 0, locals := 27 } : Room)) (fun a U => a = #[(.int x0), (.ref x1)] ∧ Z.Warmed39 U.vm ∧ U.heap = h0) (fun _ _ _ _ _ => True) (fun _ U o U' => ∃ v L, o = .returned v ∧ Quc Z x0 x1 kb N vs cs G h0 n0 v U'.heap L ∧ FrameEnd U o U' L ({ frames := 2, cells := 0, slots := 0, locals := 27 } : Room).cells ({ frames := 2, cells := 0, slots := 0, locals := 27 } : Room).slots) := by
  refine MetFree.of_bodySF (plainFor_of_name pnuc) hisR ?_
  intro p e s m args below meth c s₁ Bd hml0 hP hK
  obtain ⟨rfl, hZ, hh⟩ := hP
  have hx := Bd.exec
  have hby := Bd.bytes
  have hml : c.maxLocals = 2 := hml0
  have hown : s.vm.findClass "java/lang/StringUTF16" = some m.cls := findClass_of_methodNamed Bd.named
  have hnm := (name_of_methodNamed Bd.named Bd.method).1
  have X0 : Stand p l e ({ frames := 2, cells := 0, slots := 0, locals := 27 } : Room) s m #[(.int x0), (.ref x1)] below meth c s₁ [] 0 0 := Stand.of_body Bd
  have e0 : s₁.heap = h0 := by rw [← hh, Bd.state]; rfl
  have N0 := Fr.nil n0
  have pre0 : ∀ t, Steps p.tables e below (s₁.setTop (mkF m 0 #[.val (.int x0), .val (.ref x1)] [])) t → Steps p.tables e below (s₁.setTop (entryFrame m #[(.int x0), (.ref x1)] 2)) t := fun t k => castTop (efuc m x0 x1) k
  obtain ⟨S0, hS0⟩ : ∃ z, z = (s₁.setTop (entryFrame m #[(.int x0), (.ref x1)] 2)) := ⟨_, rfl⟩
  rw [← hS0] at pre0
  obtain ⟨sc, hcs, sa, sh, sl, sg, hG⟩ := id st
  have p1 : ∀ t, own_W p e below m s₁ 2 #[.val (.int x0), .val (.ref x1)] [(.ref x1), (.int x0)] t → Steps p.tables e below S0 t := fun t k => pre0 t (by
    show own_W p e below m s₁ 0 #[.val (.int x0), .val (.ref x1)] [] _
    refine XS.iloadN X0.here hx rfl (hb hby duc_0) rfl ?_
    show own_W p e below m s₁ 1 #[.val (.int x0), .val (.ref x1)] [(.int x0)] _
    refine XS.aloadN X0.here hx rfl (hb hby duc_1) rfl rfl ?_
    exact k)
  obtain ⟨_, _, ⟨T2, L2, k2, n2⟩, -, X2, ⟨Lc2, hQ2, l2, y2, z2⟩, st2⟩ := Jvm.LawKit.callS X0 hx (y := (⟨"java/lang/StringUTF16", "length", "([B)I"⟩ : MethodName)) hown (mvT hZ (hw _ (List.mem_of_getElem? (i := 116) rfl))) (mvT hZ (hw _ (List.mem_of_getElem? (i := 117) rfl))) (mvT hZ (hw _ (List.mem_of_getElem? (i := 93) rfl))) (mvT hZ (hw _ (List.mem_of_getElem? (i := 118) rfl))) (by decide) (backOf (W := 1) (rmul l Z a0 hw [] x1 kb N vs h0 n0 Z0 V0) hZ (hw _ (List.mem_of_getElem? (i := 118) rfl)) (hw _ (List.mem_of_getElem? (i := 93) rfl)) (by decide) (by decide)) (g := (mkF m 2 #[.val (.int x0), .val (.ref x1)] [(.ref x1), (.int x0)])) rfl (by rw [hml]; rfl) (argsL := [(.ref x1)]) (rest := [(.int x0)]) (lenOf pduc_0 rfl) rfl (by show 2 * 0 + _ ≤ _; exact Nat.le_of_eq rfl) (hb hby duc_2) (fun _ _ => ⟨rfl, e0, (by decide : 0 + 0 ≤ _), (by decide : 0 + 0 ≤ _)⟩)
  dsimp only [Pt.U, Pt.locs, Pt.cells, Pt.slots] at X2 l2 y2 z2 st2 hQ2
  subst l2 y2 z2
  obtain ⟨rfl, Nq2, e2⟩ := hQ2
  have N2 := Fr.app N0 Nq2
  have p3 : ∀ t, own_W p e below m T2 5 #[.val (.int x0), .val (.ref x1)] [(.int (N >>> ((1 : Int32) &&& 31))), (.int x0)] t → Steps p.tables e below S0 t := fun t k => p1 t (st2 _ k)
  obtain ⟨_, _, ⟨T4, L4, k4, n4⟩, -, X4, ⟨Lc4, hQ4, l4, y4, z4⟩, st4⟩ := Jvm.LawKit.callS X2 hx (y := (⟨"java/lang/String", "checkIndex", "(II)V"⟩ : MethodName)) hown (mvT hZ (hw _ (List.mem_of_getElem? (i := 119) rfl))) (mvT hZ (hw _ (List.mem_of_getElem? (i := 64) rfl))) (mvT hZ (hw _ (List.mem_of_getElem? (i := 7) rfl))) (mvT hZ (hw _ (List.mem_of_getElem? (i := 65) rfl))) (by decide) (backOf (W := 0) (rmci l Z a0 hw [] x0 (N >>> ((1 : Int32) &&& 31)) cs G h0 n0 Z0 jj O0 st) hZ (hw _ (List.mem_of_getElem? (i := 65) rfl)) (hw _ (List.mem_of_getElem? (i := 7) rfl)) (by decide) (by decide)) (g := (mkF m 5 #[.val (.int x0), .val (.ref x1)] [(.int (N >>> ((1 : Int32) &&& 31))), (.int x0)])) rfl (by rw [hml]; rfl) (argsL := [(.int x0), (.int (N >>> ((1 : Int32) &&& 31)))]) (rest := []) (lenOf pduc_1 rfl) rfl (by show 2 * 0 + _ ≤ _; exact Nat.le_of_eq rfl) (hb hby duc_5) (fun _ _ => ⟨rfl, e2, (by decide : 0 + 0 ≤ _), (by decide : 0 + 0 ≤ _)⟩)
  dsimp only [Pt.U, Pt.locs, Pt.cells, Pt.slots] at X4 l4 y4 z4 st4 hQ4
  subst l4 y4 z4
  obtain ⟨rfl, Nq4, e4⟩ := hQ4
  have N4 := Fr.app N2 Nq4
  have p5 : ∀ t, own_W p e below m T4 8 #[.val (.int x0), .val (.ref x1)] [] t → Steps p.tables e below S0 t := fun t k => p3 t (st4 _ k)
  subst hS0
  obtain ⟨fs, hr, hrun, hended, hW, hsame⟩ := X4.leave (v := none) (fun _ => rfl)
  refine ⟨_, _, p5 _ ?_, hrun, hended, _, _, rfl, ?_, ⟨_, rfl⟩, hW, hsame.mono (by decide) (by decide)⟩
  · show own_W p e below m T4 8 #[.val (.int x0), .val (.ref x1)] [] _
    exact X4.returnOut hx Bd.returns (hb hby duc_8) hr
  · show Quc Z x0 x1 kb N vs cs G h0 n0 _ T4.heap _
    rw [e4]
    exact ⟨rfl, N4, rfl⟩
theorem dua_0 : decode jdk_52_method_83_code 0 = .ok (.iload_n 1, 1) := by decide +kernel
theorem dua_1 : decode jdk_52_method_83_code 1 = .ok (.aload_n 0, 1) := by decide +kernel
theorem dua_2 : decode jdk_52_method_83_code 2 = .ok (.invokestatic 67, 3) := by decide +kernel
theorem dua_5 : decode jdk_52_method_83_code 5 = .ok (.aload_n 0, 1) := by decide +kernel
theorem dua_6 : decode jdk_52_method_83_code 6 = .ok (.iload_n 1, 1) := by decide +kernel
theorem dua_7 : decode jdk_52_method_83_code 7 = .ok (.invokestatic 71, 3) := by decide +kernel
theorem dua_10 : decode jdk_52_method_83_code 10 = .ok (.ireturn, 1) := by decide +kernel
theorem pnua : plainName "java/lang/StringUTF16" = true := by first | (simp [plainName, overriddenIn]; done) | decide +kernel
theorem pdua_0 : parseMethodDescriptor "(I[B)V" = some ⟨[.int, (.array .byte)], none⟩ := by decide +kernel
theorem pdua_1 : parseMethodDescriptor "([BI)C" = some ⟨[(.array .byte), .int], some .char⟩ := by decide +kernel
theorem efua (m : MethodId) (x0 : Addr) (x1 : Int32) : entryFrame m #[(.ref x0), (.int x1)] 2 = mkF m 0 #[.val (.ref x0), .val (.int x1)] [] := by first | (simp [entryFrame, mkF, argsToLocals, Value.category]; done) | rfl
def Qua (Z : State) (x0 : Addr) (x1 : Int32) (kb : ClassId) (N : Int32) (vs : List Value) (ch : Int32) (cs : Int32) (G : Value) (h0 : Heap) (n0 : Nat) (v : Option Value) (h : Heap) (L : List Loc) : Prop := v = some (.int ch) ∧ Fr n0 L ∧ h = h0
set_option maxRecDepth 65536 in
set_option maxHeartbeats 40000000 in
theorem rmua (l : Launch) (Z : State) (a0 : Array Value) (hw : ∀ d ∈ tables_1, d.before a0 Z = true) (ws : List Jvm.Cond) (x0 : Addr) (x1 : Int32) (kb : ClassId) (N : Int32) (vs : List Value) (ch : Int32) (cs : Int32) (G : Value) (h0 : Heap) (n0 : Nat) (Z0 : n0 ≤ h0.size) (V0 : Arv Z h0 x0 kb .byte N vs (.int (0 : Int32))) (jj : (¬ x1 < 0 ∧ x1 < (N >>> ((1 : Int32) &&& 31)))) (j1 : (¬ (x1 <<< ((1 : Int32) &&& 31)) < 0 ∧ (x1 <<< ((1 : Int32) &&& 31)) < N)) (j2 : (¬ ((x1 <<< ((1 : Int32) &&& 31)) + (1 : Int32)) < 0 ∧ ((x1 <<< ((1 : Int32) &&& 31)) + (1 : Int32)) < N)) (u1 : (vs : List Value).getD ((x1 <<< ((1 : Int32) &&& 31))).toNatClampNeg (.int (0 : Int32)) = (.int (own_hb ch))) (u2 : (vs : List Value).getD (((x1 <<< ((1 : Int32) &&& 31)) + (1 : Int32))).toNatClampNeg (.int (0 : Int32)) = (.int (own_lb ch))) (ki : own_ok ch) (O0 : Old Z n0 h0) (st : own_ST Z cs G) :
    MetFree l (⟨"java/lang/StringUTF16", "charAt", "([BI)C"⟩ : MethodName) (head1 (Jvm.Cond.code (⟨"java/lang/StringUTF16", "charAt", "([BI)C"⟩ : MethodName) jdk_52_method_83_code 2 (some .char) :: ws) ({ frames := 3, cells := 0, slots := 0, locals := 40 } : Room)) (fun a U => a = #[(.ref x0), (.int x1)] ∧ Z.Warmed39 U.vm ∧ U.heap = h0) (fun _ _ _ _ _ => True) (fun _ U o U' => ∃ v L, o = .returned v ∧ Qua Z x0 x1 kb N vs ch cs G h0 n0 v U'.heap L ∧ FrameEnd U o U' L ({ frames := 3, cells := 0, slots := 0, locals := 40 } : Room).cells ({ frames := 3, cells := 0, slots := 0, locals := 40 } : Room).slots) := by
  refine MetFree.of_bodySF (plainFor_of_name pnua) hisR ?_
  intro p e s m args below meth c s₁ Bd hml0 hP hK
  obtain ⟨rfl, hZ, hh⟩ := hP
  have hx := Bd.exec
  have hby := Bd.bytes
  have hml : c.maxLocals = 2 := hml0
  have hown : s.vm.findClass "java/lang/StringUTF16" = some m.cls := findClass_of_methodNamed Bd.named
  have hnm := (name_of_methodNamed Bd.named Bd.method).1
  have X0 : Stand p l e ({ frames := 3, cells := 0, slots := 0, locals := 40 } : Room) s m #[(.ref x0), (.int x1)] below meth c s₁ [] 0 0 := Stand.of_body Bd
  have e0 : s₁.heap = h0 := by rw [← hh, Bd.state]; rfl
  have N0 := Fr.nil n0
  have pre0 : ∀ t, Steps p.tables e below (s₁.setTop (mkF m 0 #[.val (.ref x0), .val (.int x1)] [])) t → Steps p.tables e below (s₁.setTop (entryFrame m #[(.ref x0), (.int x1)] 2)) t := fun t k => castTop (efua m x0 x1) k
  obtain ⟨S0, hS0⟩ : ∃ z, z = (s₁.setTop (entryFrame m #[(.ref x0), (.int x1)] 2)) := ⟨_, rfl⟩
  rw [← hS0] at pre0
  obtain ⟨sc, hcs, sa, sh, sl, sg, hG⟩ := id st
  have p1 : ∀ t, own_W p e below m s₁ 2 #[.val (.ref x0), .val (.int x1)] [(.ref x0), (.int x1)] t → Steps p.tables e below S0 t := fun t k => pre0 t (by
    show own_W p e below m s₁ 0 #[.val (.ref x0), .val (.int x1)] [] _
    refine XS.iloadN X0.here hx rfl (hb hby dua_0) rfl ?_
    show own_W p e below m s₁ 1 #[.val (.ref x0), .val (.int x1)] [(.int x1)] _
    refine XS.aloadN X0.here hx rfl (hb hby dua_1) rfl rfl ?_
    exact k)
  obtain ⟨_, _, ⟨T2, L2, k2, n2⟩, -, X2, ⟨Lc2, hQ2, l2, y2, z2⟩, st2⟩ := Jvm.LawKit.callS X0 hx (y := (⟨"java/lang/StringUTF16", "checkIndex", "(I[B)V"⟩ : MethodName)) hown (mvT hZ (hw _ (List.mem_of_getElem? (i := 113) rfl))) (mvT hZ (hw _ (List.mem_of_getElem? (i := 114) rfl))) (mvT hZ (hw _ (List.mem_of_getElem? (i := 93) rfl))) (mvT hZ (hw _ (List.mem_of_getElem? (i := 115) rfl))) (by decide) (backOf (W := 0) (rmuc l Z a0 hw [] x1 x0 kb N vs cs G h0 n0 Z0 V0 jj O0 st) hZ (hw _ (List.mem_of_getElem? (i := 115) rfl)) (hw _ (List.mem_of_getElem? (i := 93) rfl)) (by decide) (by decide)) (g := (mkF m 2 #[.val (.ref x0), .val (.int x1)] [(.ref x0), (.int x1)])) rfl (by rw [hml]; rfl) (argsL := [(.int x1), (.ref x0)]) (rest := []) (lenOf pdua_0 rfl) rfl (by show 2 * 0 + _ ≤ _; exact Nat.le_of_eq rfl) (hb hby dua_2) (fun _ _ => ⟨rfl, e0, (by decide : 0 + 0 ≤ _), (by decide : 0 + 0 ≤ _)⟩)
  dsimp only [Pt.U, Pt.locs, Pt.cells, Pt.slots] at X2 l2 y2 z2 st2 hQ2
  subst l2 y2 z2
  obtain ⟨rfl, Nq2, e2⟩ := hQ2
  have N2 := Fr.app N0 Nq2
  have p3 : ∀ t, own_W p e below m T2 5 #[.val (.ref x0), .val (.int x1)] [] t → Steps p.tables e below S0 t := fun t k => p1 t (st2 _ k)
  have p4 : ∀ t, own_W p e below m T2 7 #[.val (.ref x0), .val (.int x1)] [(.int x1), (.ref x0)] t → Steps p.tables e below S0 t := fun t k => p3 t (by
    show own_W p e below m T2 5 #[.val (.ref x0), .val (.int x1)] [] _
    refine XS.aloadN X2.here hx rfl (hb hby dua_5) rfl rfl ?_
    show own_W p e below m T2 6 #[.val (.ref x0), .val (.int x1)] [(.ref x0)] _
    refine XS.iloadN X2.here hx rfl (hb hby dua_6) rfl ?_
    exact k)
  obtain ⟨_, _, ⟨T5, L5, k5, n5⟩, -, X5, ⟨Lc5, hQ5, l5, y5, z5⟩, st5⟩ := Jvm.LawKit.callS X2 hx (y := (⟨"java/lang/StringUTF16", "getChar", "([BI)C"⟩ : MethodName)) hown (mvT hZ (hw _ (List.mem_of_getElem? (i := 120) rfl))) (mvT hZ (hw _ (List.mem_of_getElem? (i := 121) rfl))) (mvT hZ (hw _ (List.mem_of_getElem? (i := 93) rfl))) (mvT hZ (hw _ (List.mem_of_getElem? (i := 122) rfl))) (by decide) (backOf (W := 0) (rmgc l Z a0 hw [] x0 x1 kb N vs ch cs G h0 n0 Z0 V0 j1 j2 u1 u2 ki O0 st) hZ (hw _ (List.mem_of_getElem? (i := 122) rfl)) (hw _ (List.mem_of_getElem? (i := 93) rfl)) (by decide) (by decide)) (g := (mkF m 7 #[.val (.ref x0), .val (.int x1)] [(.int x1), (.ref x0)])) rfl (by rw [hml]; rfl) (argsL := [(.ref x0), (.int x1)]) (rest := []) (lenOf pdua_1 rfl) rfl (by show 2 * 0 + _ ≤ _; exact Nat.le_of_eq rfl) (hb hby dua_7) (fun _ _ => ⟨rfl, e2, (by decide : 0 + 0 ≤ _), (by decide : 0 + 0 ≤ _)⟩)
  dsimp only [Pt.U, Pt.locs, Pt.cells, Pt.slots] at X5 l5 y5 z5 st5 hQ5
  subst l5 y5 z5
  obtain ⟨rfl, Nq5, e5⟩ := hQ5
  have N5 := Fr.app N2 Nq5
  have p6 : ∀ t, own_W p e below m T5 10 #[.val (.ref x0), .val (.int x1)] [(.int ch)] t → Steps p.tables e below S0 t := fun t k => p4 t (st5 _ k)
  subst hS0
  obtain ⟨fs, hr, hrun, hended, hW, hsame⟩ := X5.leave (v := some (.int (nar .char ch))) (fun h => by rw [Bd.returns] at h; cases h)
  refine ⟨_, _, p6 _ ?_, hrun, hended, _, _, rfl, ?_, ⟨_, rfl⟩, hW, hsame.mono (by decide) (by decide)⟩
  · show own_W p e below m T5 10 #[.val (.ref x0), .val (.int x1)] [(.int ch)] _
    exact retN X5 hx (t := .char) Bd.returns (by simp) (hb hby dua_10) hr
  · show Qua Z x0 x1 kb N vs ch cs G h0 n0 _ T5.heap _
    rw [e5]
    exact ⟨congrArg (fun z => some (Value.int z)) (own_nok ki), N5, rfl⟩
def own_CH (Z : State) (h : Heap) (o tv : Addr) (kb : ClassId) (i c : Int32) : Prop := (Fld Z h o "java/lang/String" "coder" "B" (.int (0 : Int32)) ∧ ∃ (N : Int32) (vs : List Value), Arv Z h tv kb .byte N vs (.int (0 : Int32)) ∧ (¬ i < 0 ∧ i < N) ∧ (vs : List Value).getD (i).toNatClampNeg (.int (0 : Int32)) = (.int (own_lo c)) ∧ ¬ (255 : Int32) < c) ∨ (Fld Z h o "java/lang/String" "coder" "B" (.int (1 : Int32)) ∧ ∃ (N : Int32) (vs : List Value), Arv Z h tv kb .byte N vs (.int (0 : Int32)) ∧ (¬ i < 0 ∧ i < (N >>> ((1 : Int32) &&& 31))) ∧ (¬ (i <<< ((1 : Int32) &&& 31)) < 0 ∧ (i <<< ((1 : Int32) &&& 31)) < N) ∧ (¬ ((i <<< ((1 : Int32) &&& 31)) + (1 : Int32)) < 0 ∧ ((i <<< ((1 : Int32) &&& 31)) + (1 : Int32)) < N) ∧ (vs : List Value).getD ((i <<< ((1 : Int32) &&& 31))).toNatClampNeg (.int (0 : Int32)) = (.int (own_hb c)) ∧ (vs : List Value).getD (((i <<< ((1 : Int32) &&& 31)) + (1 : Int32))).toNatClampNeg (.int (0 : Int32)) = (.int (own_lb c)))
def own_LN (Z : State) (h : Heap) (o tv : Addr) (kb : ClassId) (n : Int32) : Prop := ∃ (N : Int32) (vs : List Value), Arv Z h tv kb .byte N vs (.int (0 : Int32)) ∧ ¬ N = (0 : Int32) ∧ ((Fld Z h o "java/lang/String" "coder" "B" (.int (0 : Int32)) ∧ (N >>> ((0 : Int32) &&& 31)) = n) ∨ (Fld Z h o "java/lang/String" "coder" "B" (.int (1 : Int32)) ∧ (N >>> ((1 : Int32) &&& 31)) = n))
theorem own_LNk {Z : State} {h h' : Heap} {o tv : Addr} {kb : ClassId} {n : Int32} (H : own_LN Z h o tv kb n) (K : Keep h h' []) : own_LN Z h' o tv kb n := by
  obtain ⟨N, vs, V, q, r⟩ := H
  exact ⟨N, vs, V.keep K nin0, q, r.imp (fun z => ⟨z.1.keep K nin0, z.2⟩) (fun z => ⟨z.1.keep K nin0, z.2⟩)⟩
theorem own_CHk {Z : State} {h h' : Heap} {o tv : Addr} {kb : ClassId} {i c : Int32} (H : own_CH Z h o tv kb i c) (K : Keep h h' []) : own_CH Z h' o tv kb i c := by
  rcases H with ⟨F, N, vs, V, r⟩ | ⟨F, N, vs, V, r⟩
  · exact Or.inl ⟨F.keep K nin0, N, vs, V.keep K nin0, r⟩
  · exact Or.inr ⟨F.keep K nin0, N, vs, V.keep K nin0, r⟩
theorem die_0 : decode jdk_42_method_55_code 0 = .ok (.aload_n 0, 1) := by decide +kernel
theorem die_1 : decode jdk_42_method_55_code 1 = .ok (.getfield 9, 3) := by decide +kernel
theorem die_4 : decode jdk_42_method_55_code 4 = .ok (.arraylength, 1) := by decide +kernel
theorem die_5 : decode jdk_42_method_55_code 5 = .ok (.ifCond .ne 7, 3) := by decide +kernel
theorem die_12 : decode jdk_42_method_55_code 12 = .ok (.iconst 0, 1) := by decide +kernel
theorem die_13 : decode jdk_42_method_55_code 13 = .ok (.ireturn, 1) := by decide +kernel
theorem pnie : plainName "java/lang/String" = true := by first | (simp [plainName, overriddenIn]; done) | decide +kernel
theorem efie (m : MethodId) (x0 : Addr) : entryFrame m #[(.ref x0)] 1 = mkF m 0 #[.val (.ref x0)] [] := by first | (simp [entryFrame, mkF, argsToLocals, Value.category]; done) | rfl
def Qie (Z : State) (x0 : Addr) (tv : Addr) (kb : ClassId) (n : Int32) (h0 : Heap) (n0 : Nat) (v : Option Value) (h : Heap) (L : List Loc) : Prop := v = some (.int (0 : Int32)) ∧ Fr n0 L ∧ h = h0
set_option maxRecDepth 65536 in
set_option maxHeartbeats 40000000 in
theorem rmie (l : Launch) (Z : State) (a0 : Array Value) (hw : ∀ d ∈ tables_1, d.before a0 Z = true) (ws : List Jvm.Cond) (x0 : Addr) (tv : Addr) (kb : ClassId) (n : Int32) (h0 : Heap) (n0 : Nat) (Z0 : n0 ≤ h0.size) (E0 : Exa Z h0 x0 "java/lang/String") (F2 : Fld Z h0 x0 "java/lang/String" "value" "[B" (.ref tv)) (HL : own_LN Z h0 x0 tv kb n) :
    MetFree l (⟨"java/lang/String", "isEmpty", "()Z"⟩ : MethodName) (head1 (Jvm.Cond.code (⟨"java/lang/String", "isEmpty", "()Z"⟩ : MethodName) jdk_42_method_55_code 1 (some .boolean) :: ws) ({ frames := 0, cells := 0, slots := 0, locals := 0 } : Room)) (fun a U => a = #[(.ref x0)] ∧ Z.Warmed39 U.vm ∧ U.heap = h0) (fun _ _ _ _ _ => True) (fun _ U o U' => ∃ v L, o = .returned v ∧ Qie Z x0 tv kb n h0 n0 v U'.heap L ∧ FrameEnd U o U' L ({ frames := 0, cells := 0, slots := 0, locals := 0 } : Room).cells ({ frames := 0, cells := 0, slots := 0, locals := 0 } : Room).slots) := by
  refine MetFree.of_bodySF (plainFor_of_name pnie) hisR ?_
  intro p e s m args below meth c s₁ Bd hml0 hP hK
  obtain ⟨rfl, hZ, hh⟩ := hP
  have hx := Bd.exec
  have hby := Bd.bytes
  have hml : c.maxLocals = 1 := hml0
  have hown : s.vm.findClass "java/lang/String" = some m.cls := findClass_of_methodNamed Bd.named
  have hnm := (name_of_methodNamed Bd.named Bd.method).1
  have X0 : Stand p l e ({ frames := 0, cells := 0, slots := 0, locals := 0 } : Room) s m #[(.ref x0)] below meth c s₁ [] 0 0 := Stand.of_body Bd
  have e0 : s₁.heap = h0 := by rw [← hh, Bd.state]; rfl
  have N0 := Fr.nil n0
  have pre0 : ∀ t, Steps p.tables e below (s₁.setTop (mkF m 0 #[.val (.ref x0)] [])) t → Steps p.tables e below (s₁.setTop (entryFrame m #[(.ref x0)] 1)) t := fun t k => castTop (efie m x0) k
  obtain ⟨S0, hS0⟩ : ∃ z, z = (s₁.setTop (entryFrame m #[(.ref x0)] 1)) := ⟨_, rfl⟩
  rw [← hS0] at pre0
  obtain ⟨N, vs, V0, hN, hk⟩ := id HL
  have p1 : ∀ t, own_W p e below m s₁ 1 #[.val (.ref x0)] [(.ref x0)] t → Steps p.tables e below S0 t := fun t k => pre0 t (by
    show own_W p e below m s₁ 0 #[.val (.ref x0)] [] _
    refine XS.aloadN X0.here hx rfl (hb hby die_0) rfl rfl ?_
    exact k)
  obtain ⟨T2, X2, e2, st2⟩ := getF X0 hx hZ hown (host := "") (Or.inl (hw _ (List.mem_of_getElem? (i := 27) rfl))) Via.refl e0 F2 (g := (mkF m 1 #[.val (.ref x0)] [(.ref x0)])) rfl rfl (hb hby die_1)
  have p3 : ∀ t, own_W p e below m T2 4 #[.val (.ref x0)] [(.ref tv)] t → Steps p.tables e below S0 t := fun t k => p1 t (st2 t k)
  obtain ⟨cl4, Ar4, -, Sz4, Ng4, -, -⟩ := id V0
  have p5 : ∀ t, own_W p e below m T2 13 #[.val (.ref x0)] [(.int (0 : Int32))] t → Steps p.tables e below S0 t := fun t k => p3 t (by
    show own_W p e below m T2 4 #[.val (.ref x0)] [(.ref tv)] _
    refine X2.arraylength hx (by rw [e2]; exact Ar4.1) (State.isArrayOf_alike hZ.alike Ar4.2.1) (g := (mkF m 4 #[.val (.ref x0)] [(.ref tv)])) rfl rfl (hb hby die_4) _ ?_
    rw [len_of Sz4 Ng4]
    show own_W p e below m T2 5 #[.val (.ref x0)] [(.int N)] _
    refine XS.ifYes X2.here hx rfl (pc0 := 5) (pc' := 12) rfl (hb hby die_5) rfl ((if0 _ _).trans (feq (hN)).2) (by decide) (by decide) ?_
    show own_W p e below m T2 12 #[.val (.ref x0)] [] _
    refine XS.iconst X2.here hx rfl (hb hby die_12) ?_
    exact k)
  subst hS0
  obtain ⟨fs, hr, hrun, hended, hW, hsame⟩ := X2.leave (v := some (.int (0 : Int32))) (fun h => by rw [Bd.returns] at h; cases h)
  refine ⟨_, _, p5 _ ?_, hrun, hended, _, _, rfl, ?_, ⟨_, rfl⟩, hW, hsame.mono (by decide) (by decide)⟩
  · show own_W p e below m T2 13 #[.val (.ref x0)] [(.int (0 : Int32))] _
    exact retN X2 hx (t := .boolean) Bd.returns (by simp) (hb hby die_13) hr
  · show Qie Z x0 tv kb n h0 n0 _ T2.heap _
    rw [e2]
    exact ⟨rfl, N0, rfl⟩
theorem dle_0 : decode jdk_42_method_54_code 0 = .ok (.aload_n 0, 1) := by decide +kernel
theorem dle_1 : decode jdk_42_method_54_code 1 = .ok (.getfield 9, 3) := by decide +kernel
theorem dle_4 : decode jdk_42_method_54_code 4 = .ok (.arraylength, 1) := by decide +kernel
theorem dle_5 : decode jdk_42_method_54_code 5 = .ok (.aload_n 0, 1) := by decide +kernel
theorem dle_6 : decode jdk_42_method_54_code 6 = .ok (.invokevirtual 335, 3) := by decide +kernel
theorem dle_9 : decode jdk_42_method_54_code 9 = .ok (.ishr, 1) := by decide +kernel
theorem dle_10 : decode jdk_42_method_54_code 10 = .ok (.ireturn, 1) := by decide +kernel
theorem pnle : plainName "java/lang/String" = true := by first | (simp [plainName, overriddenIn]; done) | decide +kernel
theorem pdle_0 : parseMethodDescriptor "()B" = some ⟨[], some .byte⟩ := by decide +kernel
theorem efle (m : MethodId) (x0 : Addr) : entryFrame m #[(.ref x0)] 1 = mkF m 0 #[.val (.ref x0)] [] := by first | (simp [entryFrame, mkF, argsToLocals, Value.category]; done) | rfl
def Qle (Z : State) (x0 : Addr) (tv : Addr) (kb : ClassId) (n : Int32) (cs : Int32) (G : Value) (h0 : Heap) (n0 : Nat) (v : Option Value) (h : Heap) (L : List Loc) : Prop := v = some (.int n) ∧ Fr n0 L ∧ h = h0
set_option maxRecDepth 65536 in
set_option maxHeartbeats 40000000 in
theorem rmle (l : Launch) (Z : State) (a0 : Array Value) (hw : ∀ d ∈ tables_1, d.before a0 Z = true) (ws : List Jvm.Cond) (x0 : Addr) (tv : Addr) (kb : ClassId) (n : Int32) (cs : Int32) (G : Value) (h0 : Heap) (n0 : Nat) (Z0 : n0 ≤ h0.size) (E0 : Exa Z h0 x0 "java/lang/String") (F2 : Fld Z h0 x0 "java/lang/String" "value" "[B" (.ref tv)) (HL : own_LN Z h0 x0 tv kb n) (O0 : Old Z n0 h0) (st : own_ST Z cs G) :
    MetFree l (⟨"java/lang/String", "length", "()I"⟩ : MethodName) (head1 (Jvm.Cond.code (⟨"java/lang/String", "length", "()I"⟩ : MethodName) jdk_42_method_54_code 1 (some .int) :: ws) ({ frames := 1, cells := 0, slots := 0, locals := 13 } : Room)) (fun a U => a = #[(.ref x0)] ∧ Z.Warmed39 U.vm ∧ U.heap = h0) (fun _ _ _ _ _ => True) (fun _ U o U' => ∃ v L, o = .returned v ∧ Qle Z x0 tv kb n cs G h0 n0 v U'.heap L ∧ FrameEnd U o U' L ({ frames := 1, cells := 0, slots := 0, locals := 13 } : Room).cells ({ frames := 1, cells := 0, slots := 0, locals := 13 } : Room).slots) := by
  refine MetFree.of_bodySF (plainFor_of_name pnle) hisR ?_
  intro p e s m args below meth c s₁ Bd hml0 hP hK
  obtain ⟨rfl, hZ, hh⟩ := hP
  have hx := Bd.exec
  have hby := Bd.bytes
  have hml : c.maxLocals = 1 := hml0
  have hown : s.vm.findClass "java/lang/String" = some m.cls := findClass_of_methodNamed Bd.named
  have hnm := (name_of_methodNamed Bd.named Bd.method).1
  have X0 : Stand p l e ({ frames := 1, cells := 0, slots := 0, locals := 13 } : Room) s m #[(.ref x0)] below meth c s₁ [] 0 0 := Stand.of_body Bd
  have e0 : s₁.heap = h0 := by rw [← hh, Bd.state]; rfl
  have N0 := Fr.nil n0
  have pre0 : ∀ t, Steps p.tables e below (s₁.setTop (mkF m 0 #[.val (.ref x0)] [])) t → Steps p.tables e below (s₁.setTop (entryFrame m #[(.ref x0)] 1)) t := fun t k => castTop (efle m x0) k
  obtain ⟨S0, hS0⟩ : ∃ z, z = (s₁.setTop (entryFrame m #[(.ref x0)] 1)) := ⟨_, rfl⟩
  rw [← hS0] at pre0
  obtain ⟨sc, hcs, sa, sh, sl, sg, hG⟩ := id st
  obtain ⟨N, vs, V0, hN, hk⟩ := id HL
  have p1 : ∀ t, own_W p e below m s₁ 1 #[.val (.ref x0)] [(.ref x0)] t → Steps p.tables e below S0 t := fun t k => pre0 t (by
    show own_W p e below m s₁ 0 #[.val (.ref x0)] [] _
    refine XS.aloadN X0.here hx rfl (hb hby dle_0) rfl rfl ?_
    exact k)
  obtain ⟨T2, X2, e2, st2⟩ := getF X0 hx hZ hown (host := "") (Or.inl (hw _ (List.mem_of_getElem? (i := 27) rfl))) Via.refl e0 F2 (g := (mkF m 1 #[.val (.ref x0)] [(.ref x0)])) rfl rfl (hb hby dle_1)
  have p3 : ∀ t, own_W p e below m T2 4 #[.val (.ref x0)] [(.ref tv)] t → Steps p.tables e below S0 t := fun t k => p1 t (st2 t k)
  obtain ⟨cl4, Ar4, -, Sz4, Ng4, -, -⟩ := id V0
  have p5 : ∀ t, own_W p e below m T2 5 #[.val (.ref x0)] [(.int N)] t → Steps p.tables e below S0 t := fun t k => p3 t (by
    show own_W p e below m T2 4 #[.val (.ref x0)] [(.ref tv)] _
    refine X2.arraylength hx (by rw [e2]; exact Ar4.1) (State.isArrayOf_alike hZ.alike Ar4.2.1) (g := (mkF m 4 #[.val (.ref x0)] [(.ref tv)])) rfl rfl (hb hby dle_4) _ ?_
    rw [len_of Sz4 Ng4]
    exact k)
  rcases hk with ⟨F1, hn⟩ | ⟨F1, hn⟩
  · have u_ := Z0
    have p6 : ∀ t, own_W p e below m T2 6 #[.val (.ref x0)] [(.ref x0), (.int N)] t → Steps p.tables e below S0 t := fun t k => p5 t (by
      show own_W p e below m T2 5 #[.val (.ref x0)] [(.int N)] _
      refine XS.aloadN X2.here hx rfl (hb hby dle_5) rfl rfl ?_
      exact k)
    obtain ⟨cq7, kq7, qa7, qb7, qc7⟩ := isOf hZ e2 E0
    obtain ⟨_, _, ⟨T7, L7, k7, n7⟩, -, X7, ⟨Lc7, hQ7, l7, y7, z7⟩, st7⟩ := X2.virtualBack hx (y := (⟨"java/lang/String", "coder", "()B"⟩ : MethodName)) (z := (⟨"java/lang/String", "coder", "()B"⟩ : MethodName)) hown (mvT hZ (hw _ (List.mem_of_getElem? (i := 45) rfl))) (mvT hZ (hw _ (List.mem_of_getElem? (i := 46) rfl))) (notFace_of_selects (args := #[]) (mvT hZ (hw _ (List.mem_of_getElem? (i := 48) rfl)))) (mvT hZ (hw _ (List.mem_of_getElem? (i := 48) rfl))) (mvT hZ (hw _ (List.mem_of_getElem? (i := 47) rfl))) (by decide) (backOf (W := 1) (rmco0 l Z a0 hw [] x0 cs G h0 n0 Z0 F1 O0 st) hZ (hw _ (List.mem_of_getElem? (i := 49) rfl)) (hw _ (List.mem_of_getElem? (i := 7) rfl)) (by decide) (by decide)) qa7 qc7 (g := (mkF m 6 #[.val (.ref x0)] [(.ref x0), (.int N)])) rfl (by rw [hml]; rfl) (Steps.refl _) (argsL := []) (rest := [(.int N)]) (lenOf pdle_0 rfl) rfl (by show 2 * 0 + _ ≤ _; exact Nat.le_of_eq rfl) (hb hby dle_6) (fun _ _ => ⟨rfl, e2, (by decide : 0 + 0 ≤ _), (by decide : 0 + 0 ≤ _)⟩)
    dsimp only [Pt.U, Pt.locs, Pt.cells, Pt.slots] at X7 l7 y7 z7 st7 hQ7
    subst l7 y7 z7
    obtain ⟨rfl, Nq7, e7⟩ := hQ7
    have N7 := Fr.app N0 Nq7
    have p8 : ∀ t, own_W p e below m T7 9 #[.val (.ref x0)] [(.int (0 : Int32)), (.int N)] t → Steps p.tables e below S0 t := fun t k => p6 t (st7.trans k)
    have p9 : ∀ t, own_W p e below m T7 10 #[.val (.ref x0)] [(.int (N >>> ((0 : Int32) &&& 31)))] t → Steps p.tables e below S0 t := fun t k => p8 t (by
      show own_W p e below m T7 9 #[.val (.ref x0)] [(.int (0 : Int32)), (.int N)] _
      refine XS.ishr X7.here hx rfl (hb hby dle_9) rfl ?_
      exact k)
    subst hS0
    obtain ⟨fs, hr, hrun, hended, hW, hsame⟩ := X7.leave (v := some (.int (N >>> ((0 : Int32) &&& 31)))) (fun h => by rw [Bd.returns] at h; cases h)
    refine ⟨_, _, p9 _ ?_, hrun, hended, _, _, rfl, ?_, ⟨_, rfl⟩, hW, hsame.mono (by decide) (by decide)⟩
    · show own_W p e below m T7 10 #[.val (.ref x0)] [(.int (N >>> ((0 : Int32) &&& 31)))] _
      exact retI X7 hx Bd.returns (hb hby dle_10) hr
    · show Qle Z x0 tv kb n cs G h0 n0 _ T7.heap _
      rw [e7]
      exact ⟨congrArg (fun z => some (Value.int z)) hn, N7, rfl⟩
  · have u_ := Z0
    have p10 : ∀ t, own_W p e below m T2 6 #[.val (.ref x0)] [(.ref x0), (.int N)] t → Steps p.tables e below S0 t := fun t k => p5 t (by
      show own_W p e below m T2 5 #[.val (.ref x0)] [(.int N)] _
      refine XS.aloadN X2.here hx rfl (hb hby dle_5) rfl rfl ?_
      exact k)
    obtain ⟨cq11, kq11, qa11, qb11, qc11⟩ := isOf hZ e2 E0
    obtain ⟨_, _, ⟨T11, L11, k11, n11⟩, -, X11, ⟨Lc11, hQ11, l11, y11, z11⟩, st11⟩ := X2.virtualBack hx (y := (⟨"java/lang/String", "coder", "()B"⟩ : MethodName)) (z := (⟨"java/lang/String", "coder", "()B"⟩ : MethodName)) hown (mvT hZ (hw _ (List.mem_of_getElem? (i := 45) rfl))) (mvT hZ (hw _ (List.mem_of_getElem? (i := 46) rfl))) (notFace_of_selects (args := #[]) (mvT hZ (hw _ (List.mem_of_getElem? (i := 48) rfl)))) (mvT hZ (hw _ (List.mem_of_getElem? (i := 48) rfl))) (mvT hZ (hw _ (List.mem_of_getElem? (i := 47) rfl))) (by decide) (backOf (W := 1) (rmco1 l Z a0 hw [] x0 cs G h0 n0 Z0 F1 O0 st) hZ (hw _ (List.mem_of_getElem? (i := 49) rfl)) (hw _ (List.mem_of_getElem? (i := 7) rfl)) (by decide) (by decide)) qa11 qc11 (g := (mkF m 6 #[.val (.ref x0)] [(.ref x0), (.int N)])) rfl (by rw [hml]; rfl) (Steps.refl _) (argsL := []) (rest := [(.int N)]) (lenOf pdle_0 rfl) rfl (by show 2 * 0 + _ ≤ _; exact Nat.le_of_eq rfl) (hb hby dle_6) (fun _ _ => ⟨rfl, e2, (by decide : 0 + 0 ≤ _), (by decide : 0 + 0 ≤ _)⟩)
    dsimp only [Pt.U, Pt.locs, Pt.cells, Pt.slots] at X11 l11 y11 z11 st11 hQ11
    subst l11 y11 z11
    obtain ⟨rfl, Nq11, e11⟩ := hQ11
    have N11 := Fr.app N0 Nq11
    have p12 : ∀ t, own_W p e below m T11 9 #[.val (.ref x0)] [(.int (1 : Int32)), (.int N)] t → Steps p.tables e below S0 t := fun t k => p10 t (st11.trans k)
    have p13 : ∀ t, own_W p e below m T11 10 #[.val (.ref x0)] [(.int (N >>> ((1 : Int32) &&& 31)))] t → Steps p.tables e below S0 t := fun t k => p12 t (by
      show own_W p e below m T11 9 #[.val (.ref x0)] [(.int (1 : Int32)), (.int N)] _
      refine XS.ishr X11.here hx rfl (hb hby dle_9) rfl ?_
      exact k)
    subst hS0
    obtain ⟨fs, hr, hrun, hended, hW, hsame⟩ := X11.leave (v := some (.int (N >>> ((1 : Int32) &&& 31)))) (fun h => by rw [Bd.returns] at h; cases h)
    refine ⟨_, _, p13 _ ?_, hrun, hended, _, _, rfl, ?_, ⟨_, rfl⟩, hW, hsame.mono (by decide) (by decide)⟩
    · show own_W p e below m T11 10 #[.val (.ref x0)] [(.int (N >>> ((1 : Int32) &&& 31)))] _
      exact retI X11 hx Bd.returns (hb hby dle_10) hr
    · show Qle Z x0 tv kb n cs G h0 n0 _ T11.heap _
      rw [e11]
      exact ⟨congrArg (fun z => some (Value.int z)) hn, N11, rfl⟩
theorem dca_0 : decode jdk_42_method_56_code 0 = .ok (.aload_n 0, 1) := by decide +kernel
theorem dca_1 : decode jdk_42_method_56_code 1 = .ok (.invokevirtual 492, 3) := by decide +kernel
theorem dca_4 : decode jdk_42_method_56_code 4 = .ok (.ifCond .eq 12, 3) := by decide +kernel
theorem dca_7 : decode jdk_42_method_56_code 7 = .ok (.aload_n 0, 1) := by decide +kernel
theorem dca_8 : decode jdk_42_method_56_code 8 = .ok (.getfield 9, 3) := by decide +kernel
theorem dca_11 : decode jdk_42_method_56_code 11 = .ok (.iload_n 1, 1) := by decide +kernel
theorem dca_12 : decode jdk_42_method_56_code 12 = .ok (.invokestatic 495, 3) := by decide +kernel
theorem dca_15 : decode jdk_42_method_56_code 15 = .ok (.ireturn, 1) := by decide +kernel
theorem dca_16 : decode jdk_42_method_56_code 16 = .ok (.aload_n 0, 1) := by decide +kernel
theorem dca_17 : decode jdk_42_method_56_code 17 = .ok (.getfield 9, 3) := by decide +kernel
theorem dca_20 : decode jdk_42_method_56_code 20 = .ok (.iload_n 1, 1) := by decide +kernel
theorem dca_21 : decode jdk_42_method_56_code 21 = .ok (.invokestatic 498, 3) := by decide +kernel
theorem dca_24 : decode jdk_42_method_56_code 24 = .ok (.ireturn, 1) := by decide +kernel
theorem pnca : plainName "java/lang/String" = true := by first | (simp [plainName, overriddenIn]; done) | decide +kernel
theorem pdca_0 : parseMethodDescriptor "()Z" = some ⟨[], some .boolean⟩ := by decide +kernel
theorem pdca_1 : parseMethodDescriptor "([BI)C" = some ⟨[(.array .byte), .int], some .char⟩ := by decide +kernel
theorem efca (m : MethodId) (x0 : Addr) (x1 : Int32) : entryFrame m #[(.ref x0), (.int x1)] 2 = mkF m 0 #[.val (.ref x0), .val (.int x1)] [] := by first | (simp [entryFrame, mkF, argsToLocals, Value.category]; done) | rfl
def Qca (Z : State) (x0 : Addr) (x1 : Int32) (tv : Addr) (kb : ClassId) (ch : Int32) (cs : Int32) (G : Value) (h0 : Heap) (n0 : Nat) (v : Option Value) (h : Heap) (L : List Loc) : Prop := v = some (.int ch) ∧ Fr n0 L ∧ h = h0
set_option maxRecDepth 65536 in
set_option maxHeartbeats 40000000 in
theorem rmca (l : Launch) (Z : State) (a0 : Array Value) (hw : ∀ d ∈ tables_1, d.before a0 Z = true) (ws : List Jvm.Cond) (x0 : Addr) (x1 : Int32) (tv : Addr) (kb : ClassId) (ch : Int32) (cs : Int32) (G : Value) (h0 : Heap) (n0 : Nat) (Z0 : n0 ≤ h0.size) (E0 : Exa Z h0 x0 "java/lang/String") (F2 : Fld Z h0 x0 "java/lang/String" "value" "[B" (.ref tv)) (HC : own_CH Z h0 x0 tv kb x1 ch) (ki : own_ok ch) (O0 : Old Z n0 h0) (st : own_ST Z cs G) :
    MetFree l (⟨"java/lang/String", "charAt", "(I)C"⟩ : MethodName) (head1 (Jvm.Cond.code (⟨"java/lang/String", "charAt", "(I)C"⟩ : MethodName) jdk_42_method_56_code 2 (some .char) :: ws) ({ frames := 4, cells := 0, slots := 0, locals := 53 } : Room)) (fun a U => a = #[(.ref x0), (.int x1)] ∧ Z.Warmed39 U.vm ∧ U.heap = h0) (fun _ _ _ _ _ => True) (fun _ U o U' => ∃ v L, o = .returned v ∧ Qca Z x0 x1 tv kb ch cs G h0 n0 v U'.heap L ∧ FrameEnd U o U' L ({ frames := 4, cells := 0, slots := 0, locals := 53 } : Room).cells ({ frames := 4, cells := 0, slots := 0, locals := 53 } : Room).slots) := by
  refine MetFree.of_bodySF (plainFor_of_name pnca) hisR ?_
  intro p e s m args below meth c s₁ Bd hml0 hP hK
  obtain ⟨rfl, hZ, hh⟩ := hP
  have hx := Bd.exec
  have hby := Bd.bytes
  have hml : c.maxLocals = 2 := hml0
  have hown : s.vm.findClass "java/lang/String" = some m.cls := findClass_of_methodNamed Bd.named
  have hnm := (name_of_methodNamed Bd.named Bd.method).1
  have X0 : Stand p l e ({ frames := 4, cells := 0, slots := 0, locals := 53 } : Room) s m #[(.ref x0), (.int x1)] below meth c s₁ [] 0 0 := Stand.of_body Bd
  have e0 : s₁.heap = h0 := by rw [← hh, Bd.state]; rfl
  have N0 := Fr.nil n0
  have pre0 : ∀ t, Steps p.tables e below (s₁.setTop (mkF m 0 #[.val (.ref x0), .val (.int x1)] [])) t → Steps p.tables e below (s₁.setTop (entryFrame m #[(.ref x0), (.int x1)] 2)) t := fun t k => castTop (efca m x0 x1) k
  obtain ⟨S0, hS0⟩ : ∃ z, z = (s₁.setTop (entryFrame m #[(.ref x0), (.int x1)] 2)) := ⟨_, rfl⟩
  rw [← hS0] at pre0
  obtain ⟨sc, hcs, sa, sh, sl, sg, hG⟩ := id st
  rcases HC with ⟨F1, N, vs, V0, jj, uu, li⟩ | ⟨F1, N, vs, V0, jj, j1, j2, u1, u2⟩
  · have u_ := Z0
    have p1 : ∀ t, own_W p e below m s₁ 1 #[.val (.ref x0), .val (.int x1)] [(.ref x0)] t → Steps p.tables e below S0 t := fun t k => pre0 t (by
      show own_W p e below m s₁ 0 #[.val (.ref x0), .val (.int x1)] [] _
      refine XS.aloadN X0.here hx rfl (hb hby dca_0) rfl rfl ?_
      exact k)
    obtain ⟨cq2, kq2, qa2, qb2, qc2⟩ := isOf hZ e0 E0
    obtain ⟨_, _, ⟨T2, L2, k2, n2⟩, -, X2, ⟨Lc2, hQ2, l2, y2, z2⟩, st2⟩ := X0.virtualBack hx (y := (⟨"java/lang/String", "isLatin1", "()Z"⟩ : MethodName)) (z := (⟨"java/lang/String", "isLatin1", "()Z"⟩ : MethodName)) hown (mvT hZ (hw _ (List.mem_of_getElem? (i := 55) rfl))) (mvT hZ (hw _ (List.mem_of_getElem? (i := 56) rfl))) (notFace_of_selects (args := #[]) (mvT hZ (hw _ (List.mem_of_getElem? (i := 58) rfl)))) (mvT hZ (hw _ (List.mem_of_getElem? (i := 58) rfl))) (mvT hZ (hw _ (List.mem_of_getElem? (i := 57) rfl))) (by decide) (backOf (W := 0) (rmil0 l Z a0 hw [] x0 cs G h0 n0 Z0 F1 O0 st) hZ (hw _ (List.mem_of_getElem? (i := 59) rfl)) (hw _ (List.mem_of_getElem? (i := 7) rfl)) (by decide) (by decide)) qa2 qc2 (g := (mkF m 1 #[.val (.ref x0), .val (.int x1)] [(.ref x0)])) rfl (by rw [hml]; rfl) (Steps.refl _) (argsL := []) (rest := []) (lenOf pdca_0 rfl) rfl (by show 2 * 0 + _ ≤ _; exact Nat.le_of_eq rfl) (hb hby dca_1) (fun _ _ => ⟨rfl, e0, (by decide : 0 + 0 ≤ _), (by decide : 0 + 0 ≤ _)⟩)
    dsimp only [Pt.U, Pt.locs, Pt.cells, Pt.slots] at X2 l2 y2 z2 st2 hQ2
    subst l2 y2 z2
    obtain ⟨rfl, Nq2, e2⟩ := hQ2
    have N2 := Fr.app N0 Nq2
    have p3 : ∀ t, own_W p e below m T2 4 #[.val (.ref x0), .val (.int x1)] [(.int (1 : Int32))] t → Steps p.tables e below S0 t := fun t k => p1 t (st2.trans k)
    have p4 : ∀ t, own_W p e below m T2 8 #[.val (.ref x0), .val (.int x1)] [(.ref x0)] t → Steps p.tables e below S0 t := fun t k => p3 t (by
      show own_W p e below m T2 4 #[.val (.ref x0), .val (.int x1)] [(.int (1 : Int32))] _
      refine XS.ifNo X2.here hx rfl (hb hby dca_4) rfl ((if0 _ _).trans (feq (by decide)).1) ?_
      show own_W p e below m T2 7 #[.val (.ref x0), .val (.int x1)] [] _
      refine XS.aloadN X2.here hx rfl (hb hby dca_7) rfl rfl ?_
      exact k)
    obtain ⟨T5, X5, e5, st5⟩ := getF X2 hx hZ hown (host := "") (Or.inl (hw _ (List.mem_of_getElem? (i := 27) rfl))) Via.refl e2 F2 (g := (mkF m 8 #[.val (.ref x0), .val (.int x1)] [(.ref x0)])) rfl rfl (hb hby dca_8)
    have p6 : ∀ t, own_W p e below m T5 11 #[.val (.ref x0), .val (.int x1)] [(.ref tv)] t → Steps p.tables e below S0 t := fun t k => p4 t (st5 t k)
    have p7 : ∀ t, own_W p e below m T5 12 #[.val (.ref x0), .val (.int x1)] [(.int x1), (.ref tv)] t → Steps p.tables e below S0 t := fun t k => p6 t (by
      show own_W p e below m T5 11 #[.val (.ref x0), .val (.int x1)] [(.ref tv)] _
      refine XS.iloadN X5.here hx rfl (hb hby dca_11) rfl ?_
      exact k)
    obtain ⟨_, _, ⟨T8, L8, k8, n8⟩, -, X8, ⟨Lc8, hQ8, l8, y8, z8⟩, st8⟩ := Jvm.LawKit.callS X5 hx (y := (⟨"java/lang/StringLatin1", "charAt", "([BI)C"⟩ : MethodName)) hown (mvT hZ (hw _ (List.mem_of_getElem? (i := 60) rfl))) (mvT hZ (hw _ (List.mem_of_getElem? (i := 61) rfl))) (mvT hZ (hw _ (List.mem_of_getElem? (i := 12) rfl))) (mvT hZ (hw _ (List.mem_of_getElem? (i := 62) rfl))) (by decide) (backOf (W := 0) (rmlc l Z a0 hw [] tv x1 kb N vs ch cs G h0 n0 Z0 V0 jj uu ki li O0 st) hZ (hw _ (List.mem_of_getElem? (i := 62) rfl)) (hw _ (List.mem_of_getElem? (i := 12) rfl)) (by decide) (by decide)) (g := (mkF m 12 #[.val (.ref x0), .val (.int x1)] [(.int x1), (.ref tv)])) rfl (by rw [hml]; rfl) (argsL := [(.ref tv), (.int x1)]) (rest := []) (lenOf pdca_1 rfl) rfl (by show 2 * 0 + _ ≤ _; exact Nat.le_of_eq rfl) (hb hby dca_12) (fun _ _ => ⟨rfl, e5, (by decide : 0 + 0 ≤ _), (by decide : 0 + 0 ≤ _)⟩)
    dsimp only [Pt.U, Pt.locs, Pt.cells, Pt.slots] at X8 l8 y8 z8 st8 hQ8
    subst l8 y8 z8
    obtain ⟨rfl, Nq8, e8⟩ := hQ8
    have N8 := Fr.app N2 Nq8
    have p9 : ∀ t, own_W p e below m T8 15 #[.val (.ref x0), .val (.int x1)] [(.int ch)] t → Steps p.tables e below S0 t := fun t k => p7 t (st8 _ k)
    subst hS0
    obtain ⟨fs, hr, hrun, hended, hW, hsame⟩ := X8.leave (v := some (.int (nar .char ch))) (fun h => by rw [Bd.returns] at h; cases h)
    refine ⟨_, _, p9 _ ?_, hrun, hended, _, _, rfl, ?_, ⟨_, rfl⟩, hW, hsame.mono (by decide) (by decide)⟩
    · show own_W p e below m T8 15 #[.val (.ref x0), .val (.int x1)] [(.int ch)] _
      exact retN X8 hx (t := .char) Bd.returns (by simp) (hb hby dca_15) hr
    · show Qca Z x0 x1 tv kb ch cs G h0 n0 _ T8.heap _
      rw [e8]
      exact ⟨congrArg (fun z => some (Value.int z)) (own_nok ki), N8, rfl⟩
  · have u_ := Z0
    have p10 : ∀ t, own_W p e below m s₁ 1 #[.val (.ref x0), .val (.int x1)] [(.ref x0)] t → Steps p.tables e below S0 t := fun t k => pre0 t (by
      show own_W p e below m s₁ 0 #[.val (.ref x0), .val (.int x1)] [] _
      refine XS.aloadN X0.here hx rfl (hb hby dca_0) rfl rfl ?_
      exact k)
    obtain ⟨cq11, kq11, qa11, qb11, qc11⟩ := isOf hZ e0 E0
    obtain ⟨_, _, ⟨T11, L11, k11, n11⟩, -, X11, ⟨Lc11, hQ11, l11, y11, z11⟩, st11⟩ := X0.virtualBack hx (y := (⟨"java/lang/String", "isLatin1", "()Z"⟩ : MethodName)) (z := (⟨"java/lang/String", "isLatin1", "()Z"⟩ : MethodName)) hown (mvT hZ (hw _ (List.mem_of_getElem? (i := 55) rfl))) (mvT hZ (hw _ (List.mem_of_getElem? (i := 56) rfl))) (notFace_of_selects (args := #[]) (mvT hZ (hw _ (List.mem_of_getElem? (i := 58) rfl)))) (mvT hZ (hw _ (List.mem_of_getElem? (i := 58) rfl))) (mvT hZ (hw _ (List.mem_of_getElem? (i := 57) rfl))) (by decide) (backOf (W := 0) (rmil1 l Z a0 hw [] x0 cs G h0 n0 Z0 F1 O0 st) hZ (hw _ (List.mem_of_getElem? (i := 59) rfl)) (hw _ (List.mem_of_getElem? (i := 7) rfl)) (by decide) (by decide)) qa11 qc11 (g := (mkF m 1 #[.val (.ref x0), .val (.int x1)] [(.ref x0)])) rfl (by rw [hml]; rfl) (Steps.refl _) (argsL := []) (rest := []) (lenOf pdca_0 rfl) rfl (by show 2 * 0 + _ ≤ _; exact Nat.le_of_eq rfl) (hb hby dca_1) (fun _ _ => ⟨rfl, e0, (by decide : 0 + 0 ≤ _), (by decide : 0 + 0 ≤ _)⟩)
    dsimp only [Pt.U, Pt.locs, Pt.cells, Pt.slots] at X11 l11 y11 z11 st11 hQ11
    subst l11 y11 z11
    obtain ⟨rfl, Nq11, e11⟩ := hQ11
    have N11 := Fr.app N0 Nq11
    have p12 : ∀ t, own_W p e below m T11 4 #[.val (.ref x0), .val (.int x1)] [(.int (0 : Int32))] t → Steps p.tables e below S0 t := fun t k => p10 t (st11.trans k)
    have p13 : ∀ t, own_W p e below m T11 17 #[.val (.ref x0), .val (.int x1)] [(.ref x0)] t → Steps p.tables e below S0 t := fun t k => p12 t (by
      show own_W p e below m T11 4 #[.val (.ref x0), .val (.int x1)] [(.int (0 : Int32))] _
      refine XS.ifYes X11.here hx rfl (pc0 := 4) (pc' := 16) rfl (hb hby dca_4) rfl ((if0 _ _).trans (teq (rfl)).1) (by decide) (by decide) ?_
      show own_W p e below m T11 16 #[.val (.ref x0), .val (.int x1)] [] _
      refine XS.aloadN X11.here hx rfl (hb hby dca_16) rfl rfl ?_
      exact k)
    obtain ⟨T14, X14, e14, st14⟩ := getF X11 hx hZ hown (host := "") (Or.inl (hw _ (List.mem_of_getElem? (i := 27) rfl))) Via.refl e11 F2 (g := (mkF m 17 #[.val (.ref x0), .val (.int x1)] [(.ref x0)])) rfl rfl (hb hby dca_17)
    have p15 : ∀ t, own_W p e below m T14 20 #[.val (.ref x0), .val (.int x1)] [(.ref tv)] t → Steps p.tables e below S0 t := fun t k => p13 t (st14 t k)
    have p16 : ∀ t, own_W p e below m T14 21 #[.val (.ref x0), .val (.int x1)] [(.int x1), (.ref tv)] t → Steps p.tables e below S0 t := fun t k => p15 t (by
      show own_W p e below m T14 20 #[.val (.ref x0), .val (.int x1)] [(.ref tv)] _
      refine XS.iloadN X14.here hx rfl (hb hby dca_20) rfl ?_
      exact k)
    obtain ⟨_, _, ⟨T17, L17, k17, n17⟩, -, X17, ⟨Lc17, hQ17, l17, y17, z17⟩, st17⟩ := Jvm.LawKit.callS X14 hx (y := (⟨"java/lang/StringUTF16", "charAt", "([BI)C"⟩ : MethodName)) hown (mvT hZ (hw _ (List.mem_of_getElem? (i := 110) rfl))) (mvT hZ (hw _ (List.mem_of_getElem? (i := 111) rfl))) (mvT hZ (hw _ (List.mem_of_getElem? (i := 93) rfl))) (mvT hZ (hw _ (List.mem_of_getElem? (i := 112) rfl))) (by decide) (backOf (W := 0) (rmua l Z a0 hw [] tv x1 kb N vs ch cs G h0 n0 Z0 V0 jj j1 j2 u1 u2 ki O0 st) hZ (hw _ (List.mem_of_getElem? (i := 112) rfl)) (hw _ (List.mem_of_getElem? (i := 93) rfl)) (by decide) (by decide)) (g := (mkF m 21 #[.val (.ref x0), .val (.int x1)] [(.int x1), (.ref tv)])) rfl (by rw [hml]; rfl) (argsL := [(.ref tv), (.int x1)]) (rest := []) (lenOf pdca_1 rfl) rfl (by show 2 * 0 + _ ≤ _; exact Nat.le_of_eq rfl) (hb hby dca_21) (fun _ _ => ⟨rfl, e14, (by decide : 0 + 0 ≤ _), (by decide : 0 + 0 ≤ _)⟩)
    dsimp only [Pt.U, Pt.locs, Pt.cells, Pt.slots] at X17 l17 y17 z17 st17 hQ17
    subst l17 y17 z17
    obtain ⟨rfl, Nq17, e17⟩ := hQ17
    have N17 := Fr.app N11 Nq17
    have p18 : ∀ t, own_W p e below m T17 24 #[.val (.ref x0), .val (.int x1)] [(.int ch)] t → Steps p.tables e below S0 t := fun t k => p16 t (st17 _ k)
    subst hS0
    obtain ⟨fs, hr, hrun, hended, hW, hsame⟩ := X17.leave (v := some (.int (nar .char ch))) (fun h => by rw [Bd.returns] at h; cases h)
    refine ⟨_, _, p18 _ ?_, hrun, hended, _, _, rfl, ?_, ⟨_, rfl⟩, hW, hsame.mono (by decide) (by decide)⟩
    · show own_W p e below m T17 24 #[.val (.ref x0), .val (.int x1)] [(.int ch)] _
      exact retN X17 hx (t := .char) Bd.returns (by simp) (hb hby dca_24) hr
    · show Qca Z x0 x1 tv kb ch cs G h0 n0 _ T17.heap _
      rw [e17]
      exact ⟨congrArg (fun z => some (Value.int z)) (own_nok ki), N17, rfl⟩
theorem drq1_0 : decode prog_4_method_2_code 0 = .ok (.aload_n 1, 1) := by decide +kernel
theorem drq1_1 : decode prog_4_method_2_code 1 = .ok (.invokevirtual 7, 3) := by decide +kernel
theorem drq1_4 : decode prog_4_method_2_code 4 = .ok (.ifCond .eq 17, 3) := by decide +kernel
theorem drq1_21 : decode prog_4_method_2_code 21 = .ok (.iconst 0, 1) := by decide +kernel
theorem drq1_22 : decode prog_4_method_2_code 22 = .ok (.istore_n 2, 1) := by decide +kernel
theorem drq1_23 : decode prog_4_method_2_code 23 = .ok (.iload_n 2, 1) := by decide +kernel
theorem drq1_24 : decode prog_4_method_2_code 24 = .ok (.aload_n 1, 1) := by decide +kernel
theorem drq1_25 : decode prog_4_method_2_code 25 = .ok (.invokevirtual 22, 3) := by decide +kernel
theorem drq1_28 : decode prog_4_method_2_code 28 = .ok (.if_icmp .ge 35, 3) := by decide +kernel
theorem drq1_31 : decode prog_4_method_2_code 31 = .ok (.aload_n 1, 1) := by decide +kernel
theorem drq1_32 : decode prog_4_method_2_code 32 = .ok (.iload_n 2, 1) := by decide +kernel
theorem drq1_33 : decode prog_4_method_2_code 33 = .ok (.invokevirtual 26, 3) := by decide +kernel
theorem drq1_36 : decode prog_4_method_2_code 36 = .ok (.invokestatic 30, 3) := by decide +kernel
theorem drq1_39 : decode prog_4_method_2_code 39 = .ok (.ifCond .eq 18, 3) := by decide +kernel
theorem drq1_57 : decode prog_4_method_2_code 57 = .ok (.iinc 2 1, 3) := by decide +kernel
theorem drq1_60 : decode prog_4_method_2_code 60 = .ok (.goto (-37), 3) := by decide +kernel
theorem drq1_63 : decode prog_4_method_2_code 63 = .ok (.aload_n 1, 1) := by decide +kernel
theorem drq1_64 : decode prog_4_method_2_code 64 = .ok (.areturn, 1) := by decide +kernel
theorem pnrq1 : plainName "com/example/disposition/disposition/Names" = true := by first | (simp [plainName, overriddenIn]; done) | decide +kernel
theorem pdrq1_0 : parseMethodDescriptor "()Z" = some ⟨[], some .boolean⟩ := by decide +kernel
theorem pdrq1_1 : parseMethodDescriptor "()I" = some ⟨[], some .int⟩ := by decide +kernel
theorem pdrq1_2 : parseMethodDescriptor "(I)C" = some ⟨[.int], some .char⟩ := by decide +kernel
theorem pdrq1_3 : parseMethodDescriptor "(C)Z" = some ⟨[.char], some .boolean⟩ := by decide +kernel
theorem efrq1 (m : MethodId) (x0 : Addr) (x1 : Addr) : entryFrame m #[(.ref x0), (.ref x1)] 3 = mkF m 0 #[.val (.ref x0), .val (.ref x1), .unset] [] := by first | (simp [entryFrame, mkF, argsToLocals, Value.category]; done) | rfl
def Qrq1 (Z : State) (x0 : Addr) (x1 : Addr) (tv : Addr) (kb : ClassId) (c0 : Int32) (cs : Int32) (G : Value) (h0 : Heap) (n0 : Nat) (v : Option Value) (h : Heap) (L : List Loc) : Prop := v = some (.ref x1) ∧ Fr n0 L ∧ h = h0
set_option maxRecDepth 65536 in
set_option maxHeartbeats 40000000 in
theorem rmrq1 (l : Launch) (Z : State) (a0 : Array Value) (hw : ∀ d ∈ tables_1, d.before a0 Z = true) (ws : List Jvm.Cond) (x0 : Addr) (x1 : Addr) (tv : Addr) (kb : ClassId) (c0 : Int32) (cs : Int32) (G : Value) (h0 : Heap) (n0 : Nat) (Z0 : n0 ≤ h0.size) (E0 : Exa Z h0 x1 "java/lang/String") (F2 : Fld Z h0 x1 "java/lang/String" "value" "[B" (.ref tv)) (HL : own_LN Z h0 x1 tv kb (1 : Int32)) (H0 : own_CH Z h0 x1 tv kb (0 : Int32) c0) (ko0 : own_ok c0) (O0 : Old Z n0 h0) (st : own_ST Z cs G) :
    MetFree l (⟨"com/example/disposition/disposition/Names", "require", "(Ljava/lang/String;Ljava/lang/String;)Ljava/lang/String;"⟩ : MethodName) (head1 (Jvm.Cond.code (⟨"com/example/disposition/disposition/Names", "require", "(Ljava/lang/String;Ljava/lang/String;)Ljava/lang/String;"⟩ : MethodName) prog_4_method_2_code 3 (some (.object "java/lang/String")) :: ws) ({ frames := 5, cells := 0, slots := 0, locals := 66 } : Room)) (fun a U => a = #[(.ref x0), (.ref x1)] ∧ Z.Warmed39 U.vm ∧ U.heap = h0) (fun _ _ _ _ _ => True) (fun _ U o U' => ∃ v L, o = .returned v ∧ Qrq1 Z x0 x1 tv kb c0 cs G h0 n0 v U'.heap L ∧ FrameEnd U o U' L ({ frames := 5, cells := 0, slots := 0, locals := 66 } : Room).cells ({ frames := 5, cells := 0, slots := 0, locals := 66 } : Room).slots) := by
  refine MetFree.of_bodySF (plainFor_of_name pnrq1) hisR ?_
  intro p e s m args below meth c s₁ Bd hml0 hP hK
  obtain ⟨rfl, hZ, hh⟩ := hP
  have hx := Bd.exec
  have hby := Bd.bytes
  have hml : c.maxLocals = 3 := hml0
  have hown : s.vm.findClass "com/example/disposition/disposition/Names" = some m.cls := findClass_of_methodNamed Bd.named
  have hnm := (name_of_methodNamed Bd.named Bd.method).1
  have X0 : Stand p l e ({ frames := 5, cells := 0, slots := 0, locals := 66 } : Room) s m #[(.ref x0), (.ref x1)] below meth c s₁ [] 0 0 := Stand.of_body Bd
  have e0 : s₁.heap = h0 := by rw [← hh, Bd.state]; rfl
  have N0 := Fr.nil n0
  have pre0 : ∀ t, Steps p.tables e below (s₁.setTop (mkF m 0 #[.val (.ref x0), .val (.ref x1), .unset] [])) t → Steps p.tables e below (s₁.setTop (entryFrame m #[(.ref x0), (.ref x1)] 3)) t := fun t k => castTop (efrq1 m x0 x1) k
  obtain ⟨S0, hS0⟩ : ∃ z, z = (s₁.setTop (entryFrame m #[(.ref x0), (.ref x1)] 3)) := ⟨_, rfl⟩
  rw [← hS0] at pre0
  obtain ⟨sc, hcs, sa, sh, sl, sg, hG⟩ := id st
  have p1 : ∀ t, own_W p e below m s₁ 1 #[.val (.ref x0), .val (.ref x1), .unset] [(.ref x1)] t → Steps p.tables e below S0 t := fun t k => pre0 t (by
    show own_W p e below m s₁ 0 #[.val (.ref x0), .val (.ref x1), .unset] [] _
    refine XS.aloadN X0.here hx rfl (hb hby drq1_0) rfl rfl ?_
    exact k)
  obtain ⟨cq2, kq2, qa2, qb2, qc2⟩ := isOf hZ e0 E0
  obtain ⟨_, _, ⟨T2, L2, k2, n2⟩, -, X2, ⟨Lc2, hQ2, l2, y2, z2⟩, st2⟩ := X0.virtualBack hx (y := (⟨"java/lang/String", "isEmpty", "()Z"⟩ : MethodName)) (z := (⟨"java/lang/String", "isEmpty", "()Z"⟩ : MethodName)) hown (mvT hZ (hw _ (List.mem_of_getElem? (i := 35) rfl))) (mvT hZ (hw _ (List.mem_of_getElem? (i := 36) rfl))) (notFace_of_selects (args := #[]) (mvT hZ (hw _ (List.mem_of_getElem? (i := 38) rfl)))) (mvT hZ (hw _ (List.mem_of_getElem? (i := 38) rfl))) (mvT hZ (hw _ (List.mem_of_getElem? (i := 37) rfl))) (by decide) (backOf (W := 0) (rmie l Z a0 hw [] x1 tv kb (1 : Int32) h0 n0 Z0 E0 F2 HL) hZ (hw _ (List.mem_of_getElem? (i := 39) rfl)) (hw _ (List.mem_of_getElem? (i := 7) rfl)) (by decide) (by decide)) qa2 qc2 (g := (mkF m 1 #[.val (.ref x0), .val (.ref x1), .unset] [(.ref x1)])) rfl (by rw [hml]; rfl) (Steps.refl _) (argsL := []) (rest := []) (lenOf pdrq1_0 rfl) rfl (by show 2 * 0 + _ ≤ _; exact Nat.le_of_eq rfl) (hb hby drq1_1) (fun _ _ => ⟨rfl, e0, (by decide : 0 + 0 ≤ _), (by decide : 0 + 0 ≤ _)⟩)
  dsimp only [Pt.U, Pt.locs, Pt.cells, Pt.slots] at X2 l2 y2 z2 st2 hQ2
  subst l2 y2 z2
  obtain ⟨rfl, Nq2, e2⟩ := hQ2
  have N2 := Fr.app N0 Nq2
  have p3 : ∀ t, own_W p e below m T2 4 #[.val (.ref x0), .val (.ref x1), .unset] [(.int (0 : Int32))] t → Steps p.tables e below S0 t := fun t k => p1 t (st2.trans k)
  have p4 : ∀ t, own_W p e below m T2 23 #[.val (.ref x0), .val (.ref x1), .val (.int (0 : Int32))] [] t → Steps p.tables e below S0 t := fun t k => p3 t (by
    show own_W p e below m T2 4 #[.val (.ref x0), .val (.ref x1), .unset] [(.int (0 : Int32))] _
    refine XS.ifYes X2.here hx rfl (pc0 := 4) (pc' := 21) rfl (hb hby drq1_4) rfl ((if0 _ _).trans (teq (rfl)).1) (by decide) (by decide) ?_
    show own_W p e below m T2 21 #[.val (.ref x0), .val (.ref x1), .unset] [] _
    refine XS.iconst X2.here hx rfl (hb hby drq1_21) ?_
    show own_W p e below m T2 22 #[.val (.ref x0), .val (.ref x1), .unset] [(.int (0 : Int32))] _
    refine XS.istoreN X2.here hx rfl (hb hby drq1_22) rfl (l' := #[.val (.ref x0), .val (.ref x1), .val (.int (0 : Int32))]) rfl ?_
    exact k)
  have p5 : ∀ t, own_W p e below m T2 25 #[.val (.ref x0), .val (.ref x1), .val (.int (0 : Int32))] [(.ref x1), (.int (0 : Int32))] t → Steps p.tables e below S0 t := fun t k => p4 t (by
    show own_W p e below m T2 23 #[.val (.ref x0), .val (.ref x1), .val (.int (0 : Int32))] [] _
    refine XS.iloadN X2.here hx rfl (hb hby drq1_23) rfl ?_
    show own_W p e below m T2 24 #[.val (.ref x0), .val (.ref x1), .val (.int (0 : Int32))] [(.int (0 : Int32))] _
    refine XS.aloadN X2.here hx rfl (hb hby drq1_24) rfl rfl ?_
    exact k)
  obtain ⟨cq6, kq6, qa6, qb6, qc6⟩ := isOf hZ e2 E0
  obtain ⟨_, _, ⟨T6, L6, k6, n6⟩, -, X6, ⟨Lc6, hQ6, l6, y6, z6⟩, st6⟩ := X2.virtualBack hx (y := (⟨"java/lang/String", "length", "()I"⟩ : MethodName)) (z := (⟨"java/lang/String", "length", "()I"⟩ : MethodName)) hown (mvT hZ (hw _ (List.mem_of_getElem? (i := 40) rfl))) (mvT hZ (hw _ (List.mem_of_getElem? (i := 41) rfl))) (notFace_of_selects (args := #[]) (mvT hZ (hw _ (List.mem_of_getElem? (i := 43) rfl)))) (mvT hZ (hw _ (List.mem_of_getElem? (i := 43) rfl))) (mvT hZ (hw _ (List.mem_of_getElem? (i := 42) rfl))) (by decide) (backOf (W := 1) (rmle l Z a0 hw [] x1 tv kb (1 : Int32) cs G h0 n0 Z0 E0 F2 HL O0 st) hZ (hw _ (List.mem_of_getElem? (i := 44) rfl)) (hw _ (List.mem_of_getElem? (i := 7) rfl)) (by decide) (by decide)) qa6 qc6 (g := (mkF m 25 #[.val (.ref x0), .val (.ref x1), .val (.int (0 : Int32))] [(.ref x1), (.int (0 : Int32))])) rfl (by rw [hml]; rfl) (Steps.refl _) (argsL := []) (rest := [(.int (0 : Int32))]) (lenOf pdrq1_1 rfl) rfl (by show 2 * 0 + _ ≤ _; exact Nat.le_of_eq rfl) (hb hby drq1_25) (fun _ _ => ⟨rfl, e2, (by decide : 0 + 0 ≤ _), (by decide : 0 + 0 ≤ _)⟩)
  dsimp only [Pt.U, Pt.locs, Pt.cells, Pt.slots] at X6 l6 y6 z6 st6 hQ6
  subst l6 y6 z6
  obtain ⟨rfl, Nq6, e6⟩ := hQ6
  have N6 := Fr.app N2 Nq6
  have p7 : ∀ t, own_W p e below m T6 28 #[.val (.ref x0), .val (.ref x1), .val (.int (0 : Int32))] [(.int (1 : Int32)), (.int (0 : Int32))] t → Steps p.tables e below S0 t := fun t k => p5 t (st6.trans k)
  have p8 : ∀ t, own_W p e below m T6 33 #[.val (.ref x0), .val (.ref x1), .val (.int (0 : Int32))] [(.int (0 : Int32)), (.ref x1)] t → Steps p.tables e below S0 t := fun t k => p7 t (by
    show own_W p e below m T6 28 #[.val (.ref x0), .val (.ref x1), .val (.int (0 : Int32))] [(.int (1 : Int32)), (.int (0 : Int32))] _
    refine XS.icmpNo X6.here hx rfl (hb hby drq1_28) rfl ((tlt (by decide)).2.1) ?_
    show own_W p e below m T6 31 #[.val (.ref x0), .val (.ref x1), .val (.int (0 : Int32))] [] _
    refine XS.aloadN X6.here hx rfl (hb hby drq1_31) rfl rfl ?_
    show own_W p e below m T6 32 #[.val (.ref x0), .val (.ref x1), .val (.int (0 : Int32))] [(.ref x1)] _
    refine XS.iloadN X6.here hx rfl (hb hby drq1_32) rfl ?_
    exact k)
  obtain ⟨cq9, kq9, qa9, qb9, qc9⟩ := isOf hZ e6 E0
  obtain ⟨_, _, ⟨T9, L9, k9, n9⟩, -, X9, ⟨Lc9, hQ9, l9, y9, z9⟩, st9⟩ := X6.virtualBack hx (y := (⟨"java/lang/String", "charAt", "(I)C"⟩ : MethodName)) (z := (⟨"java/lang/String", "charAt", "(I)C"⟩ : MethodName)) hown (mvT hZ (hw _ (List.mem_of_getElem? (i := 50) rfl))) (mvT hZ (hw _ (List.mem_of_getElem? (i := 51) rfl))) (notFace_of_selects (args := #[]) (mvT hZ (hw _ (List.mem_of_getElem? (i := 53) rfl)))) (mvT hZ (hw _ (List.mem_of_getElem? (i := 53) rfl))) (mvT hZ (hw _ (List.mem_of_getElem? (i := 52) rfl))) (by decide) (backOf (W := 0) (rmca l Z a0 hw [] x1 (0 : Int32) tv kb c0 cs G h0 n0 Z0 E0 F2 H0 ko0 O0 st) hZ (hw _ (List.mem_of_getElem? (i := 54) rfl)) (hw _ (List.mem_of_getElem? (i := 7) rfl)) (by decide) (by decide)) qa9 qc9 (g := (mkF m 33 #[.val (.ref x0), .val (.ref x1), .val (.int (0 : Int32))] [(.int (0 : Int32)), (.ref x1)])) rfl (by rw [hml]; rfl) (Steps.refl _) (argsL := [(.int (0 : Int32))]) (rest := []) (lenOf pdrq1_2 rfl) rfl (by show 2 * 0 + _ ≤ _; exact Nat.le_of_eq rfl) (hb hby drq1_33) (fun _ _ => ⟨rfl, e6, (by decide : 0 + 0 ≤ _), (by decide : 0 + 0 ≤ _)⟩)
  dsimp only [Pt.U, Pt.locs, Pt.cells, Pt.slots] at X9 l9 y9 z9 st9 hQ9
  subst l9 y9 z9
  obtain ⟨rfl, Nq9, e9⟩ := hQ9
  have N9 := Fr.app N6 Nq9
  have p10 : ∀ t, own_W p e below m T9 36 #[.val (.ref x0), .val (.ref x1), .val (.int (0 : Int32))] [(.int c0)] t → Steps p.tables e below S0 t := fun t k => p8 t (st9.trans k)
  obtain ⟨_, _, ⟨T11, L11, k11, n11⟩, -, X11, ⟨Lc11, hQ11, l11, y11, z11⟩, st11⟩ := Jvm.LawKit.callS X9 hx (y := (⟨"java/lang/Character", "isISOControl", "(C)Z"⟩ : MethodName)) hown (mvT hZ (hw _ (List.mem_of_getElem? (i := 71) rfl))) (mvT hZ (hw _ (List.mem_of_getElem? (i := 72) rfl))) (mvT hZ (hw _ (List.mem_of_getElem? (i := 73) rfl))) (mvT hZ (hw _ (List.mem_of_getElem? (i := 74) rfl))) (by decide) (backOf (W := 0) (rmic l Z a0 hw [] c0  h0 n0 Z0 ko0) hZ (hw _ (List.mem_of_getElem? (i := 74) rfl)) (hw _ (List.mem_of_getElem? (i := 73) rfl)) (by decide) (by decide)) (g := (mkF m 36 #[.val (.ref x0), .val (.ref x1), .val (.int (0 : Int32))] [(.int c0)])) rfl (by rw [hml]; rfl) (argsL := [(.int c0)]) (rest := []) (lenOf pdrq1_3 rfl) rfl (by show 2 * 0 + _ ≤ _; exact Nat.le_of_eq rfl) (hb hby drq1_36) (fun _ _ => ⟨rfl, e9, (by decide : 0 + 0 ≤ _), (by decide : 0 + 0 ≤ _)⟩)
  dsimp only [Pt.U, Pt.locs, Pt.cells, Pt.slots] at X11 l11 y11 z11 st11 hQ11
  subst l11 y11 z11
  obtain ⟨rfl, Nq11, e11⟩ := hQ11
  have N11 := Fr.app N9 Nq11
  have p12 : ∀ t, own_W p e below m T11 39 #[.val (.ref x0), .val (.ref x1), .val (.int (0 : Int32))] [(.int (0 : Int32))] t → Steps p.tables e below S0 t := fun t k => p10 t (st11 _ k)
  have p13 : ∀ t, own_W p e below m T11 23 #[.val (.ref x0), .val (.ref x1), .val (.int ((0 : Int32) + (1 : Int32)))] [] t → Steps p.tables e below S0 t := fun t k => p12 t (by
    show own_W p e below m T11 39 #[.val (.ref x0), .val (.ref x1), .val (.int (0 : Int32))] [(.int (0 : Int32))] _
    refine XS.ifYes X11.here hx rfl (pc0 := 39) (pc' := 57) rfl (hb hby drq1_39) rfl ((if0 _ _).trans (teq (rfl)).1) (by decide) (by decide) ?_
    show own_W p e below m T11 57 #[.val (.ref x0), .val (.ref x1), .val (.int (0 : Int32))] [] _
    refine XS.iinc X11.here hx rfl (hb hby drq1_57) rfl (l' := #[.val (.ref x0), .val (.ref x1), .val (.int ((0 : Int32) + (1 : Int32)))]) rfl ?_
    show own_W p e below m T11 60 #[.val (.ref x0), .val (.ref x1), .val (.int ((0 : Int32) + (1 : Int32)))] [] _
    refine XS.goto X11.here hx rfl (pc0 := 60) (pc' := 23) rfl (hb hby drq1_60) (by decide) (by decide) ?_
    exact k)
  have p14 : ∀ t, own_W p e below m T11 23 #[.val (.ref x0), .val (.ref x1), .val (.int (1 : Int32))] [] t → Steps p.tables e below S0 t := by
    have k := p13
    rw [show ((0 : Int32) + (1 : Int32)) = (1 : Int32) from by decide] at k
    exact k
  have p15 : ∀ t, own_W p e below m T11 25 #[.val (.ref x0), .val (.ref x1), .val (.int (1 : Int32))] [(.ref x1), (.int (1 : Int32))] t → Steps p.tables e below S0 t := fun t k => p14 t (by
    show own_W p e below m T11 23 #[.val (.ref x0), .val (.ref x1), .val (.int (1 : Int32))] [] _
    refine XS.iloadN X11.here hx rfl (hb hby drq1_23) rfl ?_
    show own_W p e below m T11 24 #[.val (.ref x0), .val (.ref x1), .val (.int (1 : Int32))] [(.int (1 : Int32))] _
    refine XS.aloadN X11.here hx rfl (hb hby drq1_24) rfl rfl ?_
    exact k)
  obtain ⟨cq16, kq16, qa16, qb16, qc16⟩ := isOf hZ e11 E0
  obtain ⟨_, _, ⟨T16, L16, k16, n16⟩, -, X16, ⟨Lc16, hQ16, l16, y16, z16⟩, st16⟩ := X11.virtualBack hx (y := (⟨"java/lang/String", "length", "()I"⟩ : MethodName)) (z := (⟨"java/lang/String", "length", "()I"⟩ : MethodName)) hown (mvT hZ (hw _ (List.mem_of_getElem? (i := 40) rfl))) (mvT hZ (hw _ (List.mem_of_getElem? (i := 41) rfl))) (notFace_of_selects (args := #[]) (mvT hZ (hw _ (List.mem_of_getElem? (i := 43) rfl)))) (mvT hZ (hw _ (List.mem_of_getElem? (i := 43) rfl))) (mvT hZ (hw _ (List.mem_of_getElem? (i := 42) rfl))) (by decide) (backOf (W := 1) (rmle l Z a0 hw [] x1 tv kb (1 : Int32) cs G h0 n0 Z0 E0 F2 HL O0 st) hZ (hw _ (List.mem_of_getElem? (i := 44) rfl)) (hw _ (List.mem_of_getElem? (i := 7) rfl)) (by decide) (by decide)) qa16 qc16 (g := (mkF m 25 #[.val (.ref x0), .val (.ref x1), .val (.int (1 : Int32))] [(.ref x1), (.int (1 : Int32))])) rfl (by rw [hml]; rfl) (Steps.refl _) (argsL := []) (rest := [(.int (1 : Int32))]) (lenOf pdrq1_1 rfl) rfl (by show 2 * 0 + _ ≤ _; exact Nat.le_of_eq rfl) (hb hby drq1_25) (fun _ _ => ⟨rfl, e11, (by decide : 0 + 0 ≤ _), (by decide : 0 + 0 ≤ _)⟩)
  dsimp only [Pt.U, Pt.locs, Pt.cells, Pt.slots] at X16 l16 y16 z16 st16 hQ16
  subst l16 y16 z16
  obtain ⟨rfl, Nq16, e16⟩ := hQ16
  have N16 := Fr.app N11 Nq16
  have p17 : ∀ t, own_W p e below m T16 28 #[.val (.ref x0), .val (.ref x1), .val (.int (1 : Int32))] [(.int (1 : Int32)), (.int (1 : Int32))] t → Steps p.tables e below S0 t := fun t k => p15 t (st16.trans k)
  have p18 : ∀ t, own_W p e below m T16 64 #[.val (.ref x0), .val (.ref x1), .val (.int (1 : Int32))] [(.ref x1)] t → Steps p.tables e below S0 t := fun t k => p17 t (by
    show own_W p e below m T16 28 #[.val (.ref x0), .val (.ref x1), .val (.int (1 : Int32))] [(.int (1 : Int32)), (.int (1 : Int32))] _
    refine XS.icmpYes X16.here hx rfl (pc0 := 28) (pc' := 63) rfl (hb hby drq1_28) rfl ((flt (by decide)).2.1) (by decide) (by decide) ?_
    show own_W p e below m T16 63 #[.val (.ref x0), .val (.ref x1), .val (.int (1 : Int32))] [] _
    refine XS.aloadN X16.here hx rfl (hb hby drq1_63) rfl rfl ?_
    exact k)
  subst hS0
  obtain ⟨fs, hr, hrun, hended, hW, hsame⟩ := X16.leave (v := some (.ref x1)) (fun h => by rw [Bd.returns] at h; cases h)
  refine ⟨_, _, p18 _ ?_, hrun, hended, _, _, rfl, ?_, ⟨_, rfl⟩, hW, hsame.mono (by decide) (by decide)⟩
  · show own_W p e below m T16 64 #[.val (.ref x0), .val (.ref x1), .val (.int (1 : Int32))] [(.ref x1)] _
    exact retOut X16 hx Bd.returns rfl (Or.inr (Or.inr (Or.inr (Or.inr ⟨rfl, rfl, rfl⟩)))) (hb hby drq1_64) hr
  · show Qrq1 Z x0 x1 tv kb c0 cs G h0 n0 _ T16.heap _
    rw [e16]
    exact ⟨rfl, N16, rfl⟩
theorem drq2_0 : decode prog_4_method_2_code 0 = .ok (.aload_n 1, 1) := by decide +kernel
theorem drq2_1 : decode prog_4_method_2_code 1 = .ok (.invokevirtual 7, 3) := by decide +kernel
theorem drq2_4 : decode prog_4_method_2_code 4 = .ok (.ifCond .eq 17, 3) := by decide +kernel
theorem drq2_21 : decode prog_4_method_2_code 21 = .ok (.iconst 0, 1) := by decide +kernel
theorem drq2_22 : decode prog_4_method_2_code 22 = .ok (.istore_n 2, 1) := by decide +kernel
theorem drq2_23 : decode prog_4_method_2_code 23 = .ok (.iload_n 2, 1) := by decide +kernel
theorem drq2_24 : decode prog_4_method_2_code 24 = .ok (.aload_n 1, 1) := by decide +kernel
theorem drq2_25 : decode prog_4_method_2_code 25 = .ok (.invokevirtual 22, 3) := by decide +kernel
theorem drq2_28 : decode prog_4_method_2_code 28 = .ok (.if_icmp .ge 35, 3) := by decide +kernel
theorem drq2_31 : decode prog_4_method_2_code 31 = .ok (.aload_n 1, 1) := by decide +kernel
theorem drq2_32 : decode prog_4_method_2_code 32 = .ok (.iload_n 2, 1) := by decide +kernel
theorem drq2_33 : decode prog_4_method_2_code 33 = .ok (.invokevirtual 26, 3) := by decide +kernel
theorem drq2_36 : decode prog_4_method_2_code 36 = .ok (.invokestatic 30, 3) := by decide +kernel
theorem drq2_39 : decode prog_4_method_2_code 39 = .ok (.ifCond .eq 18, 3) := by decide +kernel
theorem drq2_57 : decode prog_4_method_2_code 57 = .ok (.iinc 2 1, 3) := by decide +kernel
theorem drq2_60 : decode prog_4_method_2_code 60 = .ok (.goto (-37), 3) := by decide +kernel
theorem drq2_63 : decode prog_4_method_2_code 63 = .ok (.aload_n 1, 1) := by decide +kernel
theorem drq2_64 : decode prog_4_method_2_code 64 = .ok (.areturn, 1) := by decide +kernel
theorem pnrq2 : plainName "com/example/disposition/disposition/Names" = true := by first | (simp [plainName, overriddenIn]; done) | decide +kernel
theorem pdrq2_0 : parseMethodDescriptor "()Z" = some ⟨[], some .boolean⟩ := by decide +kernel
theorem pdrq2_1 : parseMethodDescriptor "()I" = some ⟨[], some .int⟩ := by decide +kernel
theorem pdrq2_2 : parseMethodDescriptor "(I)C" = some ⟨[.int], some .char⟩ := by decide +kernel
theorem pdrq2_3 : parseMethodDescriptor "(C)Z" = some ⟨[.char], some .boolean⟩ := by decide +kernel
theorem efrq2 (m : MethodId) (x0 : Addr) (x1 : Addr) : entryFrame m #[(.ref x0), (.ref x1)] 3 = mkF m 0 #[.val (.ref x0), .val (.ref x1), .unset] [] := by first | (simp [entryFrame, mkF, argsToLocals, Value.category]; done) | rfl
def Qrq2 (Z : State) (x0 : Addr) (x1 : Addr) (tv : Addr) (kb : ClassId) (c0 : Int32) (c1 : Int32) (cs : Int32) (G : Value) (h0 : Heap) (n0 : Nat) (v : Option Value) (h : Heap) (L : List Loc) : Prop := v = some (.ref x1) ∧ Fr n0 L ∧ h = h0
set_option maxRecDepth 65536 in
set_option maxHeartbeats 40000000 in
theorem rmrq2 (l : Launch) (Z : State) (a0 : Array Value) (hw : ∀ d ∈ tables_1, d.before a0 Z = true) (ws : List Jvm.Cond) (x0 : Addr) (x1 : Addr) (tv : Addr) (kb : ClassId) (c0 : Int32) (c1 : Int32) (cs : Int32) (G : Value) (h0 : Heap) (n0 : Nat) (Z0 : n0 ≤ h0.size) (E0 : Exa Z h0 x1 "java/lang/String") (F2 : Fld Z h0 x1 "java/lang/String" "value" "[B" (.ref tv)) (HL : own_LN Z h0 x1 tv kb (2 : Int32)) (H0 : own_CH Z h0 x1 tv kb (0 : Int32) c0) (H1 : own_CH Z h0 x1 tv kb (1 : Int32) c1) (ko0 : own_ok c0) (ko1 : own_ok c1) (O0 : Old Z n0 h0) (st : own_ST Z cs G) :
    MetFree l (⟨"com/example/disposition/disposition/Names", "require", "(Ljava/lang/String;Ljava/lang/String;)Ljava/lang/String;"⟩ : MethodName) (head1 (Jvm.Cond.code (⟨"com/example/disposition/disposition/Names", "require", "(Ljava/lang/String;Ljava/lang/String;)Ljava/lang/String;"⟩ : MethodName) prog_4_method_2_code 3 (some (.object "java/lang/String")) :: ws) ({ frames := 5, cells := 0, slots := 0, locals := 66 } : Room)) (fun a U => a = #[(.ref x0), (.ref x1)] ∧ Z.Warmed39 U.vm ∧ U.heap = h0) (fun _ _ _ _ _ => True) (fun _ U o U' => ∃ v L, o = .returned v ∧ Qrq2 Z x0 x1 tv kb c0 c1 cs G h0 n0 v U'.heap L ∧ FrameEnd U o U' L ({ frames := 5, cells := 0, slots := 0, locals := 66 } : Room).cells ({ frames := 5, cells := 0, slots := 0, locals := 66 } : Room).slots) := by
  refine MetFree.of_bodySF (plainFor_of_name pnrq2) hisR ?_
  intro p e s m args below meth c s₁ Bd hml0 hP hK
  obtain ⟨rfl, hZ, hh⟩ := hP
  have hx := Bd.exec
  have hby := Bd.bytes
  have hml : c.maxLocals = 3 := hml0
  have hown : s.vm.findClass "com/example/disposition/disposition/Names" = some m.cls := findClass_of_methodNamed Bd.named
  have hnm := (name_of_methodNamed Bd.named Bd.method).1
  have X0 : Stand p l e ({ frames := 5, cells := 0, slots := 0, locals := 66 } : Room) s m #[(.ref x0), (.ref x1)] below meth c s₁ [] 0 0 := Stand.of_body Bd
  have e0 : s₁.heap = h0 := by rw [← hh, Bd.state]; rfl
  have N0 := Fr.nil n0
  have pre0 : ∀ t, Steps p.tables e below (s₁.setTop (mkF m 0 #[.val (.ref x0), .val (.ref x1), .unset] [])) t → Steps p.tables e below (s₁.setTop (entryFrame m #[(.ref x0), (.ref x1)] 3)) t := fun t k => castTop (efrq2 m x0 x1) k
  obtain ⟨S0, hS0⟩ : ∃ z, z = (s₁.setTop (entryFrame m #[(.ref x0), (.ref x1)] 3)) := ⟨_, rfl⟩
  rw [← hS0] at pre0
  obtain ⟨sc, hcs, sa, sh, sl, sg, hG⟩ := id st
  have p1 : ∀ t, own_W p e below m s₁ 1 #[.val (.ref x0), .val (.ref x1), .unset] [(.ref x1)] t → Steps p.tables e below S0 t := fun t k => pre0 t (by
    show own_W p e below m s₁ 0 #[.val (.ref x0), .val (.ref x1), .unset] [] _
    refine XS.aloadN X0.here hx rfl (hb hby drq2_0) rfl rfl ?_
    exact k)
  obtain ⟨cq2, kq2, qa2, qb2, qc2⟩ := isOf hZ e0 E0
  obtain ⟨_, _, ⟨T2, L2, k2, n2⟩, -, X2, ⟨Lc2, hQ2, l2, y2, z2⟩, st2⟩ := X0.virtualBack hx (y := (⟨"java/lang/String", "isEmpty", "()Z"⟩ : MethodName)) (z := (⟨"java/lang/String", "isEmpty", "()Z"⟩ : MethodName)) hown (mvT hZ (hw _ (List.mem_of_getElem? (i := 35) rfl))) (mvT hZ (hw _ (List.mem_of_getElem? (i := 36) rfl))) (notFace_of_selects (args := #[]) (mvT hZ (hw _ (List.mem_of_getElem? (i := 38) rfl)))) (mvT hZ (hw _ (List.mem_of_getElem? (i := 38) rfl))) (mvT hZ (hw _ (List.mem_of_getElem? (i := 37) rfl))) (by decide) (backOf (W := 0) (rmie l Z a0 hw [] x1 tv kb (2 : Int32) h0 n0 Z0 E0 F2 HL) hZ (hw _ (List.mem_of_getElem? (i := 39) rfl)) (hw _ (List.mem_of_getElem? (i := 7) rfl)) (by decide) (by decide)) qa2 qc2 (g := (mkF m 1 #[.val (.ref x0), .val (.ref x1), .unset] [(.ref x1)])) rfl (by rw [hml]; rfl) (Steps.refl _) (argsL := []) (rest := []) (lenOf pdrq2_0 rfl) rfl (by show 2 * 0 + _ ≤ _; exact Nat.le_of_eq rfl) (hb hby drq2_1) (fun _ _ => ⟨rfl, e0, (by decide : 0 + 0 ≤ _), (by decide : 0 + 0 ≤ _)⟩)
  dsimp only [Pt.U, Pt.locs, Pt.cells, Pt.slots] at X2 l2 y2 z2 st2 hQ2
  subst l2 y2 z2
  obtain ⟨rfl, Nq2, e2⟩ := hQ2
  have N2 := Fr.app N0 Nq2
  have p3 : ∀ t, own_W p e below m T2 4 #[.val (.ref x0), .val (.ref x1), .unset] [(.int (0 : Int32))] t → Steps p.tables e below S0 t := fun t k => p1 t (st2.trans k)
  have p4 : ∀ t, own_W p e below m T2 23 #[.val (.ref x0), .val (.ref x1), .val (.int (0 : Int32))] [] t → Steps p.tables e below S0 t := fun t k => p3 t (by
    show own_W p e below m T2 4 #[.val (.ref x0), .val (.ref x1), .unset] [(.int (0 : Int32))] _
    refine XS.ifYes X2.here hx rfl (pc0 := 4) (pc' := 21) rfl (hb hby drq2_4) rfl ((if0 _ _).trans (teq (rfl)).1) (by decide) (by decide) ?_
    show own_W p e below m T2 21 #[.val (.ref x0), .val (.ref x1), .unset] [] _
    refine XS.iconst X2.here hx rfl (hb hby drq2_21) ?_
    show own_W p e below m T2 22 #[.val (.ref x0), .val (.ref x1), .unset] [(.int (0 : Int32))] _
    refine XS.istoreN X2.here hx rfl (hb hby drq2_22) rfl (l' := #[.val (.ref x0), .val (.ref x1), .val (.int (0 : Int32))]) rfl ?_
    exact k)
  have p5 : ∀ t, own_W p e below m T2 25 #[.val (.ref x0), .val (.ref x1), .val (.int (0 : Int32))] [(.ref x1), (.int (0 : Int32))] t → Steps p.tables e below S0 t := fun t k => p4 t (by
    show own_W p e below m T2 23 #[.val (.ref x0), .val (.ref x1), .val (.int (0 : Int32))] [] _
    refine XS.iloadN X2.here hx rfl (hb hby drq2_23) rfl ?_
    show own_W p e below m T2 24 #[.val (.ref x0), .val (.ref x1), .val (.int (0 : Int32))] [(.int (0 : Int32))] _
    refine XS.aloadN X2.here hx rfl (hb hby drq2_24) rfl rfl ?_
    exact k)
  obtain ⟨cq6, kq6, qa6, qb6, qc6⟩ := isOf hZ e2 E0
  obtain ⟨_, _, ⟨T6, L6, k6, n6⟩, -, X6, ⟨Lc6, hQ6, l6, y6, z6⟩, st6⟩ := X2.virtualBack hx (y := (⟨"java/lang/String", "length", "()I"⟩ : MethodName)) (z := (⟨"java/lang/String", "length", "()I"⟩ : MethodName)) hown (mvT hZ (hw _ (List.mem_of_getElem? (i := 40) rfl))) (mvT hZ (hw _ (List.mem_of_getElem? (i := 41) rfl))) (notFace_of_selects (args := #[]) (mvT hZ (hw _ (List.mem_of_getElem? (i := 43) rfl)))) (mvT hZ (hw _ (List.mem_of_getElem? (i := 43) rfl))) (mvT hZ (hw _ (List.mem_of_getElem? (i := 42) rfl))) (by decide) (backOf (W := 1) (rmle l Z a0 hw [] x1 tv kb (2 : Int32) cs G h0 n0 Z0 E0 F2 HL O0 st) hZ (hw _ (List.mem_of_getElem? (i := 44) rfl)) (hw _ (List.mem_of_getElem? (i := 7) rfl)) (by decide) (by decide)) qa6 qc6 (g := (mkF m 25 #[.val (.ref x0), .val (.ref x1), .val (.int (0 : Int32))] [(.ref x1), (.int (0 : Int32))])) rfl (by rw [hml]; rfl) (Steps.refl _) (argsL := []) (rest := [(.int (0 : Int32))]) (lenOf pdrq2_1 rfl) rfl (by show 2 * 0 + _ ≤ _; exact Nat.le_of_eq rfl) (hb hby drq2_25) (fun _ _ => ⟨rfl, e2, (by decide : 0 + 0 ≤ _), (by decide : 0 + 0 ≤ _)⟩)
  dsimp only [Pt.U, Pt.locs, Pt.cells, Pt.slots] at X6 l6 y6 z6 st6 hQ6
  subst l6 y6 z6
  obtain ⟨rfl, Nq6, e6⟩ := hQ6
  have N6 := Fr.app N2 Nq6
  have p7 : ∀ t, own_W p e below m T6 28 #[.val (.ref x0), .val (.ref x1), .val (.int (0 : Int32))] [(.int (2 : Int32)), (.int (0 : Int32))] t → Steps p.tables e below S0 t := fun t k => p5 t (st6.trans k)
  have p8 : ∀ t, own_W p e below m T6 33 #[.val (.ref x0), .val (.ref x1), .val (.int (0 : Int32))] [(.int (0 : Int32)), (.ref x1)] t → Steps p.tables e below S0 t := fun t k => p7 t (by
    show own_W p e below m T6 28 #[.val (.ref x0), .val (.ref x1), .val (.int (0 : Int32))] [(.int (2 : Int32)), (.int (0 : Int32))] _
    refine XS.icmpNo X6.here hx rfl (hb hby drq2_28) rfl ((tlt (by decide)).2.1) ?_
    show own_W p e below m T6 31 #[.val (.ref x0), .val (.ref x1), .val (.int (0 : Int32))] [] _
    refine XS.aloadN X6.here hx rfl (hb hby drq2_31) rfl rfl ?_
    show own_W p e below m T6 32 #[.val (.ref x0), .val (.ref x1), .val (.int (0 : Int32))] [(.ref x1)] _
    refine XS.iloadN X6.here hx rfl (hb hby drq2_32) rfl ?_
    exact k)
  obtain ⟨cq9, kq9, qa9, qb9, qc9⟩ := isOf hZ e6 E0
  obtain ⟨_, _, ⟨T9, L9, k9, n9⟩, -, X9, ⟨Lc9, hQ9, l9, y9, z9⟩, st9⟩ := X6.virtualBack hx (y := (⟨"java/lang/String", "charAt", "(I)C"⟩ : MethodName)) (z := (⟨"java/lang/String", "charAt", "(I)C"⟩ : MethodName)) hown (mvT hZ (hw _ (List.mem_of_getElem? (i := 50) rfl))) (mvT hZ (hw _ (List.mem_of_getElem? (i := 51) rfl))) (notFace_of_selects (args := #[]) (mvT hZ (hw _ (List.mem_of_getElem? (i := 53) rfl)))) (mvT hZ (hw _ (List.mem_of_getElem? (i := 53) rfl))) (mvT hZ (hw _ (List.mem_of_getElem? (i := 52) rfl))) (by decide) (backOf (W := 0) (rmca l Z a0 hw [] x1 (0 : Int32) tv kb c0 cs G h0 n0 Z0 E0 F2 H0 ko0 O0 st) hZ (hw _ (List.mem_of_getElem? (i := 54) rfl)) (hw _ (List.mem_of_getElem? (i := 7) rfl)) (by decide) (by decide)) qa9 qc9 (g := (mkF m 33 #[.val (.ref x0), .val (.ref x1), .val (.int (0 : Int32))] [(.int (0 : Int32)), (.ref x1)])) rfl (by rw [hml]; rfl) (Steps.refl _) (argsL := [(.int (0 : Int32))]) (rest := []) (lenOf pdrq2_2 rfl) rfl (by show 2 * 0 + _ ≤ _; exact Nat.le_of_eq rfl) (hb hby drq2_33) (fun _ _ => ⟨rfl, e6, (by decide : 0 + 0 ≤ _), (by decide : 0 + 0 ≤ _)⟩)
  dsimp only [Pt.U, Pt.locs, Pt.cells, Pt.slots] at X9 l9 y9 z9 st9 hQ9
  subst l9 y9 z9
  obtain ⟨rfl, Nq9, e9⟩ := hQ9
  have N9 := Fr.app N6 Nq9
  have p10 : ∀ t, own_W p e below m T9 36 #[.val (.ref x0), .val (.ref x1), .val (.int (0 : Int32))] [(.int c0)] t → Steps p.tables e below S0 t := fun t k => p8 t (st9.trans k)
  obtain ⟨_, _, ⟨T11, L11, k11, n11⟩, -, X11, ⟨Lc11, hQ11, l11, y11, z11⟩, st11⟩ := Jvm.LawKit.callS X9 hx (y := (⟨"java/lang/Character", "isISOControl", "(C)Z"⟩ : MethodName)) hown (mvT hZ (hw _ (List.mem_of_getElem? (i := 71) rfl))) (mvT hZ (hw _ (List.mem_of_getElem? (i := 72) rfl))) (mvT hZ (hw _ (List.mem_of_getElem? (i := 73) rfl))) (mvT hZ (hw _ (List.mem_of_getElem? (i := 74) rfl))) (by decide) (backOf (W := 0) (rmic l Z a0 hw [] c0  h0 n0 Z0 ko0) hZ (hw _ (List.mem_of_getElem? (i := 74) rfl)) (hw _ (List.mem_of_getElem? (i := 73) rfl)) (by decide) (by decide)) (g := (mkF m 36 #[.val (.ref x0), .val (.ref x1), .val (.int (0 : Int32))] [(.int c0)])) rfl (by rw [hml]; rfl) (argsL := [(.int c0)]) (rest := []) (lenOf pdrq2_3 rfl) rfl (by show 2 * 0 + _ ≤ _; exact Nat.le_of_eq rfl) (hb hby drq2_36) (fun _ _ => ⟨rfl, e9, (by decide : 0 + 0 ≤ _), (by decide : 0 + 0 ≤ _)⟩)
  dsimp only [Pt.U, Pt.locs, Pt.cells, Pt.slots] at X11 l11 y11 z11 st11 hQ11
  subst l11 y11 z11
  obtain ⟨rfl, Nq11, e11⟩ := hQ11
  have N11 := Fr.app N9 Nq11
  have p12 : ∀ t, own_W p e below m T11 39 #[.val (.ref x0), .val (.ref x1), .val (.int (0 : Int32))] [(.int (0 : Int32))] t → Steps p.tables e below S0 t := fun t k => p10 t (st11 _ k)
  have p13 : ∀ t, own_W p e below m T11 23 #[.val (.ref x0), .val (.ref x1), .val (.int ((0 : Int32) + (1 : Int32)))] [] t → Steps p.tables e below S0 t := fun t k => p12 t (by
    show own_W p e below m T11 39 #[.val (.ref x0), .val (.ref x1), .val (.int (0 : Int32))] [(.int (0 : Int32))] _
    refine XS.ifYes X11.here hx rfl (pc0 := 39) (pc' := 57) rfl (hb hby drq2_39) rfl ((if0 _ _).trans (teq (rfl)).1) (by decide) (by decide) ?_
    show own_W p e below m T11 57 #[.val (.ref x0), .val (.ref x1), .val (.int (0 : Int32))] [] _
    refine XS.iinc X11.here hx rfl (hb hby drq2_57) rfl (l' := #[.val (.ref x0), .val (.ref x1), .val (.int ((0 : Int32) + (1 : Int32)))]) rfl ?_
    show own_W p e below m T11 60 #[.val (.ref x0), .val (.ref x1), .val (.int ((0 : Int32) + (1 : Int32)))] [] _
    refine XS.goto X11.here hx rfl (pc0 := 60) (pc' := 23) rfl (hb hby drq2_60) (by decide) (by decide) ?_
    exact k)
  have p14 : ∀ t, own_W p e below m T11 23 #[.val (.ref x0), .val (.ref x1), .val (.int (1 : Int32))] [] t → Steps p.tables e below S0 t := by
    have k := p13
    rw [show ((0 : Int32) + (1 : Int32)) = (1 : Int32) from by decide] at k
    exact k
  have p15 : ∀ t, own_W p e below m T11 25 #[.val (.ref x0), .val (.ref x1), .val (.int (1 : Int32))] [(.ref x1), (.int (1 : Int32))] t → Steps p.tables e below S0 t := fun t k => p14 t (by
    show own_W p e below m T11 23 #[.val (.ref x0), .val (.ref x1), .val (.int (1 : Int32))] [] _
    refine XS.iloadN X11.here hx rfl (hb hby drq2_23) rfl ?_
    show own_W p e below m T11 24 #[.val (.ref x0), .val (.ref x1), .val (.int (1 : Int32))] [(.int (1 : Int32))] _
    refine XS.aloadN X11.here hx rfl (hb hby drq2_24) rfl rfl ?_
    exact k)
  obtain ⟨cq16, kq16, qa16, qb16, qc16⟩ := isOf hZ e11 E0
  obtain ⟨_, _, ⟨T16, L16, k16, n16⟩, -, X16, ⟨Lc16, hQ16, l16, y16, z16⟩, st16⟩ := X11.virtualBack hx (y := (⟨"java/lang/String", "length", "()I"⟩ : MethodName)) (z := (⟨"java/lang/String", "length", "()I"⟩ : MethodName)) hown (mvT hZ (hw _ (List.mem_of_getElem? (i := 40) rfl))) (mvT hZ (hw _ (List.mem_of_getElem? (i := 41) rfl))) (notFace_of_selects (args := #[]) (mvT hZ (hw _ (List.mem_of_getElem? (i := 43) rfl)))) (mvT hZ (hw _ (List.mem_of_getElem? (i := 43) rfl))) (mvT hZ (hw _ (List.mem_of_getElem? (i := 42) rfl))) (by decide) (backOf (W := 1) (rmle l Z a0 hw [] x1 tv kb (2 : Int32) cs G h0 n0 Z0 E0 F2 HL O0 st) hZ (hw _ (List.mem_of_getElem? (i := 44) rfl)) (hw _ (List.mem_of_getElem? (i := 7) rfl)) (by decide) (by decide)) qa16 qc16 (g := (mkF m 25 #[.val (.ref x0), .val (.ref x1), .val (.int (1 : Int32))] [(.ref x1), (.int (1 : Int32))])) rfl (by rw [hml]; rfl) (Steps.refl _) (argsL := []) (rest := [(.int (1 : Int32))]) (lenOf pdrq2_1 rfl) rfl (by show 2 * 0 + _ ≤ _; exact Nat.le_of_eq rfl) (hb hby drq2_25) (fun _ _ => ⟨rfl, e11, (by decide : 0 + 0 ≤ _), (by decide : 0 + 0 ≤ _)⟩)
  dsimp only [Pt.U, Pt.locs, Pt.cells, Pt.slots] at X16 l16 y16 z16 st16 hQ16
  subst l16 y16 z16
  obtain ⟨rfl, Nq16, e16⟩ := hQ16
  have N16 := Fr.app N11 Nq16
  have p17 : ∀ t, own_W p e below m T16 28 #[.val (.ref x0), .val (.ref x1), .val (.int (1 : Int32))] [(.int (2 : Int32)), (.int (1 : Int32))] t → Steps p.tables e below S0 t := fun t k => p15 t (st16.trans k)
  have p18 : ∀ t, own_W p e below m T16 33 #[.val (.ref x0), .val (.ref x1), .val (.int (1 : Int32))] [(.int (1 : Int32)), (.ref x1)] t → Steps p.tables e below S0 t := fun t k => p17 t (by
    show own_W p e below m T16 28 #[.val (.ref x0), .val (.ref x1), .val (.int (1 : Int32))] [(.int (2 : Int32)), (.int (1 : Int32))] _
    refine XS.icmpNo X16.here hx rfl (hb hby drq2_28) rfl ((tlt (by decide)).2.1) ?_
    show own_W p e below m T16 31 #[.val (.ref x0), .val (.ref x1), .val (.int (1 : Int32))] [] _
    refine XS.aloadN X16.here hx rfl (hb hby drq2_31) rfl rfl ?_
    show own_W p e below m T16 32 #[.val (.ref x0), .val (.ref x1), .val (.int (1 : Int32))] [(.ref x1)] _
    refine XS.iloadN X16.here hx rfl (hb hby drq2_32) rfl ?_
    exact k)
  obtain ⟨cq19, kq19, qa19, qb19, qc19⟩ := isOf hZ e16 E0
  obtain ⟨_, _, ⟨T19, L19, k19, n19⟩, -, X19, ⟨Lc19, hQ19, l19, y19, z19⟩, st19⟩ := X16.virtualBack hx (y := (⟨"java/lang/String", "charAt", "(I)C"⟩ : MethodName)) (z := (⟨"java/lang/String", "charAt", "(I)C"⟩ : MethodName)) hown (mvT hZ (hw _ (List.mem_of_getElem? (i := 50) rfl))) (mvT hZ (hw _ (List.mem_of_getElem? (i := 51) rfl))) (notFace_of_selects (args := #[]) (mvT hZ (hw _ (List.mem_of_getElem? (i := 53) rfl)))) (mvT hZ (hw _ (List.mem_of_getElem? (i := 53) rfl))) (mvT hZ (hw _ (List.mem_of_getElem? (i := 52) rfl))) (by decide) (backOf (W := 0) (rmca l Z a0 hw [] x1 (1 : Int32) tv kb c1 cs G h0 n0 Z0 E0 F2 H1 ko1 O0 st) hZ (hw _ (List.mem_of_getElem? (i := 54) rfl)) (hw _ (List.mem_of_getElem? (i := 7) rfl)) (by decide) (by decide)) qa19 qc19 (g := (mkF m 33 #[.val (.ref x0), .val (.ref x1), .val (.int (1 : Int32))] [(.int (1 : Int32)), (.ref x1)])) rfl (by rw [hml]; rfl) (Steps.refl _) (argsL := [(.int (1 : Int32))]) (rest := []) (lenOf pdrq2_2 rfl) rfl (by show 2 * 0 + _ ≤ _; exact Nat.le_of_eq rfl) (hb hby drq2_33) (fun _ _ => ⟨rfl, e16, (by decide : 0 + 0 ≤ _), (by decide : 0 + 0 ≤ _)⟩)
  dsimp only [Pt.U, Pt.locs, Pt.cells, Pt.slots] at X19 l19 y19 z19 st19 hQ19
  subst l19 y19 z19
  obtain ⟨rfl, Nq19, e19⟩ := hQ19
  have N19 := Fr.app N16 Nq19
  have p20 : ∀ t, own_W p e below m T19 36 #[.val (.ref x0), .val (.ref x1), .val (.int (1 : Int32))] [(.int c1)] t → Steps p.tables e below S0 t := fun t k => p18 t (st19.trans k)
  obtain ⟨_, _, ⟨T21, L21, k21, n21⟩, -, X21, ⟨Lc21, hQ21, l21, y21, z21⟩, st21⟩ := Jvm.LawKit.callS X19 hx (y := (⟨"java/lang/Character", "isISOControl", "(C)Z"⟩ : MethodName)) hown (mvT hZ (hw _ (List.mem_of_getElem? (i := 71) rfl))) (mvT hZ (hw _ (List.mem_of_getElem? (i := 72) rfl))) (mvT hZ (hw _ (List.mem_of_getElem? (i := 73) rfl))) (mvT hZ (hw _ (List.mem_of_getElem? (i := 74) rfl))) (by decide) (backOf (W := 0) (rmic l Z a0 hw [] c1  h0 n0 Z0 ko1) hZ (hw _ (List.mem_of_getElem? (i := 74) rfl)) (hw _ (List.mem_of_getElem? (i := 73) rfl)) (by decide) (by decide)) (g := (mkF m 36 #[.val (.ref x0), .val (.ref x1), .val (.int (1 : Int32))] [(.int c1)])) rfl (by rw [hml]; rfl) (argsL := [(.int c1)]) (rest := []) (lenOf pdrq2_3 rfl) rfl (by show 2 * 0 + _ ≤ _; exact Nat.le_of_eq rfl) (hb hby drq2_36) (fun _ _ => ⟨rfl, e19, (by decide : 0 + 0 ≤ _), (by decide : 0 + 0 ≤ _)⟩)
  dsimp only [Pt.U, Pt.locs, Pt.cells, Pt.slots] at X21 l21 y21 z21 st21 hQ21
  subst l21 y21 z21
  obtain ⟨rfl, Nq21, e21⟩ := hQ21
  have N21 := Fr.app N19 Nq21
  have p22 : ∀ t, own_W p e below m T21 39 #[.val (.ref x0), .val (.ref x1), .val (.int (1 : Int32))] [(.int (0 : Int32))] t → Steps p.tables e below S0 t := fun t k => p20 t (st21 _ k)
  have p23 : ∀ t, own_W p e below m T21 23 #[.val (.ref x0), .val (.ref x1), .val (.int ((1 : Int32) + (1 : Int32)))] [] t → Steps p.tables e below S0 t := fun t k => p22 t (by
    show own_W p e below m T21 39 #[.val (.ref x0), .val (.ref x1), .val (.int (1 : Int32))] [(.int (0 : Int32))] _
    refine XS.ifYes X21.here hx rfl (pc0 := 39) (pc' := 57) rfl (hb hby drq2_39) rfl ((if0 _ _).trans (teq (rfl)).1) (by decide) (by decide) ?_
    show own_W p e below m T21 57 #[.val (.ref x0), .val (.ref x1), .val (.int (1 : Int32))] [] _
    refine XS.iinc X21.here hx rfl (hb hby drq2_57) rfl (l' := #[.val (.ref x0), .val (.ref x1), .val (.int ((1 : Int32) + (1 : Int32)))]) rfl ?_
    show own_W p e below m T21 60 #[.val (.ref x0), .val (.ref x1), .val (.int ((1 : Int32) + (1 : Int32)))] [] _
    refine XS.goto X21.here hx rfl (pc0 := 60) (pc' := 23) rfl (hb hby drq2_60) (by decide) (by decide) ?_
    exact k)
  have p24 : ∀ t, own_W p e below m T21 23 #[.val (.ref x0), .val (.ref x1), .val (.int (2 : Int32))] [] t → Steps p.tables e below S0 t := by
    have k := p23
    rw [show ((1 : Int32) + (1 : Int32)) = (2 : Int32) from by decide] at k
    exact k
  have p25 : ∀ t, own_W p e below m T21 25 #[.val (.ref x0), .val (.ref x1), .val (.int (2 : Int32))] [(.ref x1), (.int (2 : Int32))] t → Steps p.tables e below S0 t := fun t k => p24 t (by
    show own_W p e below m T21 23 #[.val (.ref x0), .val (.ref x1), .val (.int (2 : Int32))] [] _
    refine XS.iloadN X21.here hx rfl (hb hby drq2_23) rfl ?_
    show own_W p e below m T21 24 #[.val (.ref x0), .val (.ref x1), .val (.int (2 : Int32))] [(.int (2 : Int32))] _
    refine XS.aloadN X21.here hx rfl (hb hby drq2_24) rfl rfl ?_
    exact k)
  obtain ⟨cq26, kq26, qa26, qb26, qc26⟩ := isOf hZ e21 E0
  obtain ⟨_, _, ⟨T26, L26, k26, n26⟩, -, X26, ⟨Lc26, hQ26, l26, y26, z26⟩, st26⟩ := X21.virtualBack hx (y := (⟨"java/lang/String", "length", "()I"⟩ : MethodName)) (z := (⟨"java/lang/String", "length", "()I"⟩ : MethodName)) hown (mvT hZ (hw _ (List.mem_of_getElem? (i := 40) rfl))) (mvT hZ (hw _ (List.mem_of_getElem? (i := 41) rfl))) (notFace_of_selects (args := #[]) (mvT hZ (hw _ (List.mem_of_getElem? (i := 43) rfl)))) (mvT hZ (hw _ (List.mem_of_getElem? (i := 43) rfl))) (mvT hZ (hw _ (List.mem_of_getElem? (i := 42) rfl))) (by decide) (backOf (W := 1) (rmle l Z a0 hw [] x1 tv kb (2 : Int32) cs G h0 n0 Z0 E0 F2 HL O0 st) hZ (hw _ (List.mem_of_getElem? (i := 44) rfl)) (hw _ (List.mem_of_getElem? (i := 7) rfl)) (by decide) (by decide)) qa26 qc26 (g := (mkF m 25 #[.val (.ref x0), .val (.ref x1), .val (.int (2 : Int32))] [(.ref x1), (.int (2 : Int32))])) rfl (by rw [hml]; rfl) (Steps.refl _) (argsL := []) (rest := [(.int (2 : Int32))]) (lenOf pdrq2_1 rfl) rfl (by show 2 * 0 + _ ≤ _; exact Nat.le_of_eq rfl) (hb hby drq2_25) (fun _ _ => ⟨rfl, e21, (by decide : 0 + 0 ≤ _), (by decide : 0 + 0 ≤ _)⟩)
  dsimp only [Pt.U, Pt.locs, Pt.cells, Pt.slots] at X26 l26 y26 z26 st26 hQ26
  subst l26 y26 z26
  obtain ⟨rfl, Nq26, e26⟩ := hQ26
  have N26 := Fr.app N21 Nq26
  have p27 : ∀ t, own_W p e below m T26 28 #[.val (.ref x0), .val (.ref x1), .val (.int (2 : Int32))] [(.int (2 : Int32)), (.int (2 : Int32))] t → Steps p.tables e below S0 t := fun t k => p25 t (st26.trans k)
  have p28 : ∀ t, own_W p e below m T26 64 #[.val (.ref x0), .val (.ref x1), .val (.int (2 : Int32))] [(.ref x1)] t → Steps p.tables e below S0 t := fun t k => p27 t (by
    show own_W p e below m T26 28 #[.val (.ref x0), .val (.ref x1), .val (.int (2 : Int32))] [(.int (2 : Int32)), (.int (2 : Int32))] _
    refine XS.icmpYes X26.here hx rfl (pc0 := 28) (pc' := 63) rfl (hb hby drq2_28) rfl ((flt (by decide)).2.1) (by decide) (by decide) ?_
    show own_W p e below m T26 63 #[.val (.ref x0), .val (.ref x1), .val (.int (2 : Int32))] [] _
    refine XS.aloadN X26.here hx rfl (hb hby drq2_63) rfl rfl ?_
    exact k)
  subst hS0
  obtain ⟨fs, hr, hrun, hended, hW, hsame⟩ := X26.leave (v := some (.ref x1)) (fun h => by rw [Bd.returns] at h; cases h)
  refine ⟨_, _, p28 _ ?_, hrun, hended, _, _, rfl, ?_, ⟨_, rfl⟩, hW, hsame.mono (by decide) (by decide)⟩
  · show own_W p e below m T26 64 #[.val (.ref x0), .val (.ref x1), .val (.int (2 : Int32))] [(.ref x1)] _
    exact retOut X26 hx Bd.returns rfl (Or.inr (Or.inr (Or.inr (Or.inr ⟨rfl, rfl, rfl⟩)))) (hb hby drq2_64) hr
  · show Qrq2 Z x0 x1 tv kb c0 c1 cs G h0 n0 _ T26.heap _
    rw [e26]
    exact ⟨rfl, N26, rfl⟩
theorem drq3_0 : decode prog_4_method_2_code 0 = .ok (.aload_n 1, 1) := by decide +kernel
theorem drq3_1 : decode prog_4_method_2_code 1 = .ok (.invokevirtual 7, 3) := by decide +kernel
theorem drq3_4 : decode prog_4_method_2_code 4 = .ok (.ifCond .eq 17, 3) := by decide +kernel
theorem drq3_21 : decode prog_4_method_2_code 21 = .ok (.iconst 0, 1) := by decide +kernel
theorem drq3_22 : decode prog_4_method_2_code 22 = .ok (.istore_n 2, 1) := by decide +kernel
theorem drq3_23 : decode prog_4_method_2_code 23 = .ok (.iload_n 2, 1) := by decide +kernel
theorem drq3_24 : decode prog_4_method_2_code 24 = .ok (.aload_n 1, 1) := by decide +kernel
theorem drq3_25 : decode prog_4_method_2_code 25 = .ok (.invokevirtual 22, 3) := by decide +kernel
theorem drq3_28 : decode prog_4_method_2_code 28 = .ok (.if_icmp .ge 35, 3) := by decide +kernel
theorem drq3_31 : decode prog_4_method_2_code 31 = .ok (.aload_n 1, 1) := by decide +kernel
theorem drq3_32 : decode prog_4_method_2_code 32 = .ok (.iload_n 2, 1) := by decide +kernel
theorem drq3_33 : decode prog_4_method_2_code 33 = .ok (.invokevirtual 26, 3) := by decide +kernel
theorem drq3_36 : decode prog_4_method_2_code 36 = .ok (.invokestatic 30, 3) := by decide +kernel
theorem drq3_39 : decode prog_4_method_2_code 39 = .ok (.ifCond .eq 18, 3) := by decide +kernel
theorem drq3_57 : decode prog_4_method_2_code 57 = .ok (.iinc 2 1, 3) := by decide +kernel
theorem drq3_60 : decode prog_4_method_2_code 60 = .ok (.goto (-37), 3) := by decide +kernel
theorem drq3_63 : decode prog_4_method_2_code 63 = .ok (.aload_n 1, 1) := by decide +kernel
theorem drq3_64 : decode prog_4_method_2_code 64 = .ok (.areturn, 1) := by decide +kernel
theorem pnrq3 : plainName "com/example/disposition/disposition/Names" = true := by first | (simp [plainName, overriddenIn]; done) | decide +kernel
theorem pdrq3_0 : parseMethodDescriptor "()Z" = some ⟨[], some .boolean⟩ := by decide +kernel
theorem pdrq3_1 : parseMethodDescriptor "()I" = some ⟨[], some .int⟩ := by decide +kernel
theorem pdrq3_2 : parseMethodDescriptor "(I)C" = some ⟨[.int], some .char⟩ := by decide +kernel
theorem pdrq3_3 : parseMethodDescriptor "(C)Z" = some ⟨[.char], some .boolean⟩ := by decide +kernel
theorem efrq3 (m : MethodId) (x0 : Addr) (x1 : Addr) : entryFrame m #[(.ref x0), (.ref x1)] 3 = mkF m 0 #[.val (.ref x0), .val (.ref x1), .unset] [] := by first | (simp [entryFrame, mkF, argsToLocals, Value.category]; done) | rfl
def Qrq3 (Z : State) (x0 : Addr) (x1 : Addr) (tv : Addr) (kb : ClassId) (c0 : Int32) (c1 : Int32) (c2 : Int32) (cs : Int32) (G : Value) (h0 : Heap) (n0 : Nat) (v : Option Value) (h : Heap) (L : List Loc) : Prop := v = some (.ref x1) ∧ Fr n0 L ∧ h = h0
set_option maxRecDepth 65536 in
set_option maxHeartbeats 40000000 in
theorem rmrq3 (l : Launch) (Z : State) (a0 : Array Value) (hw : ∀ d ∈ tables_1, d.before a0 Z = true) (ws : List Jvm.Cond) (x0 : Addr) (x1 : Addr) (tv : Addr) (kb : ClassId) (c0 : Int32) (c1 : Int32) (c2 : Int32) (cs : Int32) (G : Value) (h0 : Heap) (n0 : Nat) (Z0 : n0 ≤ h0.size) (E0 : Exa Z h0 x1 "java/lang/String") (F2 : Fld Z h0 x1 "java/lang/String" "value" "[B" (.ref tv)) (HL : own_LN Z h0 x1 tv kb (3 : Int32)) (H0 : own_CH Z h0 x1 tv kb (0 : Int32) c0) (H1 : own_CH Z h0 x1 tv kb (1 : Int32) c1) (H2 : own_CH Z h0 x1 tv kb (2 : Int32) c2) (ko0 : own_ok c0) (ko1 : own_ok c1) (ko2 : own_ok c2) (O0 : Old Z n0 h0) (st : own_ST Z cs G) :
    MetFree l (⟨"com/example/disposition/disposition/Names", "require", "(Ljava/lang/String;Ljava/lang/String;)Ljava/lang/String;"⟩ : MethodName) (head1 (Jvm.Cond.code (⟨"com/example/disposition/disposition/Names", "require", "(Ljava/lang/String;Ljava/lang/String;)Ljava/lang/String;"⟩ : MethodName) prog_4_method_2_code 3 (some (.object "java/lang/String")) :: ws) ({ frames := 5, cells := 0, slots := 0, locals := 66 } : Room)) (fun a U => a = #[(.ref x0), (.ref x1)] ∧ Z.Warmed39 U.vm ∧ U.heap = h0) (fun _ _ _ _ _ => True) (fun _ U o U' => ∃ v L, o = .returned v ∧ Qrq3 Z x0 x1 tv kb c0 c1 c2 cs G h0 n0 v U'.heap L ∧ FrameEnd U o U' L ({ frames := 5, cells := 0, slots := 0, locals := 66 } : Room).cells ({ frames := 5, cells := 0, slots := 0, locals := 66 } : Room).slots) := by
  refine MetFree.of_bodySF (plainFor_of_name pnrq3) hisR ?_
  intro p e s m args below meth c s₁ Bd hml0 hP hK
  obtain ⟨rfl, hZ, hh⟩ := hP
  have hx := Bd.exec
  have hby := Bd.bytes
  have hml : c.maxLocals = 3 := hml0
  have hown : s.vm.findClass "com/example/disposition/disposition/Names" = some m.cls := findClass_of_methodNamed Bd.named
  have hnm := (name_of_methodNamed Bd.named Bd.method).1
  have X0 : Stand p l e ({ frames := 5, cells := 0, slots := 0, locals := 66 } : Room) s m #[(.ref x0), (.ref x1)] below meth c s₁ [] 0 0 := Stand.of_body Bd
  have e0 : s₁.heap = h0 := by rw [← hh, Bd.state]; rfl
  have N0 := Fr.nil n0
  have pre0 : ∀ t, Steps p.tables e below (s₁.setTop (mkF m 0 #[.val (.ref x0), .val (.ref x1), .unset] [])) t → Steps p.tables e below (s₁.setTop (entryFrame m #[(.ref x0), (.ref x1)] 3)) t := fun t k => castTop (efrq3 m x0 x1) k
  obtain ⟨S0, hS0⟩ : ∃ z, z = (s₁.setTop (entryFrame m #[(.ref x0), (.ref x1)] 3)) := ⟨_, rfl⟩
  rw [← hS0] at pre0
  obtain ⟨sc, hcs, sa, sh, sl, sg, hG⟩ := id st
  have p1 : ∀ t, own_W p e below m s₁ 1 #[.val (.ref x0), .val (.ref x1), .unset] [(.ref x1)] t → Steps p.tables e below S0 t := fun t k => pre0 t (by
    show own_W p e below m s₁ 0 #[.val (.ref x0), .val (.ref x1), .unset] [] _
    refine XS.aloadN X0.here hx rfl (hb hby drq3_0) rfl rfl ?_
    exact k)
  obtain ⟨cq2, kq2, qa2, qb2, qc2⟩ := isOf hZ e0 E0
  obtain ⟨_, _, ⟨T2, L2, k2, n2⟩, -, X2, ⟨Lc2, hQ2, l2, y2, z2⟩, st2⟩ := X0.virtualBack hx (y := (⟨"java/lang/String", "isEmpty", "()Z"⟩ : MethodName)) (z := (⟨"java/lang/String", "isEmpty", "()Z"⟩ : MethodName)) hown (mvT hZ (hw _ (List.mem_of_getElem? (i := 35) rfl))) (mvT hZ (hw _ (List.mem_of_getElem? (i := 36) rfl))) (notFace_of_selects (args := #[]) (mvT hZ (hw _ (List.mem_of_getElem? (i := 38) rfl)))) (mvT hZ (hw _ (List.mem_of_getElem? (i := 38) rfl))) (mvT hZ (hw _ (List.mem_of_getElem? (i := 37) rfl))) (by decide) (backOf (W := 0) (rmie l Z a0 hw [] x1 tv kb (3 : Int32) h0 n0 Z0 E0 F2 HL) hZ (hw _ (List.mem_of_getElem? (i := 39) rfl)) (hw _ (List.mem_of_getElem? (i := 7) rfl)) (by decide) (by decide)) qa2 qc2 (g := (mkF m 1 #[.val (.ref x0), .val (.ref x1), .unset] [(.ref x1)])) rfl (by rw [hml]; rfl) (Steps.refl _) (argsL := []) (rest := []) (lenOf pdrq3_0 rfl) rfl (by show 2 * 0 + _ ≤ _; exact Nat.le_of_eq rfl) (hb hby drq3_1) (fun _ _ => ⟨rfl, e0, (by decide : 0 + 0 ≤ _), (by decide : 0 + 0 ≤ _)⟩)
  dsimp only [Pt.U, Pt.locs, Pt.cells, Pt.slots] at X2 l2 y2 z2 st2 hQ2
  subst l2 y2 z2
  obtain ⟨rfl, Nq2, e2⟩ := hQ2
  have N2 := Fr.app N0 Nq2
  have p3 : ∀ t, own_W p e below m T2 4 #[.val (.ref x0), .val (.ref x1), .unset] [(.int (0 : Int32))] t → Steps p.tables e below S0 t := fun t k => p1 t (st2.trans k)
  have p4 : ∀ t, own_W p e below m T2 23 #[.val (.ref x0), .val (.ref x1), .val (.int (0 : Int32))] [] t → Steps p.tables e below S0 t := fun t k => p3 t (by
    show own_W p e below m T2 4 #[.val (.ref x0), .val (.ref x1), .unset] [(.int (0 : Int32))] _
    refine XS.ifYes X2.here hx rfl (pc0 := 4) (pc' := 21) rfl (hb hby drq3_4) rfl ((if0 _ _).trans (teq (rfl)).1) (by decide) (by decide) ?_
    show own_W p e below m T2 21 #[.val (.ref x0), .val (.ref x1), .unset] [] _
    refine XS.iconst X2.here hx rfl (hb hby drq3_21) ?_
    show own_W p e below m T2 22 #[.val (.ref x0), .val (.ref x1), .unset] [(.int (0 : Int32))] _
    refine XS.istoreN X2.here hx rfl (hb hby drq3_22) rfl (l' := #[.val (.ref x0), .val (.ref x1), .val (.int (0 : Int32))]) rfl ?_
    exact k)
  have p5 : ∀ t, own_W p e below m T2 25 #[.val (.ref x0), .val (.ref x1), .val (.int (0 : Int32))] [(.ref x1), (.int (0 : Int32))] t → Steps p.tables e below S0 t := fun t k => p4 t (by
    show own_W p e below m T2 23 #[.val (.ref x0), .val (.ref x1), .val (.int (0 : Int32))] [] _
    refine XS.iloadN X2.here hx rfl (hb hby drq3_23) rfl ?_
    show own_W p e below m T2 24 #[.val (.ref x0), .val (.ref x1), .val (.int (0 : Int32))] [(.int (0 : Int32))] _
    refine XS.aloadN X2.here hx rfl (hb hby drq3_24) rfl rfl ?_
    exact k)
  obtain ⟨cq6, kq6, qa6, qb6, qc6⟩ := isOf hZ e2 E0
  obtain ⟨_, _, ⟨T6, L6, k6, n6⟩, -, X6, ⟨Lc6, hQ6, l6, y6, z6⟩, st6⟩ := X2.virtualBack hx (y := (⟨"java/lang/String", "length", "()I"⟩ : MethodName)) (z := (⟨"java/lang/String", "length", "()I"⟩ : MethodName)) hown (mvT hZ (hw _ (List.mem_of_getElem? (i := 40) rfl))) (mvT hZ (hw _ (List.mem_of_getElem? (i := 41) rfl))) (notFace_of_selects (args := #[]) (mvT hZ (hw _ (List.mem_of_getElem? (i := 43) rfl)))) (mvT hZ (hw _ (List.mem_of_getElem? (i := 43) rfl))) (mvT hZ (hw _ (List.mem_of_getElem? (i := 42) rfl))) (by decide) (backOf (W := 1) (rmle l Z a0 hw [] x1 tv kb (3 : Int32) cs G h0 n0 Z0 E0 F2 HL O0 st) hZ (hw _ (List.mem_of_getElem? (i := 44) rfl)) (hw _ (List.mem_of_getElem? (i := 7) rfl)) (by decide) (by decide)) qa6 qc6 (g := (mkF m 25 #[.val (.ref x0), .val (.ref x1), .val (.int (0 : Int32))] [(.ref x1), (.int (0 : Int32))])) rfl (by rw [hml]; rfl) (Steps.refl _) (argsL := []) (rest := [(.int (0 : Int32))]) (lenOf pdrq3_1 rfl) rfl (by show 2 * 0 + _ ≤ _; exact Nat.le_of_eq rfl) (hb hby drq3_25) (fun _ _ => ⟨rfl, e2, (by decide : 0 + 0 ≤ _), (by decide : 0 + 0 ≤ _)⟩)
  dsimp only [Pt.U, Pt.locs, Pt.cells, Pt.slots] at X6 l6 y6 z6 st6 hQ6
  subst l6 y6 z6
  obtain ⟨rfl, Nq6, e6⟩ := hQ6
  have N6 := Fr.app N2 Nq6
  have p7 : ∀ t, own_W p e below m T6 28 #[.val (.ref x0), .val (.ref x1), .val (.int (0 : Int32))] [(.int (3 : Int32)), (.int (0 : Int32))] t → Steps p.tables e below S0 t := fun t k => p5 t (st6.trans k)
  have p8 : ∀ t, own_W p e below m T6 33 #[.val (.ref x0), .val (.ref x1), .val (.int (0 : Int32))] [(.int (0 : Int32)), (.ref x1)] t → Steps p.tables e below S0 t := fun t k => p7 t (by
    show own_W p e below m T6 28 #[.val (.ref x0), .val (.ref x1), .val (.int (0 : Int32))] [(.int (3 : Int32)), (.int (0 : Int32))] _
    refine XS.icmpNo X6.here hx rfl (hb hby drq3_28) rfl ((tlt (by decide)).2.1) ?_
    show own_W p e below m T6 31 #[.val (.ref x0), .val (.ref x1), .val (.int (0 : Int32))] [] _
    refine XS.aloadN X6.here hx rfl (hb hby drq3_31) rfl rfl ?_
    show own_W p e below m T6 32 #[.val (.ref x0), .val (.ref x1), .val (.int (0 : Int32))] [(.ref x1)] _
    refine XS.iloadN X6.here hx rfl (hb hby drq3_32) rfl ?_
    exact k)
  obtain ⟨cq9, kq9, qa9, qb9, qc9⟩ := isOf hZ e6 E0
  obtain ⟨_, _, ⟨T9, L9, k9, n9⟩, -, X9, ⟨Lc9, hQ9, l9, y9, z9⟩, st9⟩ := X6.virtualBack hx (y := (⟨"java/lang/String", "charAt", "(I)C"⟩ : MethodName)) (z := (⟨"java/lang/String", "charAt", "(I)C"⟩ : MethodName)) hown (mvT hZ (hw _ (List.mem_of_getElem? (i := 50) rfl))) (mvT hZ (hw _ (List.mem_of_getElem? (i := 51) rfl))) (notFace_of_selects (args := #[]) (mvT hZ (hw _ (List.mem_of_getElem? (i := 53) rfl)))) (mvT hZ (hw _ (List.mem_of_getElem? (i := 53) rfl))) (mvT hZ (hw _ (List.mem_of_getElem? (i := 52) rfl))) (by decide) (backOf (W := 0) (rmca l Z a0 hw [] x1 (0 : Int32) tv kb c0 cs G h0 n0 Z0 E0 F2 H0 ko0 O0 st) hZ (hw _ (List.mem_of_getElem? (i := 54) rfl)) (hw _ (List.mem_of_getElem? (i := 7) rfl)) (by decide) (by decide)) qa9 qc9 (g := (mkF m 33 #[.val (.ref x0), .val (.ref x1), .val (.int (0 : Int32))] [(.int (0 : Int32)), (.ref x1)])) rfl (by rw [hml]; rfl) (Steps.refl _) (argsL := [(.int (0 : Int32))]) (rest := []) (lenOf pdrq3_2 rfl) rfl (by show 2 * 0 + _ ≤ _; exact Nat.le_of_eq rfl) (hb hby drq3_33) (fun _ _ => ⟨rfl, e6, (by decide : 0 + 0 ≤ _), (by decide : 0 + 0 ≤ _)⟩)
  dsimp only [Pt.U, Pt.locs, Pt.cells, Pt.slots] at X9 l9 y9 z9 st9 hQ9
  subst l9 y9 z9
  obtain ⟨rfl, Nq9, e9⟩ := hQ9
  have N9 := Fr.app N6 Nq9
  have p10 : ∀ t, own_W p e below m T9 36 #[.val (.ref x0), .val (.ref x1), .val (.int (0 : Int32))] [(.int c0)] t → Steps p.tables e below S0 t := fun t k => p8 t (st9.trans k)
  obtain ⟨_, _, ⟨T11, L11, k11, n11⟩, -, X11, ⟨Lc11, hQ11, l11, y11, z11⟩, st11⟩ := Jvm.LawKit.callS X9 hx (y := (⟨"java/lang/Character", "isISOControl", "(C)Z"⟩ : MethodName)) hown (mvT hZ (hw _ (List.mem_of_getElem? (i := 71) rfl))) (mvT hZ (hw _ (List.mem_of_getElem? (i := 72) rfl))) (mvT hZ (hw _ (List.mem_of_getElem? (i := 73) rfl))) (mvT hZ (hw _ (List.mem_of_getElem? (i := 74) rfl))) (by decide) (backOf (W := 0) (rmic l Z a0 hw [] c0  h0 n0 Z0 ko0) hZ (hw _ (List.mem_of_getElem? (i := 74) rfl)) (hw _ (List.mem_of_getElem? (i := 73) rfl)) (by decide) (by decide)) (g := (mkF m 36 #[.val (.ref x0), .val (.ref x1), .val (.int (0 : Int32))] [(.int c0)])) rfl (by rw [hml]; rfl) (argsL := [(.int c0)]) (rest := []) (lenOf pdrq3_3 rfl) rfl (by show 2 * 0 + _ ≤ _; exact Nat.le_of_eq rfl) (hb hby drq3_36) (fun _ _ => ⟨rfl, e9, (by decide : 0 + 0 ≤ _), (by decide : 0 + 0 ≤ _)⟩)
  dsimp only [Pt.U, Pt.locs, Pt.cells, Pt.slots] at X11 l11 y11 z11 st11 hQ11
  subst l11 y11 z11
  obtain ⟨rfl, Nq11, e11⟩ := hQ11
  have N11 := Fr.app N9 Nq11
  have p12 : ∀ t, own_W p e below m T11 39 #[.val (.ref x0), .val (.ref x1), .val (.int (0 : Int32))] [(.int (0 : Int32))] t → Steps p.tables e below S0 t := fun t k => p10 t (st11 _ k)
  have p13 : ∀ t, own_W p e below m T11 23 #[.val (.ref x0), .val (.ref x1), .val (.int ((0 : Int32) + (1 : Int32)))] [] t → Steps p.tables e below S0 t := fun t k => p12 t (by
    show own_W p e below m T11 39 #[.val (.ref x0), .val (.ref x1), .val (.int (0 : Int32))] [(.int (0 : Int32))] _
    refine XS.ifYes X11.here hx rfl (pc0 := 39) (pc' := 57) rfl (hb hby drq3_39) rfl ((if0 _ _).trans (teq (rfl)).1) (by decide) (by decide) ?_
    show own_W p e below m T11 57 #[.val (.ref x0), .val (.ref x1), .val (.int (0 : Int32))] [] _
    refine XS.iinc X11.here hx rfl (hb hby drq3_57) rfl (l' := #[.val (.ref x0), .val (.ref x1), .val (.int ((0 : Int32) + (1 : Int32)))]) rfl ?_
    show own_W p e below m T11 60 #[.val (.ref x0), .val (.ref x1), .val (.int ((0 : Int32) + (1 : Int32)))] [] _
    refine XS.goto X11.here hx rfl (pc0 := 60) (pc' := 23) rfl (hb hby drq3_60) (by decide) (by decide) ?_
    exact k)
  have p14 : ∀ t, own_W p e below m T11 23 #[.val (.ref x0), .val (.ref x1), .val (.int (1 : Int32))] [] t → Steps p.tables e below S0 t := by
    have k := p13
    rw [show ((0 : Int32) + (1 : Int32)) = (1 : Int32) from by decide] at k
    exact k
  have p15 : ∀ t, own_W p e below m T11 25 #[.val (.ref x0), .val (.ref x1), .val (.int (1 : Int32))] [(.ref x1), (.int (1 : Int32))] t → Steps p.tables e below S0 t := fun t k => p14 t (by
    show own_W p e below m T11 23 #[.val (.ref x0), .val (.ref x1), .val (.int (1 : Int32))] [] _
    refine XS.iloadN X11.here hx rfl (hb hby drq3_23) rfl ?_
    show own_W p e below m T11 24 #[.val (.ref x0), .val (.ref x1), .val (.int (1 : Int32))] [(.int (1 : Int32))] _
    refine XS.aloadN X11.here hx rfl (hb hby drq3_24) rfl rfl ?_
    exact k)
  obtain ⟨cq16, kq16, qa16, qb16, qc16⟩ := isOf hZ e11 E0
  obtain ⟨_, _, ⟨T16, L16, k16, n16⟩, -, X16, ⟨Lc16, hQ16, l16, y16, z16⟩, st16⟩ := X11.virtualBack hx (y := (⟨"java/lang/String", "length", "()I"⟩ : MethodName)) (z := (⟨"java/lang/String", "length", "()I"⟩ : MethodName)) hown (mvT hZ (hw _ (List.mem_of_getElem? (i := 40) rfl))) (mvT hZ (hw _ (List.mem_of_getElem? (i := 41) rfl))) (notFace_of_selects (args := #[]) (mvT hZ (hw _ (List.mem_of_getElem? (i := 43) rfl)))) (mvT hZ (hw _ (List.mem_of_getElem? (i := 43) rfl))) (mvT hZ (hw _ (List.mem_of_getElem? (i := 42) rfl))) (by decide) (backOf (W := 1) (rmle l Z a0 hw [] x1 tv kb (3 : Int32) cs G h0 n0 Z0 E0 F2 HL O0 st) hZ (hw _ (List.mem_of_getElem? (i := 44) rfl)) (hw _ (List.mem_of_getElem? (i := 7) rfl)) (by decide) (by decide)) qa16 qc16 (g := (mkF m 25 #[.val (.ref x0), .val (.ref x1), .val (.int (1 : Int32))] [(.ref x1), (.int (1 : Int32))])) rfl (by rw [hml]; rfl) (Steps.refl _) (argsL := []) (rest := [(.int (1 : Int32))]) (lenOf pdrq3_1 rfl) rfl (by show 2 * 0 + _ ≤ _; exact Nat.le_of_eq rfl) (hb hby drq3_25) (fun _ _ => ⟨rfl, e11, (by decide : 0 + 0 ≤ _), (by decide : 0 + 0 ≤ _)⟩)
  dsimp only [Pt.U, Pt.locs, Pt.cells, Pt.slots] at X16 l16 y16 z16 st16 hQ16
  subst l16 y16 z16
  obtain ⟨rfl, Nq16, e16⟩ := hQ16
  have N16 := Fr.app N11 Nq16
  have p17 : ∀ t, own_W p e below m T16 28 #[.val (.ref x0), .val (.ref x1), .val (.int (1 : Int32))] [(.int (3 : Int32)), (.int (1 : Int32))] t → Steps p.tables e below S0 t := fun t k => p15 t (st16.trans k)
  have p18 : ∀ t, own_W p e below m T16 33 #[.val (.ref x0), .val (.ref x1), .val (.int (1 : Int32))] [(.int (1 : Int32)), (.ref x1)] t → Steps p.tables e below S0 t := fun t k => p17 t (by
    show own_W p e below m T16 28 #[.val (.ref x0), .val (.ref x1), .val (.int (1 : Int32))] [(.int (3 : Int32)), (.int (1 : Int32))] _
    refine XS.icmpNo X16.here hx rfl (hb hby drq3_28) rfl ((tlt (by decide)).2.1) ?_
    show own_W p e below m T16 31 #[.val (.ref x0), .val (.ref x1), .val (.int (1 : Int32))] [] _
    refine XS.aloadN X16.here hx rfl (hb hby drq3_31) rfl rfl ?_
    show own_W p e below m T16 32 #[.val (.ref x0), .val (.ref x1), .val (.int (1 : Int32))] [(.ref x1)] _
    refine XS.iloadN X16.here hx rfl (hb hby drq3_32) rfl ?_
    exact k)
  obtain ⟨cq19, kq19, qa19, qb19, qc19⟩ := isOf hZ e16 E0
  obtain ⟨_, _, ⟨T19, L19, k19, n19⟩, -, X19, ⟨Lc19, hQ19, l19, y19, z19⟩, st19⟩ := X16.virtualBack hx (y := (⟨"java/lang/String", "charAt", "(I)C"⟩ : MethodName)) (z := (⟨"java/lang/String", "charAt", "(I)C"⟩ : MethodName)) hown (mvT hZ (hw _ (List.mem_of_getElem? (i := 50) rfl))) (mvT hZ (hw _ (List.mem_of_getElem? (i := 51) rfl))) (notFace_of_selects (args := #[]) (mvT hZ (hw _ (List.mem_of_getElem? (i := 53) rfl)))) (mvT hZ (hw _ (List.mem_of_getElem? (i := 53) rfl))) (mvT hZ (hw _ (List.mem_of_getElem? (i := 52) rfl))) (by decide) (backOf (W := 0) (rmca l Z a0 hw [] x1 (1 : Int32) tv kb c1 cs G h0 n0 Z0 E0 F2 H1 ko1 O0 st) hZ (hw _ (List.mem_of_getElem? (i := 54) rfl)) (hw _ (List.mem_of_getElem? (i := 7) rfl)) (by decide) (by decide)) qa19 qc19 (g := (mkF m 33 #[.val (.ref x0), .val (.ref x1), .val (.int (1 : Int32))] [(.int (1 : Int32)), (.ref x1)])) rfl (by rw [hml]; rfl) (Steps.refl _) (argsL := [(.int (1 : Int32))]) (rest := []) (lenOf pdrq3_2 rfl) rfl (by show 2 * 0 + _ ≤ _; exact Nat.le_of_eq rfl) (hb hby drq3_33) (fun _ _ => ⟨rfl, e16, (by decide : 0 + 0 ≤ _), (by decide : 0 + 0 ≤ _)⟩)
  dsimp only [Pt.U, Pt.locs, Pt.cells, Pt.slots] at X19 l19 y19 z19 st19 hQ19
  subst l19 y19 z19
  obtain ⟨rfl, Nq19, e19⟩ := hQ19
  have N19 := Fr.app N16 Nq19
  have p20 : ∀ t, own_W p e below m T19 36 #[.val (.ref x0), .val (.ref x1), .val (.int (1 : Int32))] [(.int c1)] t → Steps p.tables e below S0 t := fun t k => p18 t (st19.trans k)
  obtain ⟨_, _, ⟨T21, L21, k21, n21⟩, -, X21, ⟨Lc21, hQ21, l21, y21, z21⟩, st21⟩ := Jvm.LawKit.callS X19 hx (y := (⟨"java/lang/Character", "isISOControl", "(C)Z"⟩ : MethodName)) hown (mvT hZ (hw _ (List.mem_of_getElem? (i := 71) rfl))) (mvT hZ (hw _ (List.mem_of_getElem? (i := 72) rfl))) (mvT hZ (hw _ (List.mem_of_getElem? (i := 73) rfl))) (mvT hZ (hw _ (List.mem_of_getElem? (i := 74) rfl))) (by decide) (backOf (W := 0) (rmic l Z a0 hw [] c1  h0 n0 Z0 ko1) hZ (hw _ (List.mem_of_getElem? (i := 74) rfl)) (hw _ (List.mem_of_getElem? (i := 73) rfl)) (by decide) (by decide)) (g := (mkF m 36 #[.val (.ref x0), .val (.ref x1), .val (.int (1 : Int32))] [(.int c1)])) rfl (by rw [hml]; rfl) (argsL := [(.int c1)]) (rest := []) (lenOf pdrq3_3 rfl) rfl (by show 2 * 0 + _ ≤ _; exact Nat.le_of_eq rfl) (hb hby drq3_36) (fun _ _ => ⟨rfl, e19, (by decide : 0 + 0 ≤ _), (by decide : 0 + 0 ≤ _)⟩)
  dsimp only [Pt.U, Pt.locs, Pt.cells, Pt.slots] at X21 l21 y21 z21 st21 hQ21
  subst l21 y21 z21
  obtain ⟨rfl, Nq21, e21⟩ := hQ21
  have N21 := Fr.app N19 Nq21
  have p22 : ∀ t, own_W p e below m T21 39 #[.val (.ref x0), .val (.ref x1), .val (.int (1 : Int32))] [(.int (0 : Int32))] t → Steps p.tables e below S0 t := fun t k => p20 t (st21 _ k)
  have p23 : ∀ t, own_W p e below m T21 23 #[.val (.ref x0), .val (.ref x1), .val (.int ((1 : Int32) + (1 : Int32)))] [] t → Steps p.tables e below S0 t := fun t k => p22 t (by
    show own_W p e below m T21 39 #[.val (.ref x0), .val (.ref x1), .val (.int (1 : Int32))] [(.int (0 : Int32))] _
    refine XS.ifYes X21.here hx rfl (pc0 := 39) (pc' := 57) rfl (hb hby drq3_39) rfl ((if0 _ _).trans (teq (rfl)).1) (by decide) (by decide) ?_
    show own_W p e below m T21 57 #[.val (.ref x0), .val (.ref x1), .val (.int (1 : Int32))] [] _
    refine XS.iinc X21.here hx rfl (hb hby drq3_57) rfl (l' := #[.val (.ref x0), .val (.ref x1), .val (.int ((1 : Int32) + (1 : Int32)))]) rfl ?_
    show own_W p e below m T21 60 #[.val (.ref x0), .val (.ref x1), .val (.int ((1 : Int32) + (1 : Int32)))] [] _
    refine XS.goto X21.here hx rfl (pc0 := 60) (pc' := 23) rfl (hb hby drq3_60) (by decide) (by decide) ?_
    exact k)
  have p24 : ∀ t, own_W p e below m T21 23 #[.val (.ref x0), .val (.ref x1), .val (.int (2 : Int32))] [] t → Steps p.tables e below S0 t := by
    have k := p23
    rw [show ((1 : Int32) + (1 : Int32)) = (2 : Int32) from by decide] at k
    exact k
  have p25 : ∀ t, own_W p e below m T21 25 #[.val (.ref x0), .val (.ref x1), .val (.int (2 : Int32))] [(.ref x1), (.int (2 : Int32))] t → Steps p.tables e below S0 t := fun t k => p24 t (by
    show own_W p e below m T21 23 #[.val (.ref x0), .val (.ref x1), .val (.int (2 : Int32))] [] _
    refine XS.iloadN X21.here hx rfl (hb hby drq3_23) rfl ?_
    show own_W p e below m T21 24 #[.val (.ref x0), .val (.ref x1), .val (.int (2 : Int32))] [(.int (2 : Int32))] _
    refine XS.aloadN X21.here hx rfl (hb hby drq3_24) rfl rfl ?_
    exact k)
  obtain ⟨cq26, kq26, qa26, qb26, qc26⟩ := isOf hZ e21 E0
  obtain ⟨_, _, ⟨T26, L26, k26, n26⟩, -, X26, ⟨Lc26, hQ26, l26, y26, z26⟩, st26⟩ := X21.virtualBack hx (y := (⟨"java/lang/String", "length", "()I"⟩ : MethodName)) (z := (⟨"java/lang/String", "length", "()I"⟩ : MethodName)) hown (mvT hZ (hw _ (List.mem_of_getElem? (i := 40) rfl))) (mvT hZ (hw _ (List.mem_of_getElem? (i := 41) rfl))) (notFace_of_selects (args := #[]) (mvT hZ (hw _ (List.mem_of_getElem? (i := 43) rfl)))) (mvT hZ (hw _ (List.mem_of_getElem? (i := 43) rfl))) (mvT hZ (hw _ (List.mem_of_getElem? (i := 42) rfl))) (by decide) (backOf (W := 1) (rmle l Z a0 hw [] x1 tv kb (3 : Int32) cs G h0 n0 Z0 E0 F2 HL O0 st) hZ (hw _ (List.mem_of_getElem? (i := 44) rfl)) (hw _ (List.mem_of_getElem? (i := 7) rfl)) (by decide) (by decide)) qa26 qc26 (g := (mkF m 25 #[.val (.ref x0), .val (.ref x1), .val (.int (2 : Int32))] [(.ref x1), (.int (2 : Int32))])) rfl (by rw [hml]; rfl) (Steps.refl _) (argsL := []) (rest := [(.int (2 : Int32))]) (lenOf pdrq3_1 rfl) rfl (by show 2 * 0 + _ ≤ _; exact Nat.le_of_eq rfl) (hb hby drq3_25) (fun _ _ => ⟨rfl, e21, (by decide : 0 + 0 ≤ _), (by decide : 0 + 0 ≤ _)⟩)
  dsimp only [Pt.U, Pt.locs, Pt.cells, Pt.slots] at X26 l26 y26 z26 st26 hQ26
  subst l26 y26 z26
  obtain ⟨rfl, Nq26, e26⟩ := hQ26
  have N26 := Fr.app N21 Nq26
  have p27 : ∀ t, own_W p e below m T26 28 #[.val (.ref x0), .val (.ref x1), .val (.int (2 : Int32))] [(.int (3 : Int32)), (.int (2 : Int32))] t → Steps p.tables e below S0 t := fun t k => p25 t (st26.trans k)
  have p28 : ∀ t, own_W p e below m T26 33 #[.val (.ref x0), .val (.ref x1), .val (.int (2 : Int32))] [(.int (2 : Int32)), (.ref x1)] t → Steps p.tables e below S0 t := fun t k => p27 t (by
    show own_W p e below m T26 28 #[.val (.ref x0), .val (.ref x1), .val (.int (2 : Int32))] [(.int (3 : Int32)), (.int (2 : Int32))] _
    refine XS.icmpNo X26.here hx rfl (hb hby drq3_28) rfl ((tlt (by decide)).2.1) ?_
    show own_W p e below m T26 31 #[.val (.ref x0), .val (.ref x1), .val (.int (2 : Int32))] [] _
    refine XS.aloadN X26.here hx rfl (hb hby drq3_31) rfl rfl ?_
    show own_W p e below m T26 32 #[.val (.ref x0), .val (.ref x1), .val (.int (2 : Int32))] [(.ref x1)] _
    refine XS.iloadN X26.here hx rfl (hb hby drq3_32) rfl ?_
    exact k)
  obtain ⟨cq29, kq29, qa29, qb29, qc29⟩ := isOf hZ e26 E0
  obtain ⟨_, _, ⟨T29, L29, k29, n29⟩, -, X29, ⟨Lc29, hQ29, l29, y29, z29⟩, st29⟩ := X26.virtualBack hx (y := (⟨"java/lang/String", "charAt", "(I)C"⟩ : MethodName)) (z := (⟨"java/lang/String", "charAt", "(I)C"⟩ : MethodName)) hown (mvT hZ (hw _ (List.mem_of_getElem? (i := 50) rfl))) (mvT hZ (hw _ (List.mem_of_getElem? (i := 51) rfl))) (notFace_of_selects (args := #[]) (mvT hZ (hw _ (List.mem_of_getElem? (i := 53) rfl)))) (mvT hZ (hw _ (List.mem_of_getElem? (i := 53) rfl))) (mvT hZ (hw _ (List.mem_of_getElem? (i := 52) rfl))) (by decide) (backOf (W := 0) (rmca l Z a0 hw [] x1 (2 : Int32) tv kb c2 cs G h0 n0 Z0 E0 F2 H2 ko2 O0 st) hZ (hw _ (List.mem_of_getElem? (i := 54) rfl)) (hw _ (List.mem_of_getElem? (i := 7) rfl)) (by decide) (by decide)) qa29 qc29 (g := (mkF m 33 #[.val (.ref x0), .val (.ref x1), .val (.int (2 : Int32))] [(.int (2 : Int32)), (.ref x1)])) rfl (by rw [hml]; rfl) (Steps.refl _) (argsL := [(.int (2 : Int32))]) (rest := []) (lenOf pdrq3_2 rfl) rfl (by show 2 * 0 + _ ≤ _; exact Nat.le_of_eq rfl) (hb hby drq3_33) (fun _ _ => ⟨rfl, e26, (by decide : 0 + 0 ≤ _), (by decide : 0 + 0 ≤ _)⟩)
  dsimp only [Pt.U, Pt.locs, Pt.cells, Pt.slots] at X29 l29 y29 z29 st29 hQ29
  subst l29 y29 z29
  obtain ⟨rfl, Nq29, e29⟩ := hQ29
  have N29 := Fr.app N26 Nq29
  have p30 : ∀ t, own_W p e below m T29 36 #[.val (.ref x0), .val (.ref x1), .val (.int (2 : Int32))] [(.int c2)] t → Steps p.tables e below S0 t := fun t k => p28 t (st29.trans k)
  obtain ⟨_, _, ⟨T31, L31, k31, n31⟩, -, X31, ⟨Lc31, hQ31, l31, y31, z31⟩, st31⟩ := Jvm.LawKit.callS X29 hx (y := (⟨"java/lang/Character", "isISOControl", "(C)Z"⟩ : MethodName)) hown (mvT hZ (hw _ (List.mem_of_getElem? (i := 71) rfl))) (mvT hZ (hw _ (List.mem_of_getElem? (i := 72) rfl))) (mvT hZ (hw _ (List.mem_of_getElem? (i := 73) rfl))) (mvT hZ (hw _ (List.mem_of_getElem? (i := 74) rfl))) (by decide) (backOf (W := 0) (rmic l Z a0 hw [] c2  h0 n0 Z0 ko2) hZ (hw _ (List.mem_of_getElem? (i := 74) rfl)) (hw _ (List.mem_of_getElem? (i := 73) rfl)) (by decide) (by decide)) (g := (mkF m 36 #[.val (.ref x0), .val (.ref x1), .val (.int (2 : Int32))] [(.int c2)])) rfl (by rw [hml]; rfl) (argsL := [(.int c2)]) (rest := []) (lenOf pdrq3_3 rfl) rfl (by show 2 * 0 + _ ≤ _; exact Nat.le_of_eq rfl) (hb hby drq3_36) (fun _ _ => ⟨rfl, e29, (by decide : 0 + 0 ≤ _), (by decide : 0 + 0 ≤ _)⟩)
  dsimp only [Pt.U, Pt.locs, Pt.cells, Pt.slots] at X31 l31 y31 z31 st31 hQ31
  subst l31 y31 z31
  obtain ⟨rfl, Nq31, e31⟩ := hQ31
  have N31 := Fr.app N29 Nq31
  have p32 : ∀ t, own_W p e below m T31 39 #[.val (.ref x0), .val (.ref x1), .val (.int (2 : Int32))] [(.int (0 : Int32))] t → Steps p.tables e below S0 t := fun t k => p30 t (st31 _ k)
  have p33 : ∀ t, own_W p e below m T31 23 #[.val (.ref x0), .val (.ref x1), .val (.int ((2 : Int32) + (1 : Int32)))] [] t → Steps p.tables e below S0 t := fun t k => p32 t (by
    show own_W p e below m T31 39 #[.val (.ref x0), .val (.ref x1), .val (.int (2 : Int32))] [(.int (0 : Int32))] _
    refine XS.ifYes X31.here hx rfl (pc0 := 39) (pc' := 57) rfl (hb hby drq3_39) rfl ((if0 _ _).trans (teq (rfl)).1) (by decide) (by decide) ?_
    show own_W p e below m T31 57 #[.val (.ref x0), .val (.ref x1), .val (.int (2 : Int32))] [] _
    refine XS.iinc X31.here hx rfl (hb hby drq3_57) rfl (l' := #[.val (.ref x0), .val (.ref x1), .val (.int ((2 : Int32) + (1 : Int32)))]) rfl ?_
    show own_W p e below m T31 60 #[.val (.ref x0), .val (.ref x1), .val (.int ((2 : Int32) + (1 : Int32)))] [] _
    refine XS.goto X31.here hx rfl (pc0 := 60) (pc' := 23) rfl (hb hby drq3_60) (by decide) (by decide) ?_
    exact k)
  have p34 : ∀ t, own_W p e below m T31 23 #[.val (.ref x0), .val (.ref x1), .val (.int (3 : Int32))] [] t → Steps p.tables e below S0 t := by
    have k := p33
    rw [show ((2 : Int32) + (1 : Int32)) = (3 : Int32) from by decide] at k
    exact k
  have p35 : ∀ t, own_W p e below m T31 25 #[.val (.ref x0), .val (.ref x1), .val (.int (3 : Int32))] [(.ref x1), (.int (3 : Int32))] t → Steps p.tables e below S0 t := fun t k => p34 t (by
    show own_W p e below m T31 23 #[.val (.ref x0), .val (.ref x1), .val (.int (3 : Int32))] [] _
    refine XS.iloadN X31.here hx rfl (hb hby drq3_23) rfl ?_
    show own_W p e below m T31 24 #[.val (.ref x0), .val (.ref x1), .val (.int (3 : Int32))] [(.int (3 : Int32))] _
    refine XS.aloadN X31.here hx rfl (hb hby drq3_24) rfl rfl ?_
    exact k)
  obtain ⟨cq36, kq36, qa36, qb36, qc36⟩ := isOf hZ e31 E0
  obtain ⟨_, _, ⟨T36, L36, k36, n36⟩, -, X36, ⟨Lc36, hQ36, l36, y36, z36⟩, st36⟩ := X31.virtualBack hx (y := (⟨"java/lang/String", "length", "()I"⟩ : MethodName)) (z := (⟨"java/lang/String", "length", "()I"⟩ : MethodName)) hown (mvT hZ (hw _ (List.mem_of_getElem? (i := 40) rfl))) (mvT hZ (hw _ (List.mem_of_getElem? (i := 41) rfl))) (notFace_of_selects (args := #[]) (mvT hZ (hw _ (List.mem_of_getElem? (i := 43) rfl)))) (mvT hZ (hw _ (List.mem_of_getElem? (i := 43) rfl))) (mvT hZ (hw _ (List.mem_of_getElem? (i := 42) rfl))) (by decide) (backOf (W := 1) (rmle l Z a0 hw [] x1 tv kb (3 : Int32) cs G h0 n0 Z0 E0 F2 HL O0 st) hZ (hw _ (List.mem_of_getElem? (i := 44) rfl)) (hw _ (List.mem_of_getElem? (i := 7) rfl)) (by decide) (by decide)) qa36 qc36 (g := (mkF m 25 #[.val (.ref x0), .val (.ref x1), .val (.int (3 : Int32))] [(.ref x1), (.int (3 : Int32))])) rfl (by rw [hml]; rfl) (Steps.refl _) (argsL := []) (rest := [(.int (3 : Int32))]) (lenOf pdrq3_1 rfl) rfl (by show 2 * 0 + _ ≤ _; exact Nat.le_of_eq rfl) (hb hby drq3_25) (fun _ _ => ⟨rfl, e31, (by decide : 0 + 0 ≤ _), (by decide : 0 + 0 ≤ _)⟩)
  dsimp only [Pt.U, Pt.locs, Pt.cells, Pt.slots] at X36 l36 y36 z36 st36 hQ36
  subst l36 y36 z36
  obtain ⟨rfl, Nq36, e36⟩ := hQ36
  have N36 := Fr.app N31 Nq36
  have p37 : ∀ t, own_W p e below m T36 28 #[.val (.ref x0), .val (.ref x1), .val (.int (3 : Int32))] [(.int (3 : Int32)), (.int (3 : Int32))] t → Steps p.tables e below S0 t := fun t k => p35 t (st36.trans k)
  have p38 : ∀ t, own_W p e below m T36 64 #[.val (.ref x0), .val (.ref x1), .val (.int (3 : Int32))] [(.ref x1)] t → Steps p.tables e below S0 t := fun t k => p37 t (by
    show own_W p e below m T36 28 #[.val (.ref x0), .val (.ref x1), .val (.int (3 : Int32))] [(.int (3 : Int32)), (.int (3 : Int32))] _
    refine XS.icmpYes X36.here hx rfl (pc0 := 28) (pc' := 63) rfl (hb hby drq3_28) rfl ((flt (by decide)).2.1) (by decide) (by decide) ?_
    show own_W p e below m T36 63 #[.val (.ref x0), .val (.ref x1), .val (.int (3 : Int32))] [] _
    refine XS.aloadN X36.here hx rfl (hb hby drq3_63) rfl rfl ?_
    exact k)
  subst hS0
  obtain ⟨fs, hr, hrun, hended, hW, hsame⟩ := X36.leave (v := some (.ref x1)) (fun h => by rw [Bd.returns] at h; cases h)
  refine ⟨_, _, p38 _ ?_, hrun, hended, _, _, rfl, ?_, ⟨_, rfl⟩, hW, hsame.mono (by decide) (by decide)⟩
  · show own_W p e below m T36 64 #[.val (.ref x0), .val (.ref x1), .val (.int (3 : Int32))] [(.ref x1)] _
    exact retOut X36 hx Bd.returns rfl (Or.inr (Or.inr (Or.inr (Or.inr ⟨rfl, rfl, rfl⟩)))) (hb hby drq3_64) hr
  · show Qrq3 Z x0 x1 tv kb c0 c1 c2 cs G h0 n0 _ T36.heap _
    rw [e36]
    exact ⟨rfl, N36, rfl⟩
theorem drq4_0 : decode prog_4_method_2_code 0 = .ok (.aload_n 1, 1) := by decide +kernel
theorem drq4_1 : decode prog_4_method_2_code 1 = .ok (.invokevirtual 7, 3) := by decide +kernel
theorem drq4_4 : decode prog_4_method_2_code 4 = .ok (.ifCond .eq 17, 3) := by decide +kernel
theorem drq4_21 : decode prog_4_method_2_code 21 = .ok (.iconst 0, 1) := by decide +kernel
theorem drq4_22 : decode prog_4_method_2_code 22 = .ok (.istore_n 2, 1) := by decide +kernel
theorem drq4_23 : decode prog_4_method_2_code 23 = .ok (.iload_n 2, 1) := by decide +kernel
theorem drq4_24 : decode prog_4_method_2_code 24 = .ok (.aload_n 1, 1) := by decide +kernel
theorem drq4_25 : decode prog_4_method_2_code 25 = .ok (.invokevirtual 22, 3) := by decide +kernel
theorem drq4_28 : decode prog_4_method_2_code 28 = .ok (.if_icmp .ge 35, 3) := by decide +kernel
theorem drq4_31 : decode prog_4_method_2_code 31 = .ok (.aload_n 1, 1) := by decide +kernel
theorem drq4_32 : decode prog_4_method_2_code 32 = .ok (.iload_n 2, 1) := by decide +kernel
theorem drq4_33 : decode prog_4_method_2_code 33 = .ok (.invokevirtual 26, 3) := by decide +kernel
theorem drq4_36 : decode prog_4_method_2_code 36 = .ok (.invokestatic 30, 3) := by decide +kernel
theorem drq4_39 : decode prog_4_method_2_code 39 = .ok (.ifCond .eq 18, 3) := by decide +kernel
theorem drq4_57 : decode prog_4_method_2_code 57 = .ok (.iinc 2 1, 3) := by decide +kernel
theorem drq4_60 : decode prog_4_method_2_code 60 = .ok (.goto (-37), 3) := by decide +kernel
theorem drq4_63 : decode prog_4_method_2_code 63 = .ok (.aload_n 1, 1) := by decide +kernel
theorem drq4_64 : decode prog_4_method_2_code 64 = .ok (.areturn, 1) := by decide +kernel
theorem pnrq4 : plainName "com/example/disposition/disposition/Names" = true := by first | (simp [plainName, overriddenIn]; done) | decide +kernel
theorem pdrq4_0 : parseMethodDescriptor "()Z" = some ⟨[], some .boolean⟩ := by decide +kernel
theorem pdrq4_1 : parseMethodDescriptor "()I" = some ⟨[], some .int⟩ := by decide +kernel
theorem pdrq4_2 : parseMethodDescriptor "(I)C" = some ⟨[.int], some .char⟩ := by decide +kernel
theorem pdrq4_3 : parseMethodDescriptor "(C)Z" = some ⟨[.char], some .boolean⟩ := by decide +kernel
theorem efrq4 (m : MethodId) (x0 : Addr) (x1 : Addr) : entryFrame m #[(.ref x0), (.ref x1)] 3 = mkF m 0 #[.val (.ref x0), .val (.ref x1), .unset] [] := by first | (simp [entryFrame, mkF, argsToLocals, Value.category]; done) | rfl
def Qrq4 (Z : State) (x0 : Addr) (x1 : Addr) (tv : Addr) (kb : ClassId) (c0 : Int32) (c1 : Int32) (c2 : Int32) (c3 : Int32) (cs : Int32) (G : Value) (h0 : Heap) (n0 : Nat) (v : Option Value) (h : Heap) (L : List Loc) : Prop := v = some (.ref x1) ∧ Fr n0 L ∧ h = h0
set_option maxRecDepth 65536 in
set_option maxHeartbeats 40000000 in
theorem rmrq4 (l : Launch) (Z : State) (a0 : Array Value) (hw : ∀ d ∈ tables_1, d.before a0 Z = true) (ws : List Jvm.Cond) (x0 : Addr) (x1 : Addr) (tv : Addr) (kb : ClassId) (c0 : Int32) (c1 : Int32) (c2 : Int32) (c3 : Int32) (cs : Int32) (G : Value) (h0 : Heap) (n0 : Nat) (Z0 : n0 ≤ h0.size) (E0 : Exa Z h0 x1 "java/lang/String") (F2 : Fld Z h0 x1 "java/lang/String" "value" "[B" (.ref tv)) (HL : own_LN Z h0 x1 tv kb (4 : Int32)) (H0 : own_CH Z h0 x1 tv kb (0 : Int32) c0) (H1 : own_CH Z h0 x1 tv kb (1 : Int32) c1) (H2 : own_CH Z h0 x1 tv kb (2 : Int32) c2) (H3 : own_CH Z h0 x1 tv kb (3 : Int32) c3) (ko0 : own_ok c0) (ko1 : own_ok c1) (ko2 : own_ok c2) (ko3 : own_ok c3) (O0 : Old Z n0 h0) (st : own_ST Z cs G) :
    MetFree l (⟨"com/example/disposition/disposition/Names", "require", "(Ljava/lang/String;Ljava/lang/String;)Ljava/lang/String;"⟩ : MethodName) (head1 (Jvm.Cond.code (⟨"com/example/disposition/disposition/Names", "require", "(Ljava/lang/String;Ljava/lang/String;)Ljava/lang/String;"⟩ : MethodName) prog_4_method_2_code 3 (some (.object "java/lang/String")) :: ws) ({ frames := 5, cells := 0, slots := 0, locals := 66 } : Room)) (fun a U => a = #[(.ref x0), (.ref x1)] ∧ Z.Warmed39 U.vm ∧ U.heap = h0) (fun _ _ _ _ _ => True) (fun _ U o U' => ∃ v L, o = .returned v ∧ Qrq4 Z x0 x1 tv kb c0 c1 c2 c3 cs G h0 n0 v U'.heap L ∧ FrameEnd U o U' L ({ frames := 5, cells := 0, slots := 0, locals := 66 } : Room).cells ({ frames := 5, cells := 0, slots := 0, locals := 66 } : Room).slots) := by
  refine MetFree.of_bodySF (plainFor_of_name pnrq4) hisR ?_
  intro p e s m args below meth c s₁ Bd hml0 hP hK
  obtain ⟨rfl, hZ, hh⟩ := hP
  have hx := Bd.exec
  have hby := Bd.bytes
  have hml : c.maxLocals = 3 := hml0
  have hown : s.vm.findClass "com/example/disposition/disposition/Names" = some m.cls := findClass_of_methodNamed Bd.named
  have hnm := (name_of_methodNamed Bd.named Bd.method).1
  have X0 : Stand p l e ({ frames := 5, cells := 0, slots := 0, locals := 66 } : Room) s m #[(.ref x0), (.ref x1)] below meth c s₁ [] 0 0 := Stand.of_body Bd
  have e0 : s₁.heap = h0 := by rw [← hh, Bd.state]; rfl
  have N0 := Fr.nil n0
  have pre0 : ∀ t, Steps p.tables e below (s₁.setTop (mkF m 0 #[.val (.ref x0), .val (.ref x1), .unset] [])) t → Steps p.tables e below (s₁.setTop (entryFrame m #[(.ref x0), (.ref x1)] 3)) t := fun t k => castTop (efrq4 m x0 x1) k
  obtain ⟨S0, hS0⟩ : ∃ z, z = (s₁.setTop (entryFrame m #[(.ref x0), (.ref x1)] 3)) := ⟨_, rfl⟩
  rw [← hS0] at pre0
  obtain ⟨sc, hcs, sa, sh, sl, sg, hG⟩ := id st
  have p1 : ∀ t, own_W p e below m s₁ 1 #[.val (.ref x0), .val (.ref x1), .unset] [(.ref x1)] t → Steps p.tables e below S0 t := fun t k => pre0 t (by
    show own_W p e below m s₁ 0 #[.val (.ref x0), .val (.ref x1), .unset] [] _
    refine XS.aloadN X0.here hx rfl (hb hby drq4_0) rfl rfl ?_
    exact k)
  obtain ⟨cq2, kq2, qa2, qb2, qc2⟩ := isOf hZ e0 E0
  obtain ⟨_, _, ⟨T2, L2, k2, n2⟩, -, X2, ⟨Lc2, hQ2, l2, y2, z2⟩, st2⟩ := X0.virtualBack hx (y := (⟨"java/lang/String", "isEmpty", "()Z"⟩ : MethodName)) (z := (⟨"java/lang/String", "isEmpty", "()Z"⟩ : MethodName)) hown (mvT hZ (hw _ (List.mem_of_getElem? (i := 35) rfl))) (mvT hZ (hw _ (List.mem_of_getElem? (i := 36) rfl))) (notFace_of_selects (args := #[]) (mvT hZ (hw _ (List.mem_of_getElem? (i := 38) rfl)))) (mvT hZ (hw _ (List.mem_of_getElem? (i := 38) rfl))) (mvT hZ (hw _ (List.mem_of_getElem? (i := 37) rfl))) (by decide) (backOf (W := 0) (rmie l Z a0 hw [] x1 tv kb (4 : Int32) h0 n0 Z0 E0 F2 HL) hZ (hw _ (List.mem_of_getElem? (i := 39) rfl)) (hw _ (List.mem_of_getElem? (i := 7) rfl)) (by decide) (by decide)) qa2 qc2 (g := (mkF m 1 #[.val (.ref x0), .val (.ref x1), .unset] [(.ref x1)])) rfl (by rw [hml]; rfl) (Steps.refl _) (argsL := []) (rest := []) (lenOf pdrq4_0 rfl) rfl (by show 2 * 0 + _ ≤ _; exact Nat.le_of_eq rfl) (hb hby drq4_1) (fun _ _ => ⟨rfl, e0, (by decide : 0 + 0 ≤ _), (by decide : 0 + 0 ≤ _)⟩)
  dsimp only [Pt.U, Pt.locs, Pt.cells, Pt.slots] at X2 l2 y2 z2 st2 hQ2
  subst l2 y2 z2
  obtain ⟨rfl, Nq2, e2⟩ := hQ2
  have N2 := Fr.app N0 Nq2
  have p3 : ∀ t, own_W p e below m T2 4 #[.val (.ref x0), .val (.ref x1), .unset] [(.int (0 : Int32))] t → Steps p.tables e below S0 t := fun t k => p1 t (st2.trans k)
  have p4 : ∀ t, own_W p e below m T2 23 #[.val (.ref x0), .val (.ref x1), .val (.int (0 : Int32))] [] t → Steps p.tables e below S0 t := fun t k => p3 t (by
    show own_W p e below m T2 4 #[.val (.ref x0), .val (.ref x1), .unset] [(.int (0 : Int32))] _
    refine XS.ifYes X2.here hx rfl (pc0 := 4) (pc' := 21) rfl (hb hby drq4_4) rfl ((if0 _ _).trans (teq (rfl)).1) (by decide) (by decide) ?_
    show own_W p e below m T2 21 #[.val (.ref x0), .val (.ref x1), .unset] [] _
    refine XS.iconst X2.here hx rfl (hb hby drq4_21) ?_
    show own_W p e below m T2 22 #[.val (.ref x0), .val (.ref x1), .unset] [(.int (0 : Int32))] _
    refine XS.istoreN X2.here hx rfl (hb hby drq4_22) rfl (l' := #[.val (.ref x0), .val (.ref x1), .val (.int (0 : Int32))]) rfl ?_
    exact k)
  have p5 : ∀ t, own_W p e below m T2 25 #[.val (.ref x0), .val (.ref x1), .val (.int (0 : Int32))] [(.ref x1), (.int (0 : Int32))] t → Steps p.tables e below S0 t := fun t k => p4 t (by
    show own_W p e below m T2 23 #[.val (.ref x0), .val (.ref x1), .val (.int (0 : Int32))] [] _
    refine XS.iloadN X2.here hx rfl (hb hby drq4_23) rfl ?_
    show own_W p e below m T2 24 #[.val (.ref x0), .val (.ref x1), .val (.int (0 : Int32))] [(.int (0 : Int32))] _
    refine XS.aloadN X2.here hx rfl (hb hby drq4_24) rfl rfl ?_
    exact k)
  obtain ⟨cq6, kq6, qa6, qb6, qc6⟩ := isOf hZ e2 E0
  obtain ⟨_, _, ⟨T6, L6, k6, n6⟩, -, X6, ⟨Lc6, hQ6, l6, y6, z6⟩, st6⟩ := X2.virtualBack hx (y := (⟨"java/lang/String", "length", "()I"⟩ : MethodName)) (z := (⟨"java/lang/String", "length", "()I"⟩ : MethodName)) hown (mvT hZ (hw _ (List.mem_of_getElem? (i := 40) rfl))) (mvT hZ (hw _ (List.mem_of_getElem? (i := 41) rfl))) (notFace_of_selects (args := #[]) (mvT hZ (hw _ (List.mem_of_getElem? (i := 43) rfl)))) (mvT hZ (hw _ (List.mem_of_getElem? (i := 43) rfl))) (mvT hZ (hw _ (List.mem_of_getElem? (i := 42) rfl))) (by decide) (backOf (W := 1) (rmle l Z a0 hw [] x1 tv kb (4 : Int32) cs G h0 n0 Z0 E0 F2 HL O0 st) hZ (hw _ (List.mem_of_getElem? (i := 44) rfl)) (hw _ (List.mem_of_getElem? (i := 7) rfl)) (by decide) (by decide)) qa6 qc6 (g := (mkF m 25 #[.val (.ref x0), .val (.ref x1), .val (.int (0 : Int32))] [(.ref x1), (.int (0 : Int32))])) rfl (by rw [hml]; rfl) (Steps.refl _) (argsL := []) (rest := [(.int (0 : Int32))]) (lenOf pdrq4_1 rfl) rfl (by show 2 * 0 + _ ≤ _; exact Nat.le_of_eq rfl) (hb hby drq4_25) (fun _ _ => ⟨rfl, e2, (by decide : 0 + 0 ≤ _), (by decide : 0 + 0 ≤ _)⟩)
  dsimp only [Pt.U, Pt.locs, Pt.cells, Pt.slots] at X6 l6 y6 z6 st6 hQ6
  subst l6 y6 z6
  obtain ⟨rfl, Nq6, e6⟩ := hQ6
  have N6 := Fr.app N2 Nq6
  have p7 : ∀ t, own_W p e below m T6 28 #[.val (.ref x0), .val (.ref x1), .val (.int (0 : Int32))] [(.int (4 : Int32)), (.int (0 : Int32))] t → Steps p.tables e below S0 t := fun t k => p5 t (st6.trans k)
  have p8 : ∀ t, own_W p e below m T6 33 #[.val (.ref x0), .val (.ref x1), .val (.int (0 : Int32))] [(.int (0 : Int32)), (.ref x1)] t → Steps p.tables e below S0 t := fun t k => p7 t (by
    show own_W p e below m T6 28 #[.val (.ref x0), .val (.ref x1), .val (.int (0 : Int32))] [(.int (4 : Int32)), (.int (0 : Int32))] _
    refine XS.icmpNo X6.here hx rfl (hb hby drq4_28) rfl ((tlt (by decide)).2.1) ?_
    show own_W p e below m T6 31 #[.val (.ref x0), .val (.ref x1), .val (.int (0 : Int32))] [] _
    refine XS.aloadN X6.here hx rfl (hb hby drq4_31) rfl rfl ?_
    show own_W p e below m T6 32 #[.val (.ref x0), .val (.ref x1), .val (.int (0 : Int32))] [(.ref x1)] _
    refine XS.iloadN X6.here hx rfl (hb hby drq4_32) rfl ?_
    exact k)
  obtain ⟨cq9, kq9, qa9, qb9, qc9⟩ := isOf hZ e6 E0
  obtain ⟨_, _, ⟨T9, L9, k9, n9⟩, -, X9, ⟨Lc9, hQ9, l9, y9, z9⟩, st9⟩ := X6.virtualBack hx (y := (⟨"java/lang/String", "charAt", "(I)C"⟩ : MethodName)) (z := (⟨"java/lang/String", "charAt", "(I)C"⟩ : MethodName)) hown (mvT hZ (hw _ (List.mem_of_getElem? (i := 50) rfl))) (mvT hZ (hw _ (List.mem_of_getElem? (i := 51) rfl))) (notFace_of_selects (args := #[]) (mvT hZ (hw _ (List.mem_of_getElem? (i := 53) rfl)))) (mvT hZ (hw _ (List.mem_of_getElem? (i := 53) rfl))) (mvT hZ (hw _ (List.mem_of_getElem? (i := 52) rfl))) (by decide) (backOf (W := 0) (rmca l Z a0 hw [] x1 (0 : Int32) tv kb c0 cs G h0 n0 Z0 E0 F2 H0 ko0 O0 st) hZ (hw _ (List.mem_of_getElem? (i := 54) rfl)) (hw _ (List.mem_of_getElem? (i := 7) rfl)) (by decide) (by decide)) qa9 qc9 (g := (mkF m 33 #[.val (.ref x0), .val (.ref x1), .val (.int (0 : Int32))] [(.int (0 : Int32)), (.ref x1)])) rfl (by rw [hml]; rfl) (Steps.refl _) (argsL := [(.int (0 : Int32))]) (rest := []) (lenOf pdrq4_2 rfl) rfl (by show 2 * 0 + _ ≤ _; exact Nat.le_of_eq rfl) (hb hby drq4_33) (fun _ _ => ⟨rfl, e6, (by decide : 0 + 0 ≤ _), (by decide : 0 + 0 ≤ _)⟩)
  dsimp only [Pt.U, Pt.locs, Pt.cells, Pt.slots] at X9 l9 y9 z9 st9 hQ9
  subst l9 y9 z9
  obtain ⟨rfl, Nq9, e9⟩ := hQ9
  have N9 := Fr.app N6 Nq9
  have p10 : ∀ t, own_W p e below m T9 36 #[.val (.ref x0), .val (.ref x1), .val (.int (0 : Int32))] [(.int c0)] t → Steps p.tables e below S0 t := fun t k => p8 t (st9.trans k)
  obtain ⟨_, _, ⟨T11, L11, k11, n11⟩, -, X11, ⟨Lc11, hQ11, l11, y11, z11⟩, st11⟩ := Jvm.LawKit.callS X9 hx (y := (⟨"java/lang/Character", "isISOControl", "(C)Z"⟩ : MethodName)) hown (mvT hZ (hw _ (List.mem_of_getElem? (i := 71) rfl))) (mvT hZ (hw _ (List.mem_of_getElem? (i := 72) rfl))) (mvT hZ (hw _ (List.mem_of_getElem? (i := 73) rfl))) (mvT hZ (hw _ (List.mem_of_getElem? (i := 74) rfl))) (by decide) (backOf (W := 0) (rmic l Z a0 hw [] c0  h0 n0 Z0 ko0) hZ (hw _ (List.mem_of_getElem? (i := 74) rfl)) (hw _ (List.mem_of_getElem? (i := 73) rfl)) (by decide) (by decide)) (g := (mkF m 36 #[.val (.ref x0), .val (.ref x1), .val (.int (0 : Int32))] [(.int c0)])) rfl (by rw [hml]; rfl) (argsL := [(.int c0)]) (rest := []) (lenOf pdrq4_3 rfl) rfl (by show 2 * 0 + _ ≤ _; exact Nat.le_of_eq rfl) (hb hby drq4_36) (fun _ _ => ⟨rfl, e9, (by decide : 0 + 0 ≤ _), (by decide : 0 + 0 ≤ _)⟩)
  dsimp only [Pt.U, Pt.locs, Pt.cells, Pt.slots] at X11 l11 y11 z11 st11 hQ11
  subst l11 y11 z11
  obtain ⟨rfl, Nq11, e11⟩ := hQ11
  have N11 := Fr.app N9 Nq11
  have p12 : ∀ t, own_W p e below m T11 39 #[.val (.ref x0), .val (.ref x1), .val (.int (0 : Int32))] [(.int (0 : Int32))] t → Steps p.tables e below S0 t := fun t k => p10 t (st11 _ k)
  have p13 : ∀ t, own_W p e below m T11 23 #[.val (.ref x0), .val (.ref x1), .val (.int ((0 : Int32) + (1 : Int32)))] [] t → Steps p.tables e below S0 t := fun t k => p12 t (by
    show own_W p e below m T11 39 #[.val (.ref x0), .val (.ref x1), .val (.int (0 : Int32))] [(.int (0 : Int32))] _
    refine XS.ifYes X11.here hx rfl (pc0 := 39) (pc' := 57) rfl (hb hby drq4_39) rfl ((if0 _ _).trans (teq (rfl)).1) (by decide) (by decide) ?_
    show own_W p e below m T11 57 #[.val (.ref x0), .val (.ref x1), .val (.int (0 : Int32))] [] _
    refine XS.iinc X11.here hx rfl (hb hby drq4_57) rfl (l' := #[.val (.ref x0), .val (.ref x1), .val (.int ((0 : Int32) + (1 : Int32)))]) rfl ?_
    show own_W p e below m T11 60 #[.val (.ref x0), .val (.ref x1), .val (.int ((0 : Int32) + (1 : Int32)))] [] _
    refine XS.goto X11.here hx rfl (pc0 := 60) (pc' := 23) rfl (hb hby drq4_60) (by decide) (by decide) ?_
    exact k)
  have p14 : ∀ t, own_W p e below m T11 23 #[.val (.ref x0), .val (.ref x1), .val (.int (1 : Int32))] [] t → Steps p.tables e below S0 t := by
    have k := p13
    rw [show ((0 : Int32) + (1 : Int32)) = (1 : Int32) from by decide] at k
    exact k
  have p15 : ∀ t, own_W p e below m T11 25 #[.val (.ref x0), .val (.ref x1), .val (.int (1 : Int32))] [(.ref x1), (.int (1 : Int32))] t → Steps p.tables e below S0 t := fun t k => p14 t (by
    show own_W p e below m T11 23 #[.val (.ref x0), .val (.ref x1), .val (.int (1 : Int32))] [] _
    refine XS.iloadN X11.here hx rfl (hb hby drq4_23) rfl ?_
    show own_W p e below m T11 24 #[.val (.ref x0), .val (.ref x1), .val (.int (1 : Int32))] [(.int (1 : Int32))] _
    refine XS.aloadN X11.here hx rfl (hb hby drq4_24) rfl rfl ?_
    exact k)
  obtain ⟨cq16, kq16, qa16, qb16, qc16⟩ := isOf hZ e11 E0
  obtain ⟨_, _, ⟨T16, L16, k16, n16⟩, -, X16, ⟨Lc16, hQ16, l16, y16, z16⟩, st16⟩ := X11.virtualBack hx (y := (⟨"java/lang/String", "length", "()I"⟩ : MethodName)) (z := (⟨"java/lang/String", "length", "()I"⟩ : MethodName)) hown (mvT hZ (hw _ (List.mem_of_getElem? (i := 40) rfl))) (mvT hZ (hw _ (List.mem_of_getElem? (i := 41) rfl))) (notFace_of_selects (args := #[]) (mvT hZ (hw _ (List.mem_of_getElem? (i := 43) rfl)))) (mvT hZ (hw _ (List.mem_of_getElem? (i := 43) rfl))) (mvT hZ (hw _ (List.mem_of_getElem? (i := 42) rfl))) (by decide) (backOf (W := 1) (rmle l Z a0 hw [] x1 tv kb (4 : Int32) cs G h0 n0 Z0 E0 F2 HL O0 st) hZ (hw _ (List.mem_of_getElem? (i := 44) rfl)) (hw _ (List.mem_of_getElem? (i := 7) rfl)) (by decide) (by decide)) qa16 qc16 (g := (mkF m 25 #[.val (.ref x0), .val (.ref x1), .val (.int (1 : Int32))] [(.ref x1), (.int (1 : Int32))])) rfl (by rw [hml]; rfl) (Steps.refl _) (argsL := []) (rest := [(.int (1 : Int32))]) (lenOf pdrq4_1 rfl) rfl (by show 2 * 0 + _ ≤ _; exact Nat.le_of_eq rfl) (hb hby drq4_25) (fun _ _ => ⟨rfl, e11, (by decide : 0 + 0 ≤ _), (by decide : 0 + 0 ≤ _)⟩)
  dsimp only [Pt.U, Pt.locs, Pt.cells, Pt.slots] at X16 l16 y16 z16 st16 hQ16
  subst l16 y16 z16
  obtain ⟨rfl, Nq16, e16⟩ := hQ16
  have N16 := Fr.app N11 Nq16
  have p17 : ∀ t, own_W p e below m T16 28 #[.val (.ref x0), .val (.ref x1), .val (.int (1 : Int32))] [(.int (4 : Int32)), (.int (1 : Int32))] t → Steps p.tables e below S0 t := fun t k => p15 t (st16.trans k)
  have p18 : ∀ t, own_W p e below m T16 33 #[.val (.ref x0), .val (.ref x1), .val (.int (1 : Int32))] [(.int (1 : Int32)), (.ref x1)] t → Steps p.tables e below S0 t := fun t k => p17 t (by
    show own_W p e below m T16 28 #[.val (.ref x0), .val (.ref x1), .val (.int (1 : Int32))] [(.int (4 : Int32)), (.int (1 : Int32))] _
    refine XS.icmpNo X16.here hx rfl (hb hby drq4_28) rfl ((tlt (by decide)).2.1) ?_
    show own_W p e below m T16 31 #[.val (.ref x0), .val (.ref x1), .val (.int (1 : Int32))] [] _
    refine XS.aloadN X16.here hx rfl (hb hby drq4_31) rfl rfl ?_
    show own_W p e below m T16 32 #[.val (.ref x0), .val (.ref x1), .val (.int (1 : Int32))] [(.ref x1)] _
    refine XS.iloadN X16.here hx rfl (hb hby drq4_32) rfl ?_
    exact k)
  obtain ⟨cq19, kq19, qa19, qb19, qc19⟩ := isOf hZ e16 E0
  obtain ⟨_, _, ⟨T19, L19, k19, n19⟩, -, X19, ⟨Lc19, hQ19, l19, y19, z19⟩, st19⟩ := X16.virtualBack hx (y := (⟨"java/lang/String", "charAt", "(I)C"⟩ : MethodName)) (z := (⟨"java/lang/String", "charAt", "(I)C"⟩ : MethodName)) hown (mvT hZ (hw _ (List.mem_of_getElem? (i := 50) rfl))) (mvT hZ (hw _ (List.mem_of_getElem? (i := 51) rfl))) (notFace_of_selects (args := #[]) (mvT hZ (hw _ (List.mem_of_getElem? (i := 53) rfl)))) (mvT hZ (hw _ (List.mem_of_getElem? (i := 53) rfl))) (mvT hZ (hw _ (List.mem_of_getElem? (i := 52) rfl))) (by decide) (backOf (W := 0) (rmca l Z a0 hw [] x1 (1 : Int32) tv kb c1 cs G h0 n0 Z0 E0 F2 H1 ko1 O0 st) hZ (hw _ (List.mem_of_getElem? (i := 54) rfl)) (hw _ (List.mem_of_getElem? (i := 7) rfl)) (by decide) (by decide)) qa19 qc19 (g := (mkF m 33 #[.val (.ref x0), .val (.ref x1), .val (.int (1 : Int32))] [(.int (1 : Int32)), (.ref x1)])) rfl (by rw [hml]; rfl) (Steps.refl _) (argsL := [(.int (1 : Int32))]) (rest := []) (lenOf pdrq4_2 rfl) rfl (by show 2 * 0 + _ ≤ _; exact Nat.le_of_eq rfl) (hb hby drq4_33) (fun _ _ => ⟨rfl, e16, (by decide : 0 + 0 ≤ _), (by decide : 0 + 0 ≤ _)⟩)
  dsimp only [Pt.U, Pt.locs, Pt.cells, Pt.slots] at X19 l19 y19 z19 st19 hQ19
  subst l19 y19 z19
  obtain ⟨rfl, Nq19, e19⟩ := hQ19
  have N19 := Fr.app N16 Nq19
  have p20 : ∀ t, own_W p e below m T19 36 #[.val (.ref x0), .val (.ref x1), .val (.int (1 : Int32))] [(.int c1)] t → Steps p.tables e below S0 t := fun t k => p18 t (st19.trans k)
  obtain ⟨_, _, ⟨T21, L21, k21, n21⟩, -, X21, ⟨Lc21, hQ21, l21, y21, z21⟩, st21⟩ := Jvm.LawKit.callS X19 hx (y := (⟨"java/lang/Character", "isISOControl", "(C)Z"⟩ : MethodName)) hown (mvT hZ (hw _ (List.mem_of_getElem? (i := 71) rfl))) (mvT hZ (hw _ (List.mem_of_getElem? (i := 72) rfl))) (mvT hZ (hw _ (List.mem_of_getElem? (i := 73) rfl))) (mvT hZ (hw _ (List.mem_of_getElem? (i := 74) rfl))) (by decide) (backOf (W := 0) (rmic l Z a0 hw [] c1  h0 n0 Z0 ko1) hZ (hw _ (List.mem_of_getElem? (i := 74) rfl)) (hw _ (List.mem_of_getElem? (i := 73) rfl)) (by decide) (by decide)) (g := (mkF m 36 #[.val (.ref x0), .val (.ref x1), .val (.int (1 : Int32))] [(.int c1)])) rfl (by rw [hml]; rfl) (argsL := [(.int c1)]) (rest := []) (lenOf pdrq4_3 rfl) rfl (by show 2 * 0 + _ ≤ _; exact Nat.le_of_eq rfl) (hb hby drq4_36) (fun _ _ => ⟨rfl, e19, (by decide : 0 + 0 ≤ _), (by decide : 0 + 0 ≤ _)⟩)
  dsimp only [Pt.U, Pt.locs, Pt.cells, Pt.slots] at X21 l21 y21 z21 st21 hQ21
  subst l21 y21 z21
  obtain ⟨rfl, Nq21, e21⟩ := hQ21
  have N21 := Fr.app N19 Nq21
  have p22 : ∀ t, own_W p e below m T21 39 #[.val (.ref x0), .val (.ref x1), .val (.int (1 : Int32))] [(.int (0 : Int32))] t → Steps p.tables e below S0 t := fun t k => p20 t (st21 _ k)
  have p23 : ∀ t, own_W p e below m T21 23 #[.val (.ref x0), .val (.ref x1), .val (.int ((1 : Int32) + (1 : Int32)))] [] t → Steps p.tables e below S0 t := fun t k => p22 t (by
    show own_W p e below m T21 39 #[.val (.ref x0), .val (.ref x1), .val (.int (1 : Int32))] [(.int (0 : Int32))] _
    refine XS.ifYes X21.here hx rfl (pc0 := 39) (pc' := 57) rfl (hb hby drq4_39) rfl ((if0 _ _).trans (teq (rfl)).1) (by decide) (by decide) ?_
    show own_W p e below m T21 57 #[.val (.ref x0), .val (.ref x1), .val (.int (1 : Int32))] [] _
    refine XS.iinc X21.here hx rfl (hb hby drq4_57) rfl (l' := #[.val (.ref x0), .val (.ref x1), .val (.int ((1 : Int32) + (1 : Int32)))]) rfl ?_
    show own_W p e below m T21 60 #[.val (.ref x0), .val (.ref x1), .val (.int ((1 : Int32) + (1 : Int32)))] [] _
    refine XS.goto X21.here hx rfl (pc0 := 60) (pc' := 23) rfl (hb hby drq4_60) (by decide) (by decide) ?_
    exact k)
  have p24 : ∀ t, own_W p e below m T21 23 #[.val (.ref x0), .val (.ref x1), .val (.int (2 : Int32))] [] t → Steps p.tables e below S0 t := by
    have k := p23
    rw [show ((1 : Int32) + (1 : Int32)) = (2 : Int32) from by decide] at k
    exact k
  have p25 : ∀ t, own_W p e below m T21 25 #[.val (.ref x0), .val (.ref x1), .val (.int (2 : Int32))] [(.ref x1), (.int (2 : Int32))] t → Steps p.tables e below S0 t := fun t k => p24 t (by
    show own_W p e below m T21 23 #[.val (.ref x0), .val (.ref x1), .val (.int (2 : Int32))] [] _
    refine XS.iloadN X21.here hx rfl (hb hby drq4_23) rfl ?_
    show own_W p e below m T21 24 #[.val (.ref x0), .val (.ref x1), .val (.int (2 : Int32))] [(.int (2 : Int32))] _
    refine XS.aloadN X21.here hx rfl (hb hby drq4_24) rfl rfl ?_
    exact k)
  obtain ⟨cq26, kq26, qa26, qb26, qc26⟩ := isOf hZ e21 E0
  obtain ⟨_, _, ⟨T26, L26, k26, n26⟩, -, X26, ⟨Lc26, hQ26, l26, y26, z26⟩, st26⟩ := X21.virtualBack hx (y := (⟨"java/lang/String", "length", "()I"⟩ : MethodName)) (z := (⟨"java/lang/String", "length", "()I"⟩ : MethodName)) hown (mvT hZ (hw _ (List.mem_of_getElem? (i := 40) rfl))) (mvT hZ (hw _ (List.mem_of_getElem? (i := 41) rfl))) (notFace_of_selects (args := #[]) (mvT hZ (hw _ (List.mem_of_getElem? (i := 43) rfl)))) (mvT hZ (hw _ (List.mem_of_getElem? (i := 43) rfl))) (mvT hZ (hw _ (List.mem_of_getElem? (i := 42) rfl))) (by decide) (backOf (W := 1) (rmle l Z a0 hw [] x1 tv kb (4 : Int32) cs G h0 n0 Z0 E0 F2 HL O0 st) hZ (hw _ (List.mem_of_getElem? (i := 44) rfl)) (hw _ (List.mem_of_getElem? (i := 7) rfl)) (by decide) (by decide)) qa26 qc26 (g := (mkF m 25 #[.val (.ref x0), .val (.ref x1), .val (.int (2 : Int32))] [(.ref x1), (.int (2 : Int32))])) rfl (by rw [hml]; rfl) (Steps.refl _) (argsL := []) (rest := [(.int (2 : Int32))]) (lenOf pdrq4_1 rfl) rfl (by show 2 * 0 + _ ≤ _; exact Nat.le_of_eq rfl) (hb hby drq4_25) (fun _ _ => ⟨rfl, e21, (by decide : 0 + 0 ≤ _), (by decide : 0 + 0 ≤ _)⟩)
  dsimp only [Pt.U, Pt.locs, Pt.cells, Pt.slots] at X26 l26 y26 z26 st26 hQ26
  subst l26 y26 z26
  obtain ⟨rfl, Nq26, e26⟩ := hQ26
  have N26 := Fr.app N21 Nq26
  have p27 : ∀ t, own_W p e below m T26 28 #[.val (.ref x0), .val (.ref x1), .val (.int (2 : Int32))] [(.int (4 : Int32)), (.int (2 : Int32))] t → Steps p.tables e below S0 t := fun t k => p25 t (st26.trans k)
  have p28 : ∀ t, own_W p e below m T26 33 #[.val (.ref x0), .val (.ref x1), .val (.int (2 : Int32))] [(.int (2 : Int32)), (.ref x1)] t → Steps p.tables e below S0 t := fun t k => p27 t (by
    show own_W p e below m T26 28 #[.val (.ref x0), .val (.ref x1), .val (.int (2 : Int32))] [(.int (4 : Int32)), (.int (2 : Int32))] _
    refine XS.icmpNo X26.here hx rfl (hb hby drq4_28) rfl ((tlt (by decide)).2.1) ?_
    show own_W p e below m T26 31 #[.val (.ref x0), .val (.ref x1), .val (.int (2 : Int32))] [] _
    refine XS.aloadN X26.here hx rfl (hb hby drq4_31) rfl rfl ?_
    show own_W p e below m T26 32 #[.val (.ref x0), .val (.ref x1), .val (.int (2 : Int32))] [(.ref x1)] _
    refine XS.iloadN X26.here hx rfl (hb hby drq4_32) rfl ?_
    exact k)
  obtain ⟨cq29, kq29, qa29, qb29, qc29⟩ := isOf hZ e26 E0
  obtain ⟨_, _, ⟨T29, L29, k29, n29⟩, -, X29, ⟨Lc29, hQ29, l29, y29, z29⟩, st29⟩ := X26.virtualBack hx (y := (⟨"java/lang/String", "charAt", "(I)C"⟩ : MethodName)) (z := (⟨"java/lang/String", "charAt", "(I)C"⟩ : MethodName)) hown (mvT hZ (hw _ (List.mem_of_getElem? (i := 50) rfl))) (mvT hZ (hw _ (List.mem_of_getElem? (i := 51) rfl))) (notFace_of_selects (args := #[]) (mvT hZ (hw _ (List.mem_of_getElem? (i := 53) rfl)))) (mvT hZ (hw _ (List.mem_of_getElem? (i := 53) rfl))) (mvT hZ (hw _ (List.mem_of_getElem? (i := 52) rfl))) (by decide) (backOf (W := 0) (rmca l Z a0 hw [] x1 (2 : Int32) tv kb c2 cs G h0 n0 Z0 E0 F2 H2 ko2 O0 st) hZ (hw _ (List.mem_of_getElem? (i := 54) rfl)) (hw _ (List.mem_of_getElem? (i := 7) rfl)) (by decide) (by decide)) qa29 qc29 (g := (mkF m 33 #[.val (.ref x0), .val (.ref x1), .val (.int (2 : Int32))] [(.int (2 : Int32)), (.ref x1)])) rfl (by rw [hml]; rfl) (Steps.refl _) (argsL := [(.int (2 : Int32))]) (rest := []) (lenOf pdrq4_2 rfl) rfl (by show 2 * 0 + _ ≤ _; exact Nat.le_of_eq rfl) (hb hby drq4_33) (fun _ _ => ⟨rfl, e26, (by decide : 0 + 0 ≤ _), (by decide : 0 + 0 ≤ _)⟩)
  dsimp only [Pt.U, Pt.locs, Pt.cells, Pt.slots] at X29 l29 y29 z29 st29 hQ29
  subst l29 y29 z29
  obtain ⟨rfl, Nq29, e29⟩ := hQ29
  have N29 := Fr.app N26 Nq29
  have p30 : ∀ t, own_W p e below m T29 36 #[.val (.ref x0), .val (.ref x1), .val (.int (2 : Int32))] [(.int c2)] t → Steps p.tables e below S0 t := fun t k => p28 t (st29.trans k)
  obtain ⟨_, _, ⟨T31, L31, k31, n31⟩, -, X31, ⟨Lc31, hQ31, l31, y31, z31⟩, st31⟩ := Jvm.LawKit.callS X29 hx (y := (⟨"java/lang/Character", "isISOControl", "(C)Z"⟩ : MethodName)) hown (mvT hZ (hw _ (List.mem_of_getElem? (i := 71) rfl))) (mvT hZ (hw _ (List.mem_of_getElem? (i := 72) rfl))) (mvT hZ (hw _ (List.mem_of_getElem? (i := 73) rfl))) (mvT hZ (hw _ (List.mem_of_getElem? (i := 74) rfl))) (by decide) (backOf (W := 0) (rmic l Z a0 hw [] c2  h0 n0 Z0 ko2) hZ (hw _ (List.mem_of_getElem? (i := 74) rfl)) (hw _ (List.mem_of_getElem? (i := 73) rfl)) (by decide) (by decide)) (g := (mkF m 36 #[.val (.ref x0), .val (.ref x1), .val (.int (2 : Int32))] [(.int c2)])) rfl (by rw [hml]; rfl) (argsL := [(.int c2)]) (rest := []) (lenOf pdrq4_3 rfl) rfl (by show 2 * 0 + _ ≤ _; exact Nat.le_of_eq rfl) (hb hby drq4_36) (fun _ _ => ⟨rfl, e29, (by decide : 0 + 0 ≤ _), (by decide : 0 + 0 ≤ _)⟩)
  dsimp only [Pt.U, Pt.locs, Pt.cells, Pt.slots] at X31 l31 y31 z31 st31 hQ31
  subst l31 y31 z31
  obtain ⟨rfl, Nq31, e31⟩ := hQ31
  have N31 := Fr.app N29 Nq31
  have p32 : ∀ t, own_W p e below m T31 39 #[.val (.ref x0), .val (.ref x1), .val (.int (2 : Int32))] [(.int (0 : Int32))] t → Steps p.tables e below S0 t := fun t k => p30 t (st31 _ k)
  have p33 : ∀ t, own_W p e below m T31 23 #[.val (.ref x0), .val (.ref x1), .val (.int ((2 : Int32) + (1 : Int32)))] [] t → Steps p.tables e below S0 t := fun t k => p32 t (by
    show own_W p e below m T31 39 #[.val (.ref x0), .val (.ref x1), .val (.int (2 : Int32))] [(.int (0 : Int32))] _
    refine XS.ifYes X31.here hx rfl (pc0 := 39) (pc' := 57) rfl (hb hby drq4_39) rfl ((if0 _ _).trans (teq (rfl)).1) (by decide) (by decide) ?_
    show own_W p e below m T31 57 #[.val (.ref x0), .val (.ref x1), .val (.int (2 : Int32))] [] _
    refine XS.iinc X31.here hx rfl (hb hby drq4_57) rfl (l' := #[.val (.ref x0), .val (.ref x1), .val (.int ((2 : Int32) + (1 : Int32)))]) rfl ?_
    show own_W p e below m T31 60 #[.val (.ref x0), .val (.ref x1), .val (.int ((2 : Int32) + (1 : Int32)))] [] _
    refine XS.goto X31.here hx rfl (pc0 := 60) (pc' := 23) rfl (hb hby drq4_60) (by decide) (by decide) ?_
    exact k)
  have p34 : ∀ t, own_W p e below m T31 23 #[.val (.ref x0), .val (.ref x1), .val (.int (3 : Int32))] [] t → Steps p.tables e below S0 t := by
    have k := p33
    rw [show ((2 : Int32) + (1 : Int32)) = (3 : Int32) from by decide] at k
    exact k
  have p35 : ∀ t, own_W p e below m T31 25 #[.val (.ref x0), .val (.ref x1), .val (.int (3 : Int32))] [(.ref x1), (.int (3 : Int32))] t → Steps p.tables e below S0 t := fun t k => p34 t (by
    show own_W p e below m T31 23 #[.val (.ref x0), .val (.ref x1), .val (.int (3 : Int32))] [] _
    refine XS.iloadN X31.here hx rfl (hb hby drq4_23) rfl ?_
    show own_W p e below m T31 24 #[.val (.ref x0), .val (.ref x1), .val (.int (3 : Int32))] [(.int (3 : Int32))] _
    refine XS.aloadN X31.here hx rfl (hb hby drq4_24) rfl rfl ?_
    exact k)
  obtain ⟨cq36, kq36, qa36, qb36, qc36⟩ := isOf hZ e31 E0
  obtain ⟨_, _, ⟨T36, L36, k36, n36⟩, -, X36, ⟨Lc36, hQ36, l36, y36, z36⟩, st36⟩ := X31.virtualBack hx (y := (⟨"java/lang/String", "length", "()I"⟩ : MethodName)) (z := (⟨"java/lang/String", "length", "()I"⟩ : MethodName)) hown (mvT hZ (hw _ (List.mem_of_getElem? (i := 40) rfl))) (mvT hZ (hw _ (List.mem_of_getElem? (i := 41) rfl))) (notFace_of_selects (args := #[]) (mvT hZ (hw _ (List.mem_of_getElem? (i := 43) rfl)))) (mvT hZ (hw _ (List.mem_of_getElem? (i := 43) rfl))) (mvT hZ (hw _ (List.mem_of_getElem? (i := 42) rfl))) (by decide) (backOf (W := 1) (rmle l Z a0 hw [] x1 tv kb (4 : Int32) cs G h0 n0 Z0 E0 F2 HL O0 st) hZ (hw _ (List.mem_of_getElem? (i := 44) rfl)) (hw _ (List.mem_of_getElem? (i := 7) rfl)) (by decide) (by decide)) qa36 qc36 (g := (mkF m 25 #[.val (.ref x0), .val (.ref x1), .val (.int (3 : Int32))] [(.ref x1), (.int (3 : Int32))])) rfl (by rw [hml]; rfl) (Steps.refl _) (argsL := []) (rest := [(.int (3 : Int32))]) (lenOf pdrq4_1 rfl) rfl (by show 2 * 0 + _ ≤ _; exact Nat.le_of_eq rfl) (hb hby drq4_25) (fun _ _ => ⟨rfl, e31, (by decide : 0 + 0 ≤ _), (by decide : 0 + 0 ≤ _)⟩)
  dsimp only [Pt.U, Pt.locs, Pt.cells, Pt.slots] at X36 l36 y36 z36 st36 hQ36
  subst l36 y36 z36
  obtain ⟨rfl, Nq36, e36⟩ := hQ36
  have N36 := Fr.app N31 Nq36
  have p37 : ∀ t, own_W p e below m T36 28 #[.val (.ref x0), .val (.ref x1), .val (.int (3 : Int32))] [(.int (4 : Int32)), (.int (3 : Int32))] t → Steps p.tables e below S0 t := fun t k => p35 t (st36.trans k)
  have p38 : ∀ t, own_W p e below m T36 33 #[.val (.ref x0), .val (.ref x1), .val (.int (3 : Int32))] [(.int (3 : Int32)), (.ref x1)] t → Steps p.tables e below S0 t := fun t k => p37 t (by
    show own_W p e below m T36 28 #[.val (.ref x0), .val (.ref x1), .val (.int (3 : Int32))] [(.int (4 : Int32)), (.int (3 : Int32))] _
    refine XS.icmpNo X36.here hx rfl (hb hby drq4_28) rfl ((tlt (by decide)).2.1) ?_
    show own_W p e below m T36 31 #[.val (.ref x0), .val (.ref x1), .val (.int (3 : Int32))] [] _
    refine XS.aloadN X36.here hx rfl (hb hby drq4_31) rfl rfl ?_
    show own_W p e below m T36 32 #[.val (.ref x0), .val (.ref x1), .val (.int (3 : Int32))] [(.ref x1)] _
    refine XS.iloadN X36.here hx rfl (hb hby drq4_32) rfl ?_
    exact k)
  obtain ⟨cq39, kq39, qa39, qb39, qc39⟩ := isOf hZ e36 E0
  obtain ⟨_, _, ⟨T39, L39, k39, n39⟩, -, X39, ⟨Lc39, hQ39, l39, y39, z39⟩, st39⟩ := X36.virtualBack hx (y := (⟨"java/lang/String", "charAt", "(I)C"⟩ : MethodName)) (z := (⟨"java/lang/String", "charAt", "(I)C"⟩ : MethodName)) hown (mvT hZ (hw _ (List.mem_of_getElem? (i := 50) rfl))) (mvT hZ (hw _ (List.mem_of_getElem? (i := 51) rfl))) (notFace_of_selects (args := #[]) (mvT hZ (hw _ (List.mem_of_getElem? (i := 53) rfl)))) (mvT hZ (hw _ (List.mem_of_getElem? (i := 53) rfl))) (mvT hZ (hw _ (List.mem_of_getElem? (i := 52) rfl))) (by decide) (backOf (W := 0) (rmca l Z a0 hw [] x1 (3 : Int32) tv kb c3 cs G h0 n0 Z0 E0 F2 H3 ko3 O0 st) hZ (hw _ (List.mem_of_getElem? (i := 54) rfl)) (hw _ (List.mem_of_getElem? (i := 7) rfl)) (by decide) (by decide)) qa39 qc39 (g := (mkF m 33 #[.val (.ref x0), .val (.ref x1), .val (.int (3 : Int32))] [(.int (3 : Int32)), (.ref x1)])) rfl (by rw [hml]; rfl) (Steps.refl _) (argsL := [(.int (3 : Int32))]) (rest := []) (lenOf pdrq4_2 rfl) rfl (by show 2 * 0 + _ ≤ _; exact Nat.le_of_eq rfl) (hb hby drq4_33) (fun _ _ => ⟨rfl, e36, (by decide : 0 + 0 ≤ _), (by decide : 0 + 0 ≤ _)⟩)
  dsimp only [Pt.U, Pt.locs, Pt.cells, Pt.slots] at X39 l39 y39 z39 st39 hQ39
  subst l39 y39 z39
  obtain ⟨rfl, Nq39, e39⟩ := hQ39
  have N39 := Fr.app N36 Nq39
  have p40 : ∀ t, own_W p e below m T39 36 #[.val (.ref x0), .val (.ref x1), .val (.int (3 : Int32))] [(.int c3)] t → Steps p.tables e below S0 t := fun t k => p38 t (st39.trans k)
  obtain ⟨_, _, ⟨T41, L41, k41, n41⟩, -, X41, ⟨Lc41, hQ41, l41, y41, z41⟩, st41⟩ := Jvm.LawKit.callS X39 hx (y := (⟨"java/lang/Character", "isISOControl", "(C)Z"⟩ : MethodName)) hown (mvT hZ (hw _ (List.mem_of_getElem? (i := 71) rfl))) (mvT hZ (hw _ (List.mem_of_getElem? (i := 72) rfl))) (mvT hZ (hw _ (List.mem_of_getElem? (i := 73) rfl))) (mvT hZ (hw _ (List.mem_of_getElem? (i := 74) rfl))) (by decide) (backOf (W := 0) (rmic l Z a0 hw [] c3  h0 n0 Z0 ko3) hZ (hw _ (List.mem_of_getElem? (i := 74) rfl)) (hw _ (List.mem_of_getElem? (i := 73) rfl)) (by decide) (by decide)) (g := (mkF m 36 #[.val (.ref x0), .val (.ref x1), .val (.int (3 : Int32))] [(.int c3)])) rfl (by rw [hml]; rfl) (argsL := [(.int c3)]) (rest := []) (lenOf pdrq4_3 rfl) rfl (by show 2 * 0 + _ ≤ _; exact Nat.le_of_eq rfl) (hb hby drq4_36) (fun _ _ => ⟨rfl, e39, (by decide : 0 + 0 ≤ _), (by decide : 0 + 0 ≤ _)⟩)
  dsimp only [Pt.U, Pt.locs, Pt.cells, Pt.slots] at X41 l41 y41 z41 st41 hQ41
  subst l41 y41 z41
  obtain ⟨rfl, Nq41, e41⟩ := hQ41
  have N41 := Fr.app N39 Nq41
  have p42 : ∀ t, own_W p e below m T41 39 #[.val (.ref x0), .val (.ref x1), .val (.int (3 : Int32))] [(.int (0 : Int32))] t → Steps p.tables e below S0 t := fun t k => p40 t (st41 _ k)
  have p43 : ∀ t, own_W p e below m T41 23 #[.val (.ref x0), .val (.ref x1), .val (.int ((3 : Int32) + (1 : Int32)))] [] t → Steps p.tables e below S0 t := fun t k => p42 t (by
    show own_W p e below m T41 39 #[.val (.ref x0), .val (.ref x1), .val (.int (3 : Int32))] [(.int (0 : Int32))] _
    refine XS.ifYes X41.here hx rfl (pc0 := 39) (pc' := 57) rfl (hb hby drq4_39) rfl ((if0 _ _).trans (teq (rfl)).1) (by decide) (by decide) ?_
    show own_W p e below m T41 57 #[.val (.ref x0), .val (.ref x1), .val (.int (3 : Int32))] [] _
    refine XS.iinc X41.here hx rfl (hb hby drq4_57) rfl (l' := #[.val (.ref x0), .val (.ref x1), .val (.int ((3 : Int32) + (1 : Int32)))]) rfl ?_
    show own_W p e below m T41 60 #[.val (.ref x0), .val (.ref x1), .val (.int ((3 : Int32) + (1 : Int32)))] [] _
    refine XS.goto X41.here hx rfl (pc0 := 60) (pc' := 23) rfl (hb hby drq4_60) (by decide) (by decide) ?_
    exact k)
  have p44 : ∀ t, own_W p e below m T41 23 #[.val (.ref x0), .val (.ref x1), .val (.int (4 : Int32))] [] t → Steps p.tables e below S0 t := by
    have k := p43
    rw [show ((3 : Int32) + (1 : Int32)) = (4 : Int32) from by decide] at k
    exact k
  have p45 : ∀ t, own_W p e below m T41 25 #[.val (.ref x0), .val (.ref x1), .val (.int (4 : Int32))] [(.ref x1), (.int (4 : Int32))] t → Steps p.tables e below S0 t := fun t k => p44 t (by
    show own_W p e below m T41 23 #[.val (.ref x0), .val (.ref x1), .val (.int (4 : Int32))] [] _
    refine XS.iloadN X41.here hx rfl (hb hby drq4_23) rfl ?_
    show own_W p e below m T41 24 #[.val (.ref x0), .val (.ref x1), .val (.int (4 : Int32))] [(.int (4 : Int32))] _
    refine XS.aloadN X41.here hx rfl (hb hby drq4_24) rfl rfl ?_
    exact k)
  obtain ⟨cq46, kq46, qa46, qb46, qc46⟩ := isOf hZ e41 E0
  obtain ⟨_, _, ⟨T46, L46, k46, n46⟩, -, X46, ⟨Lc46, hQ46, l46, y46, z46⟩, st46⟩ := X41.virtualBack hx (y := (⟨"java/lang/String", "length", "()I"⟩ : MethodName)) (z := (⟨"java/lang/String", "length", "()I"⟩ : MethodName)) hown (mvT hZ (hw _ (List.mem_of_getElem? (i := 40) rfl))) (mvT hZ (hw _ (List.mem_of_getElem? (i := 41) rfl))) (notFace_of_selects (args := #[]) (mvT hZ (hw _ (List.mem_of_getElem? (i := 43) rfl)))) (mvT hZ (hw _ (List.mem_of_getElem? (i := 43) rfl))) (mvT hZ (hw _ (List.mem_of_getElem? (i := 42) rfl))) (by decide) (backOf (W := 1) (rmle l Z a0 hw [] x1 tv kb (4 : Int32) cs G h0 n0 Z0 E0 F2 HL O0 st) hZ (hw _ (List.mem_of_getElem? (i := 44) rfl)) (hw _ (List.mem_of_getElem? (i := 7) rfl)) (by decide) (by decide)) qa46 qc46 (g := (mkF m 25 #[.val (.ref x0), .val (.ref x1), .val (.int (4 : Int32))] [(.ref x1), (.int (4 : Int32))])) rfl (by rw [hml]; rfl) (Steps.refl _) (argsL := []) (rest := [(.int (4 : Int32))]) (lenOf pdrq4_1 rfl) rfl (by show 2 * 0 + _ ≤ _; exact Nat.le_of_eq rfl) (hb hby drq4_25) (fun _ _ => ⟨rfl, e41, (by decide : 0 + 0 ≤ _), (by decide : 0 + 0 ≤ _)⟩)
  dsimp only [Pt.U, Pt.locs, Pt.cells, Pt.slots] at X46 l46 y46 z46 st46 hQ46
  subst l46 y46 z46
  obtain ⟨rfl, Nq46, e46⟩ := hQ46
  have N46 := Fr.app N41 Nq46
  have p47 : ∀ t, own_W p e below m T46 28 #[.val (.ref x0), .val (.ref x1), .val (.int (4 : Int32))] [(.int (4 : Int32)), (.int (4 : Int32))] t → Steps p.tables e below S0 t := fun t k => p45 t (st46.trans k)
  have p48 : ∀ t, own_W p e below m T46 64 #[.val (.ref x0), .val (.ref x1), .val (.int (4 : Int32))] [(.ref x1)] t → Steps p.tables e below S0 t := fun t k => p47 t (by
    show own_W p e below m T46 28 #[.val (.ref x0), .val (.ref x1), .val (.int (4 : Int32))] [(.int (4 : Int32)), (.int (4 : Int32))] _
    refine XS.icmpYes X46.here hx rfl (pc0 := 28) (pc' := 63) rfl (hb hby drq4_28) rfl ((flt (by decide)).2.1) (by decide) (by decide) ?_
    show own_W p e below m T46 63 #[.val (.ref x0), .val (.ref x1), .val (.int (4 : Int32))] [] _
    refine XS.aloadN X46.here hx rfl (hb hby drq4_63) rfl rfl ?_
    exact k)
  subst hS0
  obtain ⟨fs, hr, hrun, hended, hW, hsame⟩ := X46.leave (v := some (.ref x1)) (fun h => by rw [Bd.returns] at h; cases h)
  refine ⟨_, _, p48 _ ?_, hrun, hended, _, _, rfl, ?_, ⟨_, rfl⟩, hW, hsame.mono (by decide) (by decide)⟩
  · show own_W p e below m T46 64 #[.val (.ref x0), .val (.ref x1), .val (.int (4 : Int32))] [(.ref x1)] _
    exact retOut X46 hx Bd.returns rfl (Or.inr (Or.inr (Or.inr (Or.inr ⟨rfl, rfl, rfl⟩)))) (hb hby drq4_64) hr
  · show Qrq4 Z x0 x1 tv kb c0 c1 c2 c3 cs G h0 n0 _ T46.heap _
    rw [e46]
    exact ⟨rfl, N46, rfl⟩
theorem deq_0 : decode jdk_42_method_66_code 0 = .ok (.aload_n 0, 1) := by decide +kernel
theorem deq_1 : decode jdk_42_method_66_code 1 = .ok (.aload_n 1, 1) := by decide +kernel
theorem deq_2 : decode jdk_42_method_66_code 2 = .ok (.if_acmp .ne 5, 3) := by decide +kernel
theorem deq_5 : decode jdk_42_method_66_code 5 = .ok (.iconst 1, 1) := by decide +kernel
theorem deq_6 : decode jdk_42_method_66_code 6 = .ok (.ireturn, 1) := by decide +kernel
theorem pneq : plainName "java/lang/String" = true := by first | (simp [plainName, overriddenIn]; done) | decide +kernel
theorem efeq (m : MethodId) (x0 : Addr) : entryFrame m #[(.ref x0), (.ref x0)] 3 = mkF m 0 #[.val (.ref x0), .val (.ref x0), .unset] [] := by first | (simp [entryFrame, mkF, argsToLocals, Value.category]; done) | rfl
def Qeq (Z : State) (x0 : Addr) (h0 : Heap) (n0 : Nat) (v : Option Value) (h : Heap) (L : List Loc) : Prop := v = some (.int (1 : Int32)) ∧ Fr n0 L ∧ h = h0
set_option maxRecDepth 65536 in
set_option maxHeartbeats 40000000 in
theorem rmeq (l : Launch) (Z : State) (a0 : Array Value) (hw : ∀ d ∈ tables_1, d.before a0 Z = true) (ws : List Jvm.Cond) (x0 : Addr) (h0 : Heap) (n0 : Nat) (Z0 : n0 ≤ h0.size) :
    MetFree l (⟨"java/lang/String", "equals", "(Ljava/lang/Object;)Z"⟩ : MethodName) (head1 (Jvm.Cond.code (⟨"java/lang/String", "equals", "(Ljava/lang/Object;)Z"⟩ : MethodName) jdk_42_method_66_code 3 (some .boolean) :: ws) ({ frames := 0, cells := 0, slots := 0, locals := 0 } : Room)) (fun a U => a = #[(.ref x0), (.ref x0)] ∧ Z.Warmed39 U.vm ∧ U.heap = h0) (fun _ _ _ _ _ => True) (fun _ U o U' => ∃ v L, o = .returned v ∧ Qeq Z x0 h0 n0 v U'.heap L ∧ FrameEnd U o U' L ({ frames := 0, cells := 0, slots := 0, locals := 0 } : Room).cells ({ frames := 0, cells := 0, slots := 0, locals := 0 } : Room).slots) := by
  refine MetFree.of_bodySF (plainFor_of_name pneq) hisR ?_
  intro p e s m args below meth c s₁ Bd hml0 hP hK
  obtain ⟨rfl, hZ, hh⟩ := hP
  have hx := Bd.exec
  have hby := Bd.bytes
  have hml : c.maxLocals = 3 := hml0
  have hown : s.vm.findClass "java/lang/String" = some m.cls := findClass_of_methodNamed Bd.named
  have hnm := (name_of_methodNamed Bd.named Bd.method).1
  have X0 : Stand p l e ({ frames := 0, cells := 0, slots := 0, locals := 0 } : Room) s m #[(.ref x0), (.ref x0)] below meth c s₁ [] 0 0 := Stand.of_body Bd
  have e0 : s₁.heap = h0 := by rw [← hh, Bd.state]; rfl
  have N0 := Fr.nil n0
  have pre0 : ∀ t, Steps p.tables e below (s₁.setTop (mkF m 0 #[.val (.ref x0), .val (.ref x0), .unset] [])) t → Steps p.tables e below (s₁.setTop (entryFrame m #[(.ref x0), (.ref x0)] 3)) t := fun t k => castTop (efeq m x0) k
  obtain ⟨S0, hS0⟩ : ∃ z, z = (s₁.setTop (entryFrame m #[(.ref x0), (.ref x0)] 3)) := ⟨_, rfl⟩
  rw [← hS0] at pre0
  have p1 : ∀ t, own_W p e below m s₁ 6 #[.val (.ref x0), .val (.ref x0), .unset] [(.int (1 : Int32))] t → Steps p.tables e below S0 t := fun t k => pre0 t (by
    show own_W p e below m s₁ 0 #[.val (.ref x0), .val (.ref x0), .unset] [] _
    refine XS.aloadN X0.here hx rfl (hb hby deq_0) rfl rfl ?_
    show own_W p e below m s₁ 1 #[.val (.ref x0), .val (.ref x0), .unset] [(.ref x0)] _
    refine XS.aloadN X0.here hx rfl (hb hby deq_1) rfl rfl ?_
    show own_W p e below m s₁ 2 #[.val (.ref x0), .val (.ref x0), .unset] [(.ref x0), (.ref x0)] _
    refine Jvm.RoadKit.acmp (g := (mkF m 2 #[.val (.ref x0), .val (.ref x0), .unset] [(.ref x0), (.ref x0)])) X0 hx rfl rfl rfl (pc0 := 2) (pc' := 5) (same := true) rfl (hb hby deq_2) rfl (decide_eq_true rfl) (by decide) (by decide) ?_
    show own_W p e below m s₁ 5 #[.val (.ref x0), .val (.ref x0), .unset] [] _
    refine XS.iconst X0.here hx rfl (hb hby deq_5) ?_
    exact k)
  subst hS0
  obtain ⟨fs, hr, hrun, hended, hW, hsame⟩ := X0.leave (v := some (.int (1 : Int32))) (fun h => by rw [Bd.returns] at h; cases h)
  refine ⟨_, _, p1 _ ?_, hrun, hended, _, _, rfl, ?_, ⟨_, rfl⟩, hW, hsame.mono (by decide) (by decide)⟩
  · show own_W p e below m s₁ 6 #[.val (.ref x0), .val (.ref x0), .unset] [(.int (1 : Int32))] _
    exact retN X0 hx (t := .boolean) Bd.returns (by simp) (hb hby deq_6) hr
  · show Qeq Z x0 h0 n0 _ s₁.heap _
    rw [e0]
    exact ⟨rfl, N0, rfl⟩
theorem pn0 : plainName "com/example/disposition/disposition/NamesRequirePinLaw" = true := by first | (simp [plainName, overriddenIn]; done) | decide +kernel
theorem pd0_0 : parseMethodDescriptor "(I)C" = some ⟨[.int], some .char⟩ := by decide +kernel
theorem pd0_1 : parseMethodDescriptor "(C)Ljava/lang/String;" = some ⟨[.char], some (.object "java/lang/String")⟩ := by decide +kernel
theorem pd0_2 : parseMethodDescriptor "(Ljava/lang/String;Ljava/lang/String;)Ljava/lang/String;" = some ⟨[(.object "java/lang/String"), (.object "java/lang/String")], some (.object "java/lang/String")⟩ := by decide +kernel
theorem pd0_3 : parseMethodDescriptor "(Ljava/lang/Object;)Z" = some ⟨[(.object "java/lang/Object")], some .boolean⟩ := by decide +kernel
theorem pd0_4 : parseMethodDescriptor "([C)V" = some ⟨[(.array .char)], none⟩ := by decide +kernel
theorem ef0 (m : MethodId) (x0 : Int32) (x1 : Int32) (x2 : Int32) (x3 : Int32) (x4 : Int32) (x5 : Int32) : entryFrame m #[(.int x0), (.int x1), (.int x2), (.int x3), (.int x4), (.int x5)] maxLocals = mkF m 0 #[.val (.int x0), .val (.int x1), .val (.int x2), .val (.int x3), .val (.int x4), .val (.int x5), .unset, .unset, .unset, .unset, .unset, .unset, .unset, .unset] [] := by first | (simp [entryFrame, mkF, argsToLocals, Value.category, maxLocals]; done) | rfl
def Q0 (Z : State) (x0 : Int32) (x1 : Int32) (x2 : Int32) (x3 : Int32) (x4 : Int32) (x5 : Int32) (cs : Int32) (G : Value) (h0 : Heap) (n0 : Nat) (v : Option Value) (h : Heap) (L : List Loc) : Prop := v = some (.int (1 : Int32)) ∧ Fr n0 L
set_option maxRecDepth 65536 in
set_option maxHeartbeats 40000000 in
theorem rm0 (l : Launch) (Z : State) (a0 : Array Value) (hw : ∀ d ∈ tables_1, d.before a0 Z = true) (ws : List Jvm.Cond) (x0 : Int32) (x1 : Int32) (x2 : Int32) (x3 : Int32) (x4 : Int32) (x5 : Int32) (cs : Int32) (G : Value) (h0 : Heap) (n0 : Nat) (Z0 : n0 ≤ h0.size) (O0 : Old Z n0 h0) (st : own_ST Z cs G) :
    MetFree l x (head1 (Jvm.Cond.code x code maxLocals ret :: ws) room_1) (fun a U => a = #[(.int x0), (.int x1), (.int x2), (.int x3), (.int x4), (.int x5)] ∧ Z.Warmed39 U.vm ∧ U.heap = h0) (fun _ _ _ _ _ => True) (fun _ U o U' => ∃ v L, o = .returned v ∧ Q0 Z x0 x1 x2 x3 x4 x5 cs G h0 n0 v U'.heap L ∧ FrameEnd U o U' L room_1.cells room_1.slots) := by
  refine MetFree.of_bodySF (plainFor_of_name pn0) hisR ?_
  intro p e s m args below meth c s₁ Bd hml0 hP hK
  obtain ⟨rfl, hZ, hh⟩ := hP
  have hx := Bd.exec
  have hby := Bd.bytes
  have hml : c.maxLocals = 14 := hml0
  have hown : s.vm.findClass "com/example/disposition/disposition/NamesRequirePinLaw" = some m.cls := findClass_of_methodNamed Bd.named
  have hnm := (name_of_methodNamed Bd.named Bd.method).1
  have X0 : Stand p l e room_1 s m #[(.int x0), (.int x1), (.int x2), (.int x3), (.int x4), (.int x5)] below meth c s₁ [] 0 0 := Stand.of_body Bd
  have e0 : s₁.heap = h0 := by rw [← hh, Bd.state]; rfl
  have N0 := Fr.nil n0
  have pre0 : ∀ t, Steps p.tables e below (s₁.setTop (mkF m 0 #[.val (.int x0), .val (.int x1), .val (.int x2), .val (.int x3), .val (.int x4), .val (.int x5), .unset, .unset, .unset, .unset, .unset, .unset, .unset, .unset] [])) t → Steps p.tables e below (s₁.setTop (entryFrame m #[(.int x0), (.int x1), (.int x2), (.int x3), (.int x4), (.int x5)] maxLocals)) t := fun t k => castTop (ef0 m x0 x1 x2 x3 x4 x5) k
  obtain ⟨S0, hS0⟩ : ∃ z, z = (s₁.setTop (entryFrame m #[(.int x0), (.int x1), (.int x2), (.int x3), (.int x4), (.int x5)] maxLocals)) := ⟨_, rfl⟩
  rw [← hS0] at pre0
  obtain ⟨sc, hcs, sa, sh, sl, sg, hG⟩ := id st
  have p1 : ∀ t, own_W p e below m s₁ 1 #[.val (.int x0), .val (.int x1), .val (.int x2), .val (.int x3), .val (.int x4), .val (.int x5), .unset, .unset, .unset, .unset, .unset, .unset, .unset, .unset] [(.int x0)] t → Steps p.tables e below S0 t := fun t k => pre0 t (by
    show own_W p e below m s₁ 0 #[.val (.int x0), .val (.int x1), .val (.int x2), .val (.int x3), .val (.int x4), .val (.int x5), .unset, .unset, .unset, .unset, .unset, .unset, .unset, .unset] [] _
    refine XS.iloadN X0.here hx rfl (hb hby at_0) rfl ?_
    exact k)
  obtain ⟨_, _, ⟨T2, L2, k2, n2⟩, -, X2, ⟨Lc2, hQ2, l2, y2, z2⟩, st2⟩ := Jvm.LawKit.callS X0 hx (y := (⟨"com/example/disposition/disposition/NamesRequirePinLaw", "ok", "(I)C"⟩ : MethodName)) hown (mvT hZ (hw _ (List.mem_of_getElem? (i := 0) rfl))) (mvT hZ (hw _ (List.mem_of_getElem? (i := 1) rfl))) (mvT hZ (hw _ (List.mem_of_getElem? (i := 2) rfl))) (mvT hZ (hw _ (List.mem_of_getElem? (i := 3) rfl))) (by decide) (backOf (W := 0) (rmok l Z a0 hw [] x0  h0 n0 Z0 ) hZ (hw _ (List.mem_of_getElem? (i := 3) rfl)) (hw _ (List.mem_of_getElem? (i := 2) rfl)) (by decide) (by decide)) (g := (mkF m 1 #[.val (.int x0), .val (.int x1), .val (.int x2), .val (.int x3), .val (.int x4), .val (.int x5), .unset, .unset, .unset, .unset, .unset, .unset, .unset, .unset] [(.int x0)])) rfl (by rw [hml]; rfl) (argsL := [(.int x0)]) (rest := []) (lenOf pd0_0 rfl) rfl (by show 2 * 0 + _ ≤ _; exact Nat.le_of_eq rfl) (hb hby at_1) (fun _ _ => ⟨rfl, e0, (by decide : 0 + 0 ≤ _), (by decide : 0 + 0 ≤ _)⟩)
  dsimp only [Pt.U, Pt.locs, Pt.cells, Pt.slots] at X2 l2 y2 z2 st2 hQ2
  subst l2 y2 z2
  obtain ⟨c0, rfl, Nq2, e2, ko0⟩ := hQ2
  have N2 := Fr.app N0 Nq2
  have p3 : ∀ t, own_W p e below m T2 4 #[.val (.int x0), .val (.int x1), .val (.int x2), .val (.int x3), .val (.int x4), .val (.int x5), .unset, .unset, .unset, .unset, .unset, .unset, .unset, .unset] [(.int c0)] t → Steps p.tables e below S0 t := fun t k => p1 t (st2 _ k)
  have p4 : ∀ t, own_W p e below m T2 7 #[.val (.int x0), .val (.int x1), .val (.int x2), .val (.int x3), .val (.int x4), .val (.int x5), .val (.int c0), .unset, .unset, .unset, .unset, .unset, .unset, .unset] [(.int x1)] t → Steps p.tables e below S0 t := fun t k => p3 t (by
    show own_W p e below m T2 4 #[.val (.int x0), .val (.int x1), .val (.int x2), .val (.int x3), .val (.int x4), .val (.int x5), .unset, .unset, .unset, .unset, .unset, .unset, .unset, .unset] [(.int c0)] _
    refine XS.istore X2.here hx rfl (hb hby at_4) rfl (l' := #[.val (.int x0), .val (.int x1), .val (.int x2), .val (.int x3), .val (.int x4), .val (.int x5), .val (.int c0), .unset, .unset, .unset, .unset, .unset, .unset, .unset]) rfl ?_
    show own_W p e below m T2 6 #[.val (.int x0), .val (.int x1), .val (.int x2), .val (.int x3), .val (.int x4), .val (.int x5), .val (.int c0), .unset, .unset, .unset, .unset, .unset, .unset, .unset] [] _
    refine XS.iloadN X2.here hx rfl (hb hby at_6) rfl ?_
    exact k)
  obtain ⟨_, _, ⟨T5, L5, k5, n5⟩, -, X5, ⟨Lc5, hQ5, l5, y5, z5⟩, st5⟩ := Jvm.LawKit.callS X2 hx (y := (⟨"com/example/disposition/disposition/NamesRequirePinLaw", "ok", "(I)C"⟩ : MethodName)) hown (mvT hZ (hw _ (List.mem_of_getElem? (i := 0) rfl))) (mvT hZ (hw _ (List.mem_of_getElem? (i := 1) rfl))) (mvT hZ (hw _ (List.mem_of_getElem? (i := 2) rfl))) (mvT hZ (hw _ (List.mem_of_getElem? (i := 3) rfl))) (by decide) (backOf (W := 0) (rmok l Z a0 hw [] x1  h0 n0 Z0 ) hZ (hw _ (List.mem_of_getElem? (i := 3) rfl)) (hw _ (List.mem_of_getElem? (i := 2) rfl)) (by decide) (by decide)) (g := (mkF m 7 #[.val (.int x0), .val (.int x1), .val (.int x2), .val (.int x3), .val (.int x4), .val (.int x5), .val (.int c0), .unset, .unset, .unset, .unset, .unset, .unset, .unset] [(.int x1)])) rfl (by rw [hml]; rfl) (argsL := [(.int x1)]) (rest := []) (lenOf pd0_0 rfl) rfl (by show 2 * 0 + _ ≤ _; exact Nat.le_of_eq rfl) (hb hby at_7) (fun _ _ => ⟨rfl, e2, (by decide : 0 + 0 ≤ _), (by decide : 0 + 0 ≤ _)⟩)
  dsimp only [Pt.U, Pt.locs, Pt.cells, Pt.slots] at X5 l5 y5 z5 st5 hQ5
  subst l5 y5 z5
  obtain ⟨c1, rfl, Nq5, e5, ko1⟩ := hQ5
  have N5 := Fr.app N2 Nq5
  have p6 : ∀ t, own_W p e below m T5 10 #[.val (.int x0), .val (.int x1), .val (.int x2), .val (.int x3), .val (.int x4), .val (.int x5), .val (.int c0), .unset, .unset, .unset, .unset, .unset, .unset, .unset] [(.int c1)] t → Steps p.tables e below S0 t := fun t k => p4 t (st5 _ k)
  have p7 : ∀ t, own_W p e below m T5 13 #[.val (.int x0), .val (.int x1), .val (.int x2), .val (.int x3), .val (.int x4), .val (.int x5), .val (.int c0), .val (.int c1), .unset, .unset, .unset, .unset, .unset, .unset] [(.int x2)] t → Steps p.tables e below S0 t := fun t k => p6 t (by
    show own_W p e below m T5 10 #[.val (.int x0), .val (.int x1), .val (.int x2), .val (.int x3), .val (.int x4), .val (.int x5), .val (.int c0), .unset, .unset, .unset, .unset, .unset, .unset, .unset] [(.int c1)] _
    refine XS.istore X5.here hx rfl (hb hby at_10) rfl (l' := #[.val (.int x0), .val (.int x1), .val (.int x2), .val (.int x3), .val (.int x4), .val (.int x5), .val (.int c0), .val (.int c1), .unset, .unset, .unset, .unset, .unset, .unset]) rfl ?_
    show own_W p e below m T5 12 #[.val (.int x0), .val (.int x1), .val (.int x2), .val (.int x3), .val (.int x4), .val (.int x5), .val (.int c0), .val (.int c1), .unset, .unset, .unset, .unset, .unset, .unset] [] _
    refine XS.iloadN X5.here hx rfl (hb hby at_12) rfl ?_
    exact k)
  obtain ⟨_, _, ⟨T8, L8, k8, n8⟩, -, X8, ⟨Lc8, hQ8, l8, y8, z8⟩, st8⟩ := Jvm.LawKit.callS X5 hx (y := (⟨"com/example/disposition/disposition/NamesRequirePinLaw", "ok", "(I)C"⟩ : MethodName)) hown (mvT hZ (hw _ (List.mem_of_getElem? (i := 0) rfl))) (mvT hZ (hw _ (List.mem_of_getElem? (i := 1) rfl))) (mvT hZ (hw _ (List.mem_of_getElem? (i := 2) rfl))) (mvT hZ (hw _ (List.mem_of_getElem? (i := 3) rfl))) (by decide) (backOf (W := 0) (rmok l Z a0 hw [] x2  h0 n0 Z0 ) hZ (hw _ (List.mem_of_getElem? (i := 3) rfl)) (hw _ (List.mem_of_getElem? (i := 2) rfl)) (by decide) (by decide)) (g := (mkF m 13 #[.val (.int x0), .val (.int x1), .val (.int x2), .val (.int x3), .val (.int x4), .val (.int x5), .val (.int c0), .val (.int c1), .unset, .unset, .unset, .unset, .unset, .unset] [(.int x2)])) rfl (by rw [hml]; rfl) (argsL := [(.int x2)]) (rest := []) (lenOf pd0_0 rfl) rfl (by show 2 * 0 + _ ≤ _; exact Nat.le_of_eq rfl) (hb hby at_13) (fun _ _ => ⟨rfl, e5, (by decide : 0 + 0 ≤ _), (by decide : 0 + 0 ≤ _)⟩)
  dsimp only [Pt.U, Pt.locs, Pt.cells, Pt.slots] at X8 l8 y8 z8 st8 hQ8
  subst l8 y8 z8
  obtain ⟨c2, rfl, Nq8, e8, ko2⟩ := hQ8
  have N8 := Fr.app N5 Nq8
  have p9 : ∀ t, own_W p e below m T8 16 #[.val (.int x0), .val (.int x1), .val (.int x2), .val (.int x3), .val (.int x4), .val (.int x5), .val (.int c0), .val (.int c1), .unset, .unset, .unset, .unset, .unset, .unset] [(.int c2)] t → Steps p.tables e below S0 t := fun t k => p7 t (st8 _ k)
  have p10 : ∀ t, own_W p e below m T8 19 #[.val (.int x0), .val (.int x1), .val (.int x2), .val (.int x3), .val (.int x4), .val (.int x5), .val (.int c0), .val (.int c1), .val (.int c2), .unset, .unset, .unset, .unset, .unset] [(.int x3)] t → Steps p.tables e below S0 t := fun t k => p9 t (by
    show own_W p e below m T8 16 #[.val (.int x0), .val (.int x1), .val (.int x2), .val (.int x3), .val (.int x4), .val (.int x5), .val (.int c0), .val (.int c1), .unset, .unset, .unset, .unset, .unset, .unset] [(.int c2)] _
    refine XS.istore X8.here hx rfl (hb hby at_16) rfl (l' := #[.val (.int x0), .val (.int x1), .val (.int x2), .val (.int x3), .val (.int x4), .val (.int x5), .val (.int c0), .val (.int c1), .val (.int c2), .unset, .unset, .unset, .unset, .unset]) rfl ?_
    show own_W p e below m T8 18 #[.val (.int x0), .val (.int x1), .val (.int x2), .val (.int x3), .val (.int x4), .val (.int x5), .val (.int c0), .val (.int c1), .val (.int c2), .unset, .unset, .unset, .unset, .unset] [] _
    refine XS.iloadN X8.here hx rfl (hb hby at_18) rfl ?_
    exact k)
  obtain ⟨_, _, ⟨T11, L11, k11, n11⟩, -, X11, ⟨Lc11, hQ11, l11, y11, z11⟩, st11⟩ := Jvm.LawKit.callS X8 hx (y := (⟨"com/example/disposition/disposition/NamesRequirePinLaw", "ok", "(I)C"⟩ : MethodName)) hown (mvT hZ (hw _ (List.mem_of_getElem? (i := 0) rfl))) (mvT hZ (hw _ (List.mem_of_getElem? (i := 1) rfl))) (mvT hZ (hw _ (List.mem_of_getElem? (i := 2) rfl))) (mvT hZ (hw _ (List.mem_of_getElem? (i := 3) rfl))) (by decide) (backOf (W := 0) (rmok l Z a0 hw [] x3  h0 n0 Z0 ) hZ (hw _ (List.mem_of_getElem? (i := 3) rfl)) (hw _ (List.mem_of_getElem? (i := 2) rfl)) (by decide) (by decide)) (g := (mkF m 19 #[.val (.int x0), .val (.int x1), .val (.int x2), .val (.int x3), .val (.int x4), .val (.int x5), .val (.int c0), .val (.int c1), .val (.int c2), .unset, .unset, .unset, .unset, .unset] [(.int x3)])) rfl (by rw [hml]; rfl) (argsL := [(.int x3)]) (rest := []) (lenOf pd0_0 rfl) rfl (by show 2 * 0 + _ ≤ _; exact Nat.le_of_eq rfl) (hb hby at_19) (fun _ _ => ⟨rfl, e8, (by decide : 0 + 0 ≤ _), (by decide : 0 + 0 ≤ _)⟩)
  dsimp only [Pt.U, Pt.locs, Pt.cells, Pt.slots] at X11 l11 y11 z11 st11 hQ11
  subst l11 y11 z11
  obtain ⟨c3, rfl, Nq11, e11, ko3⟩ := hQ11
  have N11 := Fr.app N8 Nq11
  have p12 : ∀ t, own_W p e below m T11 22 #[.val (.int x0), .val (.int x1), .val (.int x2), .val (.int x3), .val (.int x4), .val (.int x5), .val (.int c0), .val (.int c1), .val (.int c2), .unset, .unset, .unset, .unset, .unset] [(.int c3)] t → Steps p.tables e below S0 t := fun t k => p10 t (st11 _ k)
  have p13 : ∀ t, own_W p e below m T11 32 #[.val (.int x0), .val (.int x1), .val (.int x2), .val (.int x3), .val (.int x4), .val (.int x5), .val (.int c0), .val (.int c1), .val (.int c2), .val (.int c3), .val (.int ((1 : Int32) + (x4 &&& (3 : Int32)))), .unset, .unset, .unset] [] t → Steps p.tables e below S0 t := fun t k => p12 t (by
    show own_W p e below m T11 22 #[.val (.int x0), .val (.int x1), .val (.int x2), .val (.int x3), .val (.int x4), .val (.int x5), .val (.int c0), .val (.int c1), .val (.int c2), .unset, .unset, .unset, .unset, .unset] [(.int c3)] _
    refine XS.istore X11.here hx rfl (hb hby at_22) rfl (l' := #[.val (.int x0), .val (.int x1), .val (.int x2), .val (.int x3), .val (.int x4), .val (.int x5), .val (.int c0), .val (.int c1), .val (.int c2), .val (.int c3), .unset, .unset, .unset, .unset]) rfl ?_
    show own_W p e below m T11 24 #[.val (.int x0), .val (.int x1), .val (.int x2), .val (.int x3), .val (.int x4), .val (.int x5), .val (.int c0), .val (.int c1), .val (.int c2), .val (.int c3), .unset, .unset, .unset, .unset] [] _
    refine XS.iconst X11.here hx rfl (hb hby at_24) ?_
    show own_W p e below m T11 25 #[.val (.int x0), .val (.int x1), .val (.int x2), .val (.int x3), .val (.int x4), .val (.int x5), .val (.int c0), .val (.int c1), .val (.int c2), .val (.int c3), .unset, .unset, .unset, .unset] [(.int (1 : Int32))] _
    refine XS.iload X11.here hx rfl (hb hby at_25) rfl ?_
    show own_W p e below m T11 27 #[.val (.int x0), .val (.int x1), .val (.int x2), .val (.int x3), .val (.int x4), .val (.int x5), .val (.int c0), .val (.int c1), .val (.int c2), .val (.int c3), .unset, .unset, .unset, .unset] [(.int x4), (.int (1 : Int32))] _
    refine XS.iconst X11.here hx rfl (hb hby at_27) ?_
    show own_W p e below m T11 28 #[.val (.int x0), .val (.int x1), .val (.int x2), .val (.int x3), .val (.int x4), .val (.int x5), .val (.int c0), .val (.int c1), .val (.int c2), .val (.int c3), .unset, .unset, .unset, .unset] [(.int (3 : Int32)), (.int x4), (.int (1 : Int32))] _
    refine XS.iand X11.here hx rfl (hb hby at_28) rfl ?_
    show own_W p e below m T11 29 #[.val (.int x0), .val (.int x1), .val (.int x2), .val (.int x3), .val (.int x4), .val (.int x5), .val (.int c0), .val (.int c1), .val (.int c2), .val (.int c3), .unset, .unset, .unset, .unset] [(.int (x4 &&& (3 : Int32))), (.int (1 : Int32))] _
    refine XS.iadd X11.here hx rfl (hb hby at_29) rfl ?_
    show own_W p e below m T11 30 #[.val (.int x0), .val (.int x1), .val (.int x2), .val (.int x3), .val (.int x4), .val (.int x5), .val (.int c0), .val (.int c1), .val (.int c2), .val (.int c3), .unset, .unset, .unset, .unset] [(.int ((1 : Int32) + (x4 &&& (3 : Int32))))] _
    refine XS.istore X11.here hx rfl (hb hby at_30) rfl (l' := #[.val (.int x0), .val (.int x1), .val (.int x2), .val (.int x3), .val (.int x4), .val (.int x5), .val (.int c0), .val (.int c1), .val (.int c2), .val (.int c3), .val (.int ((1 : Int32) + (x4 &&& (3 : Int32)))), .unset, .unset, .unset]) rfl ?_
    exact k)
  obtain ⟨vn, hvn⟩ : ∃ z : Int32, z = ((1 : Int32) + (x4 &&& (3 : Int32))) := ⟨_, rfl⟩
  have p14 : ∀ t, own_W p e below m T11 32 #[.val (.int x0), .val (.int x1), .val (.int x2), .val (.int x3), .val (.int x4), .val (.int x5), .val (.int c0), .val (.int c1), .val (.int c2), .val (.int c3), .val (.int vn), .unset, .unset, .unset] [] t → Steps p.tables e below S0 t := by
    intro t k; subst hvn; exact p13 t k
  rcases own_n3 hvn with rfl | rfl | rfl | rfl
  · have p15 : ∀ t, own_W p e below m T11 40 #[.val (.int x0), .val (.int x1), .val (.int x2), .val (.int x3), .val (.int x4), .val (.int x5), .val (.int c0), .val (.int c1), .val (.int c2), .val (.int c3), .val (.int (1 : Int32)), .unset, .unset, .unset] [(.int c0)] t → Steps p.tables e below S0 t := fun t k => p14 t (by
      show own_W p e below m T11 32 #[.val (.int x0), .val (.int x1), .val (.int x2), .val (.int x3), .val (.int x4), .val (.int x5), .val (.int c0), .val (.int c1), .val (.int c2), .val (.int c3), .val (.int (1 : Int32)), .unset, .unset, .unset] [] _
      refine XS.iload X11.here hx rfl (hb hby at_32) rfl ?_
      show own_W p e below m T11 34 #[.val (.int x0), .val (.int x1), .val (.int x2), .val (.int x3), .val (.int x4), .val (.int x5), .val (.int c0), .val (.int c1), .val (.int c2), .val (.int c3), .val (.int (1 : Int32)), .unset, .unset, .unset] [(.int (1 : Int32))] _
      refine XS.iconst X11.here hx rfl (hb hby at_34) ?_
      show own_W p e below m T11 35 #[.val (.int x0), .val (.int x1), .val (.int x2), .val (.int x3), .val (.int x4), .val (.int x5), .val (.int c0), .val (.int c1), .val (.int c2), .val (.int c3), .val (.int (1 : Int32)), .unset, .unset, .unset] [(.int (1 : Int32)), (.int (1 : Int32))] _
      refine XS.icmpNo X11.here hx rfl (hb hby at_35) rfl ((teq (rfl)).2) ?_
      show own_W p e below m T11 38 #[.val (.int x0), .val (.int x1), .val (.int x2), .val (.int x3), .val (.int x4), .val (.int x5), .val (.int c0), .val (.int c1), .val (.int c2), .val (.int c3), .val (.int (1 : Int32)), .unset, .unset, .unset] [] _
      refine XS.iload X11.here hx rfl (hb hby at_38) rfl ?_
      exact k)
    obtain ⟨_, _, ⟨T16, L16, k16, n16⟩, -, X16, ⟨Lc16, hQ16, l16, y16, z16⟩, st16⟩ := Jvm.LawKit.callS X11 hx (y := (⟨"java/lang/String", "valueOf", "(C)Ljava/lang/String;"⟩ : MethodName)) hown (mvT hZ (hw _ (List.mem_of_getElem? (i := 5) rfl))) (mvT hZ (hw _ (List.mem_of_getElem? (i := 6) rfl))) (mvT hZ (hw _ (List.mem_of_getElem? (i := 7) rfl))) (mvT hZ (hw _ (List.mem_of_getElem? (i := 8) rfl))) (by decide) (backOf (W := 0) (rmvo l Z a0 hw [] c0 cs G h0 n0 Z0 O0 st) hZ (hw _ (List.mem_of_getElem? (i := 8) rfl)) (hw _ (List.mem_of_getElem? (i := 7) rfl)) (by decide) (by decide)) (g := (mkF m 40 #[.val (.int x0), .val (.int x1), .val (.int x2), .val (.int x3), .val (.int x4), .val (.int x5), .val (.int c0), .val (.int c1), .val (.int c2), .val (.int c3), .val (.int (1 : Int32)), .unset, .unset, .unset] [(.int c0)])) rfl (by rw [hml]; rfl) (argsL := [(.int c0)]) (rest := []) (lenOf pd0_1 rfl) rfl (by show 2 * 0 + _ ≤ _; exact Nat.le_of_eq rfl) (hb hby at_40) (fun _ _ => ⟨rfl, e11, (by decide : 0 + 2 ≤ _), (by decide : 0 + 6 ≤ _)⟩)
    dsimp only [Pt.U, Pt.locs, Pt.cells, Pt.slots] at X16 l16 y16 z16 st16 hQ16
    subst l16 y16 z16
    obtain ⟨-, r16, tv, kb, rfl, Nq16, K16, EX16, HV, HD⟩ := hQ16
    have N16 := Fr.app N11 Nq16
    have f17 := O0.keep K16 (all0)
    have Z16 := Nat.le_trans Z0 K16.1
    have p18 : ∀ t, own_W p e below m T16 43 #[.val (.int x0), .val (.int x1), .val (.int x2), .val (.int x3), .val (.int x4), .val (.int x5), .val (.int c0), .val (.int c1), .val (.int c2), .val (.int c3), .val (.int (1 : Int32)), .unset, .unset, .unset] [(.ref r16)] t → Steps p.tables e below S0 t := fun t k => p15 t (st16 _ k)
    have p19 : ∀ t, own_W p e below m T16 154 #[.val (.int x0), .val (.int x1), .val (.int x2), .val (.int x3), .val (.int x4), .val (.int x5), .val (.int c0), .val (.int c1), .val (.int c2), .val (.int c3), .val (.int (1 : Int32)), .val (.ref r16), .unset, .unset] [(.int ((x5 &&& (255 : Int32)).toUInt32.toUInt16.toUInt32.toInt32))] t → Steps p.tables e below S0 t := fun t k => p18 t (by
      show own_W p e below m T16 43 #[.val (.int x0), .val (.int x1), .val (.int x2), .val (.int x3), .val (.int x4), .val (.int x5), .val (.int c0), .val (.int c1), .val (.int c2), .val (.int c3), .val (.int (1 : Int32)), .unset, .unset, .unset] [(.ref r16)] _
      refine XS.astore X16.here hx rfl (hb hby at_43) rfl rfl (l' := #[.val (.int x0), .val (.int x1), .val (.int x2), .val (.int x3), .val (.int x4), .val (.int x5), .val (.int c0), .val (.int c1), .val (.int c2), .val (.int c3), .val (.int (1 : Int32)), .val (.ref r16), .unset, .unset]) rfl ?_
      show own_W p e below m T16 45 #[.val (.int x0), .val (.int x1), .val (.int x2), .val (.int x3), .val (.int x4), .val (.int x5), .val (.int c0), .val (.int c1), .val (.int c2), .val (.int c3), .val (.int (1 : Int32)), .val (.ref r16), .unset, .unset] [] _
      refine XS.goto X16.here hx rfl (pc0 := 45) (pc' := 147) rfl (hb hby at_45) (by decide) (by decide) ?_
      show own_W p e below m T16 147 #[.val (.int x0), .val (.int x1), .val (.int x2), .val (.int x3), .val (.int x4), .val (.int x5), .val (.int c0), .val (.int c1), .val (.int c2), .val (.int c3), .val (.int (1 : Int32)), .val (.ref r16), .unset, .unset] [] _
      refine XS.iload X16.here hx rfl (hb hby at_147) rfl ?_
      show own_W p e below m T16 149 #[.val (.int x0), .val (.int x1), .val (.int x2), .val (.int x3), .val (.int x4), .val (.int x5), .val (.int c0), .val (.int c1), .val (.int c2), .val (.int c3), .val (.int (1 : Int32)), .val (.ref r16), .unset, .unset] [(.int x5)] _
      refine XS.sipush X16.here hx rfl (hb hby at_149) ?_
      show own_W p e below m T16 152 #[.val (.int x0), .val (.int x1), .val (.int x2), .val (.int x3), .val (.int x4), .val (.int x5), .val (.int c0), .val (.int c1), .val (.int c2), .val (.int c3), .val (.int (1 : Int32)), .val (.ref r16), .unset, .unset] [(.int (255 : Int32)), (.int x5)] _
      refine XS.iand X16.here hx rfl (hb hby at_152) rfl ?_
      show own_W p e below m T16 153 #[.val (.int x0), .val (.int x1), .val (.int x2), .val (.int x3), .val (.int x4), .val (.int x5), .val (.int c0), .val (.int c1), .val (.int c2), .val (.int c3), .val (.int (1 : Int32)), .val (.ref r16), .unset, .unset] [(.int (x5 &&& (255 : Int32)))] _
      refine XS.i2c X16.here hx rfl (hb hby at_153) rfl ?_
      exact k)
    have HL : own_LN Z T16.heap r16 tv kb (1 : Int32) := by
      rcases HD with ⟨a, b, -⟩ | ⟨a, b⟩
      · exact ⟨_, _, b, by decide, Or.inl ⟨a, by decide⟩⟩
      · exact ⟨_, _, b, by decide, Or.inr ⟨a, by decide⟩⟩
    have H0 : own_CH Z T16.heap r16 tv kb (0 : Int32) c0 := by
      rcases HD with ⟨a, b, u⟩ | ⟨a, b⟩
      · exact Or.inl ⟨a, _, _, b, ⟨by decide, by decide⟩, rfl, u⟩
      · exact Or.inr ⟨a, _, _, b, ⟨by decide, by decide⟩, ⟨by decide, by decide⟩, ⟨by decide, by decide⟩, rfl, rfl⟩
    obtain ⟨_, _, ⟨T20, L20, k20, n20⟩, -, X20, ⟨Lc20, hQ20, l20, y20, z20⟩, st20⟩ := Jvm.LawKit.callS X16 hx (y := (⟨"java/lang/String", "valueOf", "(C)Ljava/lang/String;"⟩ : MethodName)) hown (mvT hZ (hw _ (List.mem_of_getElem? (i := 5) rfl))) (mvT hZ (hw _ (List.mem_of_getElem? (i := 6) rfl))) (mvT hZ (hw _ (List.mem_of_getElem? (i := 7) rfl))) (mvT hZ (hw _ (List.mem_of_getElem? (i := 8) rfl))) (by decide) (backOf (W := 0) (rmvo l Z a0 hw [] ((x5 &&& (255 : Int32)).toUInt32.toUInt16.toUInt32.toInt32) cs G T16.heap n0 Z16 f17 st) hZ (hw _ (List.mem_of_getElem? (i := 8) rfl)) (hw _ (List.mem_of_getElem? (i := 7) rfl)) (by decide) (by decide)) (g := (mkF m 154 #[.val (.int x0), .val (.int x1), .val (.int x2), .val (.int x3), .val (.int x4), .val (.int x5), .val (.int c0), .val (.int c1), .val (.int c2), .val (.int c3), .val (.int (1 : Int32)), .val (.ref r16), .unset, .unset] [(.int ((x5 &&& (255 : Int32)).toUInt32.toUInt16.toUInt32.toInt32))])) rfl (by rw [hml]; rfl) (argsL := [(.int ((x5 &&& (255 : Int32)).toUInt32.toUInt16.toUInt32.toInt32))]) (rest := []) (lenOf pd0_1 rfl) rfl (by show 2 * 0 + _ ≤ _; exact Nat.le_of_eq rfl) (hb hby at_154) (fun _ _ => ⟨rfl, rfl, (by decide : 2 + 2 ≤ _), (by decide : 6 + 6 ≤ _)⟩)
    dsimp only [Pt.U, Pt.locs, Pt.cells, Pt.slots] at X20 l20 y20 z20 st20 hQ20
    subst l20 y20 z20
    obtain ⟨-, rw20, tw20, kw20, rfl, Nq20, K20, EW20, VW20, DW20⟩ := hQ20
    have N20 := Fr.app N16 Nq20
    have f21 := f17.keep K20 (all0)
    have f22 := EX16.keep K20
    have f23 := HV.keep K20 nin0
    have Z20 := Nat.le_trans Z16 K20.1
    have p24 : ∀ t, own_W p e below m T20 157 #[.val (.int x0), .val (.int x1), .val (.int x2), .val (.int x3), .val (.int x4), .val (.int x5), .val (.int c0), .val (.int c1), .val (.int c2), .val (.int c3), .val (.int (1 : Int32)), .val (.ref r16), .unset, .unset] [(.ref rw20)] t → Steps p.tables e below S0 t := fun t k => p19 t (st20 _ k)
    have HL := own_LNk HL K20
    have H0 := own_CHk H0 K20
    have p25 : ∀ t, own_W p e below m T20 163 #[.val (.int x0), .val (.int x1), .val (.int x2), .val (.int x3), .val (.int x4), .val (.int x5), .val (.int c0), .val (.int c1), .val (.int c2), .val (.int c3), .val (.int (1 : Int32)), .val (.ref r16), .val (.ref rw20), .unset] [(.ref r16), (.ref rw20)] t → Steps p.tables e below S0 t := fun t k => p24 t (by
      show own_W p e below m T20 157 #[.val (.int x0), .val (.int x1), .val (.int x2), .val (.int x3), .val (.int x4), .val (.int x5), .val (.int c0), .val (.int c1), .val (.int c2), .val (.int c3), .val (.int (1 : Int32)), .val (.ref r16), .unset, .unset] [(.ref rw20)] _
      refine XS.astore X20.here hx rfl (hb hby at_157) rfl rfl (l' := #[.val (.int x0), .val (.int x1), .val (.int x2), .val (.int x3), .val (.int x4), .val (.int x5), .val (.int c0), .val (.int c1), .val (.int c2), .val (.int c3), .val (.int (1 : Int32)), .val (.ref r16), .val (.ref rw20), .unset]) rfl ?_
      show own_W p e below m T20 159 #[.val (.int x0), .val (.int x1), .val (.int x2), .val (.int x3), .val (.int x4), .val (.int x5), .val (.int c0), .val (.int c1), .val (.int c2), .val (.int c3), .val (.int (1 : Int32)), .val (.ref r16), .val (.ref rw20), .unset] [] _
      refine XS.aload X20.here hx rfl (hb hby at_159) rfl rfl ?_
      show own_W p e below m T20 161 #[.val (.int x0), .val (.int x1), .val (.int x2), .val (.int x3), .val (.int x4), .val (.int x5), .val (.int c0), .val (.int c1), .val (.int c2), .val (.int c3), .val (.int (1 : Int32)), .val (.ref r16), .val (.ref rw20), .unset] [(.ref rw20)] _
      refine XS.aload X20.here hx rfl (hb hby at_161) rfl rfl ?_
      exact k)
    obtain ⟨_, _, ⟨T26, L26, k26, n26⟩, -, X26, ⟨Lc26, hQ26, l26, y26, z26⟩, st26⟩ := Jvm.LawKit.callS X20 hx (y := (⟨"com/example/disposition/disposition/Names", "require", "(Ljava/lang/String;Ljava/lang/String;)Ljava/lang/String;"⟩ : MethodName)) hown (mvT hZ (hw _ (List.mem_of_getElem? (i := 31) rfl))) (mvT hZ (hw _ (List.mem_of_getElem? (i := 32) rfl))) (mvT hZ (hw _ (List.mem_of_getElem? (i := 33) rfl))) (mvT hZ (hw _ (List.mem_of_getElem? (i := 34) rfl))) (by decide) (backOf (W := 0) (rmrq1 l Z a0 hw [] rw20 r16 tv kb c0 cs G T20.heap n0 Z20 f22 f23 HL H0 ko0 f21 st) hZ (hw _ (List.mem_of_getElem? (i := 34) rfl)) (hw _ (List.mem_of_getElem? (i := 33) rfl)) (by decide) (by decide)) (g := (mkF m 163 #[.val (.int x0), .val (.int x1), .val (.int x2), .val (.int x3), .val (.int x4), .val (.int x5), .val (.int c0), .val (.int c1), .val (.int c2), .val (.int c3), .val (.int (1 : Int32)), .val (.ref r16), .val (.ref rw20), .unset] [(.ref r16), (.ref rw20)])) rfl (by rw [hml]; rfl) (argsL := [(.ref rw20), (.ref r16)]) (rest := []) (lenOf pd0_2 rfl) rfl (by show 2 * 0 + _ ≤ _; exact Nat.le_of_eq rfl) (hb hby at_163) (fun _ _ => ⟨rfl, rfl, (by decide : 4 + 0 ≤ _), (by decide : 12 + 0 ≤ _)⟩)
    dsimp only [Pt.U, Pt.locs, Pt.cells, Pt.slots] at X26 l26 y26 z26 st26 hQ26
    subst l26 y26 z26
    obtain ⟨rfl, Nq26, e26⟩ := hQ26
    have N26 := Fr.app N20 Nq26
    have p27 : ∀ t, own_W p e below m T26 166 #[.val (.int x0), .val (.int x1), .val (.int x2), .val (.int x3), .val (.int x4), .val (.int x5), .val (.int c0), .val (.int c1), .val (.int c2), .val (.int c3), .val (.int (1 : Int32)), .val (.ref r16), .val (.ref rw20), .unset] [(.ref r16)] t → Steps p.tables e below S0 t := fun t k => p25 t (st26 _ k)
    have p28 : ∀ t, own_W p e below m T26 177 #[.val (.int x0), .val (.int x1), .val (.int x2), .val (.int x3), .val (.int x4), .val (.int x5), .val (.int c0), .val (.int c1), .val (.int c2), .val (.int c3), .val (.int (1 : Int32)), .val (.ref r16), .val (.ref rw20), .val (.ref r16)] [(.ref r16), (.ref r16)] t → Steps p.tables e below S0 t := fun t k => p27 t (by
      show own_W p e below m T26 166 #[.val (.int x0), .val (.int x1), .val (.int x2), .val (.int x3), .val (.int x4), .val (.int x5), .val (.int c0), .val (.int c1), .val (.int c2), .val (.int c3), .val (.int (1 : Int32)), .val (.ref r16), .val (.ref rw20), .unset] [(.ref r16)] _
      refine XS.astore X26.here hx rfl (hb hby at_166) rfl rfl (l' := #[.val (.int x0), .val (.int x1), .val (.int x2), .val (.int x3), .val (.int x4), .val (.int x5), .val (.int c0), .val (.int c1), .val (.int c2), .val (.int c3), .val (.int (1 : Int32)), .val (.ref r16), .val (.ref rw20), .val (.ref r16)]) rfl ?_
      show own_W p e below m T26 168 #[.val (.int x0), .val (.int x1), .val (.int x2), .val (.int x3), .val (.int x4), .val (.int x5), .val (.int c0), .val (.int c1), .val (.int c2), .val (.int c3), .val (.int (1 : Int32)), .val (.ref r16), .val (.ref rw20), .val (.ref r16)] [] _
      refine XS.aload X26.here hx rfl (hb hby at_168) rfl rfl ?_
      show own_W p e below m T26 170 #[.val (.int x0), .val (.int x1), .val (.int x2), .val (.int x3), .val (.int x4), .val (.int x5), .val (.int c0), .val (.int c1), .val (.int c2), .val (.int c3), .val (.int (1 : Int32)), .val (.ref r16), .val (.ref rw20), .val (.ref r16)] [(.ref r16)] _
      refine XS.ifnullNo X26.here hx rfl (hb hby at_170) rfl ?_
      show own_W p e below m T26 173 #[.val (.int x0), .val (.int x1), .val (.int x2), .val (.int x3), .val (.int x4), .val (.int x5), .val (.int c0), .val (.int c1), .val (.int c2), .val (.int c3), .val (.int (1 : Int32)), .val (.ref r16), .val (.ref rw20), .val (.ref r16)] [] _
      refine XS.aload X26.here hx rfl (hb hby at_173) rfl rfl ?_
      show own_W p e below m T26 175 #[.val (.int x0), .val (.int x1), .val (.int x2), .val (.int x3), .val (.int x4), .val (.int x5), .val (.int c0), .val (.int c1), .val (.int c2), .val (.int c3), .val (.int (1 : Int32)), .val (.ref r16), .val (.ref rw20), .val (.ref r16)] [(.ref r16)] _
      refine XS.aload X26.here hx rfl (hb hby at_175) rfl rfl ?_
      exact k)
    obtain ⟨cq29, kq29, qa29, qb29, qc29⟩ := isOf hZ e26 f22
    obtain ⟨_, _, ⟨T29, L29, k29, n29⟩, -, X29, ⟨Lc29, hQ29, l29, y29, z29⟩, st29⟩ := X26.virtualBack hx (y := (⟨"java/lang/String", "equals", "(Ljava/lang/Object;)Z"⟩ : MethodName)) (z := (⟨"java/lang/String", "equals", "(Ljava/lang/Object;)Z"⟩ : MethodName)) hown (mvT hZ (hw _ (List.mem_of_getElem? (i := 78) rfl))) (mvT hZ (hw _ (List.mem_of_getElem? (i := 79) rfl))) (notFace_of_selects (args := #[]) (mvT hZ (hw _ (List.mem_of_getElem? (i := 81) rfl)))) (mvT hZ (hw _ (List.mem_of_getElem? (i := 81) rfl))) (mvT hZ (hw _ (List.mem_of_getElem? (i := 80) rfl))) (by decide) (backOf (W := 0) (rmeq l Z a0 hw [] r16  T20.heap n0 Z20 ) hZ (hw _ (List.mem_of_getElem? (i := 82) rfl)) (hw _ (List.mem_of_getElem? (i := 7) rfl)) (by decide) (by decide)) qa29 qc29 (g := (mkF m 177 #[.val (.int x0), .val (.int x1), .val (.int x2), .val (.int x3), .val (.int x4), .val (.int x5), .val (.int c0), .val (.int c1), .val (.int c2), .val (.int c3), .val (.int (1 : Int32)), .val (.ref r16), .val (.ref rw20), .val (.ref r16)] [(.ref r16), (.ref r16)])) rfl (by rw [hml]; rfl) (Steps.refl _) (argsL := [(.ref r16)]) (rest := []) (lenOf pd0_3 rfl) rfl (by show 2 * 0 + _ ≤ _; exact Nat.le_of_eq rfl) (hb hby at_177) (fun _ _ => ⟨rfl, e26, (by decide : 4 + 0 ≤ _), (by decide : 12 + 0 ≤ _)⟩)
    dsimp only [Pt.U, Pt.locs, Pt.cells, Pt.slots] at X29 l29 y29 z29 st29 hQ29
    subst l29 y29 z29
    obtain ⟨rfl, Nq29, e29⟩ := hQ29
    have N29 := Fr.app N26 Nq29
    have p30 : ∀ t, own_W p e below m T29 180 #[.val (.int x0), .val (.int x1), .val (.int x2), .val (.int x3), .val (.int x4), .val (.int x5), .val (.int c0), .val (.int c1), .val (.int c2), .val (.int c3), .val (.int (1 : Int32)), .val (.ref r16), .val (.ref rw20), .val (.ref r16)] [(.int (1 : Int32))] t → Steps p.tables e below S0 t := fun t k => p28 t (st29.trans k)
    have p31 : ∀ t, own_W p e below m T29 188 #[.val (.int x0), .val (.int x1), .val (.int x2), .val (.int x3), .val (.int x4), .val (.int x5), .val (.int c0), .val (.int c1), .val (.int c2), .val (.int c3), .val (.int (1 : Int32)), .val (.ref r16), .val (.ref rw20), .val (.ref r16)] [(.int (1 : Int32))] t → Steps p.tables e below S0 t := fun t k => p30 t (by
      show own_W p e below m T29 180 #[.val (.int x0), .val (.int x1), .val (.int x2), .val (.int x3), .val (.int x4), .val (.int x5), .val (.int c0), .val (.int c1), .val (.int c2), .val (.int c3), .val (.int (1 : Int32)), .val (.ref r16), .val (.ref rw20), .val (.ref r16)] [(.int (1 : Int32))] _
      refine XS.ifNo X29.here hx rfl (hb hby at_180) rfl ((if0 _ _).trans (feq (by decide)).1) ?_
      show own_W p e below m T29 183 #[.val (.int x0), .val (.int x1), .val (.int x2), .val (.int x3), .val (.int x4), .val (.int x5), .val (.int c0), .val (.int c1), .val (.int c2), .val (.int c3), .val (.int (1 : Int32)), .val (.ref r16), .val (.ref rw20), .val (.ref r16)] [] _
      refine XS.iconst X29.here hx rfl (hb hby at_183) ?_
      show own_W p e below m T29 184 #[.val (.int x0), .val (.int x1), .val (.int x2), .val (.int x3), .val (.int x4), .val (.int x5), .val (.int c0), .val (.int c1), .val (.int c2), .val (.int c3), .val (.int (1 : Int32)), .val (.ref r16), .val (.ref rw20), .val (.ref r16)] [(.int (1 : Int32))] _
      refine XS.goto X29.here hx rfl (pc0 := 184) (pc' := 188) rfl (hb hby at_184) (by decide) (by decide) ?_
      exact k)
    subst hS0
    obtain ⟨fs, hr, hrun, hended, hW, hsame⟩ := X29.leave (v := some (.int (1 : Int32))) (fun h => by rw [Bd.returns] at h; cases h)
    refine ⟨_, _, p31 _ ?_, hrun, hended, _, _, rfl, ?_, ⟨_, rfl⟩, hW, hsame.mono (by decide) (by decide)⟩
    · show own_W p e below m T29 188 #[.val (.int x0), .val (.int x1), .val (.int x2), .val (.int x3), .val (.int x4), .val (.int x5), .val (.int c0), .val (.int c1), .val (.int c2), .val (.int c3), .val (.int (1 : Int32)), .val (.ref r16), .val (.ref rw20), .val (.ref r16)] [(.int (1 : Int32))] _
      exact retN X29 hx (t := .boolean) Bd.returns (by simp) (hb hby at_188) hr
    · show Q0 Z x0 x1 x2 x3 x4 x5 cs G h0 n0 _ T29.heap _
      rw [e29]
      exact ⟨rfl, N29⟩
  · have p32 : ∀ t, own_W p e below m T11 54 #[.val (.int x0), .val (.int x1), .val (.int x2), .val (.int x3), .val (.int x4), .val (.int x5), .val (.int c0), .val (.int c1), .val (.int c2), .val (.int c3), .val (.int (2 : Int32)), .unset, .unset, .unset] [] t → Steps p.tables e below S0 t := fun t k => p14 t (by
      show own_W p e below m T11 32 #[.val (.int x0), .val (.int x1), .val (.int x2), .val (.int x3), .val (.int x4), .val (.int x5), .val (.int c0), .val (.int c1), .val (.int c2), .val (.int c3), .val (.int (2 : Int32)), .unset, .unset, .unset] [] _
      refine XS.iload X11.here hx rfl (hb hby at_32) rfl ?_
      show own_W p e below m T11 34 #[.val (.int x0), .val (.int x1), .val (.int x2), .val (.int x3), .val (.int x4), .val (.int x5), .val (.int c0), .val (.int c1), .val (.int c2), .val (.int c3), .val (.int (2 : Int32)), .unset, .unset, .unset] [(.int (2 : Int32))] _
      refine XS.iconst X11.here hx rfl (hb hby at_34) ?_
      show own_W p e below m T11 35 #[.val (.int x0), .val (.int x1), .val (.int x2), .val (.int x3), .val (.int x4), .val (.int x5), .val (.int c0), .val (.int c1), .val (.int c2), .val (.int c3), .val (.int (2 : Int32)), .unset, .unset, .unset] [(.int (1 : Int32)), (.int (2 : Int32))] _
      refine XS.icmpYes X11.here hx rfl (pc0 := 35) (pc' := 48) rfl (hb hby at_35) rfl ((feq (by decide)).2) (by decide) (by decide) ?_
      show own_W p e below m T11 48 #[.val (.int x0), .val (.int x1), .val (.int x2), .val (.int x3), .val (.int x4), .val (.int x5), .val (.int c0), .val (.int c1), .val (.int c2), .val (.int c3), .val (.int (2 : Int32)), .unset, .unset, .unset] [] _
      refine XS.iload X11.here hx rfl (hb hby at_48) rfl ?_
      show own_W p e below m T11 50 #[.val (.int x0), .val (.int x1), .val (.int x2), .val (.int x3), .val (.int x4), .val (.int x5), .val (.int c0), .val (.int c1), .val (.int c2), .val (.int c3), .val (.int (2 : Int32)), .unset, .unset, .unset] [(.int (2 : Int32))] _
      refine XS.iconst X11.here hx rfl (hb hby at_50) ?_
      show own_W p e below m T11 51 #[.val (.int x0), .val (.int x1), .val (.int x2), .val (.int x3), .val (.int x4), .val (.int x5), .val (.int c0), .val (.int c1), .val (.int c2), .val (.int c3), .val (.int (2 : Int32)), .unset, .unset, .unset] [(.int (2 : Int32)), (.int (2 : Int32))] _
      refine XS.icmpNo X11.here hx rfl (hb hby at_51) rfl ((teq (rfl)).2) ?_
      exact k)
    obtain ⟨T33, h33, X33, e33, E33, A33, D33, -, st33⟩ := newO X11 hx hZ hown (hw _ (List.mem_of_getElem? (i := 83) rfl)) (hw _ (List.mem_of_getElem? (i := 15) rfl)) (hw _ (List.mem_of_getElem? (i := 7) rfl)) e11 (g := (mkF m 54 #[.val (.int x0), .val (.int x1), .val (.int x2), .val (.int x3), .val (.int x4), .val (.int x5), .val (.int c0), .val (.int c1), .val (.int c2), .val (.int c3), .val (.int (2 : Int32)), .unset, .unset, .unset] [])) rfl (hb hby at_54) (by decide) (by decide)
    obtain ⟨b33, g33⟩ : ∃ z, z = h0.size := ⟨_, rfl⟩
    rw [← g33] at A33 D33 st33
    have gn_b33 : n0 ≤ b33 := Nat.le_trans Z0 (Nat.le_of_eq g33.symm)
    have f34 := O0.ext E33
    have Z33 := Nat.le_trans Z0 E33.1
    have f35 : Fld Z h33 b33 "java/lang/String" "value" "[B" .null := D33 (Or.inr (hw _ (List.mem_of_getElem? (i := 28) rfl))) (ty := (.array .byte)) (by decide)
    have f36 : Fld Z h33 b33 "java/lang/String" "coder" "B" (.int (0 : Int32)) := D33 (Or.inr (hw _ (List.mem_of_getElem? (i := 30) rfl))) (ty := .byte) (by decide)
    have p37 : ∀ t, own_W p e below m T33 57 #[.val (.int x0), .val (.int x1), .val (.int x2), .val (.int x3), .val (.int x4), .val (.int x5), .val (.int c0), .val (.int c1), .val (.int c2), .val (.int c3), .val (.int (2 : Int32)), .unset, .unset, .unset] [(.ref b33)] t → Steps p.tables e below S0 t := fun t k => p32 t (st33 t k)
    have p38 : ∀ t, own_W p e below m T33 59 #[.val (.int x0), .val (.int x1), .val (.int x2), .val (.int x3), .val (.int x4), .val (.int x5), .val (.int c0), .val (.int c1), .val (.int c2), .val (.int c3), .val (.int (2 : Int32)), .unset, .unset, .unset] [(.int (2 : Int32)), (.ref b33), (.ref b33)] t → Steps p.tables e below S0 t := fun t k => p37 t (by
      show own_W p e below m T33 57 #[.val (.int x0), .val (.int x1), .val (.int x2), .val (.int x3), .val (.int x4), .val (.int x5), .val (.int c0), .val (.int c1), .val (.int c2), .val (.int c3), .val (.int (2 : Int32)), .unset, .unset, .unset] [(.ref b33)] _
      refine XS.dup X33.here hx rfl (hb hby at_57) rfl rfl ?_
      show own_W p e below m T33 58 #[.val (.int x0), .val (.int x1), .val (.int x2), .val (.int x3), .val (.int x4), .val (.int x5), .val (.int c0), .val (.int c1), .val (.int c2), .val (.int c3), .val (.int (2 : Int32)), .unset, .unset, .unset] [(.ref b33), (.ref b33)] _
      refine XS.iconst X33.here hx rfl (hb hby at_58) ?_
      exact k)
    obtain ⟨T39, h39, k39, X39, e39, E39, A39, st39⟩ := newP X33 hx hZ (hw _ (List.mem_of_getElem? (i := 84) rfl)) e33 (g := (mkF m 59 #[.val (.int x0), .val (.int x1), .val (.int x2), .val (.int x3), .val (.int x4), .val (.int x5), .val (.int c0), .val (.int c1), .val (.int c2), .val (.int c3), .val (.int (2 : Int32)), .unset, .unset, .unset] [(.int (2 : Int32)), (.ref b33), (.ref b33)])) rfl (hb hby at_59) rfl (by decide) (cap := 2) (by decide) (by decide) (by decide) (by decide)
    obtain ⟨b39, g39⟩ : ∃ z, z = h33.size := ⟨_, rfl⟩
    rw [← g39] at A39 st39
    have gn_b39 : n0 ≤ b39 := Nat.le_trans Z33 (Nat.le_of_eq g39.symm)
    have ne40 : b33 ≠ b39 := Nat.ne_of_lt (Nat.lt_of_lt_of_le A33.lt (Nat.le_of_eq g39.symm))
    have f41 := f34.ext E39
    have f42 := A33.ext E39
    have f43 := f35.ext E39
    have f44 := f36.ext E39
    have Z39 := Nat.le_trans Z33 E39.1
    have VV39 : Arv Z h39 b39 k39 .char (2 : Int32) [(.int (0 : Int32)), (.int (0 : Int32))] (.int (0 : Int32)) := (Arv.new A39 (by decide)).pad (pad_rep [] (.int (0 : Int32)) 2)
    have p45 : ∀ t, own_W p e below m T39 61 #[.val (.int x0), .val (.int x1), .val (.int x2), .val (.int x3), .val (.int x4), .val (.int x5), .val (.int c0), .val (.int c1), .val (.int c2), .val (.int c3), .val (.int (2 : Int32)), .unset, .unset, .unset] [(.ref b39), (.ref b33), (.ref b33)] t → Steps p.tables e below S0 t := fun t k => p38 t (st39 t k)
    have p46 : ∀ t, own_W p e below m T39 65 #[.val (.int x0), .val (.int x1), .val (.int x2), .val (.int x3), .val (.int x4), .val (.int x5), .val (.int c0), .val (.int c1), .val (.int c2), .val (.int c3), .val (.int (2 : Int32)), .unset, .unset, .unset] [(.int c0), (.int (0 : Int32)), (.ref b39), (.ref b39), (.ref b33), (.ref b33)] t → Steps p.tables e below S0 t := fun t k => p45 t (by
      show own_W p e below m T39 61 #[.val (.int x0), .val (.int x1), .val (.int x2), .val (.int x3), .val (.int x4), .val (.int x5), .val (.int c0), .val (.int c1), .val (.int c2), .val (.int c3), .val (.int (2 : Int32)), .unset, .unset, .unset] [(.ref b39), (.ref b33), (.ref b33)] _
      refine XS.dup X39.here hx rfl (hb hby at_61) rfl rfl ?_
      show own_W p e below m T39 62 #[.val (.int x0), .val (.int x1), .val (.int x2), .val (.int x3), .val (.int x4), .val (.int x5), .val (.int c0), .val (.int c1), .val (.int c2), .val (.int c3), .val (.int (2 : Int32)), .unset, .unset, .unset] [(.ref b39), (.ref b39), (.ref b33), (.ref b33)] _
      refine XS.iconst X39.here hx rfl (hb hby at_62) ?_
      show own_W p e below m T39 63 #[.val (.int x0), .val (.int x1), .val (.int x2), .val (.int x3), .val (.int x4), .val (.int x5), .val (.int c0), .val (.int c1), .val (.int c2), .val (.int c3), .val (.int (2 : Int32)), .unset, .unset, .unset] [(.int (0 : Int32)), (.ref b39), (.ref b39), (.ref b33), (.ref b33)] _
      refine XS.iload X39.here hx rfl (hb hby at_63) rfl ?_
      exact k)
    obtain ⟨cl47, Ar47, q47, Sz47, Ng47, Hs47, G47⟩ := id VV39
    have hin47 : ¬ ((0 : Int32) < 0 ∨ cl47.slots.size ≤ ((0 : Int32)).toNatClampNeg) := inb_of Sz47 (⟨by decide, by decide⟩)
    obtain ⟨T47, h47, X47, e47, W47, st47⟩ := stC X39 hx hZ e39 Ar47 (j := (0 : Int32)) hin47 (g := (mkF m 65 #[.val (.int x0), .val (.int x1), .val (.int x2), .val (.int x3), .val (.int x4), .val (.int x5), .val (.int c0), .val (.int c1), .val (.int c2), .val (.int c3), .val (.int (2 : Int32)), .unset, .unset, .unset] [(.int c0), (.int (0 : Int32)), (.ref b39), (.ref b39), (.ref b33), (.ref b33)])) rfl rfl (hb hby at_65)
    have VV47 : Arv Z h47 b39 k39 .char (2 : Int32) [(.int (nar .char c0)), (.int (0 : Int32))] (.int (0 : Int32)) := Arv.set Ar47 q47 Sz47 Ng47 Hs47 G47 (fits_nar_char _) W47 0 (by decide) (Nat.le_of_ble_eq_true rfl)
    have f48 := f41.wr W47 gn_b39
    have f49 := f42.wr W47
    have f50 := f43.other W47 (Or.inl ne40)
    have f51 := f44.other W47 (Or.inl ne40)
    have Z47 := Nat.le_trans Z39 (Keep.of_wr W47).1
    have N47 := Fr.snoc X47 N11 gn_b39
    have p52 : ∀ t, own_W p e below m T47 66 #[.val (.int x0), .val (.int x1), .val (.int x2), .val (.int x3), .val (.int x4), .val (.int x5), .val (.int c0), .val (.int c1), .val (.int c2), .val (.int c3), .val (.int (2 : Int32)), .unset, .unset, .unset] [(.ref b39), (.ref b33), (.ref b33)] t → Steps p.tables e below S0 t := fun t k => p46 t (st47 t k)
    have p53 : ∀ t, own_W p e below m T47 70 #[.val (.int x0), .val (.int x1), .val (.int x2), .val (.int x3), .val (.int x4), .val (.int x5), .val (.int c0), .val (.int c1), .val (.int c2), .val (.int c3), .val (.int (2 : Int32)), .unset, .unset, .unset] [(.int c1), (.int (1 : Int32)), (.ref b39), (.ref b39), (.ref b33), (.ref b33)] t → Steps p.tables e below S0 t := fun t k => p52 t (by
      show own_W p e below m T47 66 #[.val (.int x0), .val (.int x1), .val (.int x2), .val (.int x3), .val (.int x4), .val (.int x5), .val (.int c0), .val (.int c1), .val (.int c2), .val (.int c3), .val (.int (2 : Int32)), .unset, .unset, .unset] [(.ref b39), (.ref b33), (.ref b33)] _
      refine XS.dup X47.here hx rfl (hb hby at_66) rfl rfl ?_
      show own_W p e below m T47 67 #[.val (.int x0), .val (.int x1), .val (.int x2), .val (.int x3), .val (.int x4), .val (.int x5), .val (.int c0), .val (.int c1), .val (.int c2), .val (.int c3), .val (.int (2 : Int32)), .unset, .unset, .unset] [(.ref b39), (.ref b39), (.ref b33), (.ref b33)] _
      refine XS.iconst X47.here hx rfl (hb hby at_67) ?_
      show own_W p e below m T47 68 #[.val (.int x0), .val (.int x1), .val (.int x2), .val (.int x3), .val (.int x4), .val (.int x5), .val (.int c0), .val (.int c1), .val (.int c2), .val (.int c3), .val (.int (2 : Int32)), .unset, .unset, .unset] [(.int (1 : Int32)), (.ref b39), (.ref b39), (.ref b33), (.ref b33)] _
      refine XS.iload X47.here hx rfl (hb hby at_68) rfl ?_
      exact k)
    obtain ⟨cl54, Ar54, q54, Sz54, Ng54, Hs54, G54⟩ := id VV47
    have hin54 : ¬ ((1 : Int32) < 0 ∨ cl54.slots.size ≤ ((1 : Int32)).toNatClampNeg) := inb_of Sz54 (⟨by decide, by decide⟩)
    obtain ⟨T54, h54, X54, e54, W54, st54⟩ := stC X47 hx hZ e47 Ar54 (j := (1 : Int32)) hin54 (g := (mkF m 70 #[.val (.int x0), .val (.int x1), .val (.int x2), .val (.int x3), .val (.int x4), .val (.int x5), .val (.int c0), .val (.int c1), .val (.int c2), .val (.int c3), .val (.int (2 : Int32)), .unset, .unset, .unset] [(.int c1), (.int (1 : Int32)), (.ref b39), (.ref b39), (.ref b33), (.ref b33)])) rfl rfl (hb hby at_70)
    have VV54 : Arv Z h54 b39 k39 .char (2 : Int32) [(.int (nar .char c0)), (.int (nar .char c1))] (.int (0 : Int32)) := Arv.set Ar54 q54 Sz54 Ng54 Hs54 G54 (fits_nar_char _) W54 1 (by decide) (Nat.le_of_ble_eq_true rfl)
    have f55 := f48.wr W54 gn_b39
    have f56 := f49.wr W54
    have f57 := f50.other W54 (Or.inl ne40)
    have f58 := f51.other W54 (Or.inl ne40)
    have Z54 := Nat.le_trans Z47 (Keep.of_wr W54).1
    have N54 := Fr.snoc X54 N47 gn_b39
    have p59 : ∀ t, own_W p e below m T54 71 #[.val (.int x0), .val (.int x1), .val (.int x2), .val (.int x3), .val (.int x4), .val (.int x5), .val (.int c0), .val (.int c1), .val (.int c2), .val (.int c3), .val (.int (2 : Int32)), .unset, .unset, .unset] [(.ref b39), (.ref b33), (.ref b33)] t → Steps p.tables e below S0 t := fun t k => p53 t (st54 t k)
    have VH60 : Arv Z h54 b39 k39 .char (2 : Int32) [(.int c0), (.int c1)] (.int (0 : Int32)) := by
      have q := VV54
      rw [own_nok ko0, own_nok ko1] at q
      exact q
    obtain ⟨_, _, ⟨T61, L61, k61, n61⟩, -, X61, ⟨Lc61, hQ61, l61, y61, z61⟩, st61⟩ := X54.specialBack hx (y := (⟨"java/lang/String", "<init>", "([C)V"⟩ : MethodName)) rfl hown (mvT hZ (hw _ (List.mem_of_getElem? (i := 85) rfl))) (mvT hZ (hw _ (List.mem_of_getElem? (i := 86) rfl))) (mvT hZ (hw _ (List.mem_of_getElem? (i := 87) rfl))) (by decide) (backOf (W := 1) (rmi12 l Z a0 hw [] b33 b39 k39 c0 c1 cs G h54 n0 Z54 f56 f58 f57 gn_b33 VH60 ne40 ko0 ko1 f55 st) hZ (hw _ (List.mem_of_getElem? (i := 87) rfl)) (hw _ (List.mem_of_getElem? (i := 7) rfl)) (by decide) (by decide)) (g := (mkF m 71 #[.val (.int x0), .val (.int x1), .val (.int x2), .val (.int x3), .val (.int x4), .val (.int x5), .val (.int c0), .val (.int c1), .val (.int c2), .val (.int c3), .val (.int (2 : Int32)), .unset, .unset, .unset] [(.ref b39), (.ref b33), (.ref b33)])) rfl (by rw [hml]; rfl) (Steps.refl _) (a := b33) (argsL := [(.ref b39)]) (rest := [(.ref b33)]) (lenOf pd0_4 rfl) rfl (by show 2 * 0 + _ ≤ _; exact Nat.le_of_eq rfl) (hb hby at_71) (fun _ _ => ⟨rfl, e54, (by decide : 2 + 2 ≤ _), (by decide : 6 + 6 ≤ _)⟩)
    dsimp only [Pt.U, Pt.locs, Pt.cells, Pt.slots] at X61 l61 y61 z61 st61 hQ61
    subst l61 y61 z61
    obtain ⟨rfl, Nq61, K61, HQ61⟩ := hQ61
    have N61 := Fr.app N54 Nq61
    have f62 := f55.keep K61 (allS gn_b33 (all0))
    have f63 := f56.keep K61
    have f64 := VH60.keep K61 (ninS (Ne.symm ne40) nin0)
    have Z61 := Nat.le_trans Z54 K61.1
    have p65 : ∀ t, own_W p e below m T61 74 #[.val (.int x0), .val (.int x1), .val (.int x2), .val (.int x3), .val (.int x4), .val (.int x5), .val (.int c0), .val (.int c1), .val (.int c2), .val (.int c3), .val (.int (2 : Int32)), .unset, .unset, .unset] [(.ref b33)] t → Steps p.tables e below S0 t := fun t k => p59 t (st61.trans k)
    obtain ⟨tv, kb, HV, HD⟩ := HQ61
    have p66 : ∀ t, own_W p e below m T61 154 #[.val (.int x0), .val (.int x1), .val (.int x2), .val (.int x3), .val (.int x4), .val (.int x5), .val (.int c0), .val (.int c1), .val (.int c2), .val (.int c3), .val (.int (2 : Int32)), .val (.ref b33), .unset, .unset] [(.int ((x5 &&& (255 : Int32)).toUInt32.toUInt16.toUInt32.toInt32))] t → Steps p.tables e below S0 t := fun t k => p65 t (by
      show own_W p e below m T61 74 #[.val (.int x0), .val (.int x1), .val (.int x2), .val (.int x3), .val (.int x4), .val (.int x5), .val (.int c0), .val (.int c1), .val (.int c2), .val (.int c3), .val (.int (2 : Int32)), .unset, .unset, .unset] [(.ref b33)] _
      refine XS.astore X61.here hx rfl (hb hby at_74) rfl rfl (l' := #[.val (.int x0), .val (.int x1), .val (.int x2), .val (.int x3), .val (.int x4), .val (.int x5), .val (.int c0), .val (.int c1), .val (.int c2), .val (.int c3), .val (.int (2 : Int32)), .val (.ref b33), .unset, .unset]) rfl ?_
      show own_W p e below m T61 76 #[.val (.int x0), .val (.int x1), .val (.int x2), .val (.int x3), .val (.int x4), .val (.int x5), .val (.int c0), .val (.int c1), .val (.int c2), .val (.int c3), .val (.int (2 : Int32)), .val (.ref b33), .unset, .unset] [] _
      refine XS.goto X61.here hx rfl (pc0 := 76) (pc' := 147) rfl (hb hby at_76) (by decide) (by decide) ?_
      show own_W p e below m T61 147 #[.val (.int x0), .val (.int x1), .val (.int x2), .val (.int x3), .val (.int x4), .val (.int x5), .val (.int c0), .val (.int c1), .val (.int c2), .val (.int c3), .val (.int (2 : Int32)), .val (.ref b33), .unset, .unset] [] _
      refine XS.iload X61.here hx rfl (hb hby at_147) rfl ?_
      show own_W p e below m T61 149 #[.val (.int x0), .val (.int x1), .val (.int x2), .val (.int x3), .val (.int x4), .val (.int x5), .val (.int c0), .val (.int c1), .val (.int c2), .val (.int c3), .val (.int (2 : Int32)), .val (.ref b33), .unset, .unset] [(.int x5)] _
      refine XS.sipush X61.here hx rfl (hb hby at_149) ?_
      show own_W p e below m T61 152 #[.val (.int x0), .val (.int x1), .val (.int x2), .val (.int x3), .val (.int x4), .val (.int x5), .val (.int c0), .val (.int c1), .val (.int c2), .val (.int c3), .val (.int (2 : Int32)), .val (.ref b33), .unset, .unset] [(.int (255 : Int32)), (.int x5)] _
      refine XS.iand X61.here hx rfl (hb hby at_152) rfl ?_
      show own_W p e below m T61 153 #[.val (.int x0), .val (.int x1), .val (.int x2), .val (.int x3), .val (.int x4), .val (.int x5), .val (.int c0), .val (.int c1), .val (.int c2), .val (.int c3), .val (.int (2 : Int32)), .val (.ref b33), .unset, .unset] [(.int (x5 &&& (255 : Int32)))] _
      refine XS.i2c X61.here hx rfl (hb hby at_153) rfl ?_
      exact k)
    have HL : own_LN Z T61.heap b33 tv kb (2 : Int32) := by
      rcases HD with ⟨a, b, -⟩ | ⟨a, b⟩
      · exact ⟨_, _, b, by decide, Or.inl ⟨a, by decide⟩⟩
      · exact ⟨_, _, b, by decide, Or.inr ⟨a, by decide⟩⟩
    have H0 : own_CH Z T61.heap b33 tv kb (0 : Int32) c0 := by
      rcases HD with ⟨a, b, u, -⟩ | ⟨a, b⟩
      · exact Or.inl ⟨a, _, _, b, ⟨by decide, by decide⟩, rfl, u⟩
      · exact Or.inr ⟨a, _, _, b, ⟨by decide, by decide⟩, ⟨by decide, by decide⟩, ⟨by decide, by decide⟩, rfl, rfl⟩
    have H1 : own_CH Z T61.heap b33 tv kb (1 : Int32) c1 := by
      rcases HD with ⟨a, b, -, u⟩ | ⟨a, b⟩
      · exact Or.inl ⟨a, _, _, b, ⟨by decide, by decide⟩, rfl, u⟩
      · exact Or.inr ⟨a, _, _, b, ⟨by decide, by decide⟩, ⟨by decide, by decide⟩, ⟨by decide, by decide⟩, rfl, rfl⟩
    obtain ⟨_, _, ⟨T67, L67, k67, n67⟩, -, X67, ⟨Lc67, hQ67, l67, y67, z67⟩, st67⟩ := Jvm.LawKit.callS X61 hx (y := (⟨"java/lang/String", "valueOf", "(C)Ljava/lang/String;"⟩ : MethodName)) hown (mvT hZ (hw _ (List.mem_of_getElem? (i := 5) rfl))) (mvT hZ (hw _ (List.mem_of_getElem? (i := 6) rfl))) (mvT hZ (hw _ (List.mem_of_getElem? (i := 7) rfl))) (mvT hZ (hw _ (List.mem_of_getElem? (i := 8) rfl))) (by decide) (backOf (W := 0) (rmvo l Z a0 hw [] ((x5 &&& (255 : Int32)).toUInt32.toUInt16.toUInt32.toInt32) cs G T61.heap n0 Z61 f62 st) hZ (hw _ (List.mem_of_getElem? (i := 8) rfl)) (hw _ (List.mem_of_getElem? (i := 7) rfl)) (by decide) (by decide)) (g := (mkF m 154 #[.val (.int x0), .val (.int x1), .val (.int x2), .val (.int x3), .val (.int x4), .val (.int x5), .val (.int c0), .val (.int c1), .val (.int c2), .val (.int c3), .val (.int (2 : Int32)), .val (.ref b33), .unset, .unset] [(.int ((x5 &&& (255 : Int32)).toUInt32.toUInt16.toUInt32.toInt32))])) rfl (by rw [hml]; rfl) (argsL := [(.int ((x5 &&& (255 : Int32)).toUInt32.toUInt16.toUInt32.toInt32))]) (rest := []) (lenOf pd0_1 rfl) rfl (by show 2 * 0 + _ ≤ _; exact Nat.le_of_eq rfl) (hb hby at_154) (fun _ _ => ⟨rfl, rfl, (by decide : 4 + 2 ≤ _), (by decide : 12 + 6 ≤ _)⟩)
    dsimp only [Pt.U, Pt.locs, Pt.cells, Pt.slots] at X67 l67 y67 z67 st67 hQ67
    subst l67 y67 z67
    obtain ⟨-, rw67, tw67, kw67, rfl, Nq67, K67, EW67, VW67, DW67⟩ := hQ67
    have N67 := Fr.app N61 Nq67
    have f68 := f62.keep K67 (all0)
    have f69 := f63.keep K67
    have f70 := HV.keep K67 nin0
    have Z67 := Nat.le_trans Z61 K67.1
    have p71 : ∀ t, own_W p e below m T67 157 #[.val (.int x0), .val (.int x1), .val (.int x2), .val (.int x3), .val (.int x4), .val (.int x5), .val (.int c0), .val (.int c1), .val (.int c2), .val (.int c3), .val (.int (2 : Int32)), .val (.ref b33), .unset, .unset] [(.ref rw67)] t → Steps p.tables e below S0 t := fun t k => p66 t (st67 _ k)
    have HL := own_LNk HL K67
    have H0 := own_CHk H0 K67
    have H1 := own_CHk H1 K67
    have p72 : ∀ t, own_W p e below m T67 163 #[.val (.int x0), .val (.int x1), .val (.int x2), .val (.int x3), .val (.int x4), .val (.int x5), .val (.int c0), .val (.int c1), .val (.int c2), .val (.int c3), .val (.int (2 : Int32)), .val (.ref b33), .val (.ref rw67), .unset] [(.ref b33), (.ref rw67)] t → Steps p.tables e below S0 t := fun t k => p71 t (by
      show own_W p e below m T67 157 #[.val (.int x0), .val (.int x1), .val (.int x2), .val (.int x3), .val (.int x4), .val (.int x5), .val (.int c0), .val (.int c1), .val (.int c2), .val (.int c3), .val (.int (2 : Int32)), .val (.ref b33), .unset, .unset] [(.ref rw67)] _
      refine XS.astore X67.here hx rfl (hb hby at_157) rfl rfl (l' := #[.val (.int x0), .val (.int x1), .val (.int x2), .val (.int x3), .val (.int x4), .val (.int x5), .val (.int c0), .val (.int c1), .val (.int c2), .val (.int c3), .val (.int (2 : Int32)), .val (.ref b33), .val (.ref rw67), .unset]) rfl ?_
      show own_W p e below m T67 159 #[.val (.int x0), .val (.int x1), .val (.int x2), .val (.int x3), .val (.int x4), .val (.int x5), .val (.int c0), .val (.int c1), .val (.int c2), .val (.int c3), .val (.int (2 : Int32)), .val (.ref b33), .val (.ref rw67), .unset] [] _
      refine XS.aload X67.here hx rfl (hb hby at_159) rfl rfl ?_
      show own_W p e below m T67 161 #[.val (.int x0), .val (.int x1), .val (.int x2), .val (.int x3), .val (.int x4), .val (.int x5), .val (.int c0), .val (.int c1), .val (.int c2), .val (.int c3), .val (.int (2 : Int32)), .val (.ref b33), .val (.ref rw67), .unset] [(.ref rw67)] _
      refine XS.aload X67.here hx rfl (hb hby at_161) rfl rfl ?_
      exact k)
    obtain ⟨_, _, ⟨T73, L73, k73, n73⟩, -, X73, ⟨Lc73, hQ73, l73, y73, z73⟩, st73⟩ := Jvm.LawKit.callS X67 hx (y := (⟨"com/example/disposition/disposition/Names", "require", "(Ljava/lang/String;Ljava/lang/String;)Ljava/lang/String;"⟩ : MethodName)) hown (mvT hZ (hw _ (List.mem_of_getElem? (i := 31) rfl))) (mvT hZ (hw _ (List.mem_of_getElem? (i := 32) rfl))) (mvT hZ (hw _ (List.mem_of_getElem? (i := 33) rfl))) (mvT hZ (hw _ (List.mem_of_getElem? (i := 34) rfl))) (by decide) (backOf (W := 0) (rmrq2 l Z a0 hw [] rw67 b33 tv kb c0 c1 cs G T67.heap n0 Z67 f69 f70 HL H0 H1 ko0 ko1 f68 st) hZ (hw _ (List.mem_of_getElem? (i := 34) rfl)) (hw _ (List.mem_of_getElem? (i := 33) rfl)) (by decide) (by decide)) (g := (mkF m 163 #[.val (.int x0), .val (.int x1), .val (.int x2), .val (.int x3), .val (.int x4), .val (.int x5), .val (.int c0), .val (.int c1), .val (.int c2), .val (.int c3), .val (.int (2 : Int32)), .val (.ref b33), .val (.ref rw67), .unset] [(.ref b33), (.ref rw67)])) rfl (by rw [hml]; rfl) (argsL := [(.ref rw67), (.ref b33)]) (rest := []) (lenOf pd0_2 rfl) rfl (by show 2 * 0 + _ ≤ _; exact Nat.le_of_eq rfl) (hb hby at_163) (fun _ _ => ⟨rfl, rfl, (by decide : 6 + 0 ≤ _), (by decide : 18 + 0 ≤ _)⟩)
    dsimp only [Pt.U, Pt.locs, Pt.cells, Pt.slots] at X73 l73 y73 z73 st73 hQ73
    subst l73 y73 z73
    obtain ⟨rfl, Nq73, e73⟩ := hQ73
    have N73 := Fr.app N67 Nq73
    have p74 : ∀ t, own_W p e below m T73 166 #[.val (.int x0), .val (.int x1), .val (.int x2), .val (.int x3), .val (.int x4), .val (.int x5), .val (.int c0), .val (.int c1), .val (.int c2), .val (.int c3), .val (.int (2 : Int32)), .val (.ref b33), .val (.ref rw67), .unset] [(.ref b33)] t → Steps p.tables e below S0 t := fun t k => p72 t (st73 _ k)
    have p75 : ∀ t, own_W p e below m T73 177 #[.val (.int x0), .val (.int x1), .val (.int x2), .val (.int x3), .val (.int x4), .val (.int x5), .val (.int c0), .val (.int c1), .val (.int c2), .val (.int c3), .val (.int (2 : Int32)), .val (.ref b33), .val (.ref rw67), .val (.ref b33)] [(.ref b33), (.ref b33)] t → Steps p.tables e below S0 t := fun t k => p74 t (by
      show own_W p e below m T73 166 #[.val (.int x0), .val (.int x1), .val (.int x2), .val (.int x3), .val (.int x4), .val (.int x5), .val (.int c0), .val (.int c1), .val (.int c2), .val (.int c3), .val (.int (2 : Int32)), .val (.ref b33), .val (.ref rw67), .unset] [(.ref b33)] _
      refine XS.astore X73.here hx rfl (hb hby at_166) rfl rfl (l' := #[.val (.int x0), .val (.int x1), .val (.int x2), .val (.int x3), .val (.int x4), .val (.int x5), .val (.int c0), .val (.int c1), .val (.int c2), .val (.int c3), .val (.int (2 : Int32)), .val (.ref b33), .val (.ref rw67), .val (.ref b33)]) rfl ?_
      show own_W p e below m T73 168 #[.val (.int x0), .val (.int x1), .val (.int x2), .val (.int x3), .val (.int x4), .val (.int x5), .val (.int c0), .val (.int c1), .val (.int c2), .val (.int c3), .val (.int (2 : Int32)), .val (.ref b33), .val (.ref rw67), .val (.ref b33)] [] _
      refine XS.aload X73.here hx rfl (hb hby at_168) rfl rfl ?_
      show own_W p e below m T73 170 #[.val (.int x0), .val (.int x1), .val (.int x2), .val (.int x3), .val (.int x4), .val (.int x5), .val (.int c0), .val (.int c1), .val (.int c2), .val (.int c3), .val (.int (2 : Int32)), .val (.ref b33), .val (.ref rw67), .val (.ref b33)] [(.ref b33)] _
      refine XS.ifnullNo X73.here hx rfl (hb hby at_170) rfl ?_
      show own_W p e below m T73 173 #[.val (.int x0), .val (.int x1), .val (.int x2), .val (.int x3), .val (.int x4), .val (.int x5), .val (.int c0), .val (.int c1), .val (.int c2), .val (.int c3), .val (.int (2 : Int32)), .val (.ref b33), .val (.ref rw67), .val (.ref b33)] [] _
      refine XS.aload X73.here hx rfl (hb hby at_173) rfl rfl ?_
      show own_W p e below m T73 175 #[.val (.int x0), .val (.int x1), .val (.int x2), .val (.int x3), .val (.int x4), .val (.int x5), .val (.int c0), .val (.int c1), .val (.int c2), .val (.int c3), .val (.int (2 : Int32)), .val (.ref b33), .val (.ref rw67), .val (.ref b33)] [(.ref b33)] _
      refine XS.aload X73.here hx rfl (hb hby at_175) rfl rfl ?_
      exact k)
    obtain ⟨cq76, kq76, qa76, qb76, qc76⟩ := isOf hZ e73 f69
    obtain ⟨_, _, ⟨T76, L76, k76, n76⟩, -, X76, ⟨Lc76, hQ76, l76, y76, z76⟩, st76⟩ := X73.virtualBack hx (y := (⟨"java/lang/String", "equals", "(Ljava/lang/Object;)Z"⟩ : MethodName)) (z := (⟨"java/lang/String", "equals", "(Ljava/lang/Object;)Z"⟩ : MethodName)) hown (mvT hZ (hw _ (List.mem_of_getElem? (i := 78) rfl))) (mvT hZ (hw _ (List.mem_of_getElem? (i := 79) rfl))) (notFace_of_selects (args := #[]) (mvT hZ (hw _ (List.mem_of_getElem? (i := 81) rfl)))) (mvT hZ (hw _ (List.mem_of_getElem? (i := 81) rfl))) (mvT hZ (hw _ (List.mem_of_getElem? (i := 80) rfl))) (by decide) (backOf (W := 0) (rmeq l Z a0 hw [] b33  T67.heap n0 Z67 ) hZ (hw _ (List.mem_of_getElem? (i := 82) rfl)) (hw _ (List.mem_of_getElem? (i := 7) rfl)) (by decide) (by decide)) qa76 qc76 (g := (mkF m 177 #[.val (.int x0), .val (.int x1), .val (.int x2), .val (.int x3), .val (.int x4), .val (.int x5), .val (.int c0), .val (.int c1), .val (.int c2), .val (.int c3), .val (.int (2 : Int32)), .val (.ref b33), .val (.ref rw67), .val (.ref b33)] [(.ref b33), (.ref b33)])) rfl (by rw [hml]; rfl) (Steps.refl _) (argsL := [(.ref b33)]) (rest := []) (lenOf pd0_3 rfl) rfl (by show 2 * 0 + _ ≤ _; exact Nat.le_of_eq rfl) (hb hby at_177) (fun _ _ => ⟨rfl, e73, (by decide : 6 + 0 ≤ _), (by decide : 18 + 0 ≤ _)⟩)
    dsimp only [Pt.U, Pt.locs, Pt.cells, Pt.slots] at X76 l76 y76 z76 st76 hQ76
    subst l76 y76 z76
    obtain ⟨rfl, Nq76, e76⟩ := hQ76
    have N76 := Fr.app N73 Nq76
    have p77 : ∀ t, own_W p e below m T76 180 #[.val (.int x0), .val (.int x1), .val (.int x2), .val (.int x3), .val (.int x4), .val (.int x5), .val (.int c0), .val (.int c1), .val (.int c2), .val (.int c3), .val (.int (2 : Int32)), .val (.ref b33), .val (.ref rw67), .val (.ref b33)] [(.int (1 : Int32))] t → Steps p.tables e below S0 t := fun t k => p75 t (st76.trans k)
    have p78 : ∀ t, own_W p e below m T76 188 #[.val (.int x0), .val (.int x1), .val (.int x2), .val (.int x3), .val (.int x4), .val (.int x5), .val (.int c0), .val (.int c1), .val (.int c2), .val (.int c3), .val (.int (2 : Int32)), .val (.ref b33), .val (.ref rw67), .val (.ref b33)] [(.int (1 : Int32))] t → Steps p.tables e below S0 t := fun t k => p77 t (by
      show own_W p e below m T76 180 #[.val (.int x0), .val (.int x1), .val (.int x2), .val (.int x3), .val (.int x4), .val (.int x5), .val (.int c0), .val (.int c1), .val (.int c2), .val (.int c3), .val (.int (2 : Int32)), .val (.ref b33), .val (.ref rw67), .val (.ref b33)] [(.int (1 : Int32))] _
      refine XS.ifNo X76.here hx rfl (hb hby at_180) rfl ((if0 _ _).trans (feq (by decide)).1) ?_
      show own_W p e below m T76 183 #[.val (.int x0), .val (.int x1), .val (.int x2), .val (.int x3), .val (.int x4), .val (.int x5), .val (.int c0), .val (.int c1), .val (.int c2), .val (.int c3), .val (.int (2 : Int32)), .val (.ref b33), .val (.ref rw67), .val (.ref b33)] [] _
      refine XS.iconst X76.here hx rfl (hb hby at_183) ?_
      show own_W p e below m T76 184 #[.val (.int x0), .val (.int x1), .val (.int x2), .val (.int x3), .val (.int x4), .val (.int x5), .val (.int c0), .val (.int c1), .val (.int c2), .val (.int c3), .val (.int (2 : Int32)), .val (.ref b33), .val (.ref rw67), .val (.ref b33)] [(.int (1 : Int32))] _
      refine XS.goto X76.here hx rfl (pc0 := 184) (pc' := 188) rfl (hb hby at_184) (by decide) (by decide) ?_
      exact k)
    subst hS0
    obtain ⟨fs, hr, hrun, hended, hW, hsame⟩ := X76.leave (v := some (.int (1 : Int32))) (fun h => by rw [Bd.returns] at h; cases h)
    refine ⟨_, _, p78 _ ?_, hrun, hended, _, _, rfl, ?_, ⟨_, rfl⟩, hW, hsame.mono (by decide) (by decide)⟩
    · show own_W p e below m T76 188 #[.val (.int x0), .val (.int x1), .val (.int x2), .val (.int x3), .val (.int x4), .val (.int x5), .val (.int c0), .val (.int c1), .val (.int c2), .val (.int c3), .val (.int (2 : Int32)), .val (.ref b33), .val (.ref rw67), .val (.ref b33)] [(.int (1 : Int32))] _
      exact retN X76 hx (t := .boolean) Bd.returns (by simp) (hb hby at_188) hr
    · show Q0 Z x0 x1 x2 x3 x4 x5 cs G h0 n0 _ T76.heap _
      rw [e76]
      exact ⟨rfl, N76⟩
  · have p79 : ∀ t, own_W p e below m T11 85 #[.val (.int x0), .val (.int x1), .val (.int x2), .val (.int x3), .val (.int x4), .val (.int x5), .val (.int c0), .val (.int c1), .val (.int c2), .val (.int c3), .val (.int (3 : Int32)), .unset, .unset, .unset] [] t → Steps p.tables e below S0 t := fun t k => p14 t (by
      show own_W p e below m T11 32 #[.val (.int x0), .val (.int x1), .val (.int x2), .val (.int x3), .val (.int x4), .val (.int x5), .val (.int c0), .val (.int c1), .val (.int c2), .val (.int c3), .val (.int (3 : Int32)), .unset, .unset, .unset] [] _
      refine XS.iload X11.here hx rfl (hb hby at_32) rfl ?_
      show own_W p e below m T11 34 #[.val (.int x0), .val (.int x1), .val (.int x2), .val (.int x3), .val (.int x4), .val (.int x5), .val (.int c0), .val (.int c1), .val (.int c2), .val (.int c3), .val (.int (3 : Int32)), .unset, .unset, .unset] [(.int (3 : Int32))] _
      refine XS.iconst X11.here hx rfl (hb hby at_34) ?_
      show own_W p e below m T11 35 #[.val (.int x0), .val (.int x1), .val (.int x2), .val (.int x3), .val (.int x4), .val (.int x5), .val (.int c0), .val (.int c1), .val (.int c2), .val (.int c3), .val (.int (3 : Int32)), .unset, .unset, .unset] [(.int (1 : Int32)), (.int (3 : Int32))] _
      refine XS.icmpYes X11.here hx rfl (pc0 := 35) (pc' := 48) rfl (hb hby at_35) rfl ((feq (by decide)).2) (by decide) (by decide) ?_
      show own_W p e below m T11 48 #[.val (.int x0), .val (.int x1), .val (.int x2), .val (.int x3), .val (.int x4), .val (.int x5), .val (.int c0), .val (.int c1), .val (.int c2), .val (.int c3), .val (.int (3 : Int32)), .unset, .unset, .unset] [] _
      refine XS.iload X11.here hx rfl (hb hby at_48) rfl ?_
      show own_W p e below m T11 50 #[.val (.int x0), .val (.int x1), .val (.int x2), .val (.int x3), .val (.int x4), .val (.int x5), .val (.int c0), .val (.int c1), .val (.int c2), .val (.int c3), .val (.int (3 : Int32)), .unset, .unset, .unset] [(.int (3 : Int32))] _
      refine XS.iconst X11.here hx rfl (hb hby at_50) ?_
      show own_W p e below m T11 51 #[.val (.int x0), .val (.int x1), .val (.int x2), .val (.int x3), .val (.int x4), .val (.int x5), .val (.int c0), .val (.int c1), .val (.int c2), .val (.int c3), .val (.int (3 : Int32)), .unset, .unset, .unset] [(.int (2 : Int32)), (.int (3 : Int32))] _
      refine XS.icmpYes X11.here hx rfl (pc0 := 51) (pc' := 79) rfl (hb hby at_51) rfl ((feq (by decide)).2) (by decide) (by decide) ?_
      show own_W p e below m T11 79 #[.val (.int x0), .val (.int x1), .val (.int x2), .val (.int x3), .val (.int x4), .val (.int x5), .val (.int c0), .val (.int c1), .val (.int c2), .val (.int c3), .val (.int (3 : Int32)), .unset, .unset, .unset] [] _
      refine XS.iload X11.here hx rfl (hb hby at_79) rfl ?_
      show own_W p e below m T11 81 #[.val (.int x0), .val (.int x1), .val (.int x2), .val (.int x3), .val (.int x4), .val (.int x5), .val (.int c0), .val (.int c1), .val (.int c2), .val (.int c3), .val (.int (3 : Int32)), .unset, .unset, .unset] [(.int (3 : Int32))] _
      refine XS.iconst X11.here hx rfl (hb hby at_81) ?_
      show own_W p e below m T11 82 #[.val (.int x0), .val (.int x1), .val (.int x2), .val (.int x3), .val (.int x4), .val (.int x5), .val (.int c0), .val (.int c1), .val (.int c2), .val (.int c3), .val (.int (3 : Int32)), .unset, .unset, .unset] [(.int (3 : Int32)), (.int (3 : Int32))] _
      refine XS.icmpNo X11.here hx rfl (hb hby at_82) rfl ((teq (rfl)).2) ?_
      exact k)
    obtain ⟨T80, h80, X80, e80, E80, A80, D80, -, st80⟩ := newO X11 hx hZ hown (hw _ (List.mem_of_getElem? (i := 83) rfl)) (hw _ (List.mem_of_getElem? (i := 15) rfl)) (hw _ (List.mem_of_getElem? (i := 7) rfl)) e11 (g := (mkF m 85 #[.val (.int x0), .val (.int x1), .val (.int x2), .val (.int x3), .val (.int x4), .val (.int x5), .val (.int c0), .val (.int c1), .val (.int c2), .val (.int c3), .val (.int (3 : Int32)), .unset, .unset, .unset] [])) rfl (hb hby at_85) (by decide) (by decide)
    obtain ⟨b80, g80⟩ : ∃ z, z = h0.size := ⟨_, rfl⟩
    rw [← g80] at A80 D80 st80
    have gn_b80 : n0 ≤ b80 := Nat.le_trans Z0 (Nat.le_of_eq g80.symm)
    have f81 := O0.ext E80
    have Z80 := Nat.le_trans Z0 E80.1
    have f82 : Fld Z h80 b80 "java/lang/String" "value" "[B" .null := D80 (Or.inr (hw _ (List.mem_of_getElem? (i := 28) rfl))) (ty := (.array .byte)) (by decide)
    have f83 : Fld Z h80 b80 "java/lang/String" "coder" "B" (.int (0 : Int32)) := D80 (Or.inr (hw _ (List.mem_of_getElem? (i := 30) rfl))) (ty := .byte) (by decide)
    have p84 : ∀ t, own_W p e below m T80 88 #[.val (.int x0), .val (.int x1), .val (.int x2), .val (.int x3), .val (.int x4), .val (.int x5), .val (.int c0), .val (.int c1), .val (.int c2), .val (.int c3), .val (.int (3 : Int32)), .unset, .unset, .unset] [(.ref b80)] t → Steps p.tables e below S0 t := fun t k => p79 t (st80 t k)
    have p85 : ∀ t, own_W p e below m T80 90 #[.val (.int x0), .val (.int x1), .val (.int x2), .val (.int x3), .val (.int x4), .val (.int x5), .val (.int c0), .val (.int c1), .val (.int c2), .val (.int c3), .val (.int (3 : Int32)), .unset, .unset, .unset] [(.int (3 : Int32)), (.ref b80), (.ref b80)] t → Steps p.tables e below S0 t := fun t k => p84 t (by
      show own_W p e below m T80 88 #[.val (.int x0), .val (.int x1), .val (.int x2), .val (.int x3), .val (.int x4), .val (.int x5), .val (.int c0), .val (.int c1), .val (.int c2), .val (.int c3), .val (.int (3 : Int32)), .unset, .unset, .unset] [(.ref b80)] _
      refine XS.dup X80.here hx rfl (hb hby at_88) rfl rfl ?_
      show own_W p e below m T80 89 #[.val (.int x0), .val (.int x1), .val (.int x2), .val (.int x3), .val (.int x4), .val (.int x5), .val (.int c0), .val (.int c1), .val (.int c2), .val (.int c3), .val (.int (3 : Int32)), .unset, .unset, .unset] [(.ref b80), (.ref b80)] _
      refine XS.iconst X80.here hx rfl (hb hby at_89) ?_
      exact k)
    obtain ⟨T86, h86, k86, X86, e86, E86, A86, st86⟩ := newP X80 hx hZ (hw _ (List.mem_of_getElem? (i := 84) rfl)) e80 (g := (mkF m 90 #[.val (.int x0), .val (.int x1), .val (.int x2), .val (.int x3), .val (.int x4), .val (.int x5), .val (.int c0), .val (.int c1), .val (.int c2), .val (.int c3), .val (.int (3 : Int32)), .unset, .unset, .unset] [(.int (3 : Int32)), (.ref b80), (.ref b80)])) rfl (hb hby at_90) rfl (by decide) (cap := 3) (by decide) (by decide) (by decide) (by decide)
    obtain ⟨b86, g86⟩ : ∃ z, z = h80.size := ⟨_, rfl⟩
    rw [← g86] at A86 st86
    have gn_b86 : n0 ≤ b86 := Nat.le_trans Z80 (Nat.le_of_eq g86.symm)
    have ne87 : b80 ≠ b86 := Nat.ne_of_lt (Nat.lt_of_lt_of_le A80.lt (Nat.le_of_eq g86.symm))
    have f88 := f81.ext E86
    have f89 := A80.ext E86
    have f90 := f82.ext E86
    have f91 := f83.ext E86
    have Z86 := Nat.le_trans Z80 E86.1
    have VV86 : Arv Z h86 b86 k86 .char (3 : Int32) [(.int (0 : Int32)), (.int (0 : Int32)), (.int (0 : Int32))] (.int (0 : Int32)) := (Arv.new A86 (by decide)).pad (pad_rep [] (.int (0 : Int32)) 3)
    have p92 : ∀ t, own_W p e below m T86 92 #[.val (.int x0), .val (.int x1), .val (.int x2), .val (.int x3), .val (.int x4), .val (.int x5), .val (.int c0), .val (.int c1), .val (.int c2), .val (.int c3), .val (.int (3 : Int32)), .unset, .unset, .unset] [(.ref b86), (.ref b80), (.ref b80)] t → Steps p.tables e below S0 t := fun t k => p85 t (st86 t k)
    have p93 : ∀ t, own_W p e below m T86 96 #[.val (.int x0), .val (.int x1), .val (.int x2), .val (.int x3), .val (.int x4), .val (.int x5), .val (.int c0), .val (.int c1), .val (.int c2), .val (.int c3), .val (.int (3 : Int32)), .unset, .unset, .unset] [(.int c0), (.int (0 : Int32)), (.ref b86), (.ref b86), (.ref b80), (.ref b80)] t → Steps p.tables e below S0 t := fun t k => p92 t (by
      show own_W p e below m T86 92 #[.val (.int x0), .val (.int x1), .val (.int x2), .val (.int x3), .val (.int x4), .val (.int x5), .val (.int c0), .val (.int c1), .val (.int c2), .val (.int c3), .val (.int (3 : Int32)), .unset, .unset, .unset] [(.ref b86), (.ref b80), (.ref b80)] _
      refine XS.dup X86.here hx rfl (hb hby at_92) rfl rfl ?_
      show own_W p e below m T86 93 #[.val (.int x0), .val (.int x1), .val (.int x2), .val (.int x3), .val (.int x4), .val (.int x5), .val (.int c0), .val (.int c1), .val (.int c2), .val (.int c3), .val (.int (3 : Int32)), .unset, .unset, .unset] [(.ref b86), (.ref b86), (.ref b80), (.ref b80)] _
      refine XS.iconst X86.here hx rfl (hb hby at_93) ?_
      show own_W p e below m T86 94 #[.val (.int x0), .val (.int x1), .val (.int x2), .val (.int x3), .val (.int x4), .val (.int x5), .val (.int c0), .val (.int c1), .val (.int c2), .val (.int c3), .val (.int (3 : Int32)), .unset, .unset, .unset] [(.int (0 : Int32)), (.ref b86), (.ref b86), (.ref b80), (.ref b80)] _
      refine XS.iload X86.here hx rfl (hb hby at_94) rfl ?_
      exact k)
    obtain ⟨cl94, Ar94, q94, Sz94, Ng94, Hs94, G94⟩ := id VV86
    have hin94 : ¬ ((0 : Int32) < 0 ∨ cl94.slots.size ≤ ((0 : Int32)).toNatClampNeg) := inb_of Sz94 (⟨by decide, by decide⟩)
    obtain ⟨T94, h94, X94, e94, W94, st94⟩ := stC X86 hx hZ e86 Ar94 (j := (0 : Int32)) hin94 (g := (mkF m 96 #[.val (.int x0), .val (.int x1), .val (.int x2), .val (.int x3), .val (.int x4), .val (.int x5), .val (.int c0), .val (.int c1), .val (.int c2), .val (.int c3), .val (.int (3 : Int32)), .unset, .unset, .unset] [(.int c0), (.int (0 : Int32)), (.ref b86), (.ref b86), (.ref b80), (.ref b80)])) rfl rfl (hb hby at_96)
    have VV94 : Arv Z h94 b86 k86 .char (3 : Int32) [(.int (nar .char c0)), (.int (0 : Int32)), (.int (0 : Int32))] (.int (0 : Int32)) := Arv.set Ar94 q94 Sz94 Ng94 Hs94 G94 (fits_nar_char _) W94 0 (by decide) (Nat.le_of_ble_eq_true rfl)
    have f95 := f88.wr W94 gn_b86
    have f96 := f89.wr W94
    have f97 := f90.other W94 (Or.inl ne87)
    have f98 := f91.other W94 (Or.inl ne87)
    have Z94 := Nat.le_trans Z86 (Keep.of_wr W94).1
    have N94 := Fr.snoc X94 N11 gn_b86
    have p99 : ∀ t, own_W p e below m T94 97 #[.val (.int x0), .val (.int x1), .val (.int x2), .val (.int x3), .val (.int x4), .val (.int x5), .val (.int c0), .val (.int c1), .val (.int c2), .val (.int c3), .val (.int (3 : Int32)), .unset, .unset, .unset] [(.ref b86), (.ref b80), (.ref b80)] t → Steps p.tables e below S0 t := fun t k => p93 t (st94 t k)
    have p100 : ∀ t, own_W p e below m T94 101 #[.val (.int x0), .val (.int x1), .val (.int x2), .val (.int x3), .val (.int x4), .val (.int x5), .val (.int c0), .val (.int c1), .val (.int c2), .val (.int c3), .val (.int (3 : Int32)), .unset, .unset, .unset] [(.int c1), (.int (1 : Int32)), (.ref b86), (.ref b86), (.ref b80), (.ref b80)] t → Steps p.tables e below S0 t := fun t k => p99 t (by
      show own_W p e below m T94 97 #[.val (.int x0), .val (.int x1), .val (.int x2), .val (.int x3), .val (.int x4), .val (.int x5), .val (.int c0), .val (.int c1), .val (.int c2), .val (.int c3), .val (.int (3 : Int32)), .unset, .unset, .unset] [(.ref b86), (.ref b80), (.ref b80)] _
      refine XS.dup X94.here hx rfl (hb hby at_97) rfl rfl ?_
      show own_W p e below m T94 98 #[.val (.int x0), .val (.int x1), .val (.int x2), .val (.int x3), .val (.int x4), .val (.int x5), .val (.int c0), .val (.int c1), .val (.int c2), .val (.int c3), .val (.int (3 : Int32)), .unset, .unset, .unset] [(.ref b86), (.ref b86), (.ref b80), (.ref b80)] _
      refine XS.iconst X94.here hx rfl (hb hby at_98) ?_
      show own_W p e below m T94 99 #[.val (.int x0), .val (.int x1), .val (.int x2), .val (.int x3), .val (.int x4), .val (.int x5), .val (.int c0), .val (.int c1), .val (.int c2), .val (.int c3), .val (.int (3 : Int32)), .unset, .unset, .unset] [(.int (1 : Int32)), (.ref b86), (.ref b86), (.ref b80), (.ref b80)] _
      refine XS.iload X94.here hx rfl (hb hby at_99) rfl ?_
      exact k)
    obtain ⟨cl101, Ar101, q101, Sz101, Ng101, Hs101, G101⟩ := id VV94
    have hin101 : ¬ ((1 : Int32) < 0 ∨ cl101.slots.size ≤ ((1 : Int32)).toNatClampNeg) := inb_of Sz101 (⟨by decide, by decide⟩)
    obtain ⟨T101, h101, X101, e101, W101, st101⟩ := stC X94 hx hZ e94 Ar101 (j := (1 : Int32)) hin101 (g := (mkF m 101 #[.val (.int x0), .val (.int x1), .val (.int x2), .val (.int x3), .val (.int x4), .val (.int x5), .val (.int c0), .val (.int c1), .val (.int c2), .val (.int c3), .val (.int (3 : Int32)), .unset, .unset, .unset] [(.int c1), (.int (1 : Int32)), (.ref b86), (.ref b86), (.ref b80), (.ref b80)])) rfl rfl (hb hby at_101)
    have VV101 : Arv Z h101 b86 k86 .char (3 : Int32) [(.int (nar .char c0)), (.int (nar .char c1)), (.int (0 : Int32))] (.int (0 : Int32)) := Arv.set Ar101 q101 Sz101 Ng101 Hs101 G101 (fits_nar_char _) W101 1 (by decide) (Nat.le_of_ble_eq_true rfl)
    have f102 := f95.wr W101 gn_b86
    have f103 := f96.wr W101
    have f104 := f97.other W101 (Or.inl ne87)
    have f105 := f98.other W101 (Or.inl ne87)
    have Z101 := Nat.le_trans Z94 (Keep.of_wr W101).1
    have N101 := Fr.snoc X101 N94 gn_b86
    have p106 : ∀ t, own_W p e below m T101 102 #[.val (.int x0), .val (.int x1), .val (.int x2), .val (.int x3), .val (.int x4), .val (.int x5), .val (.int c0), .val (.int c1), .val (.int c2), .val (.int c3), .val (.int (3 : Int32)), .unset, .unset, .unset] [(.ref b86), (.ref b80), (.ref b80)] t → Steps p.tables e below S0 t := fun t k => p100 t (st101 t k)
    have p107 : ∀ t, own_W p e below m T101 106 #[.val (.int x0), .val (.int x1), .val (.int x2), .val (.int x3), .val (.int x4), .val (.int x5), .val (.int c0), .val (.int c1), .val (.int c2), .val (.int c3), .val (.int (3 : Int32)), .unset, .unset, .unset] [(.int c2), (.int (2 : Int32)), (.ref b86), (.ref b86), (.ref b80), (.ref b80)] t → Steps p.tables e below S0 t := fun t k => p106 t (by
      show own_W p e below m T101 102 #[.val (.int x0), .val (.int x1), .val (.int x2), .val (.int x3), .val (.int x4), .val (.int x5), .val (.int c0), .val (.int c1), .val (.int c2), .val (.int c3), .val (.int (3 : Int32)), .unset, .unset, .unset] [(.ref b86), (.ref b80), (.ref b80)] _
      refine XS.dup X101.here hx rfl (hb hby at_102) rfl rfl ?_
      show own_W p e below m T101 103 #[.val (.int x0), .val (.int x1), .val (.int x2), .val (.int x3), .val (.int x4), .val (.int x5), .val (.int c0), .val (.int c1), .val (.int c2), .val (.int c3), .val (.int (3 : Int32)), .unset, .unset, .unset] [(.ref b86), (.ref b86), (.ref b80), (.ref b80)] _
      refine XS.iconst X101.here hx rfl (hb hby at_103) ?_
      show own_W p e below m T101 104 #[.val (.int x0), .val (.int x1), .val (.int x2), .val (.int x3), .val (.int x4), .val (.int x5), .val (.int c0), .val (.int c1), .val (.int c2), .val (.int c3), .val (.int (3 : Int32)), .unset, .unset, .unset] [(.int (2 : Int32)), (.ref b86), (.ref b86), (.ref b80), (.ref b80)] _
      refine XS.iload X101.here hx rfl (hb hby at_104) rfl ?_
      exact k)
    obtain ⟨cl108, Ar108, q108, Sz108, Ng108, Hs108, G108⟩ := id VV101
    have hin108 : ¬ ((2 : Int32) < 0 ∨ cl108.slots.size ≤ ((2 : Int32)).toNatClampNeg) := inb_of Sz108 (⟨by decide, by decide⟩)
    obtain ⟨T108, h108, X108, e108, W108, st108⟩ := stC X101 hx hZ e101 Ar108 (j := (2 : Int32)) hin108 (g := (mkF m 106 #[.val (.int x0), .val (.int x1), .val (.int x2), .val (.int x3), .val (.int x4), .val (.int x5), .val (.int c0), .val (.int c1), .val (.int c2), .val (.int c3), .val (.int (3 : Int32)), .unset, .unset, .unset] [(.int c2), (.int (2 : Int32)), (.ref b86), (.ref b86), (.ref b80), (.ref b80)])) rfl rfl (hb hby at_106)
    have VV108 : Arv Z h108 b86 k86 .char (3 : Int32) [(.int (nar .char c0)), (.int (nar .char c1)), (.int (nar .char c2))] (.int (0 : Int32)) := Arv.set Ar108 q108 Sz108 Ng108 Hs108 G108 (fits_nar_char _) W108 2 (by decide) (Nat.le_of_ble_eq_true rfl)
    have f109 := f102.wr W108 gn_b86
    have f110 := f103.wr W108
    have f111 := f104.other W108 (Or.inl ne87)
    have f112 := f105.other W108 (Or.inl ne87)
    have Z108 := Nat.le_trans Z101 (Keep.of_wr W108).1
    have N108 := Fr.snoc X108 N101 gn_b86
    have p113 : ∀ t, own_W p e below m T108 107 #[.val (.int x0), .val (.int x1), .val (.int x2), .val (.int x3), .val (.int x4), .val (.int x5), .val (.int c0), .val (.int c1), .val (.int c2), .val (.int c3), .val (.int (3 : Int32)), .unset, .unset, .unset] [(.ref b86), (.ref b80), (.ref b80)] t → Steps p.tables e below S0 t := fun t k => p107 t (st108 t k)
    have VH114 : Arv Z h108 b86 k86 .char (3 : Int32) [(.int c0), (.int c1), (.int c2)] (.int (0 : Int32)) := by
      have q := VV108
      rw [own_nok ko0, own_nok ko1, own_nok ko2] at q
      exact q
    obtain ⟨_, _, ⟨T115, L115, k115, n115⟩, -, X115, ⟨Lc115, hQ115, l115, y115, z115⟩, st115⟩ := X108.specialBack hx (y := (⟨"java/lang/String", "<init>", "([C)V"⟩ : MethodName)) rfl hown (mvT hZ (hw _ (List.mem_of_getElem? (i := 85) rfl))) (mvT hZ (hw _ (List.mem_of_getElem? (i := 86) rfl))) (mvT hZ (hw _ (List.mem_of_getElem? (i := 87) rfl))) (by decide) (backOf (W := 1) (rmi13 l Z a0 hw [] b80 b86 k86 c0 c1 c2 cs G h108 n0 Z108 f110 f112 f111 gn_b80 VH114 ne87 ko0 ko1 ko2 f109 st) hZ (hw _ (List.mem_of_getElem? (i := 87) rfl)) (hw _ (List.mem_of_getElem? (i := 7) rfl)) (by decide) (by decide)) (g := (mkF m 107 #[.val (.int x0), .val (.int x1), .val (.int x2), .val (.int x3), .val (.int x4), .val (.int x5), .val (.int c0), .val (.int c1), .val (.int c2), .val (.int c3), .val (.int (3 : Int32)), .unset, .unset, .unset] [(.ref b86), (.ref b80), (.ref b80)])) rfl (by rw [hml]; rfl) (Steps.refl _) (a := b80) (argsL := [(.ref b86)]) (rest := [(.ref b80)]) (lenOf pd0_4 rfl) rfl (by show 2 * 0 + _ ≤ _; exact Nat.le_of_eq rfl) (hb hby at_107) (fun _ _ => ⟨rfl, e108, (by decide : 2 + 2 ≤ _), (by decide : 7 + 9 ≤ _)⟩)
    dsimp only [Pt.U, Pt.locs, Pt.cells, Pt.slots] at X115 l115 y115 z115 st115 hQ115
    subst l115 y115 z115
    obtain ⟨rfl, Nq115, K115, HQ115⟩ := hQ115
    have N115 := Fr.app N108 Nq115
    have f116 := f109.keep K115 (allS gn_b80 (all0))
    have f117 := f110.keep K115
    have f118 := VH114.keep K115 (ninS (Ne.symm ne87) nin0)
    have Z115 := Nat.le_trans Z108 K115.1
    have p119 : ∀ t, own_W p e below m T115 110 #[.val (.int x0), .val (.int x1), .val (.int x2), .val (.int x3), .val (.int x4), .val (.int x5), .val (.int c0), .val (.int c1), .val (.int c2), .val (.int c3), .val (.int (3 : Int32)), .unset, .unset, .unset] [(.ref b80)] t → Steps p.tables e below S0 t := fun t k => p113 t (st115.trans k)
    obtain ⟨tv, kb, HV, HD⟩ := HQ115
    have p120 : ∀ t, own_W p e below m T115 154 #[.val (.int x0), .val (.int x1), .val (.int x2), .val (.int x3), .val (.int x4), .val (.int x5), .val (.int c0), .val (.int c1), .val (.int c2), .val (.int c3), .val (.int (3 : Int32)), .val (.ref b80), .unset, .unset] [(.int ((x5 &&& (255 : Int32)).toUInt32.toUInt16.toUInt32.toInt32))] t → Steps p.tables e below S0 t := fun t k => p119 t (by
      show own_W p e below m T115 110 #[.val (.int x0), .val (.int x1), .val (.int x2), .val (.int x3), .val (.int x4), .val (.int x5), .val (.int c0), .val (.int c1), .val (.int c2), .val (.int c3), .val (.int (3 : Int32)), .unset, .unset, .unset] [(.ref b80)] _
      refine XS.astore X115.here hx rfl (hb hby at_110) rfl rfl (l' := #[.val (.int x0), .val (.int x1), .val (.int x2), .val (.int x3), .val (.int x4), .val (.int x5), .val (.int c0), .val (.int c1), .val (.int c2), .val (.int c3), .val (.int (3 : Int32)), .val (.ref b80), .unset, .unset]) rfl ?_
      show own_W p e below m T115 112 #[.val (.int x0), .val (.int x1), .val (.int x2), .val (.int x3), .val (.int x4), .val (.int x5), .val (.int c0), .val (.int c1), .val (.int c2), .val (.int c3), .val (.int (3 : Int32)), .val (.ref b80), .unset, .unset] [] _
      refine XS.goto X115.here hx rfl (pc0 := 112) (pc' := 147) rfl (hb hby at_112) (by decide) (by decide) ?_
      show own_W p e below m T115 147 #[.val (.int x0), .val (.int x1), .val (.int x2), .val (.int x3), .val (.int x4), .val (.int x5), .val (.int c0), .val (.int c1), .val (.int c2), .val (.int c3), .val (.int (3 : Int32)), .val (.ref b80), .unset, .unset] [] _
      refine XS.iload X115.here hx rfl (hb hby at_147) rfl ?_
      show own_W p e below m T115 149 #[.val (.int x0), .val (.int x1), .val (.int x2), .val (.int x3), .val (.int x4), .val (.int x5), .val (.int c0), .val (.int c1), .val (.int c2), .val (.int c3), .val (.int (3 : Int32)), .val (.ref b80), .unset, .unset] [(.int x5)] _
      refine XS.sipush X115.here hx rfl (hb hby at_149) ?_
      show own_W p e below m T115 152 #[.val (.int x0), .val (.int x1), .val (.int x2), .val (.int x3), .val (.int x4), .val (.int x5), .val (.int c0), .val (.int c1), .val (.int c2), .val (.int c3), .val (.int (3 : Int32)), .val (.ref b80), .unset, .unset] [(.int (255 : Int32)), (.int x5)] _
      refine XS.iand X115.here hx rfl (hb hby at_152) rfl ?_
      show own_W p e below m T115 153 #[.val (.int x0), .val (.int x1), .val (.int x2), .val (.int x3), .val (.int x4), .val (.int x5), .val (.int c0), .val (.int c1), .val (.int c2), .val (.int c3), .val (.int (3 : Int32)), .val (.ref b80), .unset, .unset] [(.int (x5 &&& (255 : Int32)))] _
      refine XS.i2c X115.here hx rfl (hb hby at_153) rfl ?_
      exact k)
    have HL : own_LN Z T115.heap b80 tv kb (3 : Int32) := by
      rcases HD with ⟨a, b, -⟩ | ⟨a, b⟩
      · exact ⟨_, _, b, by decide, Or.inl ⟨a, by decide⟩⟩
      · exact ⟨_, _, b, by decide, Or.inr ⟨a, by decide⟩⟩
    have H0 : own_CH Z T115.heap b80 tv kb (0 : Int32) c0 := by
      rcases HD with ⟨a, b, u, -, -⟩ | ⟨a, b⟩
      · exact Or.inl ⟨a, _, _, b, ⟨by decide, by decide⟩, rfl, u⟩
      · exact Or.inr ⟨a, _, _, b, ⟨by decide, by decide⟩, ⟨by decide, by decide⟩, ⟨by decide, by decide⟩, rfl, rfl⟩
    have H1 : own_CH Z T115.heap b80 tv kb (1 : Int32) c1 := by
      rcases HD with ⟨a, b, -, u, -⟩ | ⟨a, b⟩
      · exact Or.inl ⟨a, _, _, b, ⟨by decide, by decide⟩, rfl, u⟩
      · exact Or.inr ⟨a, _, _, b, ⟨by decide, by decide⟩, ⟨by decide, by decide⟩, ⟨by decide, by decide⟩, rfl, rfl⟩
    have H2 : own_CH Z T115.heap b80 tv kb (2 : Int32) c2 := by
      rcases HD with ⟨a, b, -, -, u⟩ | ⟨a, b⟩
      · exact Or.inl ⟨a, _, _, b, ⟨by decide, by decide⟩, rfl, u⟩
      · exact Or.inr ⟨a, _, _, b, ⟨by decide, by decide⟩, ⟨by decide, by decide⟩, ⟨by decide, by decide⟩, rfl, rfl⟩
    obtain ⟨_, _, ⟨T121, L121, k121, n121⟩, -, X121, ⟨Lc121, hQ121, l121, y121, z121⟩, st121⟩ := Jvm.LawKit.callS X115 hx (y := (⟨"java/lang/String", "valueOf", "(C)Ljava/lang/String;"⟩ : MethodName)) hown (mvT hZ (hw _ (List.mem_of_getElem? (i := 5) rfl))) (mvT hZ (hw _ (List.mem_of_getElem? (i := 6) rfl))) (mvT hZ (hw _ (List.mem_of_getElem? (i := 7) rfl))) (mvT hZ (hw _ (List.mem_of_getElem? (i := 8) rfl))) (by decide) (backOf (W := 0) (rmvo l Z a0 hw [] ((x5 &&& (255 : Int32)).toUInt32.toUInt16.toUInt32.toInt32) cs G T115.heap n0 Z115 f116 st) hZ (hw _ (List.mem_of_getElem? (i := 8) rfl)) (hw _ (List.mem_of_getElem? (i := 7) rfl)) (by decide) (by decide)) (g := (mkF m 154 #[.val (.int x0), .val (.int x1), .val (.int x2), .val (.int x3), .val (.int x4), .val (.int x5), .val (.int c0), .val (.int c1), .val (.int c2), .val (.int c3), .val (.int (3 : Int32)), .val (.ref b80), .unset, .unset] [(.int ((x5 &&& (255 : Int32)).toUInt32.toUInt16.toUInt32.toInt32))])) rfl (by rw [hml]; rfl) (argsL := [(.int ((x5 &&& (255 : Int32)).toUInt32.toUInt16.toUInt32.toInt32))]) (rest := []) (lenOf pd0_1 rfl) rfl (by show 2 * 0 + _ ≤ _; exact Nat.le_of_eq rfl) (hb hby at_154) (fun _ _ => ⟨rfl, rfl, (by decide : 4 + 2 ≤ _), (by decide : 16 + 6 ≤ _)⟩)
    dsimp only [Pt.U, Pt.locs, Pt.cells, Pt.slots] at X121 l121 y121 z121 st121 hQ121
    subst l121 y121 z121
    obtain ⟨-, rw121, tw121, kw121, rfl, Nq121, K121, EW121, VW121, DW121⟩ := hQ121
    have N121 := Fr.app N115 Nq121
    have f122 := f116.keep K121 (all0)
    have f123 := f117.keep K121
    have f124 := HV.keep K121 nin0
    have Z121 := Nat.le_trans Z115 K121.1
    have p125 : ∀ t, own_W p e below m T121 157 #[.val (.int x0), .val (.int x1), .val (.int x2), .val (.int x3), .val (.int x4), .val (.int x5), .val (.int c0), .val (.int c1), .val (.int c2), .val (.int c3), .val (.int (3 : Int32)), .val (.ref b80), .unset, .unset] [(.ref rw121)] t → Steps p.tables e below S0 t := fun t k => p120 t (st121 _ k)
    have HL := own_LNk HL K121
    have H0 := own_CHk H0 K121
    have H1 := own_CHk H1 K121
    have H2 := own_CHk H2 K121
    have p126 : ∀ t, own_W p e below m T121 163 #[.val (.int x0), .val (.int x1), .val (.int x2), .val (.int x3), .val (.int x4), .val (.int x5), .val (.int c0), .val (.int c1), .val (.int c2), .val (.int c3), .val (.int (3 : Int32)), .val (.ref b80), .val (.ref rw121), .unset] [(.ref b80), (.ref rw121)] t → Steps p.tables e below S0 t := fun t k => p125 t (by
      show own_W p e below m T121 157 #[.val (.int x0), .val (.int x1), .val (.int x2), .val (.int x3), .val (.int x4), .val (.int x5), .val (.int c0), .val (.int c1), .val (.int c2), .val (.int c3), .val (.int (3 : Int32)), .val (.ref b80), .unset, .unset] [(.ref rw121)] _
      refine XS.astore X121.here hx rfl (hb hby at_157) rfl rfl (l' := #[.val (.int x0), .val (.int x1), .val (.int x2), .val (.int x3), .val (.int x4), .val (.int x5), .val (.int c0), .val (.int c1), .val (.int c2), .val (.int c3), .val (.int (3 : Int32)), .val (.ref b80), .val (.ref rw121), .unset]) rfl ?_
      show own_W p e below m T121 159 #[.val (.int x0), .val (.int x1), .val (.int x2), .val (.int x3), .val (.int x4), .val (.int x5), .val (.int c0), .val (.int c1), .val (.int c2), .val (.int c3), .val (.int (3 : Int32)), .val (.ref b80), .val (.ref rw121), .unset] [] _
      refine XS.aload X121.here hx rfl (hb hby at_159) rfl rfl ?_
      show own_W p e below m T121 161 #[.val (.int x0), .val (.int x1), .val (.int x2), .val (.int x3), .val (.int x4), .val (.int x5), .val (.int c0), .val (.int c1), .val (.int c2), .val (.int c3), .val (.int (3 : Int32)), .val (.ref b80), .val (.ref rw121), .unset] [(.ref rw121)] _
      refine XS.aload X121.here hx rfl (hb hby at_161) rfl rfl ?_
      exact k)
    obtain ⟨_, _, ⟨T127, L127, k127, n127⟩, -, X127, ⟨Lc127, hQ127, l127, y127, z127⟩, st127⟩ := Jvm.LawKit.callS X121 hx (y := (⟨"com/example/disposition/disposition/Names", "require", "(Ljava/lang/String;Ljava/lang/String;)Ljava/lang/String;"⟩ : MethodName)) hown (mvT hZ (hw _ (List.mem_of_getElem? (i := 31) rfl))) (mvT hZ (hw _ (List.mem_of_getElem? (i := 32) rfl))) (mvT hZ (hw _ (List.mem_of_getElem? (i := 33) rfl))) (mvT hZ (hw _ (List.mem_of_getElem? (i := 34) rfl))) (by decide) (backOf (W := 0) (rmrq3 l Z a0 hw [] rw121 b80 tv kb c0 c1 c2 cs G T121.heap n0 Z121 f123 f124 HL H0 H1 H2 ko0 ko1 ko2 f122 st) hZ (hw _ (List.mem_of_getElem? (i := 34) rfl)) (hw _ (List.mem_of_getElem? (i := 33) rfl)) (by decide) (by decide)) (g := (mkF m 163 #[.val (.int x0), .val (.int x1), .val (.int x2), .val (.int x3), .val (.int x4), .val (.int x5), .val (.int c0), .val (.int c1), .val (.int c2), .val (.int c3), .val (.int (3 : Int32)), .val (.ref b80), .val (.ref rw121), .unset] [(.ref b80), (.ref rw121)])) rfl (by rw [hml]; rfl) (argsL := [(.ref rw121), (.ref b80)]) (rest := []) (lenOf pd0_2 rfl) rfl (by show 2 * 0 + _ ≤ _; exact Nat.le_of_eq rfl) (hb hby at_163) (fun _ _ => ⟨rfl, rfl, (by decide : 6 + 0 ≤ _), (by decide : 22 + 0 ≤ _)⟩)
    dsimp only [Pt.U, Pt.locs, Pt.cells, Pt.slots] at X127 l127 y127 z127 st127 hQ127
    subst l127 y127 z127
    obtain ⟨rfl, Nq127, e127⟩ := hQ127
    have N127 := Fr.app N121 Nq127
    have p128 : ∀ t, own_W p e below m T127 166 #[.val (.int x0), .val (.int x1), .val (.int x2), .val (.int x3), .val (.int x4), .val (.int x5), .val (.int c0), .val (.int c1), .val (.int c2), .val (.int c3), .val (.int (3 : Int32)), .val (.ref b80), .val (.ref rw121), .unset] [(.ref b80)] t → Steps p.tables e below S0 t := fun t k => p126 t (st127 _ k)
    have p129 : ∀ t, own_W p e below m T127 177 #[.val (.int x0), .val (.int x1), .val (.int x2), .val (.int x3), .val (.int x4), .val (.int x5), .val (.int c0), .val (.int c1), .val (.int c2), .val (.int c3), .val (.int (3 : Int32)), .val (.ref b80), .val (.ref rw121), .val (.ref b80)] [(.ref b80), (.ref b80)] t → Steps p.tables e below S0 t := fun t k => p128 t (by
      show own_W p e below m T127 166 #[.val (.int x0), .val (.int x1), .val (.int x2), .val (.int x3), .val (.int x4), .val (.int x5), .val (.int c0), .val (.int c1), .val (.int c2), .val (.int c3), .val (.int (3 : Int32)), .val (.ref b80), .val (.ref rw121), .unset] [(.ref b80)] _
      refine XS.astore X127.here hx rfl (hb hby at_166) rfl rfl (l' := #[.val (.int x0), .val (.int x1), .val (.int x2), .val (.int x3), .val (.int x4), .val (.int x5), .val (.int c0), .val (.int c1), .val (.int c2), .val (.int c3), .val (.int (3 : Int32)), .val (.ref b80), .val (.ref rw121), .val (.ref b80)]) rfl ?_
      show own_W p e below m T127 168 #[.val (.int x0), .val (.int x1), .val (.int x2), .val (.int x3), .val (.int x4), .val (.int x5), .val (.int c0), .val (.int c1), .val (.int c2), .val (.int c3), .val (.int (3 : Int32)), .val (.ref b80), .val (.ref rw121), .val (.ref b80)] [] _
      refine XS.aload X127.here hx rfl (hb hby at_168) rfl rfl ?_
      show own_W p e below m T127 170 #[.val (.int x0), .val (.int x1), .val (.int x2), .val (.int x3), .val (.int x4), .val (.int x5), .val (.int c0), .val (.int c1), .val (.int c2), .val (.int c3), .val (.int (3 : Int32)), .val (.ref b80), .val (.ref rw121), .val (.ref b80)] [(.ref b80)] _
      refine XS.ifnullNo X127.here hx rfl (hb hby at_170) rfl ?_
      show own_W p e below m T127 173 #[.val (.int x0), .val (.int x1), .val (.int x2), .val (.int x3), .val (.int x4), .val (.int x5), .val (.int c0), .val (.int c1), .val (.int c2), .val (.int c3), .val (.int (3 : Int32)), .val (.ref b80), .val (.ref rw121), .val (.ref b80)] [] _
      refine XS.aload X127.here hx rfl (hb hby at_173) rfl rfl ?_
      show own_W p e below m T127 175 #[.val (.int x0), .val (.int x1), .val (.int x2), .val (.int x3), .val (.int x4), .val (.int x5), .val (.int c0), .val (.int c1), .val (.int c2), .val (.int c3), .val (.int (3 : Int32)), .val (.ref b80), .val (.ref rw121), .val (.ref b80)] [(.ref b80)] _
      refine XS.aload X127.here hx rfl (hb hby at_175) rfl rfl ?_
      exact k)
    obtain ⟨cq130, kq130, qa130, qb130, qc130⟩ := isOf hZ e127 f123
    obtain ⟨_, _, ⟨T130, L130, k130, n130⟩, -, X130, ⟨Lc130, hQ130, l130, y130, z130⟩, st130⟩ := X127.virtualBack hx (y := (⟨"java/lang/String", "equals", "(Ljava/lang/Object;)Z"⟩ : MethodName)) (z := (⟨"java/lang/String", "equals", "(Ljava/lang/Object;)Z"⟩ : MethodName)) hown (mvT hZ (hw _ (List.mem_of_getElem? (i := 78) rfl))) (mvT hZ (hw _ (List.mem_of_getElem? (i := 79) rfl))) (notFace_of_selects (args := #[]) (mvT hZ (hw _ (List.mem_of_getElem? (i := 81) rfl)))) (mvT hZ (hw _ (List.mem_of_getElem? (i := 81) rfl))) (mvT hZ (hw _ (List.mem_of_getElem? (i := 80) rfl))) (by decide) (backOf (W := 0) (rmeq l Z a0 hw [] b80  T121.heap n0 Z121 ) hZ (hw _ (List.mem_of_getElem? (i := 82) rfl)) (hw _ (List.mem_of_getElem? (i := 7) rfl)) (by decide) (by decide)) qa130 qc130 (g := (mkF m 177 #[.val (.int x0), .val (.int x1), .val (.int x2), .val (.int x3), .val (.int x4), .val (.int x5), .val (.int c0), .val (.int c1), .val (.int c2), .val (.int c3), .val (.int (3 : Int32)), .val (.ref b80), .val (.ref rw121), .val (.ref b80)] [(.ref b80), (.ref b80)])) rfl (by rw [hml]; rfl) (Steps.refl _) (argsL := [(.ref b80)]) (rest := []) (lenOf pd0_3 rfl) rfl (by show 2 * 0 + _ ≤ _; exact Nat.le_of_eq rfl) (hb hby at_177) (fun _ _ => ⟨rfl, e127, (by decide : 6 + 0 ≤ _), (by decide : 22 + 0 ≤ _)⟩)
    dsimp only [Pt.U, Pt.locs, Pt.cells, Pt.slots] at X130 l130 y130 z130 st130 hQ130
    subst l130 y130 z130
    obtain ⟨rfl, Nq130, e130⟩ := hQ130
    have N130 := Fr.app N127 Nq130
    have p131 : ∀ t, own_W p e below m T130 180 #[.val (.int x0), .val (.int x1), .val (.int x2), .val (.int x3), .val (.int x4), .val (.int x5), .val (.int c0), .val (.int c1), .val (.int c2), .val (.int c3), .val (.int (3 : Int32)), .val (.ref b80), .val (.ref rw121), .val (.ref b80)] [(.int (1 : Int32))] t → Steps p.tables e below S0 t := fun t k => p129 t (st130.trans k)
    have p132 : ∀ t, own_W p e below m T130 188 #[.val (.int x0), .val (.int x1), .val (.int x2), .val (.int x3), .val (.int x4), .val (.int x5), .val (.int c0), .val (.int c1), .val (.int c2), .val (.int c3), .val (.int (3 : Int32)), .val (.ref b80), .val (.ref rw121), .val (.ref b80)] [(.int (1 : Int32))] t → Steps p.tables e below S0 t := fun t k => p131 t (by
      show own_W p e below m T130 180 #[.val (.int x0), .val (.int x1), .val (.int x2), .val (.int x3), .val (.int x4), .val (.int x5), .val (.int c0), .val (.int c1), .val (.int c2), .val (.int c3), .val (.int (3 : Int32)), .val (.ref b80), .val (.ref rw121), .val (.ref b80)] [(.int (1 : Int32))] _
      refine XS.ifNo X130.here hx rfl (hb hby at_180) rfl ((if0 _ _).trans (feq (by decide)).1) ?_
      show own_W p e below m T130 183 #[.val (.int x0), .val (.int x1), .val (.int x2), .val (.int x3), .val (.int x4), .val (.int x5), .val (.int c0), .val (.int c1), .val (.int c2), .val (.int c3), .val (.int (3 : Int32)), .val (.ref b80), .val (.ref rw121), .val (.ref b80)] [] _
      refine XS.iconst X130.here hx rfl (hb hby at_183) ?_
      show own_W p e below m T130 184 #[.val (.int x0), .val (.int x1), .val (.int x2), .val (.int x3), .val (.int x4), .val (.int x5), .val (.int c0), .val (.int c1), .val (.int c2), .val (.int c3), .val (.int (3 : Int32)), .val (.ref b80), .val (.ref rw121), .val (.ref b80)] [(.int (1 : Int32))] _
      refine XS.goto X130.here hx rfl (pc0 := 184) (pc' := 188) rfl (hb hby at_184) (by decide) (by decide) ?_
      exact k)
    subst hS0
    obtain ⟨fs, hr, hrun, hended, hW, hsame⟩ := X130.leave (v := some (.int (1 : Int32))) (fun h => by rw [Bd.returns] at h; cases h)
    refine ⟨_, _, p132 _ ?_, hrun, hended, _, _, rfl, ?_, ⟨_, rfl⟩, hW, hsame.mono (by decide) (by decide)⟩
    · show own_W p e below m T130 188 #[.val (.int x0), .val (.int x1), .val (.int x2), .val (.int x3), .val (.int x4), .val (.int x5), .val (.int c0), .val (.int c1), .val (.int c2), .val (.int c3), .val (.int (3 : Int32)), .val (.ref b80), .val (.ref rw121), .val (.ref b80)] [(.int (1 : Int32))] _
      exact retN X130 hx (t := .boolean) Bd.returns (by simp) (hb hby at_188) hr
    · show Q0 Z x0 x1 x2 x3 x4 x5 cs G h0 n0 _ T130.heap _
      rw [e130]
      exact ⟨rfl, N130⟩
  · have p133 : ∀ t, own_W p e below m T11 115 #[.val (.int x0), .val (.int x1), .val (.int x2), .val (.int x3), .val (.int x4), .val (.int x5), .val (.int c0), .val (.int c1), .val (.int c2), .val (.int c3), .val (.int (4 : Int32)), .unset, .unset, .unset] [] t → Steps p.tables e below S0 t := fun t k => p14 t (by
      show own_W p e below m T11 32 #[.val (.int x0), .val (.int x1), .val (.int x2), .val (.int x3), .val (.int x4), .val (.int x5), .val (.int c0), .val (.int c1), .val (.int c2), .val (.int c3), .val (.int (4 : Int32)), .unset, .unset, .unset] [] _
      refine XS.iload X11.here hx rfl (hb hby at_32) rfl ?_
      show own_W p e below m T11 34 #[.val (.int x0), .val (.int x1), .val (.int x2), .val (.int x3), .val (.int x4), .val (.int x5), .val (.int c0), .val (.int c1), .val (.int c2), .val (.int c3), .val (.int (4 : Int32)), .unset, .unset, .unset] [(.int (4 : Int32))] _
      refine XS.iconst X11.here hx rfl (hb hby at_34) ?_
      show own_W p e below m T11 35 #[.val (.int x0), .val (.int x1), .val (.int x2), .val (.int x3), .val (.int x4), .val (.int x5), .val (.int c0), .val (.int c1), .val (.int c2), .val (.int c3), .val (.int (4 : Int32)), .unset, .unset, .unset] [(.int (1 : Int32)), (.int (4 : Int32))] _
      refine XS.icmpYes X11.here hx rfl (pc0 := 35) (pc' := 48) rfl (hb hby at_35) rfl ((feq (by decide)).2) (by decide) (by decide) ?_
      show own_W p e below m T11 48 #[.val (.int x0), .val (.int x1), .val (.int x2), .val (.int x3), .val (.int x4), .val (.int x5), .val (.int c0), .val (.int c1), .val (.int c2), .val (.int c3), .val (.int (4 : Int32)), .unset, .unset, .unset] [] _
      refine XS.iload X11.here hx rfl (hb hby at_48) rfl ?_
      show own_W p e below m T11 50 #[.val (.int x0), .val (.int x1), .val (.int x2), .val (.int x3), .val (.int x4), .val (.int x5), .val (.int c0), .val (.int c1), .val (.int c2), .val (.int c3), .val (.int (4 : Int32)), .unset, .unset, .unset] [(.int (4 : Int32))] _
      refine XS.iconst X11.here hx rfl (hb hby at_50) ?_
      show own_W p e below m T11 51 #[.val (.int x0), .val (.int x1), .val (.int x2), .val (.int x3), .val (.int x4), .val (.int x5), .val (.int c0), .val (.int c1), .val (.int c2), .val (.int c3), .val (.int (4 : Int32)), .unset, .unset, .unset] [(.int (2 : Int32)), (.int (4 : Int32))] _
      refine XS.icmpYes X11.here hx rfl (pc0 := 51) (pc' := 79) rfl (hb hby at_51) rfl ((feq (by decide)).2) (by decide) (by decide) ?_
      show own_W p e below m T11 79 #[.val (.int x0), .val (.int x1), .val (.int x2), .val (.int x3), .val (.int x4), .val (.int x5), .val (.int c0), .val (.int c1), .val (.int c2), .val (.int c3), .val (.int (4 : Int32)), .unset, .unset, .unset] [] _
      refine XS.iload X11.here hx rfl (hb hby at_79) rfl ?_
      show own_W p e below m T11 81 #[.val (.int x0), .val (.int x1), .val (.int x2), .val (.int x3), .val (.int x4), .val (.int x5), .val (.int c0), .val (.int c1), .val (.int c2), .val (.int c3), .val (.int (4 : Int32)), .unset, .unset, .unset] [(.int (4 : Int32))] _
      refine XS.iconst X11.here hx rfl (hb hby at_81) ?_
      show own_W p e below m T11 82 #[.val (.int x0), .val (.int x1), .val (.int x2), .val (.int x3), .val (.int x4), .val (.int x5), .val (.int c0), .val (.int c1), .val (.int c2), .val (.int c3), .val (.int (4 : Int32)), .unset, .unset, .unset] [(.int (3 : Int32)), (.int (4 : Int32))] _
      refine XS.icmpYes X11.here hx rfl (pc0 := 82) (pc' := 115) rfl (hb hby at_82) rfl ((feq (by decide)).2) (by decide) (by decide) ?_
      exact k)
    obtain ⟨T134, h134, X134, e134, E134, A134, D134, -, st134⟩ := newO X11 hx hZ hown (hw _ (List.mem_of_getElem? (i := 83) rfl)) (hw _ (List.mem_of_getElem? (i := 15) rfl)) (hw _ (List.mem_of_getElem? (i := 7) rfl)) e11 (g := (mkF m 115 #[.val (.int x0), .val (.int x1), .val (.int x2), .val (.int x3), .val (.int x4), .val (.int x5), .val (.int c0), .val (.int c1), .val (.int c2), .val (.int c3), .val (.int (4 : Int32)), .unset, .unset, .unset] [])) rfl (hb hby at_115) (by decide) (by decide)
    obtain ⟨b134, g134⟩ : ∃ z, z = h0.size := ⟨_, rfl⟩
    rw [← g134] at A134 D134 st134
    have gn_b134 : n0 ≤ b134 := Nat.le_trans Z0 (Nat.le_of_eq g134.symm)
    have f135 := O0.ext E134
    have Z134 := Nat.le_trans Z0 E134.1
    have f136 : Fld Z h134 b134 "java/lang/String" "value" "[B" .null := D134 (Or.inr (hw _ (List.mem_of_getElem? (i := 28) rfl))) (ty := (.array .byte)) (by decide)
    have f137 : Fld Z h134 b134 "java/lang/String" "coder" "B" (.int (0 : Int32)) := D134 (Or.inr (hw _ (List.mem_of_getElem? (i := 30) rfl))) (ty := .byte) (by decide)
    have p138 : ∀ t, own_W p e below m T134 118 #[.val (.int x0), .val (.int x1), .val (.int x2), .val (.int x3), .val (.int x4), .val (.int x5), .val (.int c0), .val (.int c1), .val (.int c2), .val (.int c3), .val (.int (4 : Int32)), .unset, .unset, .unset] [(.ref b134)] t → Steps p.tables e below S0 t := fun t k => p133 t (st134 t k)
    have p139 : ∀ t, own_W p e below m T134 120 #[.val (.int x0), .val (.int x1), .val (.int x2), .val (.int x3), .val (.int x4), .val (.int x5), .val (.int c0), .val (.int c1), .val (.int c2), .val (.int c3), .val (.int (4 : Int32)), .unset, .unset, .unset] [(.int (4 : Int32)), (.ref b134), (.ref b134)] t → Steps p.tables e below S0 t := fun t k => p138 t (by
      show own_W p e below m T134 118 #[.val (.int x0), .val (.int x1), .val (.int x2), .val (.int x3), .val (.int x4), .val (.int x5), .val (.int c0), .val (.int c1), .val (.int c2), .val (.int c3), .val (.int (4 : Int32)), .unset, .unset, .unset] [(.ref b134)] _
      refine XS.dup X134.here hx rfl (hb hby at_118) rfl rfl ?_
      show own_W p e below m T134 119 #[.val (.int x0), .val (.int x1), .val (.int x2), .val (.int x3), .val (.int x4), .val (.int x5), .val (.int c0), .val (.int c1), .val (.int c2), .val (.int c3), .val (.int (4 : Int32)), .unset, .unset, .unset] [(.ref b134), (.ref b134)] _
      refine XS.iconst X134.here hx rfl (hb hby at_119) ?_
      exact k)
    obtain ⟨T140, h140, k140, X140, e140, E140, A140, st140⟩ := newP X134 hx hZ (hw _ (List.mem_of_getElem? (i := 84) rfl)) e134 (g := (mkF m 120 #[.val (.int x0), .val (.int x1), .val (.int x2), .val (.int x3), .val (.int x4), .val (.int x5), .val (.int c0), .val (.int c1), .val (.int c2), .val (.int c3), .val (.int (4 : Int32)), .unset, .unset, .unset] [(.int (4 : Int32)), (.ref b134), (.ref b134)])) rfl (hb hby at_120) rfl (by decide) (cap := 4) (by decide) (by decide) (by decide) (by decide)
    obtain ⟨b140, g140⟩ : ∃ z, z = h134.size := ⟨_, rfl⟩
    rw [← g140] at A140 st140
    have gn_b140 : n0 ≤ b140 := Nat.le_trans Z134 (Nat.le_of_eq g140.symm)
    have ne141 : b134 ≠ b140 := Nat.ne_of_lt (Nat.lt_of_lt_of_le A134.lt (Nat.le_of_eq g140.symm))
    have f142 := f135.ext E140
    have f143 := A134.ext E140
    have f144 := f136.ext E140
    have f145 := f137.ext E140
    have Z140 := Nat.le_trans Z134 E140.1
    have VV140 : Arv Z h140 b140 k140 .char (4 : Int32) [(.int (0 : Int32)), (.int (0 : Int32)), (.int (0 : Int32)), (.int (0 : Int32))] (.int (0 : Int32)) := (Arv.new A140 (by decide)).pad (pad_rep [] (.int (0 : Int32)) 4)
    have p146 : ∀ t, own_W p e below m T140 122 #[.val (.int x0), .val (.int x1), .val (.int x2), .val (.int x3), .val (.int x4), .val (.int x5), .val (.int c0), .val (.int c1), .val (.int c2), .val (.int c3), .val (.int (4 : Int32)), .unset, .unset, .unset] [(.ref b140), (.ref b134), (.ref b134)] t → Steps p.tables e below S0 t := fun t k => p139 t (st140 t k)
    have p147 : ∀ t, own_W p e below m T140 126 #[.val (.int x0), .val (.int x1), .val (.int x2), .val (.int x3), .val (.int x4), .val (.int x5), .val (.int c0), .val (.int c1), .val (.int c2), .val (.int c3), .val (.int (4 : Int32)), .unset, .unset, .unset] [(.int c0), (.int (0 : Int32)), (.ref b140), (.ref b140), (.ref b134), (.ref b134)] t → Steps p.tables e below S0 t := fun t k => p146 t (by
      show own_W p e below m T140 122 #[.val (.int x0), .val (.int x1), .val (.int x2), .val (.int x3), .val (.int x4), .val (.int x5), .val (.int c0), .val (.int c1), .val (.int c2), .val (.int c3), .val (.int (4 : Int32)), .unset, .unset, .unset] [(.ref b140), (.ref b134), (.ref b134)] _
      refine XS.dup X140.here hx rfl (hb hby at_122) rfl rfl ?_
      show own_W p e below m T140 123 #[.val (.int x0), .val (.int x1), .val (.int x2), .val (.int x3), .val (.int x4), .val (.int x5), .val (.int c0), .val (.int c1), .val (.int c2), .val (.int c3), .val (.int (4 : Int32)), .unset, .unset, .unset] [(.ref b140), (.ref b140), (.ref b134), (.ref b134)] _
      refine XS.iconst X140.here hx rfl (hb hby at_123) ?_
      show own_W p e below m T140 124 #[.val (.int x0), .val (.int x1), .val (.int x2), .val (.int x3), .val (.int x4), .val (.int x5), .val (.int c0), .val (.int c1), .val (.int c2), .val (.int c3), .val (.int (4 : Int32)), .unset, .unset, .unset] [(.int (0 : Int32)), (.ref b140), (.ref b140), (.ref b134), (.ref b134)] _
      refine XS.iload X140.here hx rfl (hb hby at_124) rfl ?_
      exact k)
    obtain ⟨cl148, Ar148, q148, Sz148, Ng148, Hs148, G148⟩ := id VV140
    have hin148 : ¬ ((0 : Int32) < 0 ∨ cl148.slots.size ≤ ((0 : Int32)).toNatClampNeg) := inb_of Sz148 (⟨by decide, by decide⟩)
    obtain ⟨T148, h148, X148, e148, W148, st148⟩ := stC X140 hx hZ e140 Ar148 (j := (0 : Int32)) hin148 (g := (mkF m 126 #[.val (.int x0), .val (.int x1), .val (.int x2), .val (.int x3), .val (.int x4), .val (.int x5), .val (.int c0), .val (.int c1), .val (.int c2), .val (.int c3), .val (.int (4 : Int32)), .unset, .unset, .unset] [(.int c0), (.int (0 : Int32)), (.ref b140), (.ref b140), (.ref b134), (.ref b134)])) rfl rfl (hb hby at_126)
    have VV148 : Arv Z h148 b140 k140 .char (4 : Int32) [(.int (nar .char c0)), (.int (0 : Int32)), (.int (0 : Int32)), (.int (0 : Int32))] (.int (0 : Int32)) := Arv.set Ar148 q148 Sz148 Ng148 Hs148 G148 (fits_nar_char _) W148 0 (by decide) (Nat.le_of_ble_eq_true rfl)
    have f149 := f142.wr W148 gn_b140
    have f150 := f143.wr W148
    have f151 := f144.other W148 (Or.inl ne141)
    have f152 := f145.other W148 (Or.inl ne141)
    have Z148 := Nat.le_trans Z140 (Keep.of_wr W148).1
    have N148 := Fr.snoc X148 N11 gn_b140
    have p153 : ∀ t, own_W p e below m T148 127 #[.val (.int x0), .val (.int x1), .val (.int x2), .val (.int x3), .val (.int x4), .val (.int x5), .val (.int c0), .val (.int c1), .val (.int c2), .val (.int c3), .val (.int (4 : Int32)), .unset, .unset, .unset] [(.ref b140), (.ref b134), (.ref b134)] t → Steps p.tables e below S0 t := fun t k => p147 t (st148 t k)
    have p154 : ∀ t, own_W p e below m T148 131 #[.val (.int x0), .val (.int x1), .val (.int x2), .val (.int x3), .val (.int x4), .val (.int x5), .val (.int c0), .val (.int c1), .val (.int c2), .val (.int c3), .val (.int (4 : Int32)), .unset, .unset, .unset] [(.int c1), (.int (1 : Int32)), (.ref b140), (.ref b140), (.ref b134), (.ref b134)] t → Steps p.tables e below S0 t := fun t k => p153 t (by
      show own_W p e below m T148 127 #[.val (.int x0), .val (.int x1), .val (.int x2), .val (.int x3), .val (.int x4), .val (.int x5), .val (.int c0), .val (.int c1), .val (.int c2), .val (.int c3), .val (.int (4 : Int32)), .unset, .unset, .unset] [(.ref b140), (.ref b134), (.ref b134)] _
      refine XS.dup X148.here hx rfl (hb hby at_127) rfl rfl ?_
      show own_W p e below m T148 128 #[.val (.int x0), .val (.int x1), .val (.int x2), .val (.int x3), .val (.int x4), .val (.int x5), .val (.int c0), .val (.int c1), .val (.int c2), .val (.int c3), .val (.int (4 : Int32)), .unset, .unset, .unset] [(.ref b140), (.ref b140), (.ref b134), (.ref b134)] _
      refine XS.iconst X148.here hx rfl (hb hby at_128) ?_
      show own_W p e below m T148 129 #[.val (.int x0), .val (.int x1), .val (.int x2), .val (.int x3), .val (.int x4), .val (.int x5), .val (.int c0), .val (.int c1), .val (.int c2), .val (.int c3), .val (.int (4 : Int32)), .unset, .unset, .unset] [(.int (1 : Int32)), (.ref b140), (.ref b140), (.ref b134), (.ref b134)] _
      refine XS.iload X148.here hx rfl (hb hby at_129) rfl ?_
      exact k)
    obtain ⟨cl155, Ar155, q155, Sz155, Ng155, Hs155, G155⟩ := id VV148
    have hin155 : ¬ ((1 : Int32) < 0 ∨ cl155.slots.size ≤ ((1 : Int32)).toNatClampNeg) := inb_of Sz155 (⟨by decide, by decide⟩)
    obtain ⟨T155, h155, X155, e155, W155, st155⟩ := stC X148 hx hZ e148 Ar155 (j := (1 : Int32)) hin155 (g := (mkF m 131 #[.val (.int x0), .val (.int x1), .val (.int x2), .val (.int x3), .val (.int x4), .val (.int x5), .val (.int c0), .val (.int c1), .val (.int c2), .val (.int c3), .val (.int (4 : Int32)), .unset, .unset, .unset] [(.int c1), (.int (1 : Int32)), (.ref b140), (.ref b140), (.ref b134), (.ref b134)])) rfl rfl (hb hby at_131)
    have VV155 : Arv Z h155 b140 k140 .char (4 : Int32) [(.int (nar .char c0)), (.int (nar .char c1)), (.int (0 : Int32)), (.int (0 : Int32))] (.int (0 : Int32)) := Arv.set Ar155 q155 Sz155 Ng155 Hs155 G155 (fits_nar_char _) W155 1 (by decide) (Nat.le_of_ble_eq_true rfl)
    have f156 := f149.wr W155 gn_b140
    have f157 := f150.wr W155
    have f158 := f151.other W155 (Or.inl ne141)
    have f159 := f152.other W155 (Or.inl ne141)
    have Z155 := Nat.le_trans Z148 (Keep.of_wr W155).1
    have N155 := Fr.snoc X155 N148 gn_b140
    have p160 : ∀ t, own_W p e below m T155 132 #[.val (.int x0), .val (.int x1), .val (.int x2), .val (.int x3), .val (.int x4), .val (.int x5), .val (.int c0), .val (.int c1), .val (.int c2), .val (.int c3), .val (.int (4 : Int32)), .unset, .unset, .unset] [(.ref b140), (.ref b134), (.ref b134)] t → Steps p.tables e below S0 t := fun t k => p154 t (st155 t k)
    have p161 : ∀ t, own_W p e below m T155 136 #[.val (.int x0), .val (.int x1), .val (.int x2), .val (.int x3), .val (.int x4), .val (.int x5), .val (.int c0), .val (.int c1), .val (.int c2), .val (.int c3), .val (.int (4 : Int32)), .unset, .unset, .unset] [(.int c2), (.int (2 : Int32)), (.ref b140), (.ref b140), (.ref b134), (.ref b134)] t → Steps p.tables e below S0 t := fun t k => p160 t (by
      show own_W p e below m T155 132 #[.val (.int x0), .val (.int x1), .val (.int x2), .val (.int x3), .val (.int x4), .val (.int x5), .val (.int c0), .val (.int c1), .val (.int c2), .val (.int c3), .val (.int (4 : Int32)), .unset, .unset, .unset] [(.ref b140), (.ref b134), (.ref b134)] _
      refine XS.dup X155.here hx rfl (hb hby at_132) rfl rfl ?_
      show own_W p e below m T155 133 #[.val (.int x0), .val (.int x1), .val (.int x2), .val (.int x3), .val (.int x4), .val (.int x5), .val (.int c0), .val (.int c1), .val (.int c2), .val (.int c3), .val (.int (4 : Int32)), .unset, .unset, .unset] [(.ref b140), (.ref b140), (.ref b134), (.ref b134)] _
      refine XS.iconst X155.here hx rfl (hb hby at_133) ?_
      show own_W p e below m T155 134 #[.val (.int x0), .val (.int x1), .val (.int x2), .val (.int x3), .val (.int x4), .val (.int x5), .val (.int c0), .val (.int c1), .val (.int c2), .val (.int c3), .val (.int (4 : Int32)), .unset, .unset, .unset] [(.int (2 : Int32)), (.ref b140), (.ref b140), (.ref b134), (.ref b134)] _
      refine XS.iload X155.here hx rfl (hb hby at_134) rfl ?_
      exact k)
    obtain ⟨cl162, Ar162, q162, Sz162, Ng162, Hs162, G162⟩ := id VV155
    have hin162 : ¬ ((2 : Int32) < 0 ∨ cl162.slots.size ≤ ((2 : Int32)).toNatClampNeg) := inb_of Sz162 (⟨by decide, by decide⟩)
    obtain ⟨T162, h162, X162, e162, W162, st162⟩ := stC X155 hx hZ e155 Ar162 (j := (2 : Int32)) hin162 (g := (mkF m 136 #[.val (.int x0), .val (.int x1), .val (.int x2), .val (.int x3), .val (.int x4), .val (.int x5), .val (.int c0), .val (.int c1), .val (.int c2), .val (.int c3), .val (.int (4 : Int32)), .unset, .unset, .unset] [(.int c2), (.int (2 : Int32)), (.ref b140), (.ref b140), (.ref b134), (.ref b134)])) rfl rfl (hb hby at_136)
    have VV162 : Arv Z h162 b140 k140 .char (4 : Int32) [(.int (nar .char c0)), (.int (nar .char c1)), (.int (nar .char c2)), (.int (0 : Int32))] (.int (0 : Int32)) := Arv.set Ar162 q162 Sz162 Ng162 Hs162 G162 (fits_nar_char _) W162 2 (by decide) (Nat.le_of_ble_eq_true rfl)
    have f163 := f156.wr W162 gn_b140
    have f164 := f157.wr W162
    have f165 := f158.other W162 (Or.inl ne141)
    have f166 := f159.other W162 (Or.inl ne141)
    have Z162 := Nat.le_trans Z155 (Keep.of_wr W162).1
    have N162 := Fr.snoc X162 N155 gn_b140
    have p167 : ∀ t, own_W p e below m T162 137 #[.val (.int x0), .val (.int x1), .val (.int x2), .val (.int x3), .val (.int x4), .val (.int x5), .val (.int c0), .val (.int c1), .val (.int c2), .val (.int c3), .val (.int (4 : Int32)), .unset, .unset, .unset] [(.ref b140), (.ref b134), (.ref b134)] t → Steps p.tables e below S0 t := fun t k => p161 t (st162 t k)
    have p168 : ∀ t, own_W p e below m T162 141 #[.val (.int x0), .val (.int x1), .val (.int x2), .val (.int x3), .val (.int x4), .val (.int x5), .val (.int c0), .val (.int c1), .val (.int c2), .val (.int c3), .val (.int (4 : Int32)), .unset, .unset, .unset] [(.int c3), (.int (3 : Int32)), (.ref b140), (.ref b140), (.ref b134), (.ref b134)] t → Steps p.tables e below S0 t := fun t k => p167 t (by
      show own_W p e below m T162 137 #[.val (.int x0), .val (.int x1), .val (.int x2), .val (.int x3), .val (.int x4), .val (.int x5), .val (.int c0), .val (.int c1), .val (.int c2), .val (.int c3), .val (.int (4 : Int32)), .unset, .unset, .unset] [(.ref b140), (.ref b134), (.ref b134)] _
      refine XS.dup X162.here hx rfl (hb hby at_137) rfl rfl ?_
      show own_W p e below m T162 138 #[.val (.int x0), .val (.int x1), .val (.int x2), .val (.int x3), .val (.int x4), .val (.int x5), .val (.int c0), .val (.int c1), .val (.int c2), .val (.int c3), .val (.int (4 : Int32)), .unset, .unset, .unset] [(.ref b140), (.ref b140), (.ref b134), (.ref b134)] _
      refine XS.iconst X162.here hx rfl (hb hby at_138) ?_
      show own_W p e below m T162 139 #[.val (.int x0), .val (.int x1), .val (.int x2), .val (.int x3), .val (.int x4), .val (.int x5), .val (.int c0), .val (.int c1), .val (.int c2), .val (.int c3), .val (.int (4 : Int32)), .unset, .unset, .unset] [(.int (3 : Int32)), (.ref b140), (.ref b140), (.ref b134), (.ref b134)] _
      refine XS.iload X162.here hx rfl (hb hby at_139) rfl ?_
      exact k)
    obtain ⟨cl169, Ar169, q169, Sz169, Ng169, Hs169, G169⟩ := id VV162
    have hin169 : ¬ ((3 : Int32) < 0 ∨ cl169.slots.size ≤ ((3 : Int32)).toNatClampNeg) := inb_of Sz169 (⟨by decide, by decide⟩)
    obtain ⟨T169, h169, X169, e169, W169, st169⟩ := stC X162 hx hZ e162 Ar169 (j := (3 : Int32)) hin169 (g := (mkF m 141 #[.val (.int x0), .val (.int x1), .val (.int x2), .val (.int x3), .val (.int x4), .val (.int x5), .val (.int c0), .val (.int c1), .val (.int c2), .val (.int c3), .val (.int (4 : Int32)), .unset, .unset, .unset] [(.int c3), (.int (3 : Int32)), (.ref b140), (.ref b140), (.ref b134), (.ref b134)])) rfl rfl (hb hby at_141)
    have VV169 : Arv Z h169 b140 k140 .char (4 : Int32) [(.int (nar .char c0)), (.int (nar .char c1)), (.int (nar .char c2)), (.int (nar .char c3))] (.int (0 : Int32)) := Arv.set Ar169 q169 Sz169 Ng169 Hs169 G169 (fits_nar_char _) W169 3 (by decide) (Nat.le_of_ble_eq_true rfl)
    have f170 := f163.wr W169 gn_b140
    have f171 := f164.wr W169
    have f172 := f165.other W169 (Or.inl ne141)
    have f173 := f166.other W169 (Or.inl ne141)
    have Z169 := Nat.le_trans Z162 (Keep.of_wr W169).1
    have N169 := Fr.snoc X169 N162 gn_b140
    have p174 : ∀ t, own_W p e below m T169 142 #[.val (.int x0), .val (.int x1), .val (.int x2), .val (.int x3), .val (.int x4), .val (.int x5), .val (.int c0), .val (.int c1), .val (.int c2), .val (.int c3), .val (.int (4 : Int32)), .unset, .unset, .unset] [(.ref b140), (.ref b134), (.ref b134)] t → Steps p.tables e below S0 t := fun t k => p168 t (st169 t k)
    have VH175 : Arv Z h169 b140 k140 .char (4 : Int32) [(.int c0), (.int c1), (.int c2), (.int c3)] (.int (0 : Int32)) := by
      have q := VV169
      rw [own_nok ko0, own_nok ko1, own_nok ko2, own_nok ko3] at q
      exact q
    obtain ⟨_, _, ⟨T176, L176, k176, n176⟩, -, X176, ⟨Lc176, hQ176, l176, y176, z176⟩, st176⟩ := X169.specialBack hx (y := (⟨"java/lang/String", "<init>", "([C)V"⟩ : MethodName)) rfl hown (mvT hZ (hw _ (List.mem_of_getElem? (i := 85) rfl))) (mvT hZ (hw _ (List.mem_of_getElem? (i := 86) rfl))) (mvT hZ (hw _ (List.mem_of_getElem? (i := 87) rfl))) (by decide) (backOf (W := 1) (rmi14 l Z a0 hw [] b134 b140 k140 c0 c1 c2 c3 cs G h169 n0 Z169 f171 f173 f172 gn_b134 VH175 ne141 ko0 ko1 ko2 ko3 f170 st) hZ (hw _ (List.mem_of_getElem? (i := 87) rfl)) (hw _ (List.mem_of_getElem? (i := 7) rfl)) (by decide) (by decide)) (g := (mkF m 142 #[.val (.int x0), .val (.int x1), .val (.int x2), .val (.int x3), .val (.int x4), .val (.int x5), .val (.int c0), .val (.int c1), .val (.int c2), .val (.int c3), .val (.int (4 : Int32)), .unset, .unset, .unset] [(.ref b140), (.ref b134), (.ref b134)])) rfl (by rw [hml]; rfl) (Steps.refl _) (a := b134) (argsL := [(.ref b140)]) (rest := [(.ref b134)]) (lenOf pd0_4 rfl) rfl (by show 2 * 0 + _ ≤ _; exact Nat.le_of_eq rfl) (hb hby at_142) (fun _ _ => ⟨rfl, e169, (by decide : 2 + 2 ≤ _), (by decide : 8 + 12 ≤ _)⟩)
    dsimp only [Pt.U, Pt.locs, Pt.cells, Pt.slots] at X176 l176 y176 z176 st176 hQ176
    subst l176 y176 z176
    obtain ⟨rfl, Nq176, K176, HQ176⟩ := hQ176
    have N176 := Fr.app N169 Nq176
    have f177 := f170.keep K176 (allS gn_b134 (all0))
    have f178 := f171.keep K176
    have f179 := VH175.keep K176 (ninS (Ne.symm ne141) nin0)
    have Z176 := Nat.le_trans Z169 K176.1
    have p180 : ∀ t, own_W p e below m T176 145 #[.val (.int x0), .val (.int x1), .val (.int x2), .val (.int x3), .val (.int x4), .val (.int x5), .val (.int c0), .val (.int c1), .val (.int c2), .val (.int c3), .val (.int (4 : Int32)), .unset, .unset, .unset] [(.ref b134)] t → Steps p.tables e below S0 t := fun t k => p174 t (st176.trans k)
    obtain ⟨tv, kb, HV, HD⟩ := HQ176
    have p181 : ∀ t, own_W p e below m T176 154 #[.val (.int x0), .val (.int x1), .val (.int x2), .val (.int x3), .val (.int x4), .val (.int x5), .val (.int c0), .val (.int c1), .val (.int c2), .val (.int c3), .val (.int (4 : Int32)), .val (.ref b134), .unset, .unset] [(.int ((x5 &&& (255 : Int32)).toUInt32.toUInt16.toUInt32.toInt32))] t → Steps p.tables e below S0 t := fun t k => p180 t (by
      show own_W p e below m T176 145 #[.val (.int x0), .val (.int x1), .val (.int x2), .val (.int x3), .val (.int x4), .val (.int x5), .val (.int c0), .val (.int c1), .val (.int c2), .val (.int c3), .val (.int (4 : Int32)), .unset, .unset, .unset] [(.ref b134)] _
      refine XS.astore X176.here hx rfl (hb hby at_145) rfl rfl (l' := #[.val (.int x0), .val (.int x1), .val (.int x2), .val (.int x3), .val (.int x4), .val (.int x5), .val (.int c0), .val (.int c1), .val (.int c2), .val (.int c3), .val (.int (4 : Int32)), .val (.ref b134), .unset, .unset]) rfl ?_
      show own_W p e below m T176 147 #[.val (.int x0), .val (.int x1), .val (.int x2), .val (.int x3), .val (.int x4), .val (.int x5), .val (.int c0), .val (.int c1), .val (.int c2), .val (.int c3), .val (.int (4 : Int32)), .val (.ref b134), .unset, .unset] [] _
      refine XS.iload X176.here hx rfl (hb hby at_147) rfl ?_
      show own_W p e below m T176 149 #[.val (.int x0), .val (.int x1), .val (.int x2), .val (.int x3), .val (.int x4), .val (.int x5), .val (.int c0), .val (.int c1), .val (.int c2), .val (.int c3), .val (.int (4 : Int32)), .val (.ref b134), .unset, .unset] [(.int x5)] _
      refine XS.sipush X176.here hx rfl (hb hby at_149) ?_
      show own_W p e below m T176 152 #[.val (.int x0), .val (.int x1), .val (.int x2), .val (.int x3), .val (.int x4), .val (.int x5), .val (.int c0), .val (.int c1), .val (.int c2), .val (.int c3), .val (.int (4 : Int32)), .val (.ref b134), .unset, .unset] [(.int (255 : Int32)), (.int x5)] _
      refine XS.iand X176.here hx rfl (hb hby at_152) rfl ?_
      show own_W p e below m T176 153 #[.val (.int x0), .val (.int x1), .val (.int x2), .val (.int x3), .val (.int x4), .val (.int x5), .val (.int c0), .val (.int c1), .val (.int c2), .val (.int c3), .val (.int (4 : Int32)), .val (.ref b134), .unset, .unset] [(.int (x5 &&& (255 : Int32)))] _
      refine XS.i2c X176.here hx rfl (hb hby at_153) rfl ?_
      exact k)
    have HL : own_LN Z T176.heap b134 tv kb (4 : Int32) := by
      rcases HD with ⟨a, b, -⟩ | ⟨a, b⟩
      · exact ⟨_, _, b, by decide, Or.inl ⟨a, by decide⟩⟩
      · exact ⟨_, _, b, by decide, Or.inr ⟨a, by decide⟩⟩
    have H0 : own_CH Z T176.heap b134 tv kb (0 : Int32) c0 := by
      rcases HD with ⟨a, b, u, -, -, -⟩ | ⟨a, b⟩
      · exact Or.inl ⟨a, _, _, b, ⟨by decide, by decide⟩, rfl, u⟩
      · exact Or.inr ⟨a, _, _, b, ⟨by decide, by decide⟩, ⟨by decide, by decide⟩, ⟨by decide, by decide⟩, rfl, rfl⟩
    have H1 : own_CH Z T176.heap b134 tv kb (1 : Int32) c1 := by
      rcases HD with ⟨a, b, -, u, -, -⟩ | ⟨a, b⟩
      · exact Or.inl ⟨a, _, _, b, ⟨by decide, by decide⟩, rfl, u⟩
      · exact Or.inr ⟨a, _, _, b, ⟨by decide, by decide⟩, ⟨by decide, by decide⟩, ⟨by decide, by decide⟩, rfl, rfl⟩
    have H2 : own_CH Z T176.heap b134 tv kb (2 : Int32) c2 := by
      rcases HD with ⟨a, b, -, -, u, -⟩ | ⟨a, b⟩
      · exact Or.inl ⟨a, _, _, b, ⟨by decide, by decide⟩, rfl, u⟩
      · exact Or.inr ⟨a, _, _, b, ⟨by decide, by decide⟩, ⟨by decide, by decide⟩, ⟨by decide, by decide⟩, rfl, rfl⟩
    have H3 : own_CH Z T176.heap b134 tv kb (3 : Int32) c3 := by
      rcases HD with ⟨a, b, -, -, -, u⟩ | ⟨a, b⟩
      · exact Or.inl ⟨a, _, _, b, ⟨by decide, by decide⟩, rfl, u⟩
      · exact Or.inr ⟨a, _, _, b, ⟨by decide, by decide⟩, ⟨by decide, by decide⟩, ⟨by decide, by decide⟩, rfl, rfl⟩
    obtain ⟨_, _, ⟨T182, L182, k182, n182⟩, -, X182, ⟨Lc182, hQ182, l182, y182, z182⟩, st182⟩ := Jvm.LawKit.callS X176 hx (y := (⟨"java/lang/String", "valueOf", "(C)Ljava/lang/String;"⟩ : MethodName)) hown (mvT hZ (hw _ (List.mem_of_getElem? (i := 5) rfl))) (mvT hZ (hw _ (List.mem_of_getElem? (i := 6) rfl))) (mvT hZ (hw _ (List.mem_of_getElem? (i := 7) rfl))) (mvT hZ (hw _ (List.mem_of_getElem? (i := 8) rfl))) (by decide) (backOf (W := 0) (rmvo l Z a0 hw [] ((x5 &&& (255 : Int32)).toUInt32.toUInt16.toUInt32.toInt32) cs G T176.heap n0 Z176 f177 st) hZ (hw _ (List.mem_of_getElem? (i := 8) rfl)) (hw _ (List.mem_of_getElem? (i := 7) rfl)) (by decide) (by decide)) (g := (mkF m 154 #[.val (.int x0), .val (.int x1), .val (.int x2), .val (.int x3), .val (.int x4), .val (.int x5), .val (.int c0), .val (.int c1), .val (.int c2), .val (.int c3), .val (.int (4 : Int32)), .val (.ref b134), .unset, .unset] [(.int ((x5 &&& (255 : Int32)).toUInt32.toUInt16.toUInt32.toInt32))])) rfl (by rw [hml]; rfl) (argsL := [(.int ((x5 &&& (255 : Int32)).toUInt32.toUInt16.toUInt32.toInt32))]) (rest := []) (lenOf pd0_1 rfl) rfl (by show 2 * 0 + _ ≤ _; exact Nat.le_of_eq rfl) (hb hby at_154) (fun _ _ => ⟨rfl, rfl, (by decide : 4 + 2 ≤ _), (by decide : 20 + 6 ≤ _)⟩)
    dsimp only [Pt.U, Pt.locs, Pt.cells, Pt.slots] at X182 l182 y182 z182 st182 hQ182
    subst l182 y182 z182
    obtain ⟨-, rw182, tw182, kw182, rfl, Nq182, K182, EW182, VW182, DW182⟩ := hQ182
    have N182 := Fr.app N176 Nq182
    have f183 := f177.keep K182 (all0)
    have f184 := f178.keep K182
    have f185 := HV.keep K182 nin0
    have Z182 := Nat.le_trans Z176 K182.1
    have p186 : ∀ t, own_W p e below m T182 157 #[.val (.int x0), .val (.int x1), .val (.int x2), .val (.int x3), .val (.int x4), .val (.int x5), .val (.int c0), .val (.int c1), .val (.int c2), .val (.int c3), .val (.int (4 : Int32)), .val (.ref b134), .unset, .unset] [(.ref rw182)] t → Steps p.tables e below S0 t := fun t k => p181 t (st182 _ k)
    have HL := own_LNk HL K182
    have H0 := own_CHk H0 K182
    have H1 := own_CHk H1 K182
    have H2 := own_CHk H2 K182
    have H3 := own_CHk H3 K182
    have p187 : ∀ t, own_W p e below m T182 163 #[.val (.int x0), .val (.int x1), .val (.int x2), .val (.int x3), .val (.int x4), .val (.int x5), .val (.int c0), .val (.int c1), .val (.int c2), .val (.int c3), .val (.int (4 : Int32)), .val (.ref b134), .val (.ref rw182), .unset] [(.ref b134), (.ref rw182)] t → Steps p.tables e below S0 t := fun t k => p186 t (by
      show own_W p e below m T182 157 #[.val (.int x0), .val (.int x1), .val (.int x2), .val (.int x3), .val (.int x4), .val (.int x5), .val (.int c0), .val (.int c1), .val (.int c2), .val (.int c3), .val (.int (4 : Int32)), .val (.ref b134), .unset, .unset] [(.ref rw182)] _
      refine XS.astore X182.here hx rfl (hb hby at_157) rfl rfl (l' := #[.val (.int x0), .val (.int x1), .val (.int x2), .val (.int x3), .val (.int x4), .val (.int x5), .val (.int c0), .val (.int c1), .val (.int c2), .val (.int c3), .val (.int (4 : Int32)), .val (.ref b134), .val (.ref rw182), .unset]) rfl ?_
      show own_W p e below m T182 159 #[.val (.int x0), .val (.int x1), .val (.int x2), .val (.int x3), .val (.int x4), .val (.int x5), .val (.int c0), .val (.int c1), .val (.int c2), .val (.int c3), .val (.int (4 : Int32)), .val (.ref b134), .val (.ref rw182), .unset] [] _
      refine XS.aload X182.here hx rfl (hb hby at_159) rfl rfl ?_
      show own_W p e below m T182 161 #[.val (.int x0), .val (.int x1), .val (.int x2), .val (.int x3), .val (.int x4), .val (.int x5), .val (.int c0), .val (.int c1), .val (.int c2), .val (.int c3), .val (.int (4 : Int32)), .val (.ref b134), .val (.ref rw182), .unset] [(.ref rw182)] _
      refine XS.aload X182.here hx rfl (hb hby at_161) rfl rfl ?_
      exact k)
    obtain ⟨_, _, ⟨T188, L188, k188, n188⟩, -, X188, ⟨Lc188, hQ188, l188, y188, z188⟩, st188⟩ := Jvm.LawKit.callS X182 hx (y := (⟨"com/example/disposition/disposition/Names", "require", "(Ljava/lang/String;Ljava/lang/String;)Ljava/lang/String;"⟩ : MethodName)) hown (mvT hZ (hw _ (List.mem_of_getElem? (i := 31) rfl))) (mvT hZ (hw _ (List.mem_of_getElem? (i := 32) rfl))) (mvT hZ (hw _ (List.mem_of_getElem? (i := 33) rfl))) (mvT hZ (hw _ (List.mem_of_getElem? (i := 34) rfl))) (by decide) (backOf (W := 0) (rmrq4 l Z a0 hw [] rw182 b134 tv kb c0 c1 c2 c3 cs G T182.heap n0 Z182 f184 f185 HL H0 H1 H2 H3 ko0 ko1 ko2 ko3 f183 st) hZ (hw _ (List.mem_of_getElem? (i := 34) rfl)) (hw _ (List.mem_of_getElem? (i := 33) rfl)) (by decide) (by decide)) (g := (mkF m 163 #[.val (.int x0), .val (.int x1), .val (.int x2), .val (.int x3), .val (.int x4), .val (.int x5), .val (.int c0), .val (.int c1), .val (.int c2), .val (.int c3), .val (.int (4 : Int32)), .val (.ref b134), .val (.ref rw182), .unset] [(.ref b134), (.ref rw182)])) rfl (by rw [hml]; rfl) (argsL := [(.ref rw182), (.ref b134)]) (rest := []) (lenOf pd0_2 rfl) rfl (by show 2 * 0 + _ ≤ _; exact Nat.le_of_eq rfl) (hb hby at_163) (fun _ _ => ⟨rfl, rfl, (by decide : 6 + 0 ≤ _), (by decide : 26 + 0 ≤ _)⟩)
    dsimp only [Pt.U, Pt.locs, Pt.cells, Pt.slots] at X188 l188 y188 z188 st188 hQ188
    subst l188 y188 z188
    obtain ⟨rfl, Nq188, e188⟩ := hQ188
    have N188 := Fr.app N182 Nq188
    have p189 : ∀ t, own_W p e below m T188 166 #[.val (.int x0), .val (.int x1), .val (.int x2), .val (.int x3), .val (.int x4), .val (.int x5), .val (.int c0), .val (.int c1), .val (.int c2), .val (.int c3), .val (.int (4 : Int32)), .val (.ref b134), .val (.ref rw182), .unset] [(.ref b134)] t → Steps p.tables e below S0 t := fun t k => p187 t (st188 _ k)
    have p190 : ∀ t, own_W p e below m T188 177 #[.val (.int x0), .val (.int x1), .val (.int x2), .val (.int x3), .val (.int x4), .val (.int x5), .val (.int c0), .val (.int c1), .val (.int c2), .val (.int c3), .val (.int (4 : Int32)), .val (.ref b134), .val (.ref rw182), .val (.ref b134)] [(.ref b134), (.ref b134)] t → Steps p.tables e below S0 t := fun t k => p189 t (by
      show own_W p e below m T188 166 #[.val (.int x0), .val (.int x1), .val (.int x2), .val (.int x3), .val (.int x4), .val (.int x5), .val (.int c0), .val (.int c1), .val (.int c2), .val (.int c3), .val (.int (4 : Int32)), .val (.ref b134), .val (.ref rw182), .unset] [(.ref b134)] _
      refine XS.astore X188.here hx rfl (hb hby at_166) rfl rfl (l' := #[.val (.int x0), .val (.int x1), .val (.int x2), .val (.int x3), .val (.int x4), .val (.int x5), .val (.int c0), .val (.int c1), .val (.int c2), .val (.int c3), .val (.int (4 : Int32)), .val (.ref b134), .val (.ref rw182), .val (.ref b134)]) rfl ?_
      show own_W p e below m T188 168 #[.val (.int x0), .val (.int x1), .val (.int x2), .val (.int x3), .val (.int x4), .val (.int x5), .val (.int c0), .val (.int c1), .val (.int c2), .val (.int c3), .val (.int (4 : Int32)), .val (.ref b134), .val (.ref rw182), .val (.ref b134)] [] _
      refine XS.aload X188.here hx rfl (hb hby at_168) rfl rfl ?_
      show own_W p e below m T188 170 #[.val (.int x0), .val (.int x1), .val (.int x2), .val (.int x3), .val (.int x4), .val (.int x5), .val (.int c0), .val (.int c1), .val (.int c2), .val (.int c3), .val (.int (4 : Int32)), .val (.ref b134), .val (.ref rw182), .val (.ref b134)] [(.ref b134)] _
      refine XS.ifnullNo X188.here hx rfl (hb hby at_170) rfl ?_
      show own_W p e below m T188 173 #[.val (.int x0), .val (.int x1), .val (.int x2), .val (.int x3), .val (.int x4), .val (.int x5), .val (.int c0), .val (.int c1), .val (.int c2), .val (.int c3), .val (.int (4 : Int32)), .val (.ref b134), .val (.ref rw182), .val (.ref b134)] [] _
      refine XS.aload X188.here hx rfl (hb hby at_173) rfl rfl ?_
      show own_W p e below m T188 175 #[.val (.int x0), .val (.int x1), .val (.int x2), .val (.int x3), .val (.int x4), .val (.int x5), .val (.int c0), .val (.int c1), .val (.int c2), .val (.int c3), .val (.int (4 : Int32)), .val (.ref b134), .val (.ref rw182), .val (.ref b134)] [(.ref b134)] _
      refine XS.aload X188.here hx rfl (hb hby at_175) rfl rfl ?_
      exact k)
    obtain ⟨cq191, kq191, qa191, qb191, qc191⟩ := isOf hZ e188 f184
    obtain ⟨_, _, ⟨T191, L191, k191, n191⟩, -, X191, ⟨Lc191, hQ191, l191, y191, z191⟩, st191⟩ := X188.virtualBack hx (y := (⟨"java/lang/String", "equals", "(Ljava/lang/Object;)Z"⟩ : MethodName)) (z := (⟨"java/lang/String", "equals", "(Ljava/lang/Object;)Z"⟩ : MethodName)) hown (mvT hZ (hw _ (List.mem_of_getElem? (i := 78) rfl))) (mvT hZ (hw _ (List.mem_of_getElem? (i := 79) rfl))) (notFace_of_selects (args := #[]) (mvT hZ (hw _ (List.mem_of_getElem? (i := 81) rfl)))) (mvT hZ (hw _ (List.mem_of_getElem? (i := 81) rfl))) (mvT hZ (hw _ (List.mem_of_getElem? (i := 80) rfl))) (by decide) (backOf (W := 0) (rmeq l Z a0 hw [] b134  T182.heap n0 Z182 ) hZ (hw _ (List.mem_of_getElem? (i := 82) rfl)) (hw _ (List.mem_of_getElem? (i := 7) rfl)) (by decide) (by decide)) qa191 qc191 (g := (mkF m 177 #[.val (.int x0), .val (.int x1), .val (.int x2), .val (.int x3), .val (.int x4), .val (.int x5), .val (.int c0), .val (.int c1), .val (.int c2), .val (.int c3), .val (.int (4 : Int32)), .val (.ref b134), .val (.ref rw182), .val (.ref b134)] [(.ref b134), (.ref b134)])) rfl (by rw [hml]; rfl) (Steps.refl _) (argsL := [(.ref b134)]) (rest := []) (lenOf pd0_3 rfl) rfl (by show 2 * 0 + _ ≤ _; exact Nat.le_of_eq rfl) (hb hby at_177) (fun _ _ => ⟨rfl, e188, (by decide : 6 + 0 ≤ _), (by decide : 26 + 0 ≤ _)⟩)
    dsimp only [Pt.U, Pt.locs, Pt.cells, Pt.slots] at X191 l191 y191 z191 st191 hQ191
    subst l191 y191 z191
    obtain ⟨rfl, Nq191, e191⟩ := hQ191
    have N191 := Fr.app N188 Nq191
    have p192 : ∀ t, own_W p e below m T191 180 #[.val (.int x0), .val (.int x1), .val (.int x2), .val (.int x3), .val (.int x4), .val (.int x5), .val (.int c0), .val (.int c1), .val (.int c2), .val (.int c3), .val (.int (4 : Int32)), .val (.ref b134), .val (.ref rw182), .val (.ref b134)] [(.int (1 : Int32))] t → Steps p.tables e below S0 t := fun t k => p190 t (st191.trans k)
    have p193 : ∀ t, own_W p e below m T191 188 #[.val (.int x0), .val (.int x1), .val (.int x2), .val (.int x3), .val (.int x4), .val (.int x5), .val (.int c0), .val (.int c1), .val (.int c2), .val (.int c3), .val (.int (4 : Int32)), .val (.ref b134), .val (.ref rw182), .val (.ref b134)] [(.int (1 : Int32))] t → Steps p.tables e below S0 t := fun t k => p192 t (by
      show own_W p e below m T191 180 #[.val (.int x0), .val (.int x1), .val (.int x2), .val (.int x3), .val (.int x4), .val (.int x5), .val (.int c0), .val (.int c1), .val (.int c2), .val (.int c3), .val (.int (4 : Int32)), .val (.ref b134), .val (.ref rw182), .val (.ref b134)] [(.int (1 : Int32))] _
      refine XS.ifNo X191.here hx rfl (hb hby at_180) rfl ((if0 _ _).trans (feq (by decide)).1) ?_
      show own_W p e below m T191 183 #[.val (.int x0), .val (.int x1), .val (.int x2), .val (.int x3), .val (.int x4), .val (.int x5), .val (.int c0), .val (.int c1), .val (.int c2), .val (.int c3), .val (.int (4 : Int32)), .val (.ref b134), .val (.ref rw182), .val (.ref b134)] [] _
      refine XS.iconst X191.here hx rfl (hb hby at_183) ?_
      show own_W p e below m T191 184 #[.val (.int x0), .val (.int x1), .val (.int x2), .val (.int x3), .val (.int x4), .val (.int x5), .val (.int c0), .val (.int c1), .val (.int c2), .val (.int c3), .val (.int (4 : Int32)), .val (.ref b134), .val (.ref rw182), .val (.ref b134)] [(.int (1 : Int32))] _
      refine XS.goto X191.here hx rfl (pc0 := 184) (pc' := 188) rfl (hb hby at_184) (by decide) (by decide) ?_
      exact k)
    subst hS0
    obtain ⟨fs, hr, hrun, hended, hW, hsame⟩ := X191.leave (v := some (.int (1 : Int32))) (fun h => by rw [Bd.returns] at h; cases h)
    refine ⟨_, _, p193 _ ?_, hrun, hended, _, _, rfl, ?_, ⟨_, rfl⟩, hW, hsame.mono (by decide) (by decide)⟩
    · show own_W p e below m T191 188 #[.val (.int x0), .val (.int x1), .val (.int x2), .val (.int x3), .val (.int x4), .val (.int x5), .val (.int c0), .val (.int c1), .val (.int c2), .val (.int c3), .val (.int (4 : Int32)), .val (.ref b134), .val (.ref rw182), .val (.ref b134)] [(.int (1 : Int32))] _
      exact retN X191 hx (t := .boolean) Bd.returns (by simp) (hb hby at_188) hr
    · show Q0 Z x0 x1 x2 x3 x4 x5 cs G h0 n0 _ T191.heap _
      rw [e191]
      exact ⟨rfl, N191⟩
set_option maxRecDepth 65536 in
set_option maxHeartbeats 40000000 in
theorem comes_1 {Post : Tables → Env → Array Value → State → Outcome → State → Prop} (hpost : ∀ tb e args s v u, (limb_1_1.after args s (.returned v) u = true ∧ limb_1_2.after args s (.returned v) u = true ∧ True) → FrameEnd s (.returned v) u (Jvm.fieldLocs frame_1_writes args s ++ Jvm.arrayLocs frame_1_arrays args s ++ Jvm.staticLocs frame_1_statics s) 24 128 → Post tb e args s (.returned v) u) :
    ArmFor flags0 classFile x code maxLocals ret World_1 tables_1 room_1 Calls_1 rest_1 Pre_1 Post := by
  intro l hfl _ _ p e ha hc hk s m args below hf hA hF happ hP
  obtain ⟨hcalls, hrest, hpre⟩ := hP
  obtain ⟨-, -, -, hnamed, -, -, -, hat⟩ := (Spec.applies_iff hf).mp happ
  obtain ⟨hg, hn⟩ := and_e (Cond.before_iff.mp (show (Jvm.Cond.and given_1 narrow_1).before args s = true from hpre))
  obtain ⟨hcount, ga0⟩ := and_e hg
  obtain ⟨gb0, ga1⟩ := and_e ga0
  obtain ⟨gb1, ga2⟩ := and_e ga1
  obtain ⟨gb2, ga3⟩ := and_e ga2
  obtain ⟨gb3, ga4⟩ := and_e ga3
  obtain ⟨gb4, ga5⟩ := and_e ga4
  obtain ⟨w0, w1, w2, w3, w4, w5, rfl⟩ : ∃ w0 w1 w2 w3 w4 w5 : Value, args = #[w0, w1, w2, w3, w4, w5] := by
    have hs : args.size = 6 := by simpa [Cond.value, given_1] using hcount
    obtain ⟨L⟩ := args
    match L, hs with
    | [w0, w1, w2, w3, w4, w5], _ => exact ⟨w0, w1, w2, w3, w4, w5, rfl⟩
  have hw := fun d (hd : d ∈ tables_1) => atoms_spec (ws := Jvm.Cond.code x code maxLocals ret :: tables_1) hat d (List.mem_cons_of_mem _ hd)
  have hfit : Fit s := fun {y c} hc i hi => by
    obtain ⟨ha, rfl⟩ := Array.getElem?_eq_some_iff.mp hc
    have q := List.all_eq_true.mp ((Array.all_eq_true_iff_forall_mem.mp hF) _ (Array.getElem_mem ha)) i (List.mem_range.mpr hi)
    simpa [Array.getElem?_eq_getElem hi] using q
  obtain ⟨hsets, hown0⟩ := atoms_of _ (rest_1_c_eq ▸ (show rest_1_c.before _ s = true from hrest))
  obtain ⟨i0, ei0⟩ := is_v gb0
  obtain rfl : w0 = (.int i0) := Option.some.inj ei0
  obtain ⟨i1, ei1⟩ := is_v gb1
  obtain rfl : w1 = (.int i1) := Option.some.inj ei1
  obtain ⟨i2, ei2⟩ := is_v gb2
  obtain rfl : w2 = (.int i2) := Option.some.inj ei2
  obtain ⟨i3, ei3⟩ := is_v gb3
  obtain rfl : w3 = (.int i3) := Option.some.inj ei3
  obtain ⟨i4, ei4⟩ := is_v gb4
  obtain rfl : w4 = (.int i4) := Option.some.inj ei4
  obtain ⟨i5, ei5⟩ := is_v ga5
  obtain rfl : w5 = (.int i5) := Option.some.inj ei5
  have O0 := Old.start s
  obtain ⟨cs, ecs⟩ := is_v (Cond.before_iff.mp (hsets _ (List.mem_of_getElem? (i := 1) rfl)))
  have sc : Sta s s.heap "java/lang/String" "COMPACT_STRINGS" "Z" (.int cs) := Sta.start ecs (Or.inl (hsets _ (List.mem_of_getElem? (i := 0) rfl)))
  have hcs : ¬ cs = (0 : Int32) := fun qq => by
    have w := not_v (Cond.before_iff.mp (hsets _ (List.mem_of_getElem? (i := 2) rfl)))
    exact gotF (Cond.eq_ints ecs (Term.int_eval (0))) w qq
  obtain ⟨G, eG, hG⟩ := isR_v (Cond.before_iff.mp (hsets _ (List.mem_of_getElem? (i := 8) rfl)))
  have sg : Sta s s.heap "jdk/internal/util/Preconditions" "SIOOBE_FORMATTER" "Ljava/util/function/BiFunction;" G := Sta.start eG (Or.inl (hsets _ (List.mem_of_getElem? (i := 7) rfl)))
  have sa : Sta s s.heap "java/lang/StringUTF16" "$assertionsDisabled" "Z" (.int (1 : Int32)) := Sta.start (eqv_i (Term.int_eval (1)) (Cond.before_iff.mp (hsets _ (List.mem_of_getElem? (i := 12) rfl)))) (Or.inl (hsets _ (List.mem_of_getElem? (i := 11) rfl)))
  have sh : Sta s s.heap "java/lang/StringUTF16" "HI_BYTE_SHIFT" "I" (.int (0 : Int32)) := Sta.start (eqv_i (Term.int_eval (0)) (Cond.before_iff.mp (hsets _ (List.mem_of_getElem? (i := 15) rfl)))) (Or.inl (hsets _ (List.mem_of_getElem? (i := 14) rfl)))
  have sl : Sta s s.heap "java/lang/StringUTF16" "LO_BYTE_SHIFT" "I" (.int (8 : Int32)) := Sta.start (eqv_i (Term.int_eval (8)) (Cond.before_iff.mp (hsets _ (List.mem_of_getElem? (i := 18) rfl)))) (Or.inl (hsets _ (List.mem_of_getElem? (i := 17) rfl)))
  have st : own_ST s cs G := ⟨sc, hcs, sa, sh, sl, sg, hG⟩
  obtain ⟨n, o, h1, h2, h3, _, L, rfl, ⟨rfl, N⟩, hq⟩ := rm0 l s _ hw tables_1 i0 i1 i2 i3 i4 i5 cs G s.heap s.heap.size (Nat.le_refl _) O0 st p e ha hc hk s m _ below hf ((Spec.applies_iff_loose hf).mp happ).1 ⟨rfl, State.Warmed39.refl s, rfl⟩ trivial
  refine ⟨n, _, h1, h2, h3, hpost _ _ _ _ _ _ ⟨Cond.after_iff.mpr rfl, Cond.after_iff.mpr (eq_i res_at (Term.int_eval (1)) rfl), trivial⟩ ⟨hq.1, hq.2.1, (hq.2.2.sift fun y hy => Or.inr (N y hy)).mono (by decide) (by decide)⟩⟩
theorem main_1_1 : Claimed_1_1 := comes_1 fun _ _ _ _ _ _ h hF => ⟨h.1, hF⟩
theorem main_1_2 : Claimed_1_2 := comes_1 fun _ _ _ _ _ _ h hF => ⟨h.2.1, hF⟩
end Jvm.Pilot.@@N@@
namespace Jvm.Pilot.@@N@@
open Jvm Jvm.ClassFile Sem Op Lib Jvm.Free Jvm.Stand Jvm.Pilot.@@N@@.Jvm.D
/-! MADE BY PROGRAM (witnessworld.py) out of the Statement's table words and the real class files: 21 classes; the members and pool entries that the words name. The judged class is class 1, her method 2. -/
namespace start1
open Jvm.ClassFile
def u (s : String) : CpInfo := .utf8 (stringToUtf16 s)
/-- a pool by its gaps: so many unusable entries, then the entry; so many at the end -/
def gap : Nat → List CpInfo → List CpInfo
  | 0, r => r
  | n + 1, r => .unusable :: gap n r
def poolList (es : List (Nat × CpInfo)) (last : Nat) : List CpInfo := es.foldr (fun e r => gap e.1 (e.2 :: r)) (gap last [])
def pool (es : List (Nat × CpInfo)) (last : Nat) : Array CpInfo := ⟨poolList es last⟩
def fileOf (pool : Array CpInfo) (this : Nat) (attrs : Array Attribute := #[]) (ms : Array MethodInfo := #[]) (fl : Nat := 33) (sup : Nat := 0) (ifs : Array Nat := #[]) (fds : Array FieldInfo := #[]) : ClassFile where
  minorVersion := 0
  majorVersion := 65
  constantPool := pool
  accessFlags := fl
  thisClass := this
  superClass := sup
  interfaces := ifs
  fields := fds
  methods := ms
  attributes := attrs
def plain (name : String) (sup : Option ClassId) : Class where
  name := name
  kind := .ordinary
  loader := none
  accessFlags := 33
  super := sup
  interfaces := #[]
  cf := none
  fields := #[]
  methods := #[]
  instanceTypes := #[]
  staticTypes := #[]
  resolved := #[]
  callSites := []
  init := .initialized
  statics := none
  mirror := none

def pool0 : Array CpInfo := pool [(5, u "<init>"), (0, u "()V"), (1, .class_ 10), (1, u "java/lang/Object")] 113

def k0c0 : Code := { maxStack := 0, maxLocals := 1, code := object_method_1_code, exceptionTable := #[], attributes := #[] }
def k0m0 : Method := { name := "<init>", desc := "()V", sig := { parameters := [], returnType := none }, accessFlags := 1, code := some k0c0 }
/-- java/lang/Object -/
def k0 : Class := { plain "java/lang/Object" none with
  accessFlags := 33
  interfaces := #[]
  cf := some (fileOf pool0 8 #[] #[{ accessFlags := 1, nameIndex := 5, descriptorIndex := 6, attributes := #[] }] 33 0 #[] #[])
  fields := #[]
  methods := #[k0m0]
  instanceTypes := #[]
  staticTypes := #[]
  resolved := Array.replicate 124 none
  statics := none }

def pool1 : Array CpInfo := pool [(2, .class_ 4), (1, u "java/lang/Object"), (0, u "<init>"), (0, u "()V"), (0, .integer 65535), (0, .methodref 9 10), (0, .class_ 11), (0, .nameAndType 12 13), (0, u "com/example/disposition/disposition/NamesRequirePinLaw"), (0, u "ok"), (0, u "(I)C"), (0, .methodref 15 16), (0, .class_ 17), (0, .nameAndType 18 19), (0, u "java/lang/String"), (0, u "valueOf"), (0, u "(C)Ljava/lang/String;"), (0, .methodref 15 21), (0, .nameAndType 5 22), (0, u "([C)V"), (0, .methodref 24 25), (0, .class_ 26), (0, .nameAndType 27 28), (0, u "com/example/disposition/disposition/Names"), (0, u "require"), (0, u "(Ljava/lang/String;Ljava/lang/String;)Ljava/lang/String;"), (0, .methodref 15 30), (0, .nameAndType 31 32), (0, u "equals"), (0, u "(Ljava/lang/Object;)Z"), (3, u "law"), (0, u "(IIIIII)Z")] 2

def k1m0 : Method := { name := "<init>", desc := "()V", sig := { parameters := [], returnType := none }, accessFlags := 2, code := none }
def k1c1 : Code := { maxStack := 2, maxLocals := 2, code := method_2_code, exceptionTable := #[], attributes := #[] }
def k1m1 : Method := { name := "ok", desc := "(I)C", sig := { parameters := [.int], returnType := some .char }, accessFlags := 10, code := some k1c1 }
def k1c2 : Code := { maxStack := 6, maxLocals := 14, code := code, exceptionTable := #[], attributes := #[] }
def k1m2 : Method := { name := "law", desc := "(IIIIII)Z", sig := { parameters := [.int, .int, .int, .int, .int, .int], returnType := some .boolean }, accessFlags := 9, code := some k1c2 }
/-- com/example/disposition/disposition/NamesRequirePinLaw -/
def k1 : Class := { plain "com/example/disposition/disposition/NamesRequirePinLaw" (some 0) with
  accessFlags := 49
  interfaces := #[]
  cf := some (fileOf pool1 9 #[] #[{ accessFlags := 2, nameIndex := 5, descriptorIndex := 6, attributes := #[] }, { accessFlags := 10, nameIndex := 12, descriptorIndex := 13, attributes := #[] }, { accessFlags := 9, nameIndex := 36, descriptorIndex := 37, attributes := #[] }] 49 2 #[] #[])
  fields := #[]
  methods := #[k1m0, k1m1, k1m2]
  instanceTypes := #[]
  staticTypes := #[]
  resolved := Array.replicate 40 none
  statics := none }

def pool2 : Array CpInfo := pool [(1, .class_ 2), (0, u "java/io/Serializable"), (0, .class_ 4), (0, u "java/lang/Object")] 2

/-- java/io/Serializable -/
def k2 : Class := { plain "java/io/Serializable" (some 0) with
  accessFlags := 1537
  interfaces := #[]
  cf := some (fileOf pool2 1 #[] #[] 1537 3 #[] #[])
  fields := #[]
  methods := #[]
  instanceTypes := #[]
  staticTypes := #[]
  resolved := Array.replicate 7 none
  statics := none }

def pool3 : Array CpInfo := pool [(1, .class_ 2), (0, u "java/lang/Comparable"), (0, .class_ 4), (0, u "java/lang/Object")] 7

/-- java/lang/Comparable -/
def k3 : Class := { plain "java/lang/Comparable" (some 0) with
  accessFlags := 1537
  interfaces := #[]
  cf := some (fileOf pool3 1 #[] #[] 1537 3 #[] #[])
  fields := #[]
  methods := #[]
  instanceTypes := #[]
  staticTypes := #[]
  resolved := Array.replicate 12 none
  statics := none }

def pool4 : Array CpInfo := pool [(2, .class_ 4), (1, u "java/lang/CharSequence"), (42, .class_ 48), (0, u "java/lang/CharSequence$1CodePointIterator"), (10, .class_ 60), (0, u "java/lang/CharSequence$1CharIterator"), (5, .class_ 67), (0, u "java/lang/Object")] 63

/-- java/lang/CharSequence -/
def k4 : Class := { plain "java/lang/CharSequence" (some 0) with
  accessFlags := 1537
  interfaces := #[]
  cf := some (fileOf pool4 2 #[.nestMembers #[47, 59]] #[] 1537 66 #[] #[])
  fields := #[]
  methods := #[]
  instanceTypes := #[]
  staticTypes := #[]
  resolved := Array.replicate 131 none
  statics := none }

def pool5 : Array CpInfo := pool [(1, .class_ 2), (0, u "java/lang/constant/Constable"), (0, .class_ 4), (0, u "java/lang/Object")] 6

/-- java/lang/constant/Constable -/
def k5 : Class := { plain "java/lang/constant/Constable" (some 0) with
  accessFlags := 1537
  interfaces := #[]
  cf := some (fileOf pool5 1 #[] #[] 1537 3 #[] #[])
  fields := #[]
  methods := #[]
  instanceTypes := #[]
  staticTypes := #[]
  resolved := Array.replicate 11 none
  statics := none }

def pool6 : Array CpInfo := pool [(1, .class_ 2), (0, u "java/lang/constant/ConstantDesc"), (0, .class_ 4), (0, u "java/lang/Object")] 32

/-- java/lang/constant/ConstantDesc -/
def k6 : Class := { plain "java/lang/constant/ConstantDesc" (some 0) with
  accessFlags := 1537
  interfaces := #[]
  cf := some (fileOf pool6 1 #[] #[] 1537 3 #[] #[])
  fields := #[]
  methods := #[]
  instanceTypes := #[]
  staticTypes := #[]
  resolved := Array.replicate 37 none
  statics := none }

def pool7 : Array CpInfo := pool [(1, .methodref 2 3), (0, .class_ 4), (0, .nameAndType 5 6), (0, u "java/lang/Object"), (0, u "<init>"), (0, u "()V"), (2, .fieldref 10 11), (0, .class_ 12), (0, .nameAndType 13 14), (0, u "java/lang/String"), (0, u "value"), (0, u "[B"), (0, .fieldref 10 16), (0, .nameAndType 17 18), (0, u "coder"), (0, u "B"), (2, u "hash"), (0, u "I"), (2, u "hashIsZero"), (0, u "Z"), (0, .methodref 10 28), (0, .nameAndType 5 29), (0, u "([CIILjava/lang/Void;)V"), (8, .fieldref 10 39), (0, .nameAndType 40 26), (0, u "COMPACT_STRINGS"), (1, .class_ 44), (1, u "java/lang/StringUTF16"), (0, u "compress"), (1, .methodref 42 48), (0, .nameAndType 49 50), (0, u "coderFromArrayLen"), (0, u "([BI)B"), (2, u "toBytes"), (53, .class_ 109), (1, u "java/lang/StringLatin1"), (32, u "()Z"), (34, .methodref 42 178), (0, .nameAndType 45 179), (0, u "([CII)[B"), (29, .methodref 10 210), (0, .nameAndType 5 211), (0, u "([BB)V"), (122, u "()I"), (0, .methodref 10 336), (0, .nameAndType 17 337), (0, u "()B"), (25, u "([BI)C"), (5, u "(C)Z"), (21, u "(II)V"), (35, u "(I)C"), (64, .methodref 10 493), (0, .nameAndType 494 142), (0, u "isLatin1"), (0, .methodref 107 496), (0, .nameAndType 497 363), (0, u "charAt"), (0, .methodref 42 496), (2, u "checkIndex"), (5, u "length"), (35, u "equals"), (29, u "(Ljava/lang/Object;)Z"), (1, .class_ 576), (0, u "java/lang/CharSequence"), (22, u "CASE_INSENSITIVE_ORDER"), (0, u "Ljava/util/Comparator;"), (91, u "isEmpty"), (89, u "valueOf"), (0, u "(C)Ljava/lang/String;"), (226, u "([C)V"), (4, .methodref 107 1016), (0, .nameAndType 1017 369), (0, u "canEncode"), (0, .methodref 107 1019), (0, .nameAndType 53 1020), (0, u "(C)[B"), (0, .methodref 42 1019), (31, .fieldref 1054 1055), (0, .class_ 1056), (0, .nameAndType 1057 1058), (0, u "jdk/internal/util/Preconditions"), (0, u "SIOOBE_FORMATTER"), (0, u "Ljava/util/function/BiFunction;"), (0, .methodref 1054 1060), (0, .nameAndType 501 1061), (0, u "(IILjava/util/function/BiFunction;)I"), (39, u "serialPersistentFields"), (0, u "[Ljava/io/ObjectStreamField;"), (0, .class_ 1104), (0, u "java/lang/String$CaseInsensitiveComparator"), (1, .class_ 1107), (0, u "java/io/Serializable"), (0, .class_ 1109), (0, u "java/lang/Comparable"), (0, .class_ 1111), (0, u "java/lang/constant/Constable"), (0, .class_ 1113), (0, u "java/lang/constant/ConstantDesc"), (2, u "serialVersionUID"), (0, u "J"), (3, u "REPL"), (0, u "C"), (2, u "LATIN1"), (1, u "UTF16")] 323

def k7m0 : Method := { name := "<init>", desc := "()V", sig := { parameters := [], returnType := none }, accessFlags := 1, code := none }
def k7c1 : Code := { maxStack := 5, maxLocals := 2, code := jdk_42_method_3_code, exceptionTable := #[], attributes := #[] }
def k7m1 : Method := { name := "<init>", desc := "([C)V", sig := { parameters := [(.array .char)], returnType := none }, accessFlags := 1, code := some k7c1 }
def k7c2 : Code := { maxStack := 2, maxLocals := 1, code := jdk_42_method_54_code, exceptionTable := #[], attributes := #[] }
def k7m2 : Method := { name := "length", desc := "()I", sig := { parameters := [], returnType := some .int }, accessFlags := 1, code := some k7c2 }
def k7c3 : Code := { maxStack := 1, maxLocals := 1, code := jdk_42_method_55_code, exceptionTable := #[], attributes := #[] }
def k7m3 : Method := { name := "isEmpty", desc := "()Z", sig := { parameters := [], returnType := some .boolean }, accessFlags := 1, code := some k7c3 }
def k7c4 : Code := { maxStack := 2, maxLocals := 2, code := jdk_42_method_56_code, exceptionTable := #[], attributes := #[] }
def k7m4 : Method := { name := "charAt", desc := "(I)C", sig := { parameters := [.int], returnType := some .char }, accessFlags := 1, code := some k7c4 }
def k7c5 : Code := { maxStack := 2, maxLocals := 3, code := jdk_42_method_66_code, exceptionTable := #[], attributes := #[] }
def k7m5 : Method := { name := "equals", desc := "(Ljava/lang/Object;)Z", sig := { parameters := [(.object "java/lang/Object")], returnType := some .boolean }, accessFlags := 1, code := some k7c5 }
def k7c6 : Code := { maxStack := 4, maxLocals := 1, code := jdk_42_method_139_code, exceptionTable := #[], attributes := #[] }
def k7m6 : Method := { name := "valueOf", desc := "(C)Ljava/lang/String;", sig := { parameters := [.char], returnType := some (.object "java/lang/String") }, accessFlags := 9, code := some k7c6 }
def k7c7 : Code := { maxStack := 4, maxLocals := 6, code := jdk_42_method_149_code, exceptionTable := #[], attributes := #[] }
def k7m7 : Method := { name := "<init>", desc := "([CIILjava/lang/Void;)V", sig := { parameters := [(.array .char), .int, .int, (.object "java/lang/Void")], returnType := none }, accessFlags := 2, code := some k7c7 }
def k7c8 : Code := { maxStack := 2, maxLocals := 3, code := jdk_42_method_151_code, exceptionTable := #[], attributes := #[] }
def k7m8 : Method := { name := "<init>", desc := "([BB)V", sig := { parameters := [(.array .byte), .byte], returnType := none }, accessFlags := 0, code := some k7c8 }
def k7c9 : Code := { maxStack := 1, maxLocals := 1, code := jdk_42_method_152_code, exceptionTable := #[], attributes := #[] }
def k7m9 : Method := { name := "coder", desc := "()B", sig := { parameters := [], returnType := some .byte }, accessFlags := 0, code := some k7c9 }
def k7c10 : Code := { maxStack := 1, maxLocals := 1, code := jdk_42_method_154_code, exceptionTable := #[], attributes := #[] }
def k7m10 : Method := { name := "isLatin1", desc := "()Z", sig := { parameters := [], returnType := some .boolean }, accessFlags := 0, code := some k7c10 }
def k7c11 : Code := { maxStack := 3, maxLocals := 2, code := jdk_42_method_155_code, exceptionTable := #[], attributes := #[] }
def k7m11 : Method := { name := "checkIndex", desc := "(II)V", sig := { parameters := [.int, .int], returnType := none }, accessFlags := 8, code := some k7c11 }
/-- java/lang/String -/
def k7 : Class := { plain "java/lang/String" (some 0) with
  accessFlags := 49
  interfaces := #[2, 3, 4, 5, 6]
  cf := some (fileOf pool7 10 #[.nestMembers #[1103]] #[{ accessFlags := 1, nameIndex := 5, descriptorIndex := 6, attributes := #[] }, { accessFlags := 1, nameIndex := 5, descriptorIndex := 1010, attributes := #[] }, { accessFlags := 1, nameIndex := 507, descriptorIndex := 334, attributes := #[] }, { accessFlags := 1, nameIndex := 692, descriptorIndex := 142, attributes := #[] }, { accessFlags := 1, nameIndex := 497, descriptorIndex := 427, attributes := #[] }, { accessFlags := 1, nameIndex := 543, descriptorIndex := 573, attributes := #[] }, { accessFlags := 9, nameIndex := 782, descriptorIndex := 783, attributes := #[] }, { accessFlags := 2, nameIndex := 5, descriptorIndex := 29, attributes := #[] }, { accessFlags := 0, nameIndex := 5, descriptorIndex := 211, attributes := #[] }, { accessFlags := 0, nameIndex := 17, descriptorIndex := 337, attributes := #[] }, { accessFlags := 0, nameIndex := 494, descriptorIndex := 142, attributes := #[] }, { accessFlags := 8, nameIndex := 501, descriptorIndex := 391, attributes := #[] }] 49 2 #[1106, 1108, 575, 1110, 1112] #[{ accessFlags := 18, nameIndex := 13, descriptorIndex := 14, attributes := #[] }, { accessFlags := 18, nameIndex := 17, descriptorIndex := 18, attributes := #[] }, { accessFlags := 2, nameIndex := 21, descriptorIndex := 22, attributes := #[] }, { accessFlags := 2, nameIndex := 25, descriptorIndex := 26, attributes := #[] }, { accessFlags := 26, nameIndex := 1116, descriptorIndex := 1117, attributes := #[] }, { accessFlags := 24, nameIndex := 40, descriptorIndex := 26, attributes := #[] }, { accessFlags := 26, nameIndex := 1101, descriptorIndex := 1102, attributes := #[] }, { accessFlags := 26, nameIndex := 1121, descriptorIndex := 1122, attributes := #[] }, { accessFlags := 25, nameIndex := 599, descriptorIndex := 600, attributes := #[] }, { accessFlags := 24, nameIndex := 1125, descriptorIndex := 18, attributes := #[] }, { accessFlags := 24, nameIndex := 1127, descriptorIndex := 18, attributes := #[] }])
  fields := #[{ name := "value", type := (.array .byte), accessFlags := 18, slot := 0, constantValue := 0 }, { name := "coder", type := .byte, accessFlags := 18, slot := 1, constantValue := 0 }, { name := "hash", type := .int, accessFlags := 2, slot := 2, constantValue := 0 }, { name := "hashIsZero", type := .boolean, accessFlags := 2, slot := 3, constantValue := 0 }, { name := "serialVersionUID", type := .long, accessFlags := 26, slot := 0, constantValue := 0 }, { name := "COMPACT_STRINGS", type := .boolean, accessFlags := 24, slot := 1, constantValue := 0 }, { name := "serialPersistentFields", type := (.array (.object "java/io/ObjectStreamField")), accessFlags := 26, slot := 2, constantValue := 0 }, { name := "REPL", type := .char, accessFlags := 26, slot := 3, constantValue := 0 }, { name := "CASE_INSENSITIVE_ORDER", type := (.object "java/util/Comparator"), accessFlags := 25, slot := 4, constantValue := 0 }, { name := "LATIN1", type := .byte, accessFlags := 24, slot := 5, constantValue := 0 }, { name := "UTF16", type := .byte, accessFlags := 24, slot := 6, constantValue := 0 }]
  methods := #[k7m0, k7m1, k7m2, k7m3, k7m4, k7m5, k7m6, k7m7, k7m8, k7m9, k7m10, k7m11]
  instanceTypes := #[(.array .byte), .byte, .int, .boolean]
  staticTypes := #[.long, .boolean, (.array (.object "java/io/ObjectStreamField")), .char, (.object "java/util/Comparator"), .byte, .byte]
  resolved := Array.replicate 1451 none
  statics := some 0 }

def pool8 : Array CpInfo := pool [(1, .class_ 2), (0, u "java/lang/String"), (1, .class_ 6), (1, u "java/lang/Object"), (0, u "<init>"), (0, u "()V"), (0, .methodref 1 10), (0, .nameAndType 11 12), (0, u "checkIndex"), (0, u "(II)V"), (1, .class_ 16), (1, u "java/lang/StringLatin1"), (36, u "([BI)C"), (36, u "canEncode"), (14, u "(C)Z"), (15, u "$assertionsDisabled"), (0, u "Z"), (98, .class_ 223), (1, u "java/lang/StringLatin1$LinesSpliterator"), (28, u "charAt"), (127, u "toBytes"), (1, u "(C)[B"), (7, .class_ 391), (0, u "java/lang/StringLatin1$CharsSpliterator")] 3

def k8m0 : Method := { name := "<init>", desc := "()V", sig := { parameters := [], returnType := none }, accessFlags := 0, code := none }
def k8c1 : Code := { maxStack := 2, maxLocals := 2, code := jdk_43_method_2_code, exceptionTable := #[], attributes := #[] }
def k8m1 : Method := { name := "charAt", desc := "([BI)C", sig := { parameters := [(.array .byte), .int], returnType := some .char }, accessFlags := 9, code := some k8c1 }
def k8c2 : Code := { maxStack := 2, maxLocals := 1, code := jdk_43_method_3_code, exceptionTable := #[], attributes := #[] }
def k8m2 : Method := { name := "canEncode", desc := "(C)Z", sig := { parameters := [.char], returnType := some .boolean }, accessFlags := 9, code := some k8c2 }
def k8c3 : Code := { maxStack := 4, maxLocals := 1, code := jdk_43_method_46_code, exceptionTable := #[], attributes := #[] }
def k8m3 : Method := { name := "toBytes", desc := "(C)[B", sig := { parameters := [.char], returnType := some (.array .byte) }, accessFlags := 9, code := some k8c3 }
/-- java/lang/StringLatin1 -/
def k8 : Class := { plain "java/lang/StringLatin1" (some 0) with
  accessFlags := 48
  interfaces := #[]
  cf := some (fileOf pool8 14 #[.nestMembers #[390, 221]] #[{ accessFlags := 0, nameIndex := 7, descriptorIndex := 8, attributes := #[] }, { accessFlags := 9, nameIndex := 252, descriptorIndex := 53, attributes := #[] }, { accessFlags := 9, nameIndex := 90, descriptorIndex := 105, attributes := #[] }, { accessFlags := 9, nameIndex := 380, descriptorIndex := 382, attributes := #[] }] 48 4 #[] #[{ accessFlags := 4120, nameIndex := 121, descriptorIndex := 122, attributes := #[] }])
  fields := #[{ name := "$assertionsDisabled", type := .boolean, accessFlags := 4120, slot := 0, constantValue := 0 }]
  methods := #[k8m0, k8m1, k8m2, k8m3]
  instanceTypes := #[]
  staticTypes := #[.boolean]
  resolved := Array.replicate 395 none
  statics := none }

def pool9 : Array CpInfo := pool [(2, .class_ 4), (1, u "java/lang/Object"), (0, u "<init>"), (0, u "()V"), (0, .methodref 8 9), (0, .class_ 10), (0, .nameAndType 11 12), (0, u "java/lang/String"), (0, u "isEmpty"), (0, u "()Z"), (9, .methodref 8 23), (0, .nameAndType 24 25), (0, u "length"), (0, u "()I"), (0, .methodref 8 27), (0, .nameAndType 28 29), (0, u "charAt"), (0, u "(I)C"), (0, .methodref 31 32), (0, .class_ 33), (0, .nameAndType 34 35), (0, u "java/lang/Character"), (0, u "isISOControl"), (0, u "(C)Z"), (2, u "(Ljava/lang/String;Ljava/lang/String;)Ljava/lang/String;"), (0, .class_ 40), (0, u "com/example/disposition/disposition/Names"), (2, u "require")] 20

def k9m0 : Method := { name := "<init>", desc := "()V", sig := { parameters := [], returnType := none }, accessFlags := 2, code := none }
def k9c1 : Code := { maxStack := 4, maxLocals := 3, code := prog_4_method_2_code, exceptionTable := #[], attributes := #[] }
def k9m1 : Method := { name := "require", desc := "(Ljava/lang/String;Ljava/lang/String;)Ljava/lang/String;", sig := { parameters := [(.object "java/lang/String"), (.object "java/lang/String")], returnType := some (.object "java/lang/String") }, accessFlags := 9, code := some k9c1 }
/-- com/example/disposition/disposition/Names -/
def k9 : Class := { plain "com/example/disposition/disposition/Names" (some 0) with
  accessFlags := 33
  interfaces := #[]
  cf := some (fileOf pool9 39 #[] #[{ accessFlags := 2, nameIndex := 5, descriptorIndex := 6, attributes := #[] }, { accessFlags := 9, nameIndex := 43, descriptorIndex := 38, attributes := #[] }] 33 2 #[] #[])
  fields := #[]
  methods := #[k9m0, k9m1]
  instanceTypes := #[]
  staticTypes := #[]
  resolved := Array.replicate 64 none
  statics := none }

def pool10 : Array CpInfo := pool [(2, .class_ 4), (1, u "java/lang/Object"), (0, u "<init>"), (0, u "()V"), (17, .class_ 26), (1, u "jdk/internal/util/Preconditions"), (6, u "checkIndex"), (21, .class_ 56), (0, u "jdk/internal/util/Preconditions$4"), (57, .class_ 115), (0, u "jdk/internal/util/Preconditions$1"), (7, u "SIOOBE_FORMATTER"), (0, u "Ljava/util/function/BiFunction;"), (0, .class_ 126), (0, u "jdk/internal/util/Preconditions$2"), (3, u "AIOOBE_FORMATTER"), (0, .class_ 132), (0, u "jdk/internal/util/Preconditions$3"), (3, u "IOOBE_FORMATTER"), (41, u "(IILjava/util/function/BiFunction;)I")] 15

def k10m0 : Method := { name := "<init>", desc := "()V", sig := { parameters := [], returnType := none }, accessFlags := 1, code := none }
def k10c1 : Code := { maxStack := 3, maxLocals := 3, code := jdk_41_method_11_code, exceptionTable := #[], attributes := #[] }
def k10m1 : Method := { name := "checkIndex", desc := "(IILjava/util/function/BiFunction;)I", sig := { parameters := [.int, .int, (.object "java/util/function/BiFunction")], returnType := some .int }, accessFlags := 9, code := some k10c1 }
/-- jdk/internal/util/Preconditions -/
def k10 : Class := { plain "jdk/internal/util/Preconditions" (some 0) with
  accessFlags := 33
  interfaces := #[]
  cf := some (fileOf pool10 24 #[.nestMembers #[55, 131, 125, 114]] #[{ accessFlags := 1, nameIndex := 5, descriptorIndex := 6, attributes := #[] }, { accessFlags := 9, nameIndex := 33, descriptorIndex := 178, attributes := #[] }] 33 2 #[] #[{ accessFlags := 25, nameIndex := 123, descriptorIndex := 124, attributes := #[] }, { accessFlags := 25, nameIndex := 130, descriptorIndex := 124, attributes := #[] }, { accessFlags := 25, nameIndex := 136, descriptorIndex := 124, attributes := #[] }])
  fields := #[{ name := "SIOOBE_FORMATTER", type := (.object "java/util/function/BiFunction"), accessFlags := 25, slot := 0, constantValue := 0 }, { name := "AIOOBE_FORMATTER", type := (.object "java/util/function/BiFunction"), accessFlags := 25, slot := 1, constantValue := 0 }, { name := "IOOBE_FORMATTER", type := (.object "java/util/function/BiFunction"), accessFlags := 25, slot := 2, constantValue := 0 }]
  methods := #[k10m0, k10m1]
  instanceTypes := #[]
  staticTypes := #[(.object "java/util/function/BiFunction"), (.object "java/util/function/BiFunction"), (.object "java/util/function/BiFunction")]
  resolved := Array.replicate 194 none
  statics := some 1 }

def pool11 : Array CpInfo := pool [(1, .class_ 2), (0, u "java/lang/Character"), (18, u "value"), (0, u "C"), (19, .class_ 44), (1, u "java/lang/Object"), (3, .class_ 50), (1, u "java/lang/Character$CharacterCache"), (30, u "(C)Z"), (32, u "(I)Z"), (151, .methodref 1 267), (0, .nameAndType 268 114), (0, u "isISOControl"), (15, u "$assertionsDisabled"), (0, u "Z"), (21, .class_ 309), (1, u "java/lang/Character$UnicodeBlock"), (73, u "TYPE"), (0, u "Ljava/lang/Class;"), (0, .class_ 386), (0, u "java/io/Serializable"), (0, .class_ 388), (0, u "java/lang/Comparable"), (0, .class_ 390), (0, u "java/lang/constant/Constable"), (0, u "MIN_RADIX"), (0, u "I"), (2, u "MAX_RADIX"), (1, u "MIN_VALUE"), (1, u "MAX_VALUE"), (3, u "UNASSIGNED"), (0, u "B"), (0, u "UPPERCASE_LETTER"), (1, u "LOWERCASE_LETTER"), (0, u "TITLECASE_LETTER"), (1, u "MODIFIER_LETTER"), (1, u "OTHER_LETTER"), (1, u "NON_SPACING_MARK"), (1, u "ENCLOSING_MARK"), (1, u "COMBINING_SPACING_MARK"), (1, u "DECIMAL_DIGIT_NUMBER"), (1, u "LETTER_NUMBER"), (1, u "OTHER_NUMBER"), (1, u "SPACE_SEPARATOR"), (1, u "LINE_SEPARATOR"), (1, u "PARAGRAPH_SEPARATOR"), (1, u "CONTROL"), (1, u "FORMAT"), (1, u "PRIVATE_USE"), (1, u "SURROGATE"), (1, u "DASH_PUNCTUATION"), (1, u "START_PUNCTUATION"), (1, u "END_PUNCTUATION"), (1, u "CONNECTOR_PUNCTUATION"), (1, u "OTHER_PUNCTUATION"), (1, u "MATH_SYMBOL"), (1, u "CURRENCY_SYMBOL"), (1, u "MODIFIER_SYMBOL"), (1, u "OTHER_SYMBOL"), (1, u "INITIAL_QUOTE_PUNCTUATION"), (1, u "FINAL_QUOTE_PUNCTUATION"), (1, u "ERROR"), (1, u "DIRECTIONALITY_UNDEFINED"), (0, u "DIRECTIONALITY_LEFT_TO_RIGHT"), (0, u "DIRECTIONALITY_RIGHT_TO_LEFT"), (0, u "DIRECTIONALITY_RIGHT_TO_LEFT_ARABIC"), (0, u "DIRECTIONALITY_EUROPEAN_NUMBER"), (0, u "DIRECTIONALITY_EUROPEAN_NUMBER_SEPARATOR"), (0, u "DIRECTIONALITY_EUROPEAN_NUMBER_TERMINATOR"), (0, u "DIRECTIONALITY_ARABIC_NUMBER"), (0, u "DIRECTIONALITY_COMMON_NUMBER_SEPARATOR"), (0, u "DIRECTIONALITY_NONSPACING_MARK"), (0, u "DIRECTIONALITY_BOUNDARY_NEUTRAL"), (0, u "DIRECTIONALITY_PARAGRAPH_SEPARATOR"), (0, u "DIRECTIONALITY_SEGMENT_SEPARATOR"), (0, u "DIRECTIONALITY_WHITESPACE"), (0, u "DIRECTIONALITY_OTHER_NEUTRALS"), (0, u "DIRECTIONALITY_LEFT_TO_RIGHT_EMBEDDING"), (0, u "DIRECTIONALITY_LEFT_TO_RIGHT_OVERRIDE"), (0, u "DIRECTIONALITY_RIGHT_TO_LEFT_EMBEDDING"), (0, u "DIRECTIONALITY_RIGHT_TO_LEFT_OVERRIDE"), (1, u "DIRECTIONALITY_POP_DIRECTIONAL_FORMAT"), (0, u "DIRECTIONALITY_LEFT_TO_RIGHT_ISOLATE"), (0, u "DIRECTIONALITY_RIGHT_TO_LEFT_ISOLATE"), (0, u "DIRECTIONALITY_FIRST_STRONG_ISOLATE"), (0, u "DIRECTIONALITY_POP_DIRECTIONAL_ISOLATE"), (0, u "MIN_HIGH_SURROGATE"), (0, u "MAX_HIGH_SURROGATE"), (1, u "MIN_LOW_SURROGATE"), (0, u "MAX_LOW_SURROGATE"), (1, u "MIN_SURROGATE"), (0, u "MAX_SURROGATE"), (0, u "MIN_SUPPLEMENTARY_CODE_POINT"), (0, u "MIN_CODE_POINT"), (0, u "MAX_CODE_POINT"), (1, u "serialVersionUID"), (0, u "J"), (2, u "SIZE"), (0, u "BYTES"), (88, .class_ 596), (0, u "java/lang/Character$UnicodeScript"), (0, .class_ 598), (0, u "java/lang/Character$Subset")] 5

def k11c0 : Code := { maxStack := 1, maxLocals := 1, code := jdk_89_method_88_code, exceptionTable := #[], attributes := #[] }
def k11m0 : Method := { name := "isISOControl", desc := "(C)Z", sig := { parameters := [.char], returnType := some .boolean }, accessFlags := 9, code := some k11c0 }
def k11c1 : Code := { maxStack := 2, maxLocals := 1, code := jdk_89_method_89_code, exceptionTable := #[], attributes := #[] }
def k11m1 : Method := { name := "isISOControl", desc := "(I)Z", sig := { parameters := [.int], returnType := some .boolean }, accessFlags := 9, code := some k11c1 }
/-- java/lang/Character -/
def k11 : Class := { plain "java/lang/Character" (some 0) with
  accessFlags := 49
  interfaces := #[2, 3, 5]
  cf := some (fileOf pool11 1 #[.nestMembers #[48, 595, 307, 597]] #[{ accessFlags := 9, nameIndex := 268, descriptorIndex := 81, attributes := #[] }, { accessFlags := 9, nameIndex := 268, descriptorIndex := 114, attributes := #[] }] 49 42 #[385, 387, 389] #[{ accessFlags := 25, nameIndex := 391, descriptorIndex := 392, attributes := #[] }, { accessFlags := 25, nameIndex := 395, descriptorIndex := 392, attributes := #[] }, { accessFlags := 25, nameIndex := 397, descriptorIndex := 22, attributes := #[] }, { accessFlags := 25, nameIndex := 399, descriptorIndex := 22, attributes := #[] }, { accessFlags := 25, nameIndex := 383, descriptorIndex := 384, attributes := #[] }, { accessFlags := 25, nameIndex := 403, descriptorIndex := 404, attributes := #[] }, { accessFlags := 25, nameIndex := 405, descriptorIndex := 404, attributes := #[] }, { accessFlags := 25, nameIndex := 407, descriptorIndex := 404, attributes := #[] }, { accessFlags := 25, nameIndex := 408, descriptorIndex := 404, attributes := #[] }, { accessFlags := 25, nameIndex := 410, descriptorIndex := 404, attributes := #[] }, { accessFlags := 25, nameIndex := 412, descriptorIndex := 404, attributes := #[] }, { accessFlags := 25, nameIndex := 414, descriptorIndex := 404, attributes := #[] }, { accessFlags := 25, nameIndex := 416, descriptorIndex := 404, attributes := #[] }, { accessFlags := 25, nameIndex := 418, descriptorIndex := 404, attributes := #[] }, { accessFlags := 25, nameIndex := 420, descriptorIndex := 404, attributes := #[] }, { accessFlags := 25, nameIndex := 422, descriptorIndex := 404, attributes := #[] }, { accessFlags := 25, nameIndex := 424, descriptorIndex := 404, attributes := #[] }, { accessFlags := 25, nameIndex := 426, descriptorIndex := 404, attributes := #[] }, { accessFlags := 25, nameIndex := 428, descriptorIndex := 404, attributes := #[] }, { accessFlags := 25, nameIndex := 430, descriptorIndex := 404, attributes := #[] }, { accessFlags := 25, nameIndex := 432, descriptorIndex := 404, attributes := #[] }, { accessFlags := 25, nameIndex := 434, descriptorIndex := 404, attributes := #[] }, { accessFlags := 25, nameIndex := 436, descriptorIndex := 404, attributes := #[] }, { accessFlags := 25, nameIndex := 438, descriptorIndex := 404, attributes := #[] }, { accessFlags := 25, nameIndex := 440, descriptorIndex := 404, attributes := #[] }, { accessFlags := 25, nameIndex := 442, descriptorIndex := 404, attributes := #[] }, { accessFlags := 25, nameIndex := 444, descriptorIndex := 404, attributes := #[] }, { accessFlags := 25, nameIndex := 446, descriptorIndex := 404, attributes := #[] }, { accessFlags := 25, nameIndex := 448, descriptorIndex := 404, attributes := #[] }, { accessFlags := 25, nameIndex := 450, descriptorIndex := 404, attributes := #[] }, { accessFlags := 25, nameIndex := 452, descriptorIndex := 404, attributes := #[] }, { accessFlags := 25, nameIndex := 454, descriptorIndex := 404, attributes := #[] }, { accessFlags := 25, nameIndex := 456, descriptorIndex := 404, attributes := #[] }, { accessFlags := 25, nameIndex := 458, descriptorIndex := 404, attributes := #[] }, { accessFlags := 25, nameIndex := 460, descriptorIndex := 404, attributes := #[] }, { accessFlags := 24, nameIndex := 462, descriptorIndex := 392, attributes := #[] }, { accessFlags := 25, nameIndex := 464, descriptorIndex := 404, attributes := #[] }, { accessFlags := 25, nameIndex := 465, descriptorIndex := 404, attributes := #[] }, { accessFlags := 25, nameIndex := 466, descriptorIndex := 404, attributes := #[] }, { accessFlags := 25, nameIndex := 467, descriptorIndex := 404, attributes := #[] }, { accessFlags := 25, nameIndex := 468, descriptorIndex := 404, attributes := #[] }, { accessFlags := 25, nameIndex := 469, descriptorIndex := 404, attributes := #[] }, { accessFlags := 25, nameIndex := 470, descriptorIndex := 404, attributes := #[] }, { accessFlags := 25, nameIndex := 471, descriptorIndex := 404, attributes := #[] }, { accessFlags := 25, nameIndex := 472, descriptorIndex := 404, attributes := #[] }, { accessFlags := 25, nameIndex := 473, descriptorIndex := 404, attributes := #[] }, { accessFlags := 25, nameIndex := 474, descriptorIndex := 404, attributes := #[] }, { accessFlags := 25, nameIndex := 475, descriptorIndex := 404, attributes := #[] }, { accessFlags := 25, nameIndex := 476, descriptorIndex := 404, attributes := #[] }, { accessFlags := 25, nameIndex := 477, descriptorIndex := 404, attributes := #[] }, { accessFlags := 25, nameIndex := 478, descriptorIndex := 404, attributes := #[] }, { accessFlags := 25, nameIndex := 479, descriptorIndex := 404, attributes := #[] }, { accessFlags := 25, nameIndex := 480, descriptorIndex := 404, attributes := #[] }, { accessFlags := 25, nameIndex := 481, descriptorIndex := 404, attributes := #[] }, { accessFlags := 25, nameIndex := 482, descriptorIndex := 404, attributes := #[] }, { accessFlags := 25, nameIndex := 484, descriptorIndex := 404, attributes := #[] }, { accessFlags := 25, nameIndex := 485, descriptorIndex := 404, attributes := #[] }, { accessFlags := 25, nameIndex := 486, descriptorIndex := 404, attributes := #[] }, { accessFlags := 25, nameIndex := 487, descriptorIndex := 404, attributes := #[] }, { accessFlags := 25, nameIndex := 488, descriptorIndex := 404, attributes := #[] }, { accessFlags := 25, nameIndex := 489, descriptorIndex := 22, attributes := #[] }, { accessFlags := 25, nameIndex := 490, descriptorIndex := 22, attributes := #[] }, { accessFlags := 25, nameIndex := 492, descriptorIndex := 22, attributes := #[] }, { accessFlags := 25, nameIndex := 493, descriptorIndex := 22, attributes := #[] }, { accessFlags := 25, nameIndex := 495, descriptorIndex := 22, attributes := #[] }, { accessFlags := 25, nameIndex := 496, descriptorIndex := 22, attributes := #[] }, { accessFlags := 25, nameIndex := 497, descriptorIndex := 392, attributes := #[] }, { accessFlags := 25, nameIndex := 498, descriptorIndex := 392, attributes := #[] }, { accessFlags := 25, nameIndex := 499, descriptorIndex := 392, attributes := #[] }, { accessFlags := 18, nameIndex := 21, descriptorIndex := 22, attributes := #[] }, { accessFlags := 26, nameIndex := 501, descriptorIndex := 502, attributes := #[] }, { accessFlags := 25, nameIndex := 505, descriptorIndex := 392, attributes := #[] }, { accessFlags := 25, nameIndex := 506, descriptorIndex := 392, attributes := #[] }, { accessFlags := 4120, nameIndex := 284, descriptorIndex := 285, attributes := #[] }])
  fields := #[{ name := "MIN_RADIX", type := .int, accessFlags := 25, slot := 0, constantValue := 0 }, { name := "MAX_RADIX", type := .int, accessFlags := 25, slot := 1, constantValue := 0 }, { name := "MIN_VALUE", type := .char, accessFlags := 25, slot := 2, constantValue := 0 }, { name := "MAX_VALUE", type := .char, accessFlags := 25, slot := 3, constantValue := 0 }, { name := "TYPE", type := (.object "java/lang/Class"), accessFlags := 25, slot := 4, constantValue := 0 }, { name := "UNASSIGNED", type := .byte, accessFlags := 25, slot := 5, constantValue := 0 }, { name := "UPPERCASE_LETTER", type := .byte, accessFlags := 25, slot := 6, constantValue := 0 }, { name := "LOWERCASE_LETTER", type := .byte, accessFlags := 25, slot := 7, constantValue := 0 }, { name := "TITLECASE_LETTER", type := .byte, accessFlags := 25, slot := 8, constantValue := 0 }, { name := "MODIFIER_LETTER", type := .byte, accessFlags := 25, slot := 9, constantValue := 0 }, { name := "OTHER_LETTER", type := .byte, accessFlags := 25, slot := 10, constantValue := 0 }, { name := "NON_SPACING_MARK", type := .byte, accessFlags := 25, slot := 11, constantValue := 0 }, { name := "ENCLOSING_MARK", type := .byte, accessFlags := 25, slot := 12, constantValue := 0 }, { name := "COMBINING_SPACING_MARK", type := .byte, accessFlags := 25, slot := 13, constantValue := 0 }, { name := "DECIMAL_DIGIT_NUMBER", type := .byte, accessFlags := 25, slot := 14, constantValue := 0 }, { name := "LETTER_NUMBER", type := .byte, accessFlags := 25, slot := 15, constantValue := 0 }, { name := "OTHER_NUMBER", type := .byte, accessFlags := 25, slot := 16, constantValue := 0 }, { name := "SPACE_SEPARATOR", type := .byte, accessFlags := 25, slot := 17, constantValue := 0 }, { name := "LINE_SEPARATOR", type := .byte, accessFlags := 25, slot := 18, constantValue := 0 }, { name := "PARAGRAPH_SEPARATOR", type := .byte, accessFlags := 25, slot := 19, constantValue := 0 }, { name := "CONTROL", type := .byte, accessFlags := 25, slot := 20, constantValue := 0 }, { name := "FORMAT", type := .byte, accessFlags := 25, slot := 21, constantValue := 0 }, { name := "PRIVATE_USE", type := .byte, accessFlags := 25, slot := 22, constantValue := 0 }, { name := "SURROGATE", type := .byte, accessFlags := 25, slot := 23, constantValue := 0 }, { name := "DASH_PUNCTUATION", type := .byte, accessFlags := 25, slot := 24, constantValue := 0 }, { name := "START_PUNCTUATION", type := .byte, accessFlags := 25, slot := 25, constantValue := 0 }, { name := "END_PUNCTUATION", type := .byte, accessFlags := 25, slot := 26, constantValue := 0 }, { name := "CONNECTOR_PUNCTUATION", type := .byte, accessFlags := 25, slot := 27, constantValue := 0 }, { name := "OTHER_PUNCTUATION", type := .byte, accessFlags := 25, slot := 28, constantValue := 0 }, { name := "MATH_SYMBOL", type := .byte, accessFlags := 25, slot := 29, constantValue := 0 }, { name := "CURRENCY_SYMBOL", type := .byte, accessFlags := 25, slot := 30, constantValue := 0 }, { name := "MODIFIER_SYMBOL", type := .byte, accessFlags := 25, slot := 31, constantValue := 0 }, { name := "OTHER_SYMBOL", type := .byte, accessFlags := 25, slot := 32, constantValue := 0 }, { name := "INITIAL_QUOTE_PUNCTUATION", type := .byte, accessFlags := 25, slot := 33, constantValue := 0 }, { name := "FINAL_QUOTE_PUNCTUATION", type := .byte, accessFlags := 25, slot := 34, constantValue := 0 }, { name := "ERROR", type := .int, accessFlags := 24, slot := 35, constantValue := 0 }, { name := "DIRECTIONALITY_UNDEFINED", type := .byte, accessFlags := 25, slot := 36, constantValue := 0 }, { name := "DIRECTIONALITY_LEFT_TO_RIGHT", type := .byte, accessFlags := 25, slot := 37, constantValue := 0 }, { name := "DIRECTIONALITY_RIGHT_TO_LEFT", type := .byte, accessFlags := 25, slot := 38, constantValue := 0 }, { name := "DIRECTIONALITY_RIGHT_TO_LEFT_ARABIC", type := .byte, accessFlags := 25, slot := 39, constantValue := 0 }, { name := "DIRECTIONALITY_EUROPEAN_NUMBER", type := .byte, accessFlags := 25, slot := 40, constantValue := 0 }, { name := "DIRECTIONALITY_EUROPEAN_NUMBER_SEPARATOR", type := .byte, accessFlags := 25, slot := 41, constantValue := 0 }, { name := "DIRECTIONALITY_EUROPEAN_NUMBER_TERMINATOR", type := .byte, accessFlags := 25, slot := 42, constantValue := 0 }, { name := "DIRECTIONALITY_ARABIC_NUMBER", type := .byte, accessFlags := 25, slot := 43, constantValue := 0 }, { name := "DIRECTIONALITY_COMMON_NUMBER_SEPARATOR", type := .byte, accessFlags := 25, slot := 44, constantValue := 0 }, { name := "DIRECTIONALITY_NONSPACING_MARK", type := .byte, accessFlags := 25, slot := 45, constantValue := 0 }, { name := "DIRECTIONALITY_BOUNDARY_NEUTRAL", type := .byte, accessFlags := 25, slot := 46, constantValue := 0 }, { name := "DIRECTIONALITY_PARAGRAPH_SEPARATOR", type := .byte, accessFlags := 25, slot := 47, constantValue := 0 }, { name := "DIRECTIONALITY_SEGMENT_SEPARATOR", type := .byte, accessFlags := 25, slot := 48, constantValue := 0 }, { name := "DIRECTIONALITY_WHITESPACE", type := .byte, accessFlags := 25, slot := 49, constantValue := 0 }, { name := "DIRECTIONALITY_OTHER_NEUTRALS", type := .byte, accessFlags := 25, slot := 50, constantValue := 0 }, { name := "DIRECTIONALITY_LEFT_TO_RIGHT_EMBEDDING", type := .byte, accessFlags := 25, slot := 51, constantValue := 0 }, { name := "DIRECTIONALITY_LEFT_TO_RIGHT_OVERRIDE", type := .byte, accessFlags := 25, slot := 52, constantValue := 0 }, { name := "DIRECTIONALITY_RIGHT_TO_LEFT_EMBEDDING", type := .byte, accessFlags := 25, slot := 53, constantValue := 0 }, { name := "DIRECTIONALITY_RIGHT_TO_LEFT_OVERRIDE", type := .byte, accessFlags := 25, slot := 54, constantValue := 0 }, { name := "DIRECTIONALITY_POP_DIRECTIONAL_FORMAT", type := .byte, accessFlags := 25, slot := 55, constantValue := 0 }, { name := "DIRECTIONALITY_LEFT_TO_RIGHT_ISOLATE", type := .byte, accessFlags := 25, slot := 56, constantValue := 0 }, { name := "DIRECTIONALITY_RIGHT_TO_LEFT_ISOLATE", type := .byte, accessFlags := 25, slot := 57, constantValue := 0 }, { name := "DIRECTIONALITY_FIRST_STRONG_ISOLATE", type := .byte, accessFlags := 25, slot := 58, constantValue := 0 }, { name := "DIRECTIONALITY_POP_DIRECTIONAL_ISOLATE", type := .byte, accessFlags := 25, slot := 59, constantValue := 0 }, { name := "MIN_HIGH_SURROGATE", type := .char, accessFlags := 25, slot := 60, constantValue := 0 }, { name := "MAX_HIGH_SURROGATE", type := .char, accessFlags := 25, slot := 61, constantValue := 0 }, { name := "MIN_LOW_SURROGATE", type := .char, accessFlags := 25, slot := 62, constantValue := 0 }, { name := "MAX_LOW_SURROGATE", type := .char, accessFlags := 25, slot := 63, constantValue := 0 }, { name := "MIN_SURROGATE", type := .char, accessFlags := 25, slot := 64, constantValue := 0 }, { name := "MAX_SURROGATE", type := .char, accessFlags := 25, slot := 65, constantValue := 0 }, { name := "MIN_SUPPLEMENTARY_CODE_POINT", type := .int, accessFlags := 25, slot := 66, constantValue := 0 }, { name := "MIN_CODE_POINT", type := .int, accessFlags := 25, slot := 67, constantValue := 0 }, { name := "MAX_CODE_POINT", type := .int, accessFlags := 25, slot := 68, constantValue := 0 }, { name := "value", type := .char, accessFlags := 18, slot := 0, constantValue := 0 }, { name := "serialVersionUID", type := .long, accessFlags := 26, slot := 69, constantValue := 0 }, { name := "SIZE", type := .int, accessFlags := 25, slot := 70, constantValue := 0 }, { name := "BYTES", type := .int, accessFlags := 25, slot := 71, constantValue := 0 }, { name := "$assertionsDisabled", type := .boolean, accessFlags := 4120, slot := 72, constantValue := 0 }]
  methods := #[k11m0, k11m1]
  instanceTypes := #[.char]
  staticTypes := #[.int, .int, .char, .char, (.object "java/lang/Class"), .byte, .byte, .byte, .byte, .byte, .byte, .byte, .byte, .byte, .byte, .byte, .byte, .byte, .byte, .byte, .byte, .byte, .byte, .byte, .byte, .byte, .byte, .byte, .byte, .byte, .byte, .byte, .byte, .byte, .byte, .int, .byte, .byte, .byte, .byte, .byte, .byte, .byte, .byte, .byte, .byte, .byte, .byte, .byte, .byte, .byte, .byte, .byte, .byte, .byte, .byte, .byte, .byte, .byte, .byte, .char, .char, .char, .char, .char, .char, .int, .int, .int, .long, .int, .int, .boolean]
  resolved := Array.replicate 604 none
  statics := none }

def pool12 : Array CpInfo := pool [(3, .class_ 4), (0, u "java/lang/String"), (1, .class_ 8), (1, u "java/lang/Object"), (0, u "<init>"), (0, u "()V"), (0, .methodref 12 13), (0, .class_ 14), (0, .nameAndType 15 16), (0, u "java/lang/StringUTF16"), (0, u "newBytesLength"), (0, u "(I)I"), (3, .integer 1073741823), (23, .fieldref 12 45), (0, .nameAndType 46 47), (0, u "$assertionsDisabled"), (0, u "Z"), (0, .methodref 12 49), (0, .nameAndType 50 51), (0, u "length"), (0, u "([B)I"), (7, .fieldref 12 60), (0, .nameAndType 61 62), (0, u "HI_BYTE_SHIFT"), (0, u "I"), (0, .fieldref 12 64), (0, .nameAndType 65 62), (0, u "LO_BYTE_SHIFT"), (1, .methodref 12 68), (0, .nameAndType 69 70), (0, u "checkIndex"), (0, u "(I[B)V"), (0, .methodref 12 72), (0, .nameAndType 73 74), (0, u "getChar"), (0, u "([BI)C"), (32, .methodref 12 108), (0, .nameAndType 109 110), (0, u "newBytesFor"), (0, u "(I)[B"), (0, .methodref 12 112), (0, .nameAndType 113 114), (0, u "putChar"), (0, u "([BII)V"), (0, .methodref 12 116), (0, .nameAndType 117 118), (0, u "compress"), (0, u "([CI[BII)I"), (0, .methodref 12 120), (0, .nameAndType 121 122), (0, u "toBytes"), (0, u "([CII)[B"), (138, u "coderFromArrayLen"), (0, u "([BI)B"), (106, .class_ 371), (1, u "java/lang/StringUTF16$LinesSpliterator"), (20, u "charAt"), (21, .methodref 3 415), (0, .nameAndType 69 416), (0, u "(II)V"), (13, u "MAX_LENGTH"), (44, u "(C)[B"), (151, .class_ 628), (0, u "java/lang/StringUTF16$CodePointsSpliterator"), (0, .class_ 630), (0, u "java/lang/StringUTF16$CharsSpliterator")] 4

def k12m0 : Method := { name := "<init>", desc := "()V", sig := { parameters := [], returnType := none }, accessFlags := 0, code := none }
def k12c1 : Code := { maxStack := 1, maxLocals := 1, code := jdk_52_method_2_code, exceptionTable := #[], attributes := #[] }
def k12m1 : Method := { name := "newBytesFor", desc := "(I)[B", sig := { parameters := [.int], returnType := some (.array .byte) }, accessFlags := 9, code := some k12c1 }
def k12c2 : Code := { maxStack := 4, maxLocals := 1, code := jdk_52_method_3_code, exceptionTable := #[], attributes := #[] }
def k12m2 : Method := { name := "newBytesLength", desc := "(I)I", sig := { parameters := [.int], returnType := some .int }, accessFlags := 9, code := some k12c2 }
def k12c3 : Code := { maxStack := 4, maxLocals := 3, code := jdk_52_method_4_code, exceptionTable := #[], attributes := #[] }
def k12m3 : Method := { name := "putChar", desc := "([BII)V", sig := { parameters := [(.array .byte), .int, .int], returnType := none }, accessFlags := 8, code := some k12c3 }
def k12c4 : Code := { maxStack := 3, maxLocals := 2, code := jdk_52_method_5_code, exceptionTable := #[], attributes := #[] }
def k12m4 : Method := { name := "getChar", desc := "([BI)C", sig := { parameters := [(.array .byte), .int], returnType := some .char }, accessFlags := 8, code := some k12c4 }
def k12c5 : Code := { maxStack := 2, maxLocals := 1, code := jdk_52_method_6_code, exceptionTable := #[], attributes := #[] }
def k12m5 : Method := { name := "length", desc := "([B)I", sig := { parameters := [(.array .byte)], returnType := some .int }, accessFlags := 9, code := some k12c5 }
def k12c6 : Code := { maxStack := 4, maxLocals := 5, code := jdk_52_method_14_code, exceptionTable := #[], attributes := #[] }
def k12m6 : Method := { name := "toBytes", desc := "([CII)[B", sig := { parameters := [(.array .char), .int, .int], returnType := some (.array .byte) }, accessFlags := 9, code := some k12c6 }
def k12c7 : Code := { maxStack := 2, maxLocals := 2, code := jdk_52_method_15_code, exceptionTable := #[], attributes := #[] }
def k12m7 : Method := { name := "coderFromArrayLen", desc := "([BI)B", sig := { parameters := [(.array .byte), .int], returnType := some .byte }, accessFlags := 8, code := some k12c7 }
def k12c8 : Code := { maxStack := 5, maxLocals := 6, code := jdk_52_method_16_code, exceptionTable := #[], attributes := #[] }
def k12m8 : Method := { name := "compress", desc := "([CII)[B", sig := { parameters := [(.array .char), .int, .int], returnType := some (.array .byte) }, accessFlags := 9, code := some k12c8 }
def k12c9 : Code := { maxStack := 3, maxLocals := 7, code := jdk_52_method_21_code, exceptionTable := #[], attributes := #[] }
def k12m9 : Method := { name := "compress", desc := "([CI[BII)I", sig := { parameters := [(.array .char), .int, (.array .byte), .int, .int], returnType := some .int }, accessFlags := 9, code := some k12c9 }
def k12c10 : Code := { maxStack := 3, maxLocals := 2, code := jdk_52_method_24_code, exceptionTable := #[], attributes := #[] }
def k12m10 : Method := { name := "toBytes", desc := "(C)[B", sig := { parameters := [.char], returnType := some (.array .byte) }, accessFlags := 9, code := some k12c10 }
def k12c11 : Code := { maxStack := 2, maxLocals := 2, code := jdk_52_method_83_code, exceptionTable := #[], attributes := #[] }
def k12m11 : Method := { name := "charAt", desc := "([BI)C", sig := { parameters := [(.array .byte), .int], returnType := some .char }, accessFlags := 9, code := some k12c11 }
def k12c12 : Code := { maxStack := 2, maxLocals := 2, code := jdk_52_method_91_code, exceptionTable := #[], attributes := #[] }
def k12m12 : Method := { name := "checkIndex", desc := "(I[B)V", sig := { parameters := [.int, (.array .byte)], returnType := none }, accessFlags := 9, code := some k12c12 }
/-- java/lang/StringUTF16 -/
def k12 : Class := { plain "java/lang/StringUTF16" (some 0) with
  accessFlags := 48
  interfaces := #[]
  cf := some (fileOf pool12 12 #[.nestMembers #[627, 629, 369]] #[{ accessFlags := 0, nameIndex := 9, descriptorIndex := 10, attributes := #[] }, { accessFlags := 9, nameIndex := 109, descriptorIndex := 110, attributes := #[] }, { accessFlags := 9, nameIndex := 15, descriptorIndex := 16, attributes := #[] }, { accessFlags := 8, nameIndex := 113, descriptorIndex := 114, attributes := #[] }, { accessFlags := 8, nameIndex := 73, descriptorIndex := 74, attributes := #[] }, { accessFlags := 9, nameIndex := 50, descriptorIndex := 51, attributes := #[] }, { accessFlags := 9, nameIndex := 121, descriptorIndex := 122, attributes := #[] }, { accessFlags := 8, nameIndex := 261, descriptorIndex := 262, attributes := #[] }, { accessFlags := 9, nameIndex := 117, descriptorIndex := 122, attributes := #[] }, { accessFlags := 9, nameIndex := 117, descriptorIndex := 118, attributes := #[] }, { accessFlags := 9, nameIndex := 121, descriptorIndex := 475, attributes := #[] }, { accessFlags := 9, nameIndex := 392, descriptorIndex := 74, attributes := #[] }, { accessFlags := 9, nameIndex := 69, descriptorIndex := 70, attributes := #[] }] 48 6 #[] #[{ accessFlags := 26, nameIndex := 61, descriptorIndex := 62, attributes := #[] }, { accessFlags := 26, nameIndex := 65, descriptorIndex := 62, attributes := #[] }, { accessFlags := 24, nameIndex := 430, descriptorIndex := 62, attributes := #[] }, { accessFlags := 4120, nameIndex := 46, descriptorIndex := 47, attributes := #[] }])
  fields := #[{ name := "HI_BYTE_SHIFT", type := .int, accessFlags := 26, slot := 0, constantValue := 0 }, { name := "LO_BYTE_SHIFT", type := .int, accessFlags := 26, slot := 1, constantValue := 0 }, { name := "MAX_LENGTH", type := .int, accessFlags := 24, slot := 2, constantValue := 0 }, { name := "$assertionsDisabled", type := .boolean, accessFlags := 4120, slot := 3, constantValue := 0 }]
  methods := #[k12m0, k12m1, k12m2, k12m3, k12m4, k12m5, k12m6, k12m7, k12m8, k12m9, k12m10, k12m11, k12m12]
  instanceTypes := #[]
  staticTypes := #[.int, .int, .int, .boolean]
  resolved := Array.replicate 635 none
  statics := some 2 }

def pool13 : Array CpInfo := pool [(9, u "<init>"), (6, .class_ 18), (1, u "java/lang/Object"), (0, u "()V"), (1, .class_ 23), (1, u "jdk/internal/util/ArraysSupport"), (0, u "LOG2_ARRAY_LONG_INDEX_SCALE"), (0, u "I"), (2, u "U"), (0, u "Ljdk/internal/misc/Unsafe;"), (8, u "BIG_ENDIAN"), (0, u "Z"), (8, u "LOG2_BYTE_BIT_SIZE"), (4, u "LOG2_ARRAY_INT_INDEX_SCALE"), (54, u "JLA"), (0, u "Ljdk/internal/access/JavaLangAccess;"), (11, u "LOG2_ARRAY_BOOLEAN_INDEX_SCALE"), (9, u "LOG2_ARRAY_BYTE_INDEX_SCALE"), (5, u "LOG2_ARRAY_CHAR_INDEX_SCALE"), (5, u "LOG2_ARRAY_SHORT_INDEX_SCALE"), (18, u "LOG2_ARRAY_FLOAT_INDEX_SCALE"), (24, u "LOG2_ARRAY_DOUBLE_INDEX_SCALE"), (89, u "T_BOOLEAN"), (2, u "T_CHAR"), (1, u "T_FLOAT"), (1, u "T_DOUBLE"), (1, u "T_BYTE"), (1, u "T_SHORT"), (1, u "T_INT"), (1, u "T_LONG"), (1, u "SOFT_MAX_ARRAY_LENGTH")] 83

def k13m0 : Method := { name := "<init>", desc := "()V", sig := { parameters := [], returnType := none }, accessFlags := 2, code := none }
/-- jdk/internal/util/ArraysSupport -/
def k13 : Class := { plain "jdk/internal/util/ArraysSupport" (some 0) with
  accessFlags := 33
  interfaces := #[]
  cf := some (fileOf pool13 21 #[] #[{ accessFlags := 2, nameIndex := 9, descriptorIndex := 19, attributes := #[] }] 33 16 #[] #[{ accessFlags := 24, nameIndex := 28, descriptorIndex := 29, attributes := #[] }, { accessFlags := 26, nameIndex := 38, descriptorIndex := 39, attributes := #[] }, { accessFlags := 25, nameIndex := 121, descriptorIndex := 25, attributes := #[] }, { accessFlags := 25, nameIndex := 131, descriptorIndex := 25, attributes := #[] }, { accessFlags := 25, nameIndex := 137, descriptorIndex := 25, attributes := #[] }, { accessFlags := 25, nameIndex := 143, descriptorIndex := 25, attributes := #[] }, { accessFlags := 25, nameIndex := 53, descriptorIndex := 25, attributes := #[] }, { accessFlags := 25, nameIndex := 24, descriptorIndex := 25, attributes := #[] }, { accessFlags := 25, nameIndex := 162, descriptorIndex := 25, attributes := #[] }, { accessFlags := 25, nameIndex := 187, descriptorIndex := 25, attributes := #[] }, { accessFlags := 26, nameIndex := 48, descriptorIndex := 25, attributes := #[] }, { accessFlags := 25, nameIndex := 277, descriptorIndex := 25, attributes := #[] }, { accessFlags := 25, nameIndex := 280, descriptorIndex := 25, attributes := #[] }, { accessFlags := 25, nameIndex := 282, descriptorIndex := 25, attributes := #[] }, { accessFlags := 25, nameIndex := 284, descriptorIndex := 25, attributes := #[] }, { accessFlags := 25, nameIndex := 286, descriptorIndex := 25, attributes := #[] }, { accessFlags := 25, nameIndex := 288, descriptorIndex := 25, attributes := #[] }, { accessFlags := 25, nameIndex := 290, descriptorIndex := 25, attributes := #[] }, { accessFlags := 25, nameIndex := 292, descriptorIndex := 25, attributes := #[] }, { accessFlags := 26, nameIndex := 108, descriptorIndex := 109, attributes := #[] }, { accessFlags := 25, nameIndex := 294, descriptorIndex := 25, attributes := #[] }])
  fields := #[{ name := "U", type := (.object "jdk/internal/misc/Unsafe"), accessFlags := 24, slot := 0, constantValue := 0 }, { name := "BIG_ENDIAN", type := .boolean, accessFlags := 26, slot := 1, constantValue := 0 }, { name := "LOG2_ARRAY_BOOLEAN_INDEX_SCALE", type := .int, accessFlags := 25, slot := 2, constantValue := 0 }, { name := "LOG2_ARRAY_BYTE_INDEX_SCALE", type := .int, accessFlags := 25, slot := 3, constantValue := 0 }, { name := "LOG2_ARRAY_CHAR_INDEX_SCALE", type := .int, accessFlags := 25, slot := 4, constantValue := 0 }, { name := "LOG2_ARRAY_SHORT_INDEX_SCALE", type := .int, accessFlags := 25, slot := 5, constantValue := 0 }, { name := "LOG2_ARRAY_INT_INDEX_SCALE", type := .int, accessFlags := 25, slot := 6, constantValue := 0 }, { name := "LOG2_ARRAY_LONG_INDEX_SCALE", type := .int, accessFlags := 25, slot := 7, constantValue := 0 }, { name := "LOG2_ARRAY_FLOAT_INDEX_SCALE", type := .int, accessFlags := 25, slot := 8, constantValue := 0 }, { name := "LOG2_ARRAY_DOUBLE_INDEX_SCALE", type := .int, accessFlags := 25, slot := 9, constantValue := 0 }, { name := "LOG2_BYTE_BIT_SIZE", type := .int, accessFlags := 26, slot := 10, constantValue := 0 }, { name := "T_BOOLEAN", type := .int, accessFlags := 25, slot := 11, constantValue := 0 }, { name := "T_CHAR", type := .int, accessFlags := 25, slot := 12, constantValue := 0 }, { name := "T_FLOAT", type := .int, accessFlags := 25, slot := 13, constantValue := 0 }, { name := "T_DOUBLE", type := .int, accessFlags := 25, slot := 14, constantValue := 0 }, { name := "T_BYTE", type := .int, accessFlags := 25, slot := 15, constantValue := 0 }, { name := "T_SHORT", type := .int, accessFlags := 25, slot := 16, constantValue := 0 }, { name := "T_INT", type := .int, accessFlags := 25, slot := 17, constantValue := 0 }, { name := "T_LONG", type := .int, accessFlags := 25, slot := 18, constantValue := 0 }, { name := "JLA", type := (.object "jdk/internal/access/JavaLangAccess"), accessFlags := 26, slot := 19, constantValue := 0 }, { name := "SOFT_MAX_ARRAY_LENGTH", type := .int, accessFlags := 25, slot := 20, constantValue := 0 }]
  methods := #[k13m0]
  instanceTypes := #[]
  staticTypes := #[(.object "jdk/internal/misc/Unsafe"), .boolean, .int, .int, .int, .int, .int, .int, .int, .int, .int, .int, .int, .int, .int, .int, .int, .int, .int, (.object "jdk/internal/access/JavaLangAccess"), .int]
  resolved := Array.replicate 378 none
  statics := none }

def pool14 : Array CpInfo := pool [(1, u "java/lang/Cloneable"), (0, .class_ 1), (0, u "java/lang/Object"), (0, .class_ 3)] 3

/-- java/lang/Cloneable -/
def k14 : Class := { plain "java/lang/Cloneable" (some 0) with
  accessFlags := 1537
  interfaces := #[]
  cf := some (fileOf pool14 2 #[] #[] 1537 4 #[] #[])
  fields := #[]
  methods := #[]
  instanceTypes := #[]
  staticTypes := #[]
  resolved := Array.replicate 8 none
  statics := none }

/-- the primitive byte -/
def k15 : Class := { plain "byte" none with kind := .primitive 'B', accessFlags := 0x411 }
/-- [B -/
def k16 : Class := { plain "[B" (some 0) with kind := .array 15 .byte, interfaces := #[14, 2], accessFlags := 1041 }

/-- the primitive char -/
def k17 : Class := { plain "char" none with kind := .primitive 'C', accessFlags := 0x411 }
/-- [C -/
def k18 : Class := { plain "[C" (some 0) with kind := .array 17 .char, interfaces := #[14, 2], accessFlags := 1041 }

/-- the primitive int -/
def k19 : Class := { plain "int" none with kind := .primitive 'I', accessFlags := 0x411 }
/-- [I -/
def k20 : Class := { plain "[I" (some 0) with kind := .array 19 .int, interfaces := #[14, 2], accessFlags := 1041 }

def heap : Heap := #[{ cls := 7, slots := #[.long 0, .int 1, .null, .int 0, .null, .int 0, .int 0], vm := .statics 7 },
  { cls := 10, slots := #[.null, .null, .null], vm := .statics 10 },
  { cls := 12, slots := #[.int 0, .int 8, .int 0, .int 1], vm := .statics 12 }]
def classes : Array Class := #[k0, k1, k2, k3, k4, k5, k6, k7, k8, k9, k10, k11, k12, k13, k14, k15, k16, k17, k18, k19, k20]
def interned : List (Array UInt16 × Addr) := []
def slotsUsed : Nat := 14
def theMethod : MethodId := ⟨1, 2⟩
def args0 : Array Value := #[.int 65, .int 66, .int 67, .int 68, .int 3, .int 70]
def aboutOver (below : List Frame) : State where
  vm := { classes := classes, interned := interned.toArray }
  heap := heap
  slotsUsed := slotsUsed
  threads := #[{ frames := .invoking theMethod args0 :: below }]
def below0 : List Frame := [.native { method := ⟨0, 0⟩, args := #[] }]
def about1 : State := aboutOver below0
def p0 : Program := .bare "" "" ""
def e0 : Env := launch0.env 0 0 0
theorem w_frames : about1.frames = Frame.invoking theMethod args0 :: below0 := rfl
set_option maxRecDepth 65536 in
theorem w_args : argsFit about1.vm theMethod args0 = true := by decide +kernel
set_option maxRecDepth 65536 in
theorem w_heap : heapFits about1 = true := by decide +kernel
set_option maxRecDepth 65536 in
theorem w_runnable : about1.curStatus? = some .runnable := by decide +kernel
set_option maxRecDepth 65536 in
theorem w_alone : about1.alone = true := by decide +kernel
set_option maxRecDepth 65536 in
theorem w_named : about1.methodNamed? x = some theMethod := by decide +kernel
set_option maxRecDepth 65536 in
theorem w_hears : about1.hears theMethod below0 = true := by decide +kernel
set_option maxRecDepth 65536 in
theorem w_ripe : about1.ripe theMethod args0 below0 = true := by decide +kernel
theorem w_running : about1.status = .running := rfl
set_option maxRecDepth 65536 in
theorem w_room : about1.hasRoom e0.platform room_1 = true :=
  launch0.hasRoom_least _ room_1 (by decide +kernel) (by decide +kernel) (by decide +kernel) (by decide +kernel) (by decide +kernel) (by decide +kernel)
theorem allAtoms_all (ts : List Jvm.Cond) (a : Array Jvm.Value) (st : Jvm.State) : (allAtoms ts).before a st = ts.all (fun c => c.before a st) := by
  induction ts with
  | nil => rfl
  | cons c t ih =>
    show (Jvm.Cond.and c (allAtoms t)).before a st = _
    rw [Jvm.Cond.before_and, ih, List.all_cons]
def words1 : List Jvm.Cond := Jvm.Cond.code x code maxLocals ret :: tables_1
/-- a 'code' word, met by the world's own term for the bytes: nothing is compared byte by byte -/
theorem code_word {y : MethodName} {bytes : ByteArray} {mx : Nat} {rt : Option FieldType} {a : Array Value} {s : State} {m : MethodId} {meth : Method} {c : Code} (h1 : s.methodNamed? y = some m) (h2 : s.vm.method? m = some meth) (h3 : meth.code = some c) (h4 : c.code = bytes)
    (h5 : (c.maxLocals == mx && c.exceptionTable.isEmpty && decide (c.maxStack ≤ mostOperands) && decide (meth.sig.returnType = rt) && !meth.locks && decide (parseMethodDescriptor y.desc = some meth.sig)) = true) : (Jvm.Cond.code y bytes mx rt).before a s = true := by
  simp only [Bool.and_eq_true, beq_iff_eq, Bool.not_eq_true', decide_eq_true_eq] at h5
  obtain ⟨⟨⟨⟨⟨g1, g2⟩, g3⟩, g4⟩, g5⟩, g6⟩ := h5
  simp [Cond.before, Cond.holds, Cond.value, h1, h2, h3, h4, g1, g2, g3, g4, g5, g6]
def isCode : Jvm.Cond → Bool
  | .code _ _ _ _ => true
  | _ => false
theorem all_split {L : List Jvm.Cond} {P : Jvm.Cond → Bool} (h1 : L.all (fun c => isCode c || P c) = true) (h2 : ∀ c ∈ L.filter isCode, P c = true) : L.all P = true := by
  refine List.all_eq_true.mpr fun c hc => ?_
  have h := List.all_eq_true.mp h1 c hc
  rcases Bool.eq_false_or_eq_true (isCode c) with hi | hi
  · exact h2 c (List.mem_filter.mpr ⟨hc, hi⟩)
  · simpa [hi] using h
set_option maxRecDepth 65536 in
theorem w_c0 : (Jvm.Cond.code x code maxLocals ret).before args0 about1 = true := code_word (m := ⟨1, 2⟩) (meth := k1m2) (c := k1c2) (by decide +kernel) rfl rfl rfl (by decide +kernel)
set_option maxRecDepth 65536 in
theorem w_c1 : (Jvm.Cond.code ({ cls := "com/example/disposition/disposition/NamesRequirePinLaw", name := "ok", desc := "(I)C" } : Jvm.MethodName) method_2_code (2 : Nat) (Option.some Jvm.ClassFile.FieldType.char)).before args0 about1 = true := code_word (m := ⟨1, 1⟩) (meth := k1m1) (c := k1c1) (by decide +kernel) rfl rfl rfl (by decide +kernel)
set_option maxRecDepth 65536 in
theorem w_c2 : (Jvm.Cond.code ({ cls := "java/lang/String", name := "valueOf", desc := "(C)Ljava/lang/String;" } : Jvm.MethodName) jdk_42_method_139_code (1 : Nat) (Option.some (Jvm.ClassFile.FieldType.object "java/lang/String"))).before args0 about1 = true := code_word (m := ⟨7, 6⟩) (meth := k7m6) (c := k7c6) (by decide +kernel) rfl rfl rfl (by decide +kernel)
set_option maxRecDepth 65536 in
theorem w_c3 : (Jvm.Cond.code ({ cls := "java/lang/StringLatin1", name := "canEncode", desc := "(C)Z" } : Jvm.MethodName) jdk_43_method_3_code (1 : Nat) (Option.some Jvm.ClassFile.FieldType.boolean)).before args0 about1 = true := code_word (m := ⟨8, 2⟩) (meth := k8m2) (c := k8c2) (by decide +kernel) rfl rfl rfl (by decide +kernel)
set_option maxRecDepth 65536 in
theorem w_c4 : (Jvm.Cond.code ({ cls := "java/lang/StringLatin1", name := "toBytes", desc := "(C)[B" } : Jvm.MethodName) jdk_43_method_46_code (1 : Nat) (Option.some (Jvm.ClassFile.FieldType.array Jvm.ClassFile.FieldType.byte))).before args0 about1 = true := code_word (m := ⟨8, 3⟩) (meth := k8m3) (c := k8c3) (by decide +kernel) rfl rfl rfl (by decide +kernel)
set_option maxRecDepth 65536 in
theorem w_c5 : (Jvm.Cond.code ({ cls := "java/lang/String", name := "<init>", desc := "([BB)V" } : Jvm.MethodName) jdk_42_method_151_code (3 : Nat) (Option.none : Option Jvm.ClassFile.FieldType)).before args0 about1 = true := code_word (m := ⟨7, 8⟩) (meth := k7m8) (c := k7c8) (by decide +kernel) rfl rfl rfl (by decide +kernel)
set_option maxRecDepth 65536 in
theorem w_c6 : (Jvm.Cond.code ({ cls := "java/lang/Object", name := "<init>", desc := "()V" } : Jvm.MethodName) object_method_1_code (1 : Nat) (Option.none : Option Jvm.ClassFile.FieldType)).before args0 about1 = true := code_word (m := ⟨0, 0⟩) (meth := k0m0) (c := k0c0) (by decide +kernel) rfl rfl rfl (by decide +kernel)
set_option maxRecDepth 65536 in
theorem w_c7 : (Jvm.Cond.code ({ cls := "com/example/disposition/disposition/Names", name := "require", desc := "(Ljava/lang/String;Ljava/lang/String;)Ljava/lang/String;" } : Jvm.MethodName) prog_4_method_2_code (3 : Nat) (Option.some (Jvm.ClassFile.FieldType.object "java/lang/String"))).before args0 about1 = true := code_word (m := ⟨9, 1⟩) (meth := k9m1) (c := k9c1) (by decide +kernel) rfl rfl rfl (by decide +kernel)
set_option maxRecDepth 65536 in
theorem w_c8 : (Jvm.Cond.code ({ cls := "java/lang/String", name := "isEmpty", desc := "()Z" } : Jvm.MethodName) jdk_42_method_55_code (1 : Nat) (Option.some Jvm.ClassFile.FieldType.boolean)).before args0 about1 = true := code_word (m := ⟨7, 3⟩) (meth := k7m3) (c := k7c3) (by decide +kernel) rfl rfl rfl (by decide +kernel)
set_option maxRecDepth 65536 in
theorem w_c9 : (Jvm.Cond.code ({ cls := "java/lang/String", name := "length", desc := "()I" } : Jvm.MethodName) jdk_42_method_54_code (1 : Nat) (Option.some Jvm.ClassFile.FieldType.int)).before args0 about1 = true := code_word (m := ⟨7, 2⟩) (meth := k7m2) (c := k7c2) (by decide +kernel) rfl rfl rfl (by decide +kernel)
set_option maxRecDepth 65536 in
theorem w_c10 : (Jvm.Cond.code ({ cls := "java/lang/String", name := "coder", desc := "()B" } : Jvm.MethodName) jdk_42_method_152_code (1 : Nat) (Option.some Jvm.ClassFile.FieldType.byte)).before args0 about1 = true := code_word (m := ⟨7, 9⟩) (meth := k7m9) (c := k7c9) (by decide +kernel) rfl rfl rfl (by decide +kernel)
set_option maxRecDepth 65536 in
theorem w_c11 : (Jvm.Cond.code ({ cls := "java/lang/String", name := "charAt", desc := "(I)C" } : Jvm.MethodName) jdk_42_method_56_code (2 : Nat) (Option.some Jvm.ClassFile.FieldType.char)).before args0 about1 = true := code_word (m := ⟨7, 4⟩) (meth := k7m4) (c := k7c4) (by decide +kernel) rfl rfl rfl (by decide +kernel)
set_option maxRecDepth 65536 in
theorem w_c12 : (Jvm.Cond.code ({ cls := "java/lang/String", name := "isLatin1", desc := "()Z" } : Jvm.MethodName) jdk_42_method_154_code (1 : Nat) (Option.some Jvm.ClassFile.FieldType.boolean)).before args0 about1 = true := code_word (m := ⟨7, 10⟩) (meth := k7m10) (c := k7c10) (by decide +kernel) rfl rfl rfl (by decide +kernel)
set_option maxRecDepth 65536 in
theorem w_c13 : (Jvm.Cond.code ({ cls := "java/lang/StringLatin1", name := "charAt", desc := "([BI)C" } : Jvm.MethodName) jdk_43_method_2_code (2 : Nat) (Option.some Jvm.ClassFile.FieldType.char)).before args0 about1 = true := code_word (m := ⟨8, 1⟩) (meth := k8m1) (c := k8c1) (by decide +kernel) rfl rfl rfl (by decide +kernel)
set_option maxRecDepth 65536 in
theorem w_c14 : (Jvm.Cond.code ({ cls := "java/lang/String", name := "checkIndex", desc := "(II)V" } : Jvm.MethodName) jdk_42_method_155_code (2 : Nat) (Option.none : Option Jvm.ClassFile.FieldType)).before args0 about1 = true := code_word (m := ⟨7, 11⟩) (meth := k7m11) (c := k7c11) (by decide +kernel) rfl rfl rfl (by decide +kernel)
set_option maxRecDepth 65536 in
theorem w_c15 : (Jvm.Cond.code ({ cls := "jdk/internal/util/Preconditions", name := "checkIndex", desc := "(IILjava/util/function/BiFunction;)I" } : Jvm.MethodName) jdk_41_method_11_code (3 : Nat) (Option.some Jvm.ClassFile.FieldType.int)).before args0 about1 = true := code_word (m := ⟨10, 1⟩) (meth := k10m1) (c := k10c1) (by decide +kernel) rfl rfl rfl (by decide +kernel)
set_option maxRecDepth 65536 in
theorem w_c16 : (Jvm.Cond.code ({ cls := "java/lang/Character", name := "isISOControl", desc := "(C)Z" } : Jvm.MethodName) jdk_89_method_88_code (1 : Nat) (Option.some Jvm.ClassFile.FieldType.boolean)).before args0 about1 = true := code_word (m := ⟨11, 0⟩) (meth := k11m0) (c := k11c0) (by decide +kernel) rfl rfl rfl (by decide +kernel)
set_option maxRecDepth 65536 in
theorem w_c17 : (Jvm.Cond.code ({ cls := "java/lang/Character", name := "isISOControl", desc := "(I)Z" } : Jvm.MethodName) jdk_89_method_89_code (1 : Nat) (Option.some Jvm.ClassFile.FieldType.boolean)).before args0 about1 = true := code_word (m := ⟨11, 1⟩) (meth := k11m1) (c := k11c1) (by decide +kernel) rfl rfl rfl (by decide +kernel)
set_option maxRecDepth 65536 in
theorem w_c18 : (Jvm.Cond.code ({ cls := "java/lang/String", name := "equals", desc := "(Ljava/lang/Object;)Z" } : Jvm.MethodName) jdk_42_method_66_code (3 : Nat) (Option.some Jvm.ClassFile.FieldType.boolean)).before args0 about1 = true := code_word (m := ⟨7, 5⟩) (meth := k7m5) (c := k7c5) (by decide +kernel) rfl rfl rfl (by decide +kernel)
set_option maxRecDepth 65536 in
theorem w_c19 : (Jvm.Cond.code ({ cls := "java/lang/String", name := "<init>", desc := "([C)V" } : Jvm.MethodName) jdk_42_method_3_code (2 : Nat) (Option.none : Option Jvm.ClassFile.FieldType)).before args0 about1 = true := code_word (m := ⟨7, 1⟩) (meth := k7m1) (c := k7c1) (by decide +kernel) rfl rfl rfl (by decide +kernel)
set_option maxRecDepth 65536 in
theorem w_c20 : (Jvm.Cond.code ({ cls := "java/lang/String", name := "<init>", desc := "([CIILjava/lang/Void;)V" } : Jvm.MethodName) jdk_42_method_149_code (6 : Nat) (Option.none : Option Jvm.ClassFile.FieldType)).before args0 about1 = true := code_word (m := ⟨7, 7⟩) (meth := k7m7) (c := k7c7) (by decide +kernel) rfl rfl rfl (by decide +kernel)
set_option maxRecDepth 65536 in
theorem w_c21 : (Jvm.Cond.code ({ cls := "java/lang/StringUTF16", name := "compress", desc := "([CII)[B" } : Jvm.MethodName) jdk_52_method_16_code (6 : Nat) (Option.some (Jvm.ClassFile.FieldType.array Jvm.ClassFile.FieldType.byte))).before args0 about1 = true := code_word (m := ⟨12, 8⟩) (meth := k12m8) (c := k12c8) (by decide +kernel) rfl rfl rfl (by decide +kernel)
set_option maxRecDepth 65536 in
theorem w_c22 : (Jvm.Cond.code ({ cls := "java/lang/StringUTF16", name := "compress", desc := "([CI[BII)I" } : Jvm.MethodName) jdk_52_method_21_code (7 : Nat) (Option.some Jvm.ClassFile.FieldType.int)).before args0 about1 = true := code_word (m := ⟨12, 9⟩) (meth := k12m9) (c := k12c9) (by decide +kernel) rfl rfl rfl (by decide +kernel)
set_option maxRecDepth 65536 in
theorem w_c23 : (Jvm.Cond.code ({ cls := "java/lang/StringUTF16", name := "coderFromArrayLen", desc := "([BI)B" } : Jvm.MethodName) jdk_52_method_15_code (2 : Nat) (Option.some Jvm.ClassFile.FieldType.byte)).before args0 about1 = true := code_word (m := ⟨12, 7⟩) (meth := k12m7) (c := k12c7) (by decide +kernel) rfl rfl rfl (by decide +kernel)
set_option maxRecDepth 65536 in
theorem w_c24 : (Jvm.Cond.code ({ cls := "java/lang/StringUTF16", name := "toBytes", desc := "(C)[B" } : Jvm.MethodName) jdk_52_method_24_code (2 : Nat) (Option.some (Jvm.ClassFile.FieldType.array Jvm.ClassFile.FieldType.byte))).before args0 about1 = true := code_word (m := ⟨12, 10⟩) (meth := k12m10) (c := k12c10) (by decide +kernel) rfl rfl rfl (by decide +kernel)
set_option maxRecDepth 65536 in
theorem w_c25 : (Jvm.Cond.code ({ cls := "java/lang/StringUTF16", name := "putChar", desc := "([BII)V" } : Jvm.MethodName) jdk_52_method_4_code (3 : Nat) (Option.none : Option Jvm.ClassFile.FieldType)).before args0 about1 = true := code_word (m := ⟨12, 3⟩) (meth := k12m3) (c := k12c3) (by decide +kernel) rfl rfl rfl (by decide +kernel)
set_option maxRecDepth 65536 in
theorem w_c26 : (Jvm.Cond.code ({ cls := "java/lang/StringUTF16", name := "charAt", desc := "([BI)C" } : Jvm.MethodName) jdk_52_method_83_code (2 : Nat) (Option.some Jvm.ClassFile.FieldType.char)).before args0 about1 = true := code_word (m := ⟨12, 11⟩) (meth := k12m11) (c := k12c11) (by decide +kernel) rfl rfl rfl (by decide +kernel)
set_option maxRecDepth 65536 in
theorem w_c27 : (Jvm.Cond.code ({ cls := "java/lang/StringUTF16", name := "checkIndex", desc := "(I[B)V" } : Jvm.MethodName) jdk_52_method_91_code (2 : Nat) (Option.none : Option Jvm.ClassFile.FieldType)).before args0 about1 = true := code_word (m := ⟨12, 12⟩) (meth := k12m12) (c := k12c12) (by decide +kernel) rfl rfl rfl (by decide +kernel)
set_option maxRecDepth 65536 in
theorem w_c28 : (Jvm.Cond.code ({ cls := "java/lang/StringUTF16", name := "length", desc := "([B)I" } : Jvm.MethodName) jdk_52_method_6_code (1 : Nat) (Option.some Jvm.ClassFile.FieldType.int)).before args0 about1 = true := code_word (m := ⟨12, 5⟩) (meth := k12m5) (c := k12c5) (by decide +kernel) rfl rfl rfl (by decide +kernel)
set_option maxRecDepth 65536 in
theorem w_c29 : (Jvm.Cond.code ({ cls := "java/lang/StringUTF16", name := "getChar", desc := "([BI)C" } : Jvm.MethodName) jdk_52_method_5_code (2 : Nat) (Option.some Jvm.ClassFile.FieldType.char)).before args0 about1 = true := code_word (m := ⟨12, 4⟩) (meth := k12m4) (c := k12c4) (by decide +kernel) rfl rfl rfl (by decide +kernel)
set_option maxRecDepth 65536 in
theorem w_c30 : (Jvm.Cond.code ({ cls := "java/lang/StringUTF16", name := "toBytes", desc := "([CII)[B" } : Jvm.MethodName) jdk_52_method_14_code (5 : Nat) (Option.some (Jvm.ClassFile.FieldType.array Jvm.ClassFile.FieldType.byte))).before args0 about1 = true := code_word (m := ⟨12, 6⟩) (meth := k12m6) (c := k12c6) (by decide +kernel) rfl rfl rfl (by decide +kernel)
set_option maxRecDepth 65536 in
theorem w_c31 : (Jvm.Cond.code ({ cls := "java/lang/StringUTF16", name := "newBytesFor", desc := "(I)[B" } : Jvm.MethodName) jdk_52_method_2_code (1 : Nat) (Option.some (Jvm.ClassFile.FieldType.array Jvm.ClassFile.FieldType.byte))).before args0 about1 = true := code_word (m := ⟨12, 1⟩) (meth := k12m1) (c := k12c1) (by decide +kernel) rfl rfl rfl (by decide +kernel)
set_option maxRecDepth 65536 in
theorem w_c32 : (Jvm.Cond.code ({ cls := "java/lang/StringUTF16", name := "newBytesLength", desc := "(I)I" } : Jvm.MethodName) jdk_52_method_3_code (1 : Nat) (Option.some Jvm.ClassFile.FieldType.int)).before args0 about1 = true := code_word (m := ⟨12, 2⟩) (meth := k12m2) (c := k12c2) (by decide +kernel) rfl rfl rfl (by decide +kernel)
def codes1 : List Jvm.Cond := [Jvm.Cond.code x code maxLocals ret, Jvm.Cond.code ({ cls := "com/example/disposition/disposition/NamesRequirePinLaw", name := "ok", desc := "(I)C" } : Jvm.MethodName) method_2_code (2 : Nat) (Option.some Jvm.ClassFile.FieldType.char), Jvm.Cond.code ({ cls := "java/lang/String", name := "valueOf", desc := "(C)Ljava/lang/String;" } : Jvm.MethodName) jdk_42_method_139_code (1 : Nat) (Option.some (Jvm.ClassFile.FieldType.object "java/lang/String")), Jvm.Cond.code ({ cls := "java/lang/StringLatin1", name := "canEncode", desc := "(C)Z" } : Jvm.MethodName) jdk_43_method_3_code (1 : Nat) (Option.some Jvm.ClassFile.FieldType.boolean), Jvm.Cond.code ({ cls := "java/lang/StringLatin1", name := "toBytes", desc := "(C)[B" } : Jvm.MethodName) jdk_43_method_46_code (1 : Nat) (Option.some (Jvm.ClassFile.FieldType.array Jvm.ClassFile.FieldType.byte)), Jvm.Cond.code ({ cls := "java/lang/String", name := "<init>", desc := "([BB)V" } : Jvm.MethodName) jdk_42_method_151_code (3 : Nat) (Option.none : Option Jvm.ClassFile.FieldType), Jvm.Cond.code ({ cls := "java/lang/Object", name := "<init>", desc := "()V" } : Jvm.MethodName) object_method_1_code (1 : Nat) (Option.none : Option Jvm.ClassFile.FieldType), Jvm.Cond.code ({ cls := "com/example/disposition/disposition/Names", name := "require", desc := "(Ljava/lang/String;Ljava/lang/String;)Ljava/lang/String;" } : Jvm.MethodName) prog_4_method_2_code (3 : Nat) (Option.some (Jvm.ClassFile.FieldType.object "java/lang/String")), Jvm.Cond.code ({ cls := "java/lang/String", name := "isEmpty", desc := "()Z" } : Jvm.MethodName) jdk_42_method_55_code (1 : Nat) (Option.some Jvm.ClassFile.FieldType.boolean), Jvm.Cond.code ({ cls := "java/lang/String", name := "length", desc := "()I" } : Jvm.MethodName) jdk_42_method_54_code (1 : Nat) (Option.some Jvm.ClassFile.FieldType.int), Jvm.Cond.code ({ cls := "java/lang/String", name := "coder", desc := "()B" } : Jvm.MethodName) jdk_42_method_152_code (1 : Nat) (Option.some Jvm.ClassFile.FieldType.byte), Jvm.Cond.code ({ cls := "java/lang/String", name := "charAt", desc := "(I)C" } : Jvm.MethodName) jdk_42_method_56_code (2 : Nat) (Option.some Jvm.ClassFile.FieldType.char), Jvm.Cond.code ({ cls := "java/lang/String", name := "isLatin1", desc := "()Z" } : Jvm.MethodName) jdk_42_method_154_code (1 : Nat) (Option.some Jvm.ClassFile.FieldType.boolean), Jvm.Cond.code ({ cls := "java/lang/StringLatin1", name := "charAt", desc := "([BI)C" } : Jvm.MethodName) jdk_43_method_2_code (2 : Nat) (Option.some Jvm.ClassFile.FieldType.char), Jvm.Cond.code ({ cls := "java/lang/String", name := "checkIndex", desc := "(II)V" } : Jvm.MethodName) jdk_42_method_155_code (2 : Nat) (Option.none : Option Jvm.ClassFile.FieldType), Jvm.Cond.code ({ cls := "jdk/internal/util/Preconditions", name := "checkIndex", desc := "(IILjava/util/function/BiFunction;)I" } : Jvm.MethodName) jdk_41_method_11_code (3 : Nat) (Option.some Jvm.ClassFile.FieldType.int), Jvm.Cond.code ({ cls := "java/lang/Character", name := "isISOControl", desc := "(C)Z" } : Jvm.MethodName) jdk_89_method_88_code (1 : Nat) (Option.some Jvm.ClassFile.FieldType.boolean), Jvm.Cond.code ({ cls := "java/lang/Character", name := "isISOControl", desc := "(I)Z" } : Jvm.MethodName) jdk_89_method_89_code (1 : Nat) (Option.some Jvm.ClassFile.FieldType.boolean), Jvm.Cond.code ({ cls := "java/lang/String", name := "equals", desc := "(Ljava/lang/Object;)Z" } : Jvm.MethodName) jdk_42_method_66_code (3 : Nat) (Option.some Jvm.ClassFile.FieldType.boolean), Jvm.Cond.code ({ cls := "java/lang/String", name := "<init>", desc := "([C)V" } : Jvm.MethodName) jdk_42_method_3_code (2 : Nat) (Option.none : Option Jvm.ClassFile.FieldType), Jvm.Cond.code ({ cls := "java/lang/String", name := "<init>", desc := "([CIILjava/lang/Void;)V" } : Jvm.MethodName) jdk_42_method_149_code (6 : Nat) (Option.none : Option Jvm.ClassFile.FieldType), Jvm.Cond.code ({ cls := "java/lang/StringUTF16", name := "compress", desc := "([CII)[B" } : Jvm.MethodName) jdk_52_method_16_code (6 : Nat) (Option.some (Jvm.ClassFile.FieldType.array Jvm.ClassFile.FieldType.byte)), Jvm.Cond.code ({ cls := "java/lang/StringUTF16", name := "compress", desc := "([CI[BII)I" } : Jvm.MethodName) jdk_52_method_21_code (7 : Nat) (Option.some Jvm.ClassFile.FieldType.int), Jvm.Cond.code ({ cls := "java/lang/StringUTF16", name := "coderFromArrayLen", desc := "([BI)B" } : Jvm.MethodName) jdk_52_method_15_code (2 : Nat) (Option.some Jvm.ClassFile.FieldType.byte), Jvm.Cond.code ({ cls := "java/lang/StringUTF16", name := "toBytes", desc := "(C)[B" } : Jvm.MethodName) jdk_52_method_24_code (2 : Nat) (Option.some (Jvm.ClassFile.FieldType.array Jvm.ClassFile.FieldType.byte)), Jvm.Cond.code ({ cls := "java/lang/StringUTF16", name := "putChar", desc := "([BII)V" } : Jvm.MethodName) jdk_52_method_4_code (3 : Nat) (Option.none : Option Jvm.ClassFile.FieldType), Jvm.Cond.code ({ cls := "java/lang/StringUTF16", name := "charAt", desc := "([BI)C" } : Jvm.MethodName) jdk_52_method_83_code (2 : Nat) (Option.some Jvm.ClassFile.FieldType.char), Jvm.Cond.code ({ cls := "java/lang/StringUTF16", name := "checkIndex", desc := "(I[B)V" } : Jvm.MethodName) jdk_52_method_91_code (2 : Nat) (Option.none : Option Jvm.ClassFile.FieldType), Jvm.Cond.code ({ cls := "java/lang/StringUTF16", name := "length", desc := "([B)I" } : Jvm.MethodName) jdk_52_method_6_code (1 : Nat) (Option.some Jvm.ClassFile.FieldType.int), Jvm.Cond.code ({ cls := "java/lang/StringUTF16", name := "getChar", desc := "([BI)C" } : Jvm.MethodName) jdk_52_method_5_code (2 : Nat) (Option.some Jvm.ClassFile.FieldType.char), Jvm.Cond.code ({ cls := "java/lang/StringUTF16", name := "toBytes", desc := "([CII)[B" } : Jvm.MethodName) jdk_52_method_14_code (5 : Nat) (Option.some (Jvm.ClassFile.FieldType.array Jvm.ClassFile.FieldType.byte)), Jvm.Cond.code ({ cls := "java/lang/StringUTF16", name := "newBytesFor", desc := "(I)[B" } : Jvm.MethodName) jdk_52_method_2_code (1 : Nat) (Option.some (Jvm.ClassFile.FieldType.array Jvm.ClassFile.FieldType.byte)), Jvm.Cond.code ({ cls := "java/lang/StringUTF16", name := "newBytesLength", desc := "(I)I" } : Jvm.MethodName) jdk_52_method_3_code (1 : Nat) (Option.some Jvm.ClassFile.FieldType.int)]
set_option maxRecDepth 65536 in
theorem codes_eq : words1.filter isCode = codes1 := rfl
theorem w_codes : ∀ c ∈ words1.filter isCode, c.before args0 about1 = true := by
  rw [codes_eq]
  intro c hc
  simp only [codes1, List.mem_cons, List.not_mem_nil, or_false] at hc
  rcases hc with rfl | rfl | rfl | rfl | rfl | rfl | rfl | rfl | rfl | rfl | rfl | rfl | rfl | rfl | rfl | rfl | rfl | rfl | rfl | rfl | rfl | rfl | rfl | rfl | rfl | rfl | rfl | rfl | rfl | rfl | rfl | rfl | rfl
  · exact w_c0
  · exact w_c1
  · exact w_c2
  · exact w_c3
  · exact w_c4
  · exact w_c5
  · exact w_c6
  · exact w_c7
  · exact w_c8
  · exact w_c9
  · exact w_c10
  · exact w_c11
  · exact w_c12
  · exact w_c13
  · exact w_c14
  · exact w_c15
  · exact w_c16
  · exact w_c17
  · exact w_c18
  · exact w_c19
  · exact w_c20
  · exact w_c21
  · exact w_c22
  · exact w_c23
  · exact w_c24
  · exact w_c25
  · exact w_c26
  · exact w_c27
  · exact w_c28
  · exact w_c29
  · exact w_c30
  · exact w_c31
  · exact w_c32
set_option maxRecDepth 65536 in
theorem w_t1 : (words1.take 24).all (fun c => isCode c || c.before args0 about1) = true := by decide +kernel
set_option maxRecDepth 65536 in
theorem w_t2 : ((words1.drop 24).take 24).all (fun c => isCode c || c.before args0 about1) = true := by decide +kernel
set_option maxRecDepth 65536 in
theorem w_t3 : (((words1.drop 24).drop 24).take 24).all (fun c => isCode c || c.before args0 about1) = true := by decide +kernel
set_option maxRecDepth 65536 in
theorem w_t4 : ((((words1.drop 24).drop 24).drop 24).take 24).all (fun c => isCode c || c.before args0 about1) = true := by decide +kernel
set_option maxRecDepth 65536 in
theorem w_t5 : (((((words1.drop 24).drop 24).drop 24).drop 24).take 24).all (fun c => isCode c || c.before args0 about1) = true := by decide +kernel
set_option maxRecDepth 65536 in
theorem w_t6 : (((((words1.drop 24).drop 24).drop 24).drop 24).drop 24).all (fun c => isCode c || c.before args0 about1) = true := by decide +kernel
theorem w_tables : (allAtoms (Jvm.Cond.code x code maxLocals ret :: tables_1)).before args0 about1 = true := by
  rw [allAtoms_all]
  show words1.all (fun c => c.before args0 about1) = true
  refine all_split ?_ w_codes
  rw [← List.take_append_drop 24 words1, List.all_append, w_t1, ← List.take_append_drop 24 (words1.drop 24), List.all_append, w_t2, ← List.take_append_drop 24 ((words1.drop 24).drop 24), List.all_append, w_t3, ← List.take_append_drop 24 (((words1.drop 24).drop 24).drop 24), List.all_append, w_t4, ← List.take_append_drop 24 ((((words1.drop 24).drop 24).drop 24).drop 24), List.all_append, w_t5, w_t6]
  rfl
set_option maxRecDepth 65536 in
theorem w_rest : rest_1_c.before args0 about1 = true := by decide +kernel
set_option maxRecDepth 65536 in
theorem w_case : (Jvm.Cond.and given_1 narrow_1).before args0 about1 = true := by decide +kernel
theorem w_applies : (headSpec (Jvm.Cond.code x code maxLocals ret :: tables_1) room_1).applies x e0.platform about1 = true :=
  (Spec.applies_iff w_frames).mpr ⟨w_running, w_runnable, w_alone, w_named, w_hears, w_ripe, w_room, w_tables⟩
theorem atStart : AtStart classFile x code maxLocals ret World_1 tables_1 room_1 Calls_1 rest_1 Pre_1 launch0 p0 e0 about1 theMethod args0 below0 :=
  ⟨lists_1, trivial, launch0.admits_env _ _ _, launch0.least_env, fairChoices_fair.cas, fairChoices_fair.clock, w_frames, w_args, w_heap, w_applies, trivial, w_rest, w_case⟩
end start1
theorem witness_1 : WitnessClaimed_1 := ⟨start1.p0, start1.e0, start1.about1, start1.theMethod, start1.args0, start1.below0, start1.atStart⟩
end Jvm.Pilot.@@N@@
