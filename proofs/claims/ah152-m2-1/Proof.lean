import JvmDerived
import JvmDerived.Pilot.@@N@@Statement
import JvmDerived.Pilot.@@N@@Code
set_option linter.unusedVariables false
set_option linter.unusedSimpArgs false
namespace Jvm.Pilot.@@N@@
open Jvm Jvm.ClassFile Sem Op Lib Jvm.Free Jvm.Stand Jvm.LawKit Jvm.RoadKit Bundle Jvm.Pilot.@@N@@.Jvm.D

def own_ds : List Value := [(.long (1000 : Int64)), (.long (5000 : Int64)), (.long (10000 : Int64)), (.long (30000 : Int64)), (.long (60000 : Int64)), (.long (120000 : Int64)), (.long (180000 : Int64)), (.long (240000 : Int64)), (.long (300000 : Int64)), (.long (360000 : Int64)), (.long (420000 : Int64)), (.long (480000 : Int64)), (.long (540000 : Int64)), (.long (600000 : Int64)), (.long (1200000 : Int64)), (.long (1800000 : Int64)), (.long (3600000 : Int64)), (.long (7200000 : Int64))]
theorem own_len {t : Term} {args : Array Value} {s : State} {x : Addr} {cl : Cell} {n : Int32} (ht : t.eval args s none [] s = some (.ref x)) (ha : s.arrayAt? x = some cl) (h : (Term.length t).eval args s none [] s = some (.int n)) : cl.slots.size < 2 ^ 31 ∧ cl.slots.size.toInt32 = n := by
  by_cases q : cl.slots.size < 2 ^ 31
  · rw [len_f ht ha q] at h; cases h; exact ⟨q, rfl⟩
  · exfalso; simp [Term.eval, ht, ha] at h; omega
theorem own_k18 {k x : Int32} (h : k = (((x &&& (2147483647 : Int32)) % (18 : Int32)) + (1 : Int32))) : k = (1 : Int32) ∨ k = (2 : Int32) ∨ k = (3 : Int32) ∨ k = (4 : Int32) ∨ k = (5 : Int32) ∨ k = (6 : Int32) ∨ k = (7 : Int32) ∨ k = (8 : Int32) ∨ k = (9 : Int32) ∨ k = (10 : Int32) ∨ k = (11 : Int32) ∨ k = (12 : Int32) ∨ k = (13 : Int32) ∨ k = (14 : Int32) ∨ k = (15 : Int32) ∨ k = (16 : Int32) ∨ k = (17 : Int32) ∨ k = (18 : Int32) := by
  have e := c_mask x 2147483647 31 (by decide) (by decide)
  have e2 := (c_irem (x &&& (2147483647 : Int32)) 18 18 (by decide)).1 (by omega)
  have e3 := c_iadd ((x &&& (2147483647 : Int32)) % (18 : Int32)) 1; rw [← h] at e3
  have e4 := rng32 k
  simp only [← Int32.toInt_inj]
  have l1 : (1 : Int32).toInt = 1 := by decide
  have l2 : (2 : Int32).toInt = 2 := by decide
  have l3 : (3 : Int32).toInt = 3 := by decide
  have l4 : (4 : Int32).toInt = 4 := by decide
  have l5 : (5 : Int32).toInt = 5 := by decide
  have l6 : (6 : Int32).toInt = 6 := by decide
  have l7 : (7 : Int32).toInt = 7 := by decide
  have l8 : (8 : Int32).toInt = 8 := by decide
  have l9 : (9 : Int32).toInt = 9 := by decide
  have l10 : (10 : Int32).toInt = 10 := by decide
  have l11 : (11 : Int32).toInt = 11 := by decide
  have l12 : (12 : Int32).toInt = 12 := by decide
  have l13 : (13 : Int32).toInt = 13 := by decide
  have l14 : (14 : Int32).toInt = 14 := by decide
  have l15 : (15 : Int32).toInt = 15 := by decide
  have l16 : (16 : Int32).toInt = 16 := by decide
  have l17 : (17 : Int32).toInt = 17 := by decide
  have l18 : (18 : Int32).toInt = 18 := by decide
  omega
theorem dd1_0 : decode prog_25_method_2_code 0 = .ok (.iload_n 0, 1) := by decide +kernel
theorem dd1_1 : decode prog_25_method_2_code 1 = .ok (.iconst 1, 1) := by decide +kernel
theorem dd1_2 : decode prog_25_method_2_code 2 = .ok (.if_icmp .lt 9, 3) := by decide +kernel
theorem dd1_5 : decode prog_25_method_2_code 5 = .ok (.iload_n 0, 1) := by decide +kernel
theorem dd1_6 : decode prog_25_method_2_code 6 = .ok (.bipush 18, 2) := by decide +kernel
theorem dd1_8 : decode prog_25_method_2_code 8 = .ok (.if_icmp .le 17, 3) := by decide +kernel
theorem dd1_25 : decode prog_25_method_2_code 25 = .ok (.getstatic 18, 3) := by decide +kernel
theorem dd1_28 : decode prog_25_method_2_code 28 = .ok (.iload_n 0, 1) := by decide +kernel
theorem dd1_29 : decode prog_25_method_2_code 29 = .ok (.iconst 1, 1) := by decide +kernel
theorem dd1_30 : decode prog_25_method_2_code 30 = .ok (.isub, 1) := by decide +kernel
theorem dd1_31 : decode prog_25_method_2_code 31 = .ok (.laload, 1) := by decide +kernel
theorem dd1_32 : decode prog_25_method_2_code 32 = .ok (.lreturn, 1) := by decide +kernel
theorem pnd1 : plainName "com/example/ordo/ordo/store/DelayLevels" = true := by first | (simp [plainName, overriddenIn]; done) | decide +kernel
theorem efd1 (m : MethodId)  : entryFrame m #[(.int (1 : Int32))] 1 = mkF m 0 #[.val (.int (1 : Int32))] [] := by first | (simp [entryFrame, mkF, argsToLocals, Value.category]; done) | rfl
def Qd1 (Z : State)  (a_D : Addr) (kk : ClassId) (h0 : Heap) (n0 : Nat) (v : Option Value) (h : Heap) (L : List Loc) : Prop := v = some (.long (1000 : Int64)) ∧ Fr n0 L ∧ h = h0
set_option maxRecDepth 65536 in
set_option maxHeartbeats 40000000 in
theorem rmd1 (l : Launch) (Z : State) (a0 : Array Value) (hw : ∀ d ∈ tables_1, d.before a0 Z = true) (ws : List Jvm.Cond)  (a_D : Addr) (kk : ClassId) (h0 : Heap) (n0 : Nat) (Z0 : n0 ≤ h0.size) (S_D : Sta Z h0 "com/example/ordo/ordo/store/DelayLevels" "DELAYS" "[J" (.ref a_D)) (V_D : Arv Z h0 a_D kk .long (18 : Int32) own_ds (.long (0 : Int64))) :
    MetFree l (⟨"com/example/ordo/ordo/store/DelayLevels", "delayMillis", "(I)J"⟩ : MethodName) (head1 (Jvm.Cond.code (⟨"com/example/ordo/ordo/store/DelayLevels", "delayMillis", "(I)J"⟩ : MethodName) prog_25_method_2_code 1 (some .long) :: ws) ({ frames := 0, cells := 0, slots := 0, locals := 0 } : Room)) (fun a U => a = #[(.int (1 : Int32))] ∧ Z.Warmed39 U.vm ∧ U.heap = h0) (fun _ _ _ _ _ => True) (fun _ U o U' => ∃ v L, o = .returned v ∧ Qd1 Z a_D kk h0 n0 v U'.heap L ∧ FrameEnd U o U' L ({ frames := 0, cells := 0, slots := 0, locals := 0 } : Room).cells ({ frames := 0, cells := 0, slots := 0, locals := 0 } : Room).slots) := by
  refine MetFree.of_bodySF (plainFor_of_name pnd1) hisR ?_
  intro p e s m args below meth c s₁ Bd hml0 hP hK
  obtain ⟨rfl, hZ, hh⟩ := hP
  have hx := Bd.exec
  have hby := Bd.bytes
  have hml : c.maxLocals = 1 := hml0
  have hown : s.vm.findClass "com/example/ordo/ordo/store/DelayLevels" = some m.cls := findClass_of_methodNamed Bd.named
  have hnm := (name_of_methodNamed Bd.named Bd.method).1
  have X0 : Stand p l e ({ frames := 0, cells := 0, slots := 0, locals := 0 } : Room) s m #[(.int (1 : Int32))] below meth c s₁ [] 0 0 := Stand.of_body Bd
  have e0 : s₁.heap = h0 := by rw [← hh, Bd.state]; rfl
  have N0 := Fr.nil n0
  have pre0 : ∀ t, Steps p.tables e below (s₁.setTop (mkF m 0 #[.val (.int (1 : Int32))] [])) t → Steps p.tables e below (s₁.setTop (entryFrame m #[(.int (1 : Int32))] 1)) t := fun t k => castTop (efd1 m ) k
  have p1 : ∀ t, Steps p.tables e below (s₁.setTop (mkF m 25 #[.val (.int (1 : Int32))] [])) t → Steps p.tables e below (s₁.setTop (entryFrame m #[(.int (1 : Int32))] 1)) t := fun t k => pre0 t (by
    show Steps p.tables e below (s₁.setTop (mkF m 0 #[.val (.int (1 : Int32))] [])) _
    refine XS.iloadN X0.here hx rfl (hb hby dd1_0) rfl ?_
    show Steps p.tables e below (s₁.setTop (mkF m 1 #[.val (.int (1 : Int32))] [(.int (1 : Int32))])) _
    refine XS.iconst X0.here hx rfl (hb hby dd1_1) ?_
    show Steps p.tables e below (s₁.setTop (mkF m 2 #[.val (.int (1 : Int32))] [(.int (1 : Int32)), (.int (1 : Int32))])) _
    refine XS.icmpNo X0.here hx rfl (hb hby dd1_2) rfl ((flt (by decide)).1) ?_
    show Steps p.tables e below (s₁.setTop (mkF m 5 #[.val (.int (1 : Int32))] [])) _
    refine XS.iloadN X0.here hx rfl (hb hby dd1_5) rfl ?_
    show Steps p.tables e below (s₁.setTop (mkF m 6 #[.val (.int (1 : Int32))] [(.int (1 : Int32))])) _
    refine XS.bipush X0.here hx rfl (hb hby dd1_6) ?_
    show Steps p.tables e below (s₁.setTop (mkF m 8 #[.val (.int (1 : Int32))] [(.int (18 : Int32)), (.int (1 : Int32))])) _
    refine XS.icmpYes X0.here hx rfl (pc0 := 8) (pc' := 25) rfl (hb hby dd1_8) rfl ((flt (by decide)).2.2.2) (by decide) (by decide) ?_
    exact k)
  obtain ⟨T2, X2, e2, st2⟩ := getS2 X0 hx hZ hown (host := "") (Or.inl (hw _ (List.mem_of_getElem? (i := 5) rfl))) Via.refl e0 S_D (g := (mkF m 25 #[.val (.int (1 : Int32))] [])) rfl (hb hby dd1_25)
  have p3 : ∀ t, Steps p.tables e below (T2.setTop (mkF m 28 #[.val (.int (1 : Int32))] [(.ref a_D)])) t → Steps p.tables e below (s₁.setTop (entryFrame m #[(.int (1 : Int32))] 1)) t := fun t k => p1 t (st2 t k)
  have p4 : ∀ t, Steps p.tables e below (T2.setTop (mkF m 31 #[.val (.int (1 : Int32))] [(.int ((1 : Int32) - (1 : Int32))), (.ref a_D)])) t → Steps p.tables e below (s₁.setTop (entryFrame m #[(.int (1 : Int32))] 1)) t := fun t k => p3 t (by
    show Steps p.tables e below (T2.setTop (mkF m 28 #[.val (.int (1 : Int32))] [(.ref a_D)])) _
    refine XS.iloadN X2.here hx rfl (hb hby dd1_28) rfl ?_
    show Steps p.tables e below (T2.setTop (mkF m 29 #[.val (.int (1 : Int32))] [(.int (1 : Int32)), (.ref a_D)])) _
    refine XS.iconst X2.here hx rfl (hb hby dd1_29) ?_
    show Steps p.tables e below (T2.setTop (mkF m 30 #[.val (.int (1 : Int32))] [(.int (1 : Int32)), (.int (1 : Int32)), (.ref a_D)])) _
    refine XS.isub X2.here hx rfl (hb hby dd1_30) rfl ?_
    exact k)
  obtain ⟨cl5, Ar5, q5, Sz5, Ng5, Hs5, G5⟩ := id V_D
  have hin5 : ¬ (((1 : Int32) - (1 : Int32)) < 0 ∨ cl5.slots.size ≤ (((1 : Int32) - (1 : Int32))).toNatClampNeg) := inb_of Sz5 ⟨by decide, by decide⟩
  have hat5 : cl5.slots[(((1 : Int32) - (1 : Int32))).toNatClampNeg]? = some (.long (1000 : Int64)) := Hs5.at hin5 (rfl)
  have p6 : ∀ t, Steps p.tables e below (T2.setTop (mkF m 32 #[.val (.int (1 : Int32))] [(.long (1000 : Int64))])) t → Steps p.tables e below (s₁.setTop (entryFrame m #[(.int (1 : Int32))] 1)) t := fun t k => p4 t (by
    show Steps p.tables e below (T2.setTop (mkF m 31 #[.val (.int (1 : Int32))] [(.int ((1 : Int32) - (1 : Int32))), (.ref a_D)])) _
    refine X2.laload hx (j := ((1 : Int32) - (1 : Int32))) (v := (.long (1000 : Int64))) (by rw [e2]; exact Ar5.1) (State.isArrayOf_alike hZ.alike Ar5.2.1) Ar5.2.2 hin5 hat5 (g := (mkF m 31 #[.val (.int (1 : Int32))] [(.int ((1 : Int32) - (1 : Int32))), (.ref a_D)])) rfl rfl (hb hby dd1_31) _ ?_
    exact k)
  obtain ⟨fs, hr, hrun, hended, hW, hsame⟩ := X2.leave (v := some (.long (1000 : Int64))) (fun h => by rw [Bd.returns] at h; cases h)
  refine ⟨_, _, p6 _ ?_, hrun, hended, _, _, rfl, ?_, ⟨_, rfl⟩, hW, hsame.mono (by decide) (by decide)⟩
  · show Steps p.tables e below (T2.setTop (mkF m 32 #[.val (.int (1 : Int32))] [(.long (1000 : Int64))])) _
    exact retOut X2 hx Bd.returns rfl (Or.inr (Or.inl ⟨rfl, rfl, _, rfl⟩)) (hb hby dd1_32) hr
  · show Qd1 Z a_D kk h0 n0 _ T2.heap _
    rw [e2]
    exact ⟨rfl, N0, rfl⟩
theorem de1_0 : decode method_2_code 0 = .ok (.iload_n 0, 1) := by decide +kernel
theorem de1_1 : decode method_2_code 1 = .ok (.iconst 4, 1) := by decide +kernel
theorem de1_2 : decode method_2_code 2 = .ok (.if_icmp .gt 34, 3) := by decide +kernel
theorem de1_5 : decode method_2_code 5 = .ok (.iload_n 0, 1) := by decide +kernel
theorem de1_6 : decode method_2_code 6 = .ok (.iconst 1, 1) := by decide +kernel
theorem de1_7 : decode method_2_code 7 = .ok (.if_icmp .ne 7, 3) := by decide +kernel
theorem de1_10 : decode method_2_code 10 = .ok (.ldc2_w 7, 3) := by decide +kernel
theorem de1_13 : decode method_2_code 13 = .ok (.lreturn, 1) := by decide +kernel
theorem pne1 : plainName "com/example/ordo/ordo/store/DelayLevelsDelayMillisPinLaw" = true := by first | (simp [plainName, overriddenIn]; done) | decide +kernel
theorem efe1 (m : MethodId)  : entryFrame m #[(.int (1 : Int32))] 1 = mkF m 0 #[.val (.int (1 : Int32))] [] := by first | (simp [entryFrame, mkF, argsToLocals, Value.category]; done) | rfl
def Qe1 (Z : State)  (h0 : Heap) (n0 : Nat) (v : Option Value) (h : Heap) (L : List Loc) : Prop := v = some (.long (1000 : Int64)) ∧ Fr n0 L ∧ h = h0
set_option maxRecDepth 65536 in
set_option maxHeartbeats 40000000 in
theorem rme1 (l : Launch) (Z : State) (a0 : Array Value) (hw : ∀ d ∈ tables_1, d.before a0 Z = true) (ws : List Jvm.Cond)  (h0 : Heap) (n0 : Nat) (Z0 : n0 ≤ h0.size) :
    MetFree l (⟨"com/example/ordo/ordo/store/DelayLevelsDelayMillisPinLaw", "expected", "(I)J"⟩ : MethodName) (head1 (Jvm.Cond.code (⟨"com/example/ordo/ordo/store/DelayLevelsDelayMillisPinLaw", "expected", "(I)J"⟩ : MethodName) method_2_code 1 (some .long) :: ws) ({ frames := 0, cells := 0, slots := 0, locals := 0 } : Room)) (fun a U => a = #[(.int (1 : Int32))] ∧ Z.Warmed39 U.vm ∧ U.heap = h0) (fun _ _ _ _ _ => True) (fun _ U o U' => ∃ v L, o = .returned v ∧ Qe1 Z  h0 n0 v U'.heap L ∧ FrameEnd U o U' L ({ frames := 0, cells := 0, slots := 0, locals := 0 } : Room).cells ({ frames := 0, cells := 0, slots := 0, locals := 0 } : Room).slots) := by
  refine MetFree.of_bodySF (plainFor_of_name pne1) hisR ?_
  intro p e s m args below meth c s₁ Bd hml0 hP hK
  obtain ⟨rfl, hZ, hh⟩ := hP
  have hx := Bd.exec
  have hby := Bd.bytes
  have hml : c.maxLocals = 1 := hml0
  have hown : s.vm.findClass "com/example/ordo/ordo/store/DelayLevelsDelayMillisPinLaw" = some m.cls := findClass_of_methodNamed Bd.named
  have hnm := (name_of_methodNamed Bd.named Bd.method).1
  have X0 : Stand p l e ({ frames := 0, cells := 0, slots := 0, locals := 0 } : Room) s m #[(.int (1 : Int32))] below meth c s₁ [] 0 0 := Stand.of_body Bd
  have e0 : s₁.heap = h0 := by rw [← hh, Bd.state]; rfl
  have N0 := Fr.nil n0
  have pre0 : ∀ t, Steps p.tables e below (s₁.setTop (mkF m 0 #[.val (.int (1 : Int32))] [])) t → Steps p.tables e below (s₁.setTop (entryFrame m #[(.int (1 : Int32))] 1)) t := fun t k => castTop (efe1 m ) k
  have p1 : ∀ t, Steps p.tables e below (s₁.setTop (mkF m 13 #[.val (.int (1 : Int32))] [(.long (1000 : Int64))])) t → Steps p.tables e below (s₁.setTop (entryFrame m #[(.int (1 : Int32))] 1)) t := fun t k => pre0 t (by
    show Steps p.tables e below (s₁.setTop (mkF m 0 #[.val (.int (1 : Int32))] [])) _
    refine XS.iloadN X0.here hx rfl (hb hby de1_0) rfl ?_
    show Steps p.tables e below (s₁.setTop (mkF m 1 #[.val (.int (1 : Int32))] [(.int (1 : Int32))])) _
    refine XS.iconst X0.here hx rfl (hb hby de1_1) ?_
    show Steps p.tables e below (s₁.setTop (mkF m 2 #[.val (.int (1 : Int32))] [(.int (4 : Int32)), (.int (1 : Int32))])) _
    refine XS.icmpNo X0.here hx rfl (hb hby de1_2) rfl ((flt (by decide)).2.2.1) ?_
    show Steps p.tables e below (s₁.setTop (mkF m 5 #[.val (.int (1 : Int32))] [])) _
    refine XS.iloadN X0.here hx rfl (hb hby de1_5) rfl ?_
    show Steps p.tables e below (s₁.setTop (mkF m 6 #[.val (.int (1 : Int32))] [(.int (1 : Int32))])) _
    refine XS.iconst X0.here hx rfl (hb hby de1_6) ?_
    show Steps p.tables e below (s₁.setTop (mkF m 7 #[.val (.int (1 : Int32))] [(.int (1 : Int32)), (.int (1 : Int32))])) _
    refine XS.icmpNo X0.here hx rfl (hb hby de1_7) rfl ((teq (rfl)).2) ?_
    show Steps p.tables e below (s₁.setTop (mkF m 10 #[.val (.int (1 : Int32))] [])) _
    refine X0.ldc2Long hx hown (mvT hZ (hw _ (List.mem_of_getElem? (i := 11) rfl))) (g := (mkF m 10 #[.val (.int (1 : Int32))] [])) rfl (hb hby de1_10) _ ?_
    exact k)
  obtain ⟨fs, hr, hrun, hended, hW, hsame⟩ := X0.leave (v := some (.long (1000 : Int64))) (fun h => by rw [Bd.returns] at h; cases h)
  refine ⟨_, _, p1 _ ?_, hrun, hended, _, _, rfl, ?_, ⟨_, rfl⟩, hW, hsame.mono (by decide) (by decide)⟩
  · show Steps p.tables e below (s₁.setTop (mkF m 13 #[.val (.int (1 : Int32))] [(.long (1000 : Int64))])) _
    exact retOut X0 hx Bd.returns rfl (Or.inr (Or.inl ⟨rfl, rfl, _, rfl⟩)) (hb hby de1_13) hr
  · show Qe1 Z  h0 n0 _ s₁.heap _
    rw [e0]
    exact ⟨rfl, N0, rfl⟩
theorem dd2_0 : decode prog_25_method_2_code 0 = .ok (.iload_n 0, 1) := by decide +kernel
theorem dd2_1 : decode prog_25_method_2_code 1 = .ok (.iconst 1, 1) := by decide +kernel
theorem dd2_2 : decode prog_25_method_2_code 2 = .ok (.if_icmp .lt 9, 3) := by decide +kernel
theorem dd2_5 : decode prog_25_method_2_code 5 = .ok (.iload_n 0, 1) := by decide +kernel
theorem dd2_6 : decode prog_25_method_2_code 6 = .ok (.bipush 18, 2) := by decide +kernel
theorem dd2_8 : decode prog_25_method_2_code 8 = .ok (.if_icmp .le 17, 3) := by decide +kernel
theorem dd2_25 : decode prog_25_method_2_code 25 = .ok (.getstatic 18, 3) := by decide +kernel
theorem dd2_28 : decode prog_25_method_2_code 28 = .ok (.iload_n 0, 1) := by decide +kernel
theorem dd2_29 : decode prog_25_method_2_code 29 = .ok (.iconst 1, 1) := by decide +kernel
theorem dd2_30 : decode prog_25_method_2_code 30 = .ok (.isub, 1) := by decide +kernel
theorem dd2_31 : decode prog_25_method_2_code 31 = .ok (.laload, 1) := by decide +kernel
theorem dd2_32 : decode prog_25_method_2_code 32 = .ok (.lreturn, 1) := by decide +kernel
theorem pnd2 : plainName "com/example/ordo/ordo/store/DelayLevels" = true := by first | (simp [plainName, overriddenIn]; done) | decide +kernel
theorem efd2 (m : MethodId)  : entryFrame m #[(.int (2 : Int32))] 1 = mkF m 0 #[.val (.int (2 : Int32))] [] := by first | (simp [entryFrame, mkF, argsToLocals, Value.category]; done) | rfl
def Qd2 (Z : State)  (a_D : Addr) (kk : ClassId) (h0 : Heap) (n0 : Nat) (v : Option Value) (h : Heap) (L : List Loc) : Prop := v = some (.long (5000 : Int64)) ∧ Fr n0 L ∧ h = h0
set_option maxRecDepth 65536 in
set_option maxHeartbeats 40000000 in
theorem rmd2 (l : Launch) (Z : State) (a0 : Array Value) (hw : ∀ d ∈ tables_1, d.before a0 Z = true) (ws : List Jvm.Cond)  (a_D : Addr) (kk : ClassId) (h0 : Heap) (n0 : Nat) (Z0 : n0 ≤ h0.size) (S_D : Sta Z h0 "com/example/ordo/ordo/store/DelayLevels" "DELAYS" "[J" (.ref a_D)) (V_D : Arv Z h0 a_D kk .long (18 : Int32) own_ds (.long (0 : Int64))) :
    MetFree l (⟨"com/example/ordo/ordo/store/DelayLevels", "delayMillis", "(I)J"⟩ : MethodName) (head1 (Jvm.Cond.code (⟨"com/example/ordo/ordo/store/DelayLevels", "delayMillis", "(I)J"⟩ : MethodName) prog_25_method_2_code 1 (some .long) :: ws) ({ frames := 0, cells := 0, slots := 0, locals := 0 } : Room)) (fun a U => a = #[(.int (2 : Int32))] ∧ Z.Warmed39 U.vm ∧ U.heap = h0) (fun _ _ _ _ _ => True) (fun _ U o U' => ∃ v L, o = .returned v ∧ Qd2 Z a_D kk h0 n0 v U'.heap L ∧ FrameEnd U o U' L ({ frames := 0, cells := 0, slots := 0, locals := 0 } : Room).cells ({ frames := 0, cells := 0, slots := 0, locals := 0 } : Room).slots) := by
  refine MetFree.of_bodySF (plainFor_of_name pnd2) hisR ?_
  intro p e s m args below meth c s₁ Bd hml0 hP hK
  obtain ⟨rfl, hZ, hh⟩ := hP
  have hx := Bd.exec
  have hby := Bd.bytes
  have hml : c.maxLocals = 1 := hml0
  have hown : s.vm.findClass "com/example/ordo/ordo/store/DelayLevels" = some m.cls := findClass_of_methodNamed Bd.named
  have hnm := (name_of_methodNamed Bd.named Bd.method).1
  have X0 : Stand p l e ({ frames := 0, cells := 0, slots := 0, locals := 0 } : Room) s m #[(.int (2 : Int32))] below meth c s₁ [] 0 0 := Stand.of_body Bd
  have e0 : s₁.heap = h0 := by rw [← hh, Bd.state]; rfl
  have N0 := Fr.nil n0
  have pre0 : ∀ t, Steps p.tables e below (s₁.setTop (mkF m 0 #[.val (.int (2 : Int32))] [])) t → Steps p.tables e below (s₁.setTop (entryFrame m #[(.int (2 : Int32))] 1)) t := fun t k => castTop (efd2 m ) k
  have p1 : ∀ t, Steps p.tables e below (s₁.setTop (mkF m 25 #[.val (.int (2 : Int32))] [])) t → Steps p.tables e below (s₁.setTop (entryFrame m #[(.int (2 : Int32))] 1)) t := fun t k => pre0 t (by
    show Steps p.tables e below (s₁.setTop (mkF m 0 #[.val (.int (2 : Int32))] [])) _
    refine XS.iloadN X0.here hx rfl (hb hby dd2_0) rfl ?_
    show Steps p.tables e below (s₁.setTop (mkF m 1 #[.val (.int (2 : Int32))] [(.int (2 : Int32))])) _
    refine XS.iconst X0.here hx rfl (hb hby dd2_1) ?_
    show Steps p.tables e below (s₁.setTop (mkF m 2 #[.val (.int (2 : Int32))] [(.int (1 : Int32)), (.int (2 : Int32))])) _
    refine XS.icmpNo X0.here hx rfl (hb hby dd2_2) rfl ((flt (by decide)).1) ?_
    show Steps p.tables e below (s₁.setTop (mkF m 5 #[.val (.int (2 : Int32))] [])) _
    refine XS.iloadN X0.here hx rfl (hb hby dd2_5) rfl ?_
    show Steps p.tables e below (s₁.setTop (mkF m 6 #[.val (.int (2 : Int32))] [(.int (2 : Int32))])) _
    refine XS.bipush X0.here hx rfl (hb hby dd2_6) ?_
    show Steps p.tables e below (s₁.setTop (mkF m 8 #[.val (.int (2 : Int32))] [(.int (18 : Int32)), (.int (2 : Int32))])) _
    refine XS.icmpYes X0.here hx rfl (pc0 := 8) (pc' := 25) rfl (hb hby dd2_8) rfl ((flt (by decide)).2.2.2) (by decide) (by decide) ?_
    exact k)
  obtain ⟨T2, X2, e2, st2⟩ := getS2 X0 hx hZ hown (host := "") (Or.inl (hw _ (List.mem_of_getElem? (i := 5) rfl))) Via.refl e0 S_D (g := (mkF m 25 #[.val (.int (2 : Int32))] [])) rfl (hb hby dd2_25)
  have p3 : ∀ t, Steps p.tables e below (T2.setTop (mkF m 28 #[.val (.int (2 : Int32))] [(.ref a_D)])) t → Steps p.tables e below (s₁.setTop (entryFrame m #[(.int (2 : Int32))] 1)) t := fun t k => p1 t (st2 t k)
  have p4 : ∀ t, Steps p.tables e below (T2.setTop (mkF m 31 #[.val (.int (2 : Int32))] [(.int ((2 : Int32) - (1 : Int32))), (.ref a_D)])) t → Steps p.tables e below (s₁.setTop (entryFrame m #[(.int (2 : Int32))] 1)) t := fun t k => p3 t (by
    show Steps p.tables e below (T2.setTop (mkF m 28 #[.val (.int (2 : Int32))] [(.ref a_D)])) _
    refine XS.iloadN X2.here hx rfl (hb hby dd2_28) rfl ?_
    show Steps p.tables e below (T2.setTop (mkF m 29 #[.val (.int (2 : Int32))] [(.int (2 : Int32)), (.ref a_D)])) _
    refine XS.iconst X2.here hx rfl (hb hby dd2_29) ?_
    show Steps p.tables e below (T2.setTop (mkF m 30 #[.val (.int (2 : Int32))] [(.int (1 : Int32)), (.int (2 : Int32)), (.ref a_D)])) _
    refine XS.isub X2.here hx rfl (hb hby dd2_30) rfl ?_
    exact k)
  obtain ⟨cl5, Ar5, q5, Sz5, Ng5, Hs5, G5⟩ := id V_D
  have hin5 : ¬ (((2 : Int32) - (1 : Int32)) < 0 ∨ cl5.slots.size ≤ (((2 : Int32) - (1 : Int32))).toNatClampNeg) := inb_of Sz5 ⟨by decide, by decide⟩
  have hat5 : cl5.slots[(((2 : Int32) - (1 : Int32))).toNatClampNeg]? = some (.long (5000 : Int64)) := Hs5.at hin5 (rfl)
  have p6 : ∀ t, Steps p.tables e below (T2.setTop (mkF m 32 #[.val (.int (2 : Int32))] [(.long (5000 : Int64))])) t → Steps p.tables e below (s₁.setTop (entryFrame m #[(.int (2 : Int32))] 1)) t := fun t k => p4 t (by
    show Steps p.tables e below (T2.setTop (mkF m 31 #[.val (.int (2 : Int32))] [(.int ((2 : Int32) - (1 : Int32))), (.ref a_D)])) _
    refine X2.laload hx (j := ((2 : Int32) - (1 : Int32))) (v := (.long (5000 : Int64))) (by rw [e2]; exact Ar5.1) (State.isArrayOf_alike hZ.alike Ar5.2.1) Ar5.2.2 hin5 hat5 (g := (mkF m 31 #[.val (.int (2 : Int32))] [(.int ((2 : Int32) - (1 : Int32))), (.ref a_D)])) rfl rfl (hb hby dd2_31) _ ?_
    exact k)
  obtain ⟨fs, hr, hrun, hended, hW, hsame⟩ := X2.leave (v := some (.long (5000 : Int64))) (fun h => by rw [Bd.returns] at h; cases h)
  refine ⟨_, _, p6 _ ?_, hrun, hended, _, _, rfl, ?_, ⟨_, rfl⟩, hW, hsame.mono (by decide) (by decide)⟩
  · show Steps p.tables e below (T2.setTop (mkF m 32 #[.val (.int (2 : Int32))] [(.long (5000 : Int64))])) _
    exact retOut X2 hx Bd.returns rfl (Or.inr (Or.inl ⟨rfl, rfl, _, rfl⟩)) (hb hby dd2_32) hr
  · show Qd2 Z a_D kk h0 n0 _ T2.heap _
    rw [e2]
    exact ⟨rfl, N0, rfl⟩
theorem de2_0 : decode method_2_code 0 = .ok (.iload_n 0, 1) := by decide +kernel
theorem de2_1 : decode method_2_code 1 = .ok (.iconst 4, 1) := by decide +kernel
theorem de2_2 : decode method_2_code 2 = .ok (.if_icmp .gt 34, 3) := by decide +kernel
theorem de2_5 : decode method_2_code 5 = .ok (.iload_n 0, 1) := by decide +kernel
theorem de2_6 : decode method_2_code 6 = .ok (.iconst 1, 1) := by decide +kernel
theorem de2_7 : decode method_2_code 7 = .ok (.if_icmp .ne 7, 3) := by decide +kernel
theorem de2_14 : decode method_2_code 14 = .ok (.iload_n 0, 1) := by decide +kernel
theorem de2_15 : decode method_2_code 15 = .ok (.iconst 2, 1) := by decide +kernel
theorem de2_16 : decode method_2_code 16 = .ok (.if_icmp .ne 7, 3) := by decide +kernel
theorem de2_19 : decode method_2_code 19 = .ok (.ldc2_w 9, 3) := by decide +kernel
theorem de2_22 : decode method_2_code 22 = .ok (.lreturn, 1) := by decide +kernel
theorem pne2 : plainName "com/example/ordo/ordo/store/DelayLevelsDelayMillisPinLaw" = true := by first | (simp [plainName, overriddenIn]; done) | decide +kernel
theorem efe2 (m : MethodId)  : entryFrame m #[(.int (2 : Int32))] 1 = mkF m 0 #[.val (.int (2 : Int32))] [] := by first | (simp [entryFrame, mkF, argsToLocals, Value.category]; done) | rfl
def Qe2 (Z : State)  (h0 : Heap) (n0 : Nat) (v : Option Value) (h : Heap) (L : List Loc) : Prop := v = some (.long (5000 : Int64)) ∧ Fr n0 L ∧ h = h0
set_option maxRecDepth 65536 in
set_option maxHeartbeats 40000000 in
theorem rme2 (l : Launch) (Z : State) (a0 : Array Value) (hw : ∀ d ∈ tables_1, d.before a0 Z = true) (ws : List Jvm.Cond)  (h0 : Heap) (n0 : Nat) (Z0 : n0 ≤ h0.size) :
    MetFree l (⟨"com/example/ordo/ordo/store/DelayLevelsDelayMillisPinLaw", "expected", "(I)J"⟩ : MethodName) (head1 (Jvm.Cond.code (⟨"com/example/ordo/ordo/store/DelayLevelsDelayMillisPinLaw", "expected", "(I)J"⟩ : MethodName) method_2_code 1 (some .long) :: ws) ({ frames := 0, cells := 0, slots := 0, locals := 0 } : Room)) (fun a U => a = #[(.int (2 : Int32))] ∧ Z.Warmed39 U.vm ∧ U.heap = h0) (fun _ _ _ _ _ => True) (fun _ U o U' => ∃ v L, o = .returned v ∧ Qe2 Z  h0 n0 v U'.heap L ∧ FrameEnd U o U' L ({ frames := 0, cells := 0, slots := 0, locals := 0 } : Room).cells ({ frames := 0, cells := 0, slots := 0, locals := 0 } : Room).slots) := by
  refine MetFree.of_bodySF (plainFor_of_name pne2) hisR ?_
  intro p e s m args below meth c s₁ Bd hml0 hP hK
  obtain ⟨rfl, hZ, hh⟩ := hP
  have hx := Bd.exec
  have hby := Bd.bytes
  have hml : c.maxLocals = 1 := hml0
  have hown : s.vm.findClass "com/example/ordo/ordo/store/DelayLevelsDelayMillisPinLaw" = some m.cls := findClass_of_methodNamed Bd.named
  have hnm := (name_of_methodNamed Bd.named Bd.method).1
  have X0 : Stand p l e ({ frames := 0, cells := 0, slots := 0, locals := 0 } : Room) s m #[(.int (2 : Int32))] below meth c s₁ [] 0 0 := Stand.of_body Bd
  have e0 : s₁.heap = h0 := by rw [← hh, Bd.state]; rfl
  have N0 := Fr.nil n0
  have pre0 : ∀ t, Steps p.tables e below (s₁.setTop (mkF m 0 #[.val (.int (2 : Int32))] [])) t → Steps p.tables e below (s₁.setTop (entryFrame m #[(.int (2 : Int32))] 1)) t := fun t k => castTop (efe2 m ) k
  have p1 : ∀ t, Steps p.tables e below (s₁.setTop (mkF m 22 #[.val (.int (2 : Int32))] [(.long (5000 : Int64))])) t → Steps p.tables e below (s₁.setTop (entryFrame m #[(.int (2 : Int32))] 1)) t := fun t k => pre0 t (by
    show Steps p.tables e below (s₁.setTop (mkF m 0 #[.val (.int (2 : Int32))] [])) _
    refine XS.iloadN X0.here hx rfl (hb hby de2_0) rfl ?_
    show Steps p.tables e below (s₁.setTop (mkF m 1 #[.val (.int (2 : Int32))] [(.int (2 : Int32))])) _
    refine XS.iconst X0.here hx rfl (hb hby de2_1) ?_
    show Steps p.tables e below (s₁.setTop (mkF m 2 #[.val (.int (2 : Int32))] [(.int (4 : Int32)), (.int (2 : Int32))])) _
    refine XS.icmpNo X0.here hx rfl (hb hby de2_2) rfl ((flt (by decide)).2.2.1) ?_
    show Steps p.tables e below (s₁.setTop (mkF m 5 #[.val (.int (2 : Int32))] [])) _
    refine XS.iloadN X0.here hx rfl (hb hby de2_5) rfl ?_
    show Steps p.tables e below (s₁.setTop (mkF m 6 #[.val (.int (2 : Int32))] [(.int (2 : Int32))])) _
    refine XS.iconst X0.here hx rfl (hb hby de2_6) ?_
    show Steps p.tables e below (s₁.setTop (mkF m 7 #[.val (.int (2 : Int32))] [(.int (1 : Int32)), (.int (2 : Int32))])) _
    refine XS.icmpYes X0.here hx rfl (pc0 := 7) (pc' := 14) rfl (hb hby de2_7) rfl ((feq (by decide)).2) (by decide) (by decide) ?_
    show Steps p.tables e below (s₁.setTop (mkF m 14 #[.val (.int (2 : Int32))] [])) _
    refine XS.iloadN X0.here hx rfl (hb hby de2_14) rfl ?_
    show Steps p.tables e below (s₁.setTop (mkF m 15 #[.val (.int (2 : Int32))] [(.int (2 : Int32))])) _
    refine XS.iconst X0.here hx rfl (hb hby de2_15) ?_
    show Steps p.tables e below (s₁.setTop (mkF m 16 #[.val (.int (2 : Int32))] [(.int (2 : Int32)), (.int (2 : Int32))])) _
    refine XS.icmpNo X0.here hx rfl (hb hby de2_16) rfl ((teq (rfl)).2) ?_
    show Steps p.tables e below (s₁.setTop (mkF m 19 #[.val (.int (2 : Int32))] [])) _
    refine X0.ldc2Long hx hown (mvT hZ (hw _ (List.mem_of_getElem? (i := 14) rfl))) (g := (mkF m 19 #[.val (.int (2 : Int32))] [])) rfl (hb hby de2_19) _ ?_
    exact k)
  obtain ⟨fs, hr, hrun, hended, hW, hsame⟩ := X0.leave (v := some (.long (5000 : Int64))) (fun h => by rw [Bd.returns] at h; cases h)
  refine ⟨_, _, p1 _ ?_, hrun, hended, _, _, rfl, ?_, ⟨_, rfl⟩, hW, hsame.mono (by decide) (by decide)⟩
  · show Steps p.tables e below (s₁.setTop (mkF m 22 #[.val (.int (2 : Int32))] [(.long (5000 : Int64))])) _
    exact retOut X0 hx Bd.returns rfl (Or.inr (Or.inl ⟨rfl, rfl, _, rfl⟩)) (hb hby de2_22) hr
  · show Qe2 Z  h0 n0 _ s₁.heap _
    rw [e0]
    exact ⟨rfl, N0, rfl⟩
theorem dd3_0 : decode prog_25_method_2_code 0 = .ok (.iload_n 0, 1) := by decide +kernel
theorem dd3_1 : decode prog_25_method_2_code 1 = .ok (.iconst 1, 1) := by decide +kernel
theorem dd3_2 : decode prog_25_method_2_code 2 = .ok (.if_icmp .lt 9, 3) := by decide +kernel
theorem dd3_5 : decode prog_25_method_2_code 5 = .ok (.iload_n 0, 1) := by decide +kernel
theorem dd3_6 : decode prog_25_method_2_code 6 = .ok (.bipush 18, 2) := by decide +kernel
theorem dd3_8 : decode prog_25_method_2_code 8 = .ok (.if_icmp .le 17, 3) := by decide +kernel
theorem dd3_25 : decode prog_25_method_2_code 25 = .ok (.getstatic 18, 3) := by decide +kernel
theorem dd3_28 : decode prog_25_method_2_code 28 = .ok (.iload_n 0, 1) := by decide +kernel
theorem dd3_29 : decode prog_25_method_2_code 29 = .ok (.iconst 1, 1) := by decide +kernel
theorem dd3_30 : decode prog_25_method_2_code 30 = .ok (.isub, 1) := by decide +kernel
theorem dd3_31 : decode prog_25_method_2_code 31 = .ok (.laload, 1) := by decide +kernel
theorem dd3_32 : decode prog_25_method_2_code 32 = .ok (.lreturn, 1) := by decide +kernel
theorem pnd3 : plainName "com/example/ordo/ordo/store/DelayLevels" = true := by first | (simp [plainName, overriddenIn]; done) | decide +kernel
theorem efd3 (m : MethodId)  : entryFrame m #[(.int (3 : Int32))] 1 = mkF m 0 #[.val (.int (3 : Int32))] [] := by first | (simp [entryFrame, mkF, argsToLocals, Value.category]; done) | rfl
def Qd3 (Z : State)  (a_D : Addr) (kk : ClassId) (h0 : Heap) (n0 : Nat) (v : Option Value) (h : Heap) (L : List Loc) : Prop := v = some (.long (10000 : Int64)) ∧ Fr n0 L ∧ h = h0
set_option maxRecDepth 65536 in
set_option maxHeartbeats 40000000 in
theorem rmd3 (l : Launch) (Z : State) (a0 : Array Value) (hw : ∀ d ∈ tables_1, d.before a0 Z = true) (ws : List Jvm.Cond)  (a_D : Addr) (kk : ClassId) (h0 : Heap) (n0 : Nat) (Z0 : n0 ≤ h0.size) (S_D : Sta Z h0 "com/example/ordo/ordo/store/DelayLevels" "DELAYS" "[J" (.ref a_D)) (V_D : Arv Z h0 a_D kk .long (18 : Int32) own_ds (.long (0 : Int64))) :
    MetFree l (⟨"com/example/ordo/ordo/store/DelayLevels", "delayMillis", "(I)J"⟩ : MethodName) (head1 (Jvm.Cond.code (⟨"com/example/ordo/ordo/store/DelayLevels", "delayMillis", "(I)J"⟩ : MethodName) prog_25_method_2_code 1 (some .long) :: ws) ({ frames := 0, cells := 0, slots := 0, locals := 0 } : Room)) (fun a U => a = #[(.int (3 : Int32))] ∧ Z.Warmed39 U.vm ∧ U.heap = h0) (fun _ _ _ _ _ => True) (fun _ U o U' => ∃ v L, o = .returned v ∧ Qd3 Z a_D kk h0 n0 v U'.heap L ∧ FrameEnd U o U' L ({ frames := 0, cells := 0, slots := 0, locals := 0 } : Room).cells ({ frames := 0, cells := 0, slots := 0, locals := 0 } : Room).slots) := by
  refine MetFree.of_bodySF (plainFor_of_name pnd3) hisR ?_
  intro p e s m args below meth c s₁ Bd hml0 hP hK
  obtain ⟨rfl, hZ, hh⟩ := hP
  have hx := Bd.exec
  have hby := Bd.bytes
  have hml : c.maxLocals = 1 := hml0
  have hown : s.vm.findClass "com/example/ordo/ordo/store/DelayLevels" = some m.cls := findClass_of_methodNamed Bd.named
  have hnm := (name_of_methodNamed Bd.named Bd.method).1
  have X0 : Stand p l e ({ frames := 0, cells := 0, slots := 0, locals := 0 } : Room) s m #[(.int (3 : Int32))] below meth c s₁ [] 0 0 := Stand.of_body Bd
  have e0 : s₁.heap = h0 := by rw [← hh, Bd.state]; rfl
  have N0 := Fr.nil n0
  have pre0 : ∀ t, Steps p.tables e below (s₁.setTop (mkF m 0 #[.val (.int (3 : Int32))] [])) t → Steps p.tables e below (s₁.setTop (entryFrame m #[(.int (3 : Int32))] 1)) t := fun t k => castTop (efd3 m ) k
  have p1 : ∀ t, Steps p.tables e below (s₁.setTop (mkF m 25 #[.val (.int (3 : Int32))] [])) t → Steps p.tables e below (s₁.setTop (entryFrame m #[(.int (3 : Int32))] 1)) t := fun t k => pre0 t (by
    show Steps p.tables e below (s₁.setTop (mkF m 0 #[.val (.int (3 : Int32))] [])) _
    refine XS.iloadN X0.here hx rfl (hb hby dd3_0) rfl ?_
    show Steps p.tables e below (s₁.setTop (mkF m 1 #[.val (.int (3 : Int32))] [(.int (3 : Int32))])) _
    refine XS.iconst X0.here hx rfl (hb hby dd3_1) ?_
    show Steps p.tables e below (s₁.setTop (mkF m 2 #[.val (.int (3 : Int32))] [(.int (1 : Int32)), (.int (3 : Int32))])) _
    refine XS.icmpNo X0.here hx rfl (hb hby dd3_2) rfl ((flt (by decide)).1) ?_
    show Steps p.tables e below (s₁.setTop (mkF m 5 #[.val (.int (3 : Int32))] [])) _
    refine XS.iloadN X0.here hx rfl (hb hby dd3_5) rfl ?_
    show Steps p.tables e below (s₁.setTop (mkF m 6 #[.val (.int (3 : Int32))] [(.int (3 : Int32))])) _
    refine XS.bipush X0.here hx rfl (hb hby dd3_6) ?_
    show Steps p.tables e below (s₁.setTop (mkF m 8 #[.val (.int (3 : Int32))] [(.int (18 : Int32)), (.int (3 : Int32))])) _
    refine XS.icmpYes X0.here hx rfl (pc0 := 8) (pc' := 25) rfl (hb hby dd3_8) rfl ((flt (by decide)).2.2.2) (by decide) (by decide) ?_
    exact k)
  obtain ⟨T2, X2, e2, st2⟩ := getS2 X0 hx hZ hown (host := "") (Or.inl (hw _ (List.mem_of_getElem? (i := 5) rfl))) Via.refl e0 S_D (g := (mkF m 25 #[.val (.int (3 : Int32))] [])) rfl (hb hby dd3_25)
  have p3 : ∀ t, Steps p.tables e below (T2.setTop (mkF m 28 #[.val (.int (3 : Int32))] [(.ref a_D)])) t → Steps p.tables e below (s₁.setTop (entryFrame m #[(.int (3 : Int32))] 1)) t := fun t k => p1 t (st2 t k)
  have p4 : ∀ t, Steps p.tables e below (T2.setTop (mkF m 31 #[.val (.int (3 : Int32))] [(.int ((3 : Int32) - (1 : Int32))), (.ref a_D)])) t → Steps p.tables e below (s₁.setTop (entryFrame m #[(.int (3 : Int32))] 1)) t := fun t k => p3 t (by
    show Steps p.tables e below (T2.setTop (mkF m 28 #[.val (.int (3 : Int32))] [(.ref a_D)])) _
    refine XS.iloadN X2.here hx rfl (hb hby dd3_28) rfl ?_
    show Steps p.tables e below (T2.setTop (mkF m 29 #[.val (.int (3 : Int32))] [(.int (3 : Int32)), (.ref a_D)])) _
    refine XS.iconst X2.here hx rfl (hb hby dd3_29) ?_
    show Steps p.tables e below (T2.setTop (mkF m 30 #[.val (.int (3 : Int32))] [(.int (1 : Int32)), (.int (3 : Int32)), (.ref a_D)])) _
    refine XS.isub X2.here hx rfl (hb hby dd3_30) rfl ?_
    exact k)
  obtain ⟨cl5, Ar5, q5, Sz5, Ng5, Hs5, G5⟩ := id V_D
  have hin5 : ¬ (((3 : Int32) - (1 : Int32)) < 0 ∨ cl5.slots.size ≤ (((3 : Int32) - (1 : Int32))).toNatClampNeg) := inb_of Sz5 ⟨by decide, by decide⟩
  have hat5 : cl5.slots[(((3 : Int32) - (1 : Int32))).toNatClampNeg]? = some (.long (10000 : Int64)) := Hs5.at hin5 (rfl)
  have p6 : ∀ t, Steps p.tables e below (T2.setTop (mkF m 32 #[.val (.int (3 : Int32))] [(.long (10000 : Int64))])) t → Steps p.tables e below (s₁.setTop (entryFrame m #[(.int (3 : Int32))] 1)) t := fun t k => p4 t (by
    show Steps p.tables e below (T2.setTop (mkF m 31 #[.val (.int (3 : Int32))] [(.int ((3 : Int32) - (1 : Int32))), (.ref a_D)])) _
    refine X2.laload hx (j := ((3 : Int32) - (1 : Int32))) (v := (.long (10000 : Int64))) (by rw [e2]; exact Ar5.1) (State.isArrayOf_alike hZ.alike Ar5.2.1) Ar5.2.2 hin5 hat5 (g := (mkF m 31 #[.val (.int (3 : Int32))] [(.int ((3 : Int32) - (1 : Int32))), (.ref a_D)])) rfl rfl (hb hby dd3_31) _ ?_
    exact k)
  obtain ⟨fs, hr, hrun, hended, hW, hsame⟩ := X2.leave (v := some (.long (10000 : Int64))) (fun h => by rw [Bd.returns] at h; cases h)
  refine ⟨_, _, p6 _ ?_, hrun, hended, _, _, rfl, ?_, ⟨_, rfl⟩, hW, hsame.mono (by decide) (by decide)⟩
  · show Steps p.tables e below (T2.setTop (mkF m 32 #[.val (.int (3 : Int32))] [(.long (10000 : Int64))])) _
    exact retOut X2 hx Bd.returns rfl (Or.inr (Or.inl ⟨rfl, rfl, _, rfl⟩)) (hb hby dd3_32) hr
  · show Qd3 Z a_D kk h0 n0 _ T2.heap _
    rw [e2]
    exact ⟨rfl, N0, rfl⟩
theorem de3_0 : decode method_2_code 0 = .ok (.iload_n 0, 1) := by decide +kernel
theorem de3_1 : decode method_2_code 1 = .ok (.iconst 4, 1) := by decide +kernel
theorem de3_2 : decode method_2_code 2 = .ok (.if_icmp .gt 34, 3) := by decide +kernel
theorem de3_5 : decode method_2_code 5 = .ok (.iload_n 0, 1) := by decide +kernel
theorem de3_6 : decode method_2_code 6 = .ok (.iconst 1, 1) := by decide +kernel
theorem de3_7 : decode method_2_code 7 = .ok (.if_icmp .ne 7, 3) := by decide +kernel
theorem de3_14 : decode method_2_code 14 = .ok (.iload_n 0, 1) := by decide +kernel
theorem de3_15 : decode method_2_code 15 = .ok (.iconst 2, 1) := by decide +kernel
theorem de3_16 : decode method_2_code 16 = .ok (.if_icmp .ne 7, 3) := by decide +kernel
theorem de3_23 : decode method_2_code 23 = .ok (.iload_n 0, 1) := by decide +kernel
theorem de3_24 : decode method_2_code 24 = .ok (.iconst 3, 1) := by decide +kernel
theorem de3_25 : decode method_2_code 25 = .ok (.if_icmp .ne 7, 3) := by decide +kernel
theorem de3_28 : decode method_2_code 28 = .ok (.ldc2_w 11, 3) := by decide +kernel
theorem de3_31 : decode method_2_code 31 = .ok (.lreturn, 1) := by decide +kernel
theorem pne3 : plainName "com/example/ordo/ordo/store/DelayLevelsDelayMillisPinLaw" = true := by first | (simp [plainName, overriddenIn]; done) | decide +kernel
theorem efe3 (m : MethodId)  : entryFrame m #[(.int (3 : Int32))] 1 = mkF m 0 #[.val (.int (3 : Int32))] [] := by first | (simp [entryFrame, mkF, argsToLocals, Value.category]; done) | rfl
def Qe3 (Z : State)  (h0 : Heap) (n0 : Nat) (v : Option Value) (h : Heap) (L : List Loc) : Prop := v = some (.long (10000 : Int64)) ∧ Fr n0 L ∧ h = h0
set_option maxRecDepth 65536 in
set_option maxHeartbeats 40000000 in
theorem rme3 (l : Launch) (Z : State) (a0 : Array Value) (hw : ∀ d ∈ tables_1, d.before a0 Z = true) (ws : List Jvm.Cond)  (h0 : Heap) (n0 : Nat) (Z0 : n0 ≤ h0.size) :
    MetFree l (⟨"com/example/ordo/ordo/store/DelayLevelsDelayMillisPinLaw", "expected", "(I)J"⟩ : MethodName) (head1 (Jvm.Cond.code (⟨"com/example/ordo/ordo/store/DelayLevelsDelayMillisPinLaw", "expected", "(I)J"⟩ : MethodName) method_2_code 1 (some .long) :: ws) ({ frames := 0, cells := 0, slots := 0, locals := 0 } : Room)) (fun a U => a = #[(.int (3 : Int32))] ∧ Z.Warmed39 U.vm ∧ U.heap = h0) (fun _ _ _ _ _ => True) (fun _ U o U' => ∃ v L, o = .returned v ∧ Qe3 Z  h0 n0 v U'.heap L ∧ FrameEnd U o U' L ({ frames := 0, cells := 0, slots := 0, locals := 0 } : Room).cells ({ frames := 0, cells := 0, slots := 0, locals := 0 } : Room).slots) := by
  refine MetFree.of_bodySF (plainFor_of_name pne3) hisR ?_
  intro p e s m args below meth c s₁ Bd hml0 hP hK
  obtain ⟨rfl, hZ, hh⟩ := hP
  have hx := Bd.exec
  have hby := Bd.bytes
  have hml : c.maxLocals = 1 := hml0
  have hown : s.vm.findClass "com/example/ordo/ordo/store/DelayLevelsDelayMillisPinLaw" = some m.cls := findClass_of_methodNamed Bd.named
  have hnm := (name_of_methodNamed Bd.named Bd.method).1
  have X0 : Stand p l e ({ frames := 0, cells := 0, slots := 0, locals := 0 } : Room) s m #[(.int (3 : Int32))] below meth c s₁ [] 0 0 := Stand.of_body Bd
  have e0 : s₁.heap = h0 := by rw [← hh, Bd.state]; rfl
  have N0 := Fr.nil n0
  have pre0 : ∀ t, Steps p.tables e below (s₁.setTop (mkF m 0 #[.val (.int (3 : Int32))] [])) t → Steps p.tables e below (s₁.setTop (entryFrame m #[(.int (3 : Int32))] 1)) t := fun t k => castTop (efe3 m ) k
  have p1 : ∀ t, Steps p.tables e below (s₁.setTop (mkF m 31 #[.val (.int (3 : Int32))] [(.long (10000 : Int64))])) t → Steps p.tables e below (s₁.setTop (entryFrame m #[(.int (3 : Int32))] 1)) t := fun t k => pre0 t (by
    show Steps p.tables e below (s₁.setTop (mkF m 0 #[.val (.int (3 : Int32))] [])) _
    refine XS.iloadN X0.here hx rfl (hb hby de3_0) rfl ?_
    show Steps p.tables e below (s₁.setTop (mkF m 1 #[.val (.int (3 : Int32))] [(.int (3 : Int32))])) _
    refine XS.iconst X0.here hx rfl (hb hby de3_1) ?_
    show Steps p.tables e below (s₁.setTop (mkF m 2 #[.val (.int (3 : Int32))] [(.int (4 : Int32)), (.int (3 : Int32))])) _
    refine XS.icmpNo X0.here hx rfl (hb hby de3_2) rfl ((flt (by decide)).2.2.1) ?_
    show Steps p.tables e below (s₁.setTop (mkF m 5 #[.val (.int (3 : Int32))] [])) _
    refine XS.iloadN X0.here hx rfl (hb hby de3_5) rfl ?_
    show Steps p.tables e below (s₁.setTop (mkF m 6 #[.val (.int (3 : Int32))] [(.int (3 : Int32))])) _
    refine XS.iconst X0.here hx rfl (hb hby de3_6) ?_
    show Steps p.tables e below (s₁.setTop (mkF m 7 #[.val (.int (3 : Int32))] [(.int (1 : Int32)), (.int (3 : Int32))])) _
    refine XS.icmpYes X0.here hx rfl (pc0 := 7) (pc' := 14) rfl (hb hby de3_7) rfl ((feq (by decide)).2) (by decide) (by decide) ?_
    show Steps p.tables e below (s₁.setTop (mkF m 14 #[.val (.int (3 : Int32))] [])) _
    refine XS.iloadN X0.here hx rfl (hb hby de3_14) rfl ?_
    show Steps p.tables e below (s₁.setTop (mkF m 15 #[.val (.int (3 : Int32))] [(.int (3 : Int32))])) _
    refine XS.iconst X0.here hx rfl (hb hby de3_15) ?_
    show Steps p.tables e below (s₁.setTop (mkF m 16 #[.val (.int (3 : Int32))] [(.int (2 : Int32)), (.int (3 : Int32))])) _
    refine XS.icmpYes X0.here hx rfl (pc0 := 16) (pc' := 23) rfl (hb hby de3_16) rfl ((feq (by decide)).2) (by decide) (by decide) ?_
    show Steps p.tables e below (s₁.setTop (mkF m 23 #[.val (.int (3 : Int32))] [])) _
    refine XS.iloadN X0.here hx rfl (hb hby de3_23) rfl ?_
    show Steps p.tables e below (s₁.setTop (mkF m 24 #[.val (.int (3 : Int32))] [(.int (3 : Int32))])) _
    refine XS.iconst X0.here hx rfl (hb hby de3_24) ?_
    show Steps p.tables e below (s₁.setTop (mkF m 25 #[.val (.int (3 : Int32))] [(.int (3 : Int32)), (.int (3 : Int32))])) _
    refine XS.icmpNo X0.here hx rfl (hb hby de3_25) rfl ((teq (rfl)).2) ?_
    show Steps p.tables e below (s₁.setTop (mkF m 28 #[.val (.int (3 : Int32))] [])) _
    refine X0.ldc2Long hx hown (mvT hZ (hw _ (List.mem_of_getElem? (i := 13) rfl))) (g := (mkF m 28 #[.val (.int (3 : Int32))] [])) rfl (hb hby de3_28) _ ?_
    exact k)
  obtain ⟨fs, hr, hrun, hended, hW, hsame⟩ := X0.leave (v := some (.long (10000 : Int64))) (fun h => by rw [Bd.returns] at h; cases h)
  refine ⟨_, _, p1 _ ?_, hrun, hended, _, _, rfl, ?_, ⟨_, rfl⟩, hW, hsame.mono (by decide) (by decide)⟩
  · show Steps p.tables e below (s₁.setTop (mkF m 31 #[.val (.int (3 : Int32))] [(.long (10000 : Int64))])) _
    exact retOut X0 hx Bd.returns rfl (Or.inr (Or.inl ⟨rfl, rfl, _, rfl⟩)) (hb hby de3_31) hr
  · show Qe3 Z  h0 n0 _ s₁.heap _
    rw [e0]
    exact ⟨rfl, N0, rfl⟩
theorem dd4_0 : decode prog_25_method_2_code 0 = .ok (.iload_n 0, 1) := by decide +kernel
theorem dd4_1 : decode prog_25_method_2_code 1 = .ok (.iconst 1, 1) := by decide +kernel
theorem dd4_2 : decode prog_25_method_2_code 2 = .ok (.if_icmp .lt 9, 3) := by decide +kernel
theorem dd4_5 : decode prog_25_method_2_code 5 = .ok (.iload_n 0, 1) := by decide +kernel
theorem dd4_6 : decode prog_25_method_2_code 6 = .ok (.bipush 18, 2) := by decide +kernel
theorem dd4_8 : decode prog_25_method_2_code 8 = .ok (.if_icmp .le 17, 3) := by decide +kernel
theorem dd4_25 : decode prog_25_method_2_code 25 = .ok (.getstatic 18, 3) := by decide +kernel
theorem dd4_28 : decode prog_25_method_2_code 28 = .ok (.iload_n 0, 1) := by decide +kernel
theorem dd4_29 : decode prog_25_method_2_code 29 = .ok (.iconst 1, 1) := by decide +kernel
theorem dd4_30 : decode prog_25_method_2_code 30 = .ok (.isub, 1) := by decide +kernel
theorem dd4_31 : decode prog_25_method_2_code 31 = .ok (.laload, 1) := by decide +kernel
theorem dd4_32 : decode prog_25_method_2_code 32 = .ok (.lreturn, 1) := by decide +kernel
theorem pnd4 : plainName "com/example/ordo/ordo/store/DelayLevels" = true := by first | (simp [plainName, overriddenIn]; done) | decide +kernel
theorem efd4 (m : MethodId)  : entryFrame m #[(.int (4 : Int32))] 1 = mkF m 0 #[.val (.int (4 : Int32))] [] := by first | (simp [entryFrame, mkF, argsToLocals, Value.category]; done) | rfl
def Qd4 (Z : State)  (a_D : Addr) (kk : ClassId) (h0 : Heap) (n0 : Nat) (v : Option Value) (h : Heap) (L : List Loc) : Prop := v = some (.long (30000 : Int64)) ∧ Fr n0 L ∧ h = h0
set_option maxRecDepth 65536 in
set_option maxHeartbeats 40000000 in
theorem rmd4 (l : Launch) (Z : State) (a0 : Array Value) (hw : ∀ d ∈ tables_1, d.before a0 Z = true) (ws : List Jvm.Cond)  (a_D : Addr) (kk : ClassId) (h0 : Heap) (n0 : Nat) (Z0 : n0 ≤ h0.size) (S_D : Sta Z h0 "com/example/ordo/ordo/store/DelayLevels" "DELAYS" "[J" (.ref a_D)) (V_D : Arv Z h0 a_D kk .long (18 : Int32) own_ds (.long (0 : Int64))) :
    MetFree l (⟨"com/example/ordo/ordo/store/DelayLevels", "delayMillis", "(I)J"⟩ : MethodName) (head1 (Jvm.Cond.code (⟨"com/example/ordo/ordo/store/DelayLevels", "delayMillis", "(I)J"⟩ : MethodName) prog_25_method_2_code 1 (some .long) :: ws) ({ frames := 0, cells := 0, slots := 0, locals := 0 } : Room)) (fun a U => a = #[(.int (4 : Int32))] ∧ Z.Warmed39 U.vm ∧ U.heap = h0) (fun _ _ _ _ _ => True) (fun _ U o U' => ∃ v L, o = .returned v ∧ Qd4 Z a_D kk h0 n0 v U'.heap L ∧ FrameEnd U o U' L ({ frames := 0, cells := 0, slots := 0, locals := 0 } : Room).cells ({ frames := 0, cells := 0, slots := 0, locals := 0 } : Room).slots) := by
  refine MetFree.of_bodySF (plainFor_of_name pnd4) hisR ?_
  intro p e s m args below meth c s₁ Bd hml0 hP hK
  obtain ⟨rfl, hZ, hh⟩ := hP
  have hx := Bd.exec
  have hby := Bd.bytes
  have hml : c.maxLocals = 1 := hml0
  have hown : s.vm.findClass "com/example/ordo/ordo/store/DelayLevels" = some m.cls := findClass_of_methodNamed Bd.named
  have hnm := (name_of_methodNamed Bd.named Bd.method).1
  have X0 : Stand p l e ({ frames := 0, cells := 0, slots := 0, locals := 0 } : Room) s m #[(.int (4 : Int32))] below meth c s₁ [] 0 0 := Stand.of_body Bd
  have e0 : s₁.heap = h0 := by rw [← hh, Bd.state]; rfl
  have N0 := Fr.nil n0
  have pre0 : ∀ t, Steps p.tables e below (s₁.setTop (mkF m 0 #[.val (.int (4 : Int32))] [])) t → Steps p.tables e below (s₁.setTop (entryFrame m #[(.int (4 : Int32))] 1)) t := fun t k => castTop (efd4 m ) k
  have p1 : ∀ t, Steps p.tables e below (s₁.setTop (mkF m 25 #[.val (.int (4 : Int32))] [])) t → Steps p.tables e below (s₁.setTop (entryFrame m #[(.int (4 : Int32))] 1)) t := fun t k => pre0 t (by
    show Steps p.tables e below (s₁.setTop (mkF m 0 #[.val (.int (4 : Int32))] [])) _
    refine XS.iloadN X0.here hx rfl (hb hby dd4_0) rfl ?_
    show Steps p.tables e below (s₁.setTop (mkF m 1 #[.val (.int (4 : Int32))] [(.int (4 : Int32))])) _
    refine XS.iconst X0.here hx rfl (hb hby dd4_1) ?_
    show Steps p.tables e below (s₁.setTop (mkF m 2 #[.val (.int (4 : Int32))] [(.int (1 : Int32)), (.int (4 : Int32))])) _
    refine XS.icmpNo X0.here hx rfl (hb hby dd4_2) rfl ((flt (by decide)).1) ?_
    show Steps p.tables e below (s₁.setTop (mkF m 5 #[.val (.int (4 : Int32))] [])) _
    refine XS.iloadN X0.here hx rfl (hb hby dd4_5) rfl ?_
    show Steps p.tables e below (s₁.setTop (mkF m 6 #[.val (.int (4 : Int32))] [(.int (4 : Int32))])) _
    refine XS.bipush X0.here hx rfl (hb hby dd4_6) ?_
    show Steps p.tables e below (s₁.setTop (mkF m 8 #[.val (.int (4 : Int32))] [(.int (18 : Int32)), (.int (4 : Int32))])) _
    refine XS.icmpYes X0.here hx rfl (pc0 := 8) (pc' := 25) rfl (hb hby dd4_8) rfl ((flt (by decide)).2.2.2) (by decide) (by decide) ?_
    exact k)
  obtain ⟨T2, X2, e2, st2⟩ := getS2 X0 hx hZ hown (host := "") (Or.inl (hw _ (List.mem_of_getElem? (i := 5) rfl))) Via.refl e0 S_D (g := (mkF m 25 #[.val (.int (4 : Int32))] [])) rfl (hb hby dd4_25)
  have p3 : ∀ t, Steps p.tables e below (T2.setTop (mkF m 28 #[.val (.int (4 : Int32))] [(.ref a_D)])) t → Steps p.tables e below (s₁.setTop (entryFrame m #[(.int (4 : Int32))] 1)) t := fun t k => p1 t (st2 t k)
  have p4 : ∀ t, Steps p.tables e below (T2.setTop (mkF m 31 #[.val (.int (4 : Int32))] [(.int ((4 : Int32) - (1 : Int32))), (.ref a_D)])) t → Steps p.tables e below (s₁.setTop (entryFrame m #[(.int (4 : Int32))] 1)) t := fun t k => p3 t (by
    show Steps p.tables e below (T2.setTop (mkF m 28 #[.val (.int (4 : Int32))] [(.ref a_D)])) _
    refine XS.iloadN X2.here hx rfl (hb hby dd4_28) rfl ?_
    show Steps p.tables e below (T2.setTop (mkF m 29 #[.val (.int (4 : Int32))] [(.int (4 : Int32)), (.ref a_D)])) _
    refine XS.iconst X2.here hx rfl (hb hby dd4_29) ?_
    show Steps p.tables e below (T2.setTop (mkF m 30 #[.val (.int (4 : Int32))] [(.int (1 : Int32)), (.int (4 : Int32)), (.ref a_D)])) _
    refine XS.isub X2.here hx rfl (hb hby dd4_30) rfl ?_
    exact k)
  obtain ⟨cl5, Ar5, q5, Sz5, Ng5, Hs5, G5⟩ := id V_D
  have hin5 : ¬ (((4 : Int32) - (1 : Int32)) < 0 ∨ cl5.slots.size ≤ (((4 : Int32) - (1 : Int32))).toNatClampNeg) := inb_of Sz5 ⟨by decide, by decide⟩
  have hat5 : cl5.slots[(((4 : Int32) - (1 : Int32))).toNatClampNeg]? = some (.long (30000 : Int64)) := Hs5.at hin5 (rfl)
  have p6 : ∀ t, Steps p.tables e below (T2.setTop (mkF m 32 #[.val (.int (4 : Int32))] [(.long (30000 : Int64))])) t → Steps p.tables e below (s₁.setTop (entryFrame m #[(.int (4 : Int32))] 1)) t := fun t k => p4 t (by
    show Steps p.tables e below (T2.setTop (mkF m 31 #[.val (.int (4 : Int32))] [(.int ((4 : Int32) - (1 : Int32))), (.ref a_D)])) _
    refine X2.laload hx (j := ((4 : Int32) - (1 : Int32))) (v := (.long (30000 : Int64))) (by rw [e2]; exact Ar5.1) (State.isArrayOf_alike hZ.alike Ar5.2.1) Ar5.2.2 hin5 hat5 (g := (mkF m 31 #[.val (.int (4 : Int32))] [(.int ((4 : Int32) - (1 : Int32))), (.ref a_D)])) rfl rfl (hb hby dd4_31) _ ?_
    exact k)
  obtain ⟨fs, hr, hrun, hended, hW, hsame⟩ := X2.leave (v := some (.long (30000 : Int64))) (fun h => by rw [Bd.returns] at h; cases h)
  refine ⟨_, _, p6 _ ?_, hrun, hended, _, _, rfl, ?_, ⟨_, rfl⟩, hW, hsame.mono (by decide) (by decide)⟩
  · show Steps p.tables e below (T2.setTop (mkF m 32 #[.val (.int (4 : Int32))] [(.long (30000 : Int64))])) _
    exact retOut X2 hx Bd.returns rfl (Or.inr (Or.inl ⟨rfl, rfl, _, rfl⟩)) (hb hby dd4_32) hr
  · show Qd4 Z a_D kk h0 n0 _ T2.heap _
    rw [e2]
    exact ⟨rfl, N0, rfl⟩
theorem de4_0 : decode method_2_code 0 = .ok (.iload_n 0, 1) := by decide +kernel
theorem de4_1 : decode method_2_code 1 = .ok (.iconst 4, 1) := by decide +kernel
theorem de4_2 : decode method_2_code 2 = .ok (.if_icmp .gt 34, 3) := by decide +kernel
theorem de4_5 : decode method_2_code 5 = .ok (.iload_n 0, 1) := by decide +kernel
theorem de4_6 : decode method_2_code 6 = .ok (.iconst 1, 1) := by decide +kernel
theorem de4_7 : decode method_2_code 7 = .ok (.if_icmp .ne 7, 3) := by decide +kernel
theorem de4_14 : decode method_2_code 14 = .ok (.iload_n 0, 1) := by decide +kernel
theorem de4_15 : decode method_2_code 15 = .ok (.iconst 2, 1) := by decide +kernel
theorem de4_16 : decode method_2_code 16 = .ok (.if_icmp .ne 7, 3) := by decide +kernel
theorem de4_23 : decode method_2_code 23 = .ok (.iload_n 0, 1) := by decide +kernel
theorem de4_24 : decode method_2_code 24 = .ok (.iconst 3, 1) := by decide +kernel
theorem de4_25 : decode method_2_code 25 = .ok (.if_icmp .ne 7, 3) := by decide +kernel
theorem de4_32 : decode method_2_code 32 = .ok (.ldc2_w 13, 3) := by decide +kernel
theorem de4_35 : decode method_2_code 35 = .ok (.lreturn, 1) := by decide +kernel
theorem pne4 : plainName "com/example/ordo/ordo/store/DelayLevelsDelayMillisPinLaw" = true := by first | (simp [plainName, overriddenIn]; done) | decide +kernel
theorem efe4 (m : MethodId)  : entryFrame m #[(.int (4 : Int32))] 1 = mkF m 0 #[.val (.int (4 : Int32))] [] := by first | (simp [entryFrame, mkF, argsToLocals, Value.category]; done) | rfl
def Qe4 (Z : State)  (h0 : Heap) (n0 : Nat) (v : Option Value) (h : Heap) (L : List Loc) : Prop := v = some (.long (30000 : Int64)) ∧ Fr n0 L ∧ h = h0
set_option maxRecDepth 65536 in
set_option maxHeartbeats 40000000 in
theorem rme4 (l : Launch) (Z : State) (a0 : Array Value) (hw : ∀ d ∈ tables_1, d.before a0 Z = true) (ws : List Jvm.Cond)  (h0 : Heap) (n0 : Nat) (Z0 : n0 ≤ h0.size) :
    MetFree l (⟨"com/example/ordo/ordo/store/DelayLevelsDelayMillisPinLaw", "expected", "(I)J"⟩ : MethodName) (head1 (Jvm.Cond.code (⟨"com/example/ordo/ordo/store/DelayLevelsDelayMillisPinLaw", "expected", "(I)J"⟩ : MethodName) method_2_code 1 (some .long) :: ws) ({ frames := 0, cells := 0, slots := 0, locals := 0 } : Room)) (fun a U => a = #[(.int (4 : Int32))] ∧ Z.Warmed39 U.vm ∧ U.heap = h0) (fun _ _ _ _ _ => True) (fun _ U o U' => ∃ v L, o = .returned v ∧ Qe4 Z  h0 n0 v U'.heap L ∧ FrameEnd U o U' L ({ frames := 0, cells := 0, slots := 0, locals := 0 } : Room).cells ({ frames := 0, cells := 0, slots := 0, locals := 0 } : Room).slots) := by
  refine MetFree.of_bodySF (plainFor_of_name pne4) hisR ?_
  intro p e s m args below meth c s₁ Bd hml0 hP hK
  obtain ⟨rfl, hZ, hh⟩ := hP
  have hx := Bd.exec
  have hby := Bd.bytes
  have hml : c.maxLocals = 1 := hml0
  have hown : s.vm.findClass "com/example/ordo/ordo/store/DelayLevelsDelayMillisPinLaw" = some m.cls := findClass_of_methodNamed Bd.named
  have hnm := (name_of_methodNamed Bd.named Bd.method).1
  have X0 : Stand p l e ({ frames := 0, cells := 0, slots := 0, locals := 0 } : Room) s m #[(.int (4 : Int32))] below meth c s₁ [] 0 0 := Stand.of_body Bd
  have e0 : s₁.heap = h0 := by rw [← hh, Bd.state]; rfl
  have N0 := Fr.nil n0
  have pre0 : ∀ t, Steps p.tables e below (s₁.setTop (mkF m 0 #[.val (.int (4 : Int32))] [])) t → Steps p.tables e below (s₁.setTop (entryFrame m #[(.int (4 : Int32))] 1)) t := fun t k => castTop (efe4 m ) k
  have p1 : ∀ t, Steps p.tables e below (s₁.setTop (mkF m 35 #[.val (.int (4 : Int32))] [(.long (30000 : Int64))])) t → Steps p.tables e below (s₁.setTop (entryFrame m #[(.int (4 : Int32))] 1)) t := fun t k => pre0 t (by
    show Steps p.tables e below (s₁.setTop (mkF m 0 #[.val (.int (4 : Int32))] [])) _
    refine XS.iloadN X0.here hx rfl (hb hby de4_0) rfl ?_
    show Steps p.tables e below (s₁.setTop (mkF m 1 #[.val (.int (4 : Int32))] [(.int (4 : Int32))])) _
    refine XS.iconst X0.here hx rfl (hb hby de4_1) ?_
    show Steps p.tables e below (s₁.setTop (mkF m 2 #[.val (.int (4 : Int32))] [(.int (4 : Int32)), (.int (4 : Int32))])) _
    refine XS.icmpNo X0.here hx rfl (hb hby de4_2) rfl ((flt (by decide)).2.2.1) ?_
    show Steps p.tables e below (s₁.setTop (mkF m 5 #[.val (.int (4 : Int32))] [])) _
    refine XS.iloadN X0.here hx rfl (hb hby de4_5) rfl ?_
    show Steps p.tables e below (s₁.setTop (mkF m 6 #[.val (.int (4 : Int32))] [(.int (4 : Int32))])) _
    refine XS.iconst X0.here hx rfl (hb hby de4_6) ?_
    show Steps p.tables e below (s₁.setTop (mkF m 7 #[.val (.int (4 : Int32))] [(.int (1 : Int32)), (.int (4 : Int32))])) _
    refine XS.icmpYes X0.here hx rfl (pc0 := 7) (pc' := 14) rfl (hb hby de4_7) rfl ((feq (by decide)).2) (by decide) (by decide) ?_
    show Steps p.tables e below (s₁.setTop (mkF m 14 #[.val (.int (4 : Int32))] [])) _
    refine XS.iloadN X0.here hx rfl (hb hby de4_14) rfl ?_
    show Steps p.tables e below (s₁.setTop (mkF m 15 #[.val (.int (4 : Int32))] [(.int (4 : Int32))])) _
    refine XS.iconst X0.here hx rfl (hb hby de4_15) ?_
    show Steps p.tables e below (s₁.setTop (mkF m 16 #[.val (.int (4 : Int32))] [(.int (2 : Int32)), (.int (4 : Int32))])) _
    refine XS.icmpYes X0.here hx rfl (pc0 := 16) (pc' := 23) rfl (hb hby de4_16) rfl ((feq (by decide)).2) (by decide) (by decide) ?_
    show Steps p.tables e below (s₁.setTop (mkF m 23 #[.val (.int (4 : Int32))] [])) _
    refine XS.iloadN X0.here hx rfl (hb hby de4_23) rfl ?_
    show Steps p.tables e below (s₁.setTop (mkF m 24 #[.val (.int (4 : Int32))] [(.int (4 : Int32))])) _
    refine XS.iconst X0.here hx rfl (hb hby de4_24) ?_
    show Steps p.tables e below (s₁.setTop (mkF m 25 #[.val (.int (4 : Int32))] [(.int (3 : Int32)), (.int (4 : Int32))])) _
    refine XS.icmpYes X0.here hx rfl (pc0 := 25) (pc' := 32) rfl (hb hby de4_25) rfl ((feq (by decide)).2) (by decide) (by decide) ?_
    show Steps p.tables e below (s₁.setTop (mkF m 32 #[.val (.int (4 : Int32))] [])) _
    refine X0.ldc2Long hx hown (mvT hZ (hw _ (List.mem_of_getElem? (i := 12) rfl))) (g := (mkF m 32 #[.val (.int (4 : Int32))] [])) rfl (hb hby de4_32) _ ?_
    exact k)
  obtain ⟨fs, hr, hrun, hended, hW, hsame⟩ := X0.leave (v := some (.long (30000 : Int64))) (fun h => by rw [Bd.returns] at h; cases h)
  refine ⟨_, _, p1 _ ?_, hrun, hended, _, _, rfl, ?_, ⟨_, rfl⟩, hW, hsame.mono (by decide) (by decide)⟩
  · show Steps p.tables e below (s₁.setTop (mkF m 35 #[.val (.int (4 : Int32))] [(.long (30000 : Int64))])) _
    exact retOut X0 hx Bd.returns rfl (Or.inr (Or.inl ⟨rfl, rfl, _, rfl⟩)) (hb hby de4_35) hr
  · show Qe4 Z  h0 n0 _ s₁.heap _
    rw [e0]
    exact ⟨rfl, N0, rfl⟩
theorem dd5_0 : decode prog_25_method_2_code 0 = .ok (.iload_n 0, 1) := by decide +kernel
theorem dd5_1 : decode prog_25_method_2_code 1 = .ok (.iconst 1, 1) := by decide +kernel
theorem dd5_2 : decode prog_25_method_2_code 2 = .ok (.if_icmp .lt 9, 3) := by decide +kernel
theorem dd5_5 : decode prog_25_method_2_code 5 = .ok (.iload_n 0, 1) := by decide +kernel
theorem dd5_6 : decode prog_25_method_2_code 6 = .ok (.bipush 18, 2) := by decide +kernel
theorem dd5_8 : decode prog_25_method_2_code 8 = .ok (.if_icmp .le 17, 3) := by decide +kernel
theorem dd5_25 : decode prog_25_method_2_code 25 = .ok (.getstatic 18, 3) := by decide +kernel
theorem dd5_28 : decode prog_25_method_2_code 28 = .ok (.iload_n 0, 1) := by decide +kernel
theorem dd5_29 : decode prog_25_method_2_code 29 = .ok (.iconst 1, 1) := by decide +kernel
theorem dd5_30 : decode prog_25_method_2_code 30 = .ok (.isub, 1) := by decide +kernel
theorem dd5_31 : decode prog_25_method_2_code 31 = .ok (.laload, 1) := by decide +kernel
theorem dd5_32 : decode prog_25_method_2_code 32 = .ok (.lreturn, 1) := by decide +kernel
theorem pnd5 : plainName "com/example/ordo/ordo/store/DelayLevels" = true := by first | (simp [plainName, overriddenIn]; done) | decide +kernel
theorem efd5 (m : MethodId)  : entryFrame m #[(.int (5 : Int32))] 1 = mkF m 0 #[.val (.int (5 : Int32))] [] := by first | (simp [entryFrame, mkF, argsToLocals, Value.category]; done) | rfl
def Qd5 (Z : State)  (a_D : Addr) (kk : ClassId) (h0 : Heap) (n0 : Nat) (v : Option Value) (h : Heap) (L : List Loc) : Prop := v = some (.long (60000 : Int64)) ∧ Fr n0 L ∧ h = h0
set_option maxRecDepth 65536 in
set_option maxHeartbeats 40000000 in
theorem rmd5 (l : Launch) (Z : State) (a0 : Array Value) (hw : ∀ d ∈ tables_1, d.before a0 Z = true) (ws : List Jvm.Cond)  (a_D : Addr) (kk : ClassId) (h0 : Heap) (n0 : Nat) (Z0 : n0 ≤ h0.size) (S_D : Sta Z h0 "com/example/ordo/ordo/store/DelayLevels" "DELAYS" "[J" (.ref a_D)) (V_D : Arv Z h0 a_D kk .long (18 : Int32) own_ds (.long (0 : Int64))) :
    MetFree l (⟨"com/example/ordo/ordo/store/DelayLevels", "delayMillis", "(I)J"⟩ : MethodName) (head1 (Jvm.Cond.code (⟨"com/example/ordo/ordo/store/DelayLevels", "delayMillis", "(I)J"⟩ : MethodName) prog_25_method_2_code 1 (some .long) :: ws) ({ frames := 0, cells := 0, slots := 0, locals := 0 } : Room)) (fun a U => a = #[(.int (5 : Int32))] ∧ Z.Warmed39 U.vm ∧ U.heap = h0) (fun _ _ _ _ _ => True) (fun _ U o U' => ∃ v L, o = .returned v ∧ Qd5 Z a_D kk h0 n0 v U'.heap L ∧ FrameEnd U o U' L ({ frames := 0, cells := 0, slots := 0, locals := 0 } : Room).cells ({ frames := 0, cells := 0, slots := 0, locals := 0 } : Room).slots) := by
  refine MetFree.of_bodySF (plainFor_of_name pnd5) hisR ?_
  intro p e s m args below meth c s₁ Bd hml0 hP hK
  obtain ⟨rfl, hZ, hh⟩ := hP
  have hx := Bd.exec
  have hby := Bd.bytes
  have hml : c.maxLocals = 1 := hml0
  have hown : s.vm.findClass "com/example/ordo/ordo/store/DelayLevels" = some m.cls := findClass_of_methodNamed Bd.named
  have hnm := (name_of_methodNamed Bd.named Bd.method).1
  have X0 : Stand p l e ({ frames := 0, cells := 0, slots := 0, locals := 0 } : Room) s m #[(.int (5 : Int32))] below meth c s₁ [] 0 0 := Stand.of_body Bd
  have e0 : s₁.heap = h0 := by rw [← hh, Bd.state]; rfl
  have N0 := Fr.nil n0
  have pre0 : ∀ t, Steps p.tables e below (s₁.setTop (mkF m 0 #[.val (.int (5 : Int32))] [])) t → Steps p.tables e below (s₁.setTop (entryFrame m #[(.int (5 : Int32))] 1)) t := fun t k => castTop (efd5 m ) k
  have p1 : ∀ t, Steps p.tables e below (s₁.setTop (mkF m 25 #[.val (.int (5 : Int32))] [])) t → Steps p.tables e below (s₁.setTop (entryFrame m #[(.int (5 : Int32))] 1)) t := fun t k => pre0 t (by
    show Steps p.tables e below (s₁.setTop (mkF m 0 #[.val (.int (5 : Int32))] [])) _
    refine XS.iloadN X0.here hx rfl (hb hby dd5_0) rfl ?_
    show Steps p.tables e below (s₁.setTop (mkF m 1 #[.val (.int (5 : Int32))] [(.int (5 : Int32))])) _
    refine XS.iconst X0.here hx rfl (hb hby dd5_1) ?_
    show Steps p.tables e below (s₁.setTop (mkF m 2 #[.val (.int (5 : Int32))] [(.int (1 : Int32)), (.int (5 : Int32))])) _
    refine XS.icmpNo X0.here hx rfl (hb hby dd5_2) rfl ((flt (by decide)).1) ?_
    show Steps p.tables e below (s₁.setTop (mkF m 5 #[.val (.int (5 : Int32))] [])) _
    refine XS.iloadN X0.here hx rfl (hb hby dd5_5) rfl ?_
    show Steps p.tables e below (s₁.setTop (mkF m 6 #[.val (.int (5 : Int32))] [(.int (5 : Int32))])) _
    refine XS.bipush X0.here hx rfl (hb hby dd5_6) ?_
    show Steps p.tables e below (s₁.setTop (mkF m 8 #[.val (.int (5 : Int32))] [(.int (18 : Int32)), (.int (5 : Int32))])) _
    refine XS.icmpYes X0.here hx rfl (pc0 := 8) (pc' := 25) rfl (hb hby dd5_8) rfl ((flt (by decide)).2.2.2) (by decide) (by decide) ?_
    exact k)
  obtain ⟨T2, X2, e2, st2⟩ := getS2 X0 hx hZ hown (host := "") (Or.inl (hw _ (List.mem_of_getElem? (i := 5) rfl))) Via.refl e0 S_D (g := (mkF m 25 #[.val (.int (5 : Int32))] [])) rfl (hb hby dd5_25)
  have p3 : ∀ t, Steps p.tables e below (T2.setTop (mkF m 28 #[.val (.int (5 : Int32))] [(.ref a_D)])) t → Steps p.tables e below (s₁.setTop (entryFrame m #[(.int (5 : Int32))] 1)) t := fun t k => p1 t (st2 t k)
  have p4 : ∀ t, Steps p.tables e below (T2.setTop (mkF m 31 #[.val (.int (5 : Int32))] [(.int ((5 : Int32) - (1 : Int32))), (.ref a_D)])) t → Steps p.tables e below (s₁.setTop (entryFrame m #[(.int (5 : Int32))] 1)) t := fun t k => p3 t (by
    show Steps p.tables e below (T2.setTop (mkF m 28 #[.val (.int (5 : Int32))] [(.ref a_D)])) _
    refine XS.iloadN X2.here hx rfl (hb hby dd5_28) rfl ?_
    show Steps p.tables e below (T2.setTop (mkF m 29 #[.val (.int (5 : Int32))] [(.int (5 : Int32)), (.ref a_D)])) _
    refine XS.iconst X2.here hx rfl (hb hby dd5_29) ?_
    show Steps p.tables e below (T2.setTop (mkF m 30 #[.val (.int (5 : Int32))] [(.int (1 : Int32)), (.int (5 : Int32)), (.ref a_D)])) _
    refine XS.isub X2.here hx rfl (hb hby dd5_30) rfl ?_
    exact k)
  obtain ⟨cl5, Ar5, q5, Sz5, Ng5, Hs5, G5⟩ := id V_D
  have hin5 : ¬ (((5 : Int32) - (1 : Int32)) < 0 ∨ cl5.slots.size ≤ (((5 : Int32) - (1 : Int32))).toNatClampNeg) := inb_of Sz5 ⟨by decide, by decide⟩
  have hat5 : cl5.slots[(((5 : Int32) - (1 : Int32))).toNatClampNeg]? = some (.long (60000 : Int64)) := Hs5.at hin5 (rfl)
  have p6 : ∀ t, Steps p.tables e below (T2.setTop (mkF m 32 #[.val (.int (5 : Int32))] [(.long (60000 : Int64))])) t → Steps p.tables e below (s₁.setTop (entryFrame m #[(.int (5 : Int32))] 1)) t := fun t k => p4 t (by
    show Steps p.tables e below (T2.setTop (mkF m 31 #[.val (.int (5 : Int32))] [(.int ((5 : Int32) - (1 : Int32))), (.ref a_D)])) _
    refine X2.laload hx (j := ((5 : Int32) - (1 : Int32))) (v := (.long (60000 : Int64))) (by rw [e2]; exact Ar5.1) (State.isArrayOf_alike hZ.alike Ar5.2.1) Ar5.2.2 hin5 hat5 (g := (mkF m 31 #[.val (.int (5 : Int32))] [(.int ((5 : Int32) - (1 : Int32))), (.ref a_D)])) rfl rfl (hb hby dd5_31) _ ?_
    exact k)
  obtain ⟨fs, hr, hrun, hended, hW, hsame⟩ := X2.leave (v := some (.long (60000 : Int64))) (fun h => by rw [Bd.returns] at h; cases h)
  refine ⟨_, _, p6 _ ?_, hrun, hended, _, _, rfl, ?_, ⟨_, rfl⟩, hW, hsame.mono (by decide) (by decide)⟩
  · show Steps p.tables e below (T2.setTop (mkF m 32 #[.val (.int (5 : Int32))] [(.long (60000 : Int64))])) _
    exact retOut X2 hx Bd.returns rfl (Or.inr (Or.inl ⟨rfl, rfl, _, rfl⟩)) (hb hby dd5_32) hr
  · show Qd5 Z a_D kk h0 n0 _ T2.heap _
    rw [e2]
    exact ⟨rfl, N0, rfl⟩
theorem de5_0 : decode method_2_code 0 = .ok (.iload_n 0, 1) := by decide +kernel
theorem de5_1 : decode method_2_code 1 = .ok (.iconst 4, 1) := by decide +kernel
theorem de5_2 : decode method_2_code 2 = .ok (.if_icmp .gt 34, 3) := by decide +kernel
theorem de5_36 : decode method_2_code 36 = .ok (.iload_n 0, 1) := by decide +kernel
theorem de5_37 : decode method_2_code 37 = .ok (.bipush 14, 2) := by decide +kernel
theorem de5_39 : decode method_2_code 39 = .ok (.if_icmp .gt 12, 3) := by decide +kernel
theorem de5_42 : decode method_2_code 42 = .ok (.iload_n 0, 1) := by decide +kernel
theorem de5_43 : decode method_2_code 43 = .ok (.iconst 4, 1) := by decide +kernel
theorem de5_44 : decode method_2_code 44 = .ok (.isub, 1) := by decide +kernel
theorem de5_45 : decode method_2_code 45 = .ok (.i2l, 1) := by decide +kernel
theorem de5_46 : decode method_2_code 46 = .ok (.ldc2_w 15, 3) := by decide +kernel
theorem de5_49 : decode method_2_code 49 = .ok (.lmul, 1) := by decide +kernel
theorem de5_50 : decode method_2_code 50 = .ok (.lreturn, 1) := by decide +kernel
theorem pne5 : plainName "com/example/ordo/ordo/store/DelayLevelsDelayMillisPinLaw" = true := by first | (simp [plainName, overriddenIn]; done) | decide +kernel
theorem efe5 (m : MethodId)  : entryFrame m #[(.int (5 : Int32))] 1 = mkF m 0 #[.val (.int (5 : Int32))] [] := by first | (simp [entryFrame, mkF, argsToLocals, Value.category]; done) | rfl
def Qe5 (Z : State)  (h0 : Heap) (n0 : Nat) (v : Option Value) (h : Heap) (L : List Loc) : Prop := v = some (.long ((((5 : Int32) - (4 : Int32)).toInt64) * (60000 : Int64))) ∧ Fr n0 L ∧ h = h0
set_option maxRecDepth 65536 in
set_option maxHeartbeats 40000000 in
theorem rme5 (l : Launch) (Z : State) (a0 : Array Value) (hw : ∀ d ∈ tables_1, d.before a0 Z = true) (ws : List Jvm.Cond)  (h0 : Heap) (n0 : Nat) (Z0 : n0 ≤ h0.size) :
    MetFree l (⟨"com/example/ordo/ordo/store/DelayLevelsDelayMillisPinLaw", "expected", "(I)J"⟩ : MethodName) (head1 (Jvm.Cond.code (⟨"com/example/ordo/ordo/store/DelayLevelsDelayMillisPinLaw", "expected", "(I)J"⟩ : MethodName) method_2_code 1 (some .long) :: ws) ({ frames := 0, cells := 0, slots := 0, locals := 0 } : Room)) (fun a U => a = #[(.int (5 : Int32))] ∧ Z.Warmed39 U.vm ∧ U.heap = h0) (fun _ _ _ _ _ => True) (fun _ U o U' => ∃ v L, o = .returned v ∧ Qe5 Z  h0 n0 v U'.heap L ∧ FrameEnd U o U' L ({ frames := 0, cells := 0, slots := 0, locals := 0 } : Room).cells ({ frames := 0, cells := 0, slots := 0, locals := 0 } : Room).slots) := by
  refine MetFree.of_bodySF (plainFor_of_name pne5) hisR ?_
  intro p e s m args below meth c s₁ Bd hml0 hP hK
  obtain ⟨rfl, hZ, hh⟩ := hP
  have hx := Bd.exec
  have hby := Bd.bytes
  have hml : c.maxLocals = 1 := hml0
  have hown : s.vm.findClass "com/example/ordo/ordo/store/DelayLevelsDelayMillisPinLaw" = some m.cls := findClass_of_methodNamed Bd.named
  have hnm := (name_of_methodNamed Bd.named Bd.method).1
  have X0 : Stand p l e ({ frames := 0, cells := 0, slots := 0, locals := 0 } : Room) s m #[(.int (5 : Int32))] below meth c s₁ [] 0 0 := Stand.of_body Bd
  have e0 : s₁.heap = h0 := by rw [← hh, Bd.state]; rfl
  have N0 := Fr.nil n0
  have pre0 : ∀ t, Steps p.tables e below (s₁.setTop (mkF m 0 #[.val (.int (5 : Int32))] [])) t → Steps p.tables e below (s₁.setTop (entryFrame m #[(.int (5 : Int32))] 1)) t := fun t k => castTop (efe5 m ) k
  have p1 : ∀ t, Steps p.tables e below (s₁.setTop (mkF m 50 #[.val (.int (5 : Int32))] [(.long ((((5 : Int32) - (4 : Int32)).toInt64) * (60000 : Int64)))])) t → Steps p.tables e below (s₁.setTop (entryFrame m #[(.int (5 : Int32))] 1)) t := fun t k => pre0 t (by
    show Steps p.tables e below (s₁.setTop (mkF m 0 #[.val (.int (5 : Int32))] [])) _
    refine XS.iloadN X0.here hx rfl (hb hby de5_0) rfl ?_
    show Steps p.tables e below (s₁.setTop (mkF m 1 #[.val (.int (5 : Int32))] [(.int (5 : Int32))])) _
    refine XS.iconst X0.here hx rfl (hb hby de5_1) ?_
    show Steps p.tables e below (s₁.setTop (mkF m 2 #[.val (.int (5 : Int32))] [(.int (4 : Int32)), (.int (5 : Int32))])) _
    refine XS.icmpYes X0.here hx rfl (pc0 := 2) (pc' := 36) rfl (hb hby de5_2) rfl ((tlt (by decide)).2.2.1) (by decide) (by decide) ?_
    show Steps p.tables e below (s₁.setTop (mkF m 36 #[.val (.int (5 : Int32))] [])) _
    refine XS.iloadN X0.here hx rfl (hb hby de5_36) rfl ?_
    show Steps p.tables e below (s₁.setTop (mkF m 37 #[.val (.int (5 : Int32))] [(.int (5 : Int32))])) _
    refine XS.bipush X0.here hx rfl (hb hby de5_37) ?_
    show Steps p.tables e below (s₁.setTop (mkF m 39 #[.val (.int (5 : Int32))] [(.int (14 : Int32)), (.int (5 : Int32))])) _
    refine XS.icmpNo X0.here hx rfl (hb hby de5_39) rfl ((flt (by decide)).2.2.1) ?_
    show Steps p.tables e below (s₁.setTop (mkF m 42 #[.val (.int (5 : Int32))] [])) _
    refine XS.iloadN X0.here hx rfl (hb hby de5_42) rfl ?_
    show Steps p.tables e below (s₁.setTop (mkF m 43 #[.val (.int (5 : Int32))] [(.int (5 : Int32))])) _
    refine XS.iconst X0.here hx rfl (hb hby de5_43) ?_
    show Steps p.tables e below (s₁.setTop (mkF m 44 #[.val (.int (5 : Int32))] [(.int (4 : Int32)), (.int (5 : Int32))])) _
    refine XS.isub X0.here hx rfl (hb hby de5_44) rfl ?_
    show Steps p.tables e below (s₁.setTop (mkF m 45 #[.val (.int (5 : Int32))] [(.int ((5 : Int32) - (4 : Int32)))])) _
    refine XS.i2l X0.here hx rfl (hb hby de5_45) rfl ?_
    show Steps p.tables e below (s₁.setTop (mkF m 46 #[.val (.int (5 : Int32))] [(.long (((5 : Int32) - (4 : Int32)).toInt64))])) _
    refine X0.ldc2Long hx hown (mvT hZ (hw _ (List.mem_of_getElem? (i := 15) rfl))) (g := (mkF m 46 #[.val (.int (5 : Int32))] [(.long (((5 : Int32) - (4 : Int32)).toInt64))])) rfl (hb hby de5_46) _ ?_
    show Steps p.tables e below (s₁.setTop (mkF m 49 #[.val (.int (5 : Int32))] [(.long (60000 : Int64)), (.long (((5 : Int32) - (4 : Int32)).toInt64))])) _
    refine XS.lmul X0.here hx rfl (hb hby de5_49) rfl ?_
    exact k)
  obtain ⟨fs, hr, hrun, hended, hW, hsame⟩ := X0.leave (v := some (.long ((((5 : Int32) - (4 : Int32)).toInt64) * (60000 : Int64)))) (fun h => by rw [Bd.returns] at h; cases h)
  refine ⟨_, _, p1 _ ?_, hrun, hended, _, _, rfl, ?_, ⟨_, rfl⟩, hW, hsame.mono (by decide) (by decide)⟩
  · show Steps p.tables e below (s₁.setTop (mkF m 50 #[.val (.int (5 : Int32))] [(.long ((((5 : Int32) - (4 : Int32)).toInt64) * (60000 : Int64)))])) _
    exact retOut X0 hx Bd.returns rfl (Or.inr (Or.inl ⟨rfl, rfl, _, rfl⟩)) (hb hby de5_50) hr
  · show Qe5 Z  h0 n0 _ s₁.heap _
    rw [e0]
    exact ⟨rfl, N0, rfl⟩
theorem dd6_0 : decode prog_25_method_2_code 0 = .ok (.iload_n 0, 1) := by decide +kernel
theorem dd6_1 : decode prog_25_method_2_code 1 = .ok (.iconst 1, 1) := by decide +kernel
theorem dd6_2 : decode prog_25_method_2_code 2 = .ok (.if_icmp .lt 9, 3) := by decide +kernel
theorem dd6_5 : decode prog_25_method_2_code 5 = .ok (.iload_n 0, 1) := by decide +kernel
theorem dd6_6 : decode prog_25_method_2_code 6 = .ok (.bipush 18, 2) := by decide +kernel
theorem dd6_8 : decode prog_25_method_2_code 8 = .ok (.if_icmp .le 17, 3) := by decide +kernel
theorem dd6_25 : decode prog_25_method_2_code 25 = .ok (.getstatic 18, 3) := by decide +kernel
theorem dd6_28 : decode prog_25_method_2_code 28 = .ok (.iload_n 0, 1) := by decide +kernel
theorem dd6_29 : decode prog_25_method_2_code 29 = .ok (.iconst 1, 1) := by decide +kernel
theorem dd6_30 : decode prog_25_method_2_code 30 = .ok (.isub, 1) := by decide +kernel
theorem dd6_31 : decode prog_25_method_2_code 31 = .ok (.laload, 1) := by decide +kernel
theorem dd6_32 : decode prog_25_method_2_code 32 = .ok (.lreturn, 1) := by decide +kernel
theorem pnd6 : plainName "com/example/ordo/ordo/store/DelayLevels" = true := by first | (simp [plainName, overriddenIn]; done) | decide +kernel
theorem efd6 (m : MethodId)  : entryFrame m #[(.int (6 : Int32))] 1 = mkF m 0 #[.val (.int (6 : Int32))] [] := by first | (simp [entryFrame, mkF, argsToLocals, Value.category]; done) | rfl
def Qd6 (Z : State)  (a_D : Addr) (kk : ClassId) (h0 : Heap) (n0 : Nat) (v : Option Value) (h : Heap) (L : List Loc) : Prop := v = some (.long (120000 : Int64)) ∧ Fr n0 L ∧ h = h0
set_option maxRecDepth 65536 in
set_option maxHeartbeats 40000000 in
theorem rmd6 (l : Launch) (Z : State) (a0 : Array Value) (hw : ∀ d ∈ tables_1, d.before a0 Z = true) (ws : List Jvm.Cond)  (a_D : Addr) (kk : ClassId) (h0 : Heap) (n0 : Nat) (Z0 : n0 ≤ h0.size) (S_D : Sta Z h0 "com/example/ordo/ordo/store/DelayLevels" "DELAYS" "[J" (.ref a_D)) (V_D : Arv Z h0 a_D kk .long (18 : Int32) own_ds (.long (0 : Int64))) :
    MetFree l (⟨"com/example/ordo/ordo/store/DelayLevels", "delayMillis", "(I)J"⟩ : MethodName) (head1 (Jvm.Cond.code (⟨"com/example/ordo/ordo/store/DelayLevels", "delayMillis", "(I)J"⟩ : MethodName) prog_25_method_2_code 1 (some .long) :: ws) ({ frames := 0, cells := 0, slots := 0, locals := 0 } : Room)) (fun a U => a = #[(.int (6 : Int32))] ∧ Z.Warmed39 U.vm ∧ U.heap = h0) (fun _ _ _ _ _ => True) (fun _ U o U' => ∃ v L, o = .returned v ∧ Qd6 Z a_D kk h0 n0 v U'.heap L ∧ FrameEnd U o U' L ({ frames := 0, cells := 0, slots := 0, locals := 0 } : Room).cells ({ frames := 0, cells := 0, slots := 0, locals := 0 } : Room).slots) := by
  refine MetFree.of_bodySF (plainFor_of_name pnd6) hisR ?_
  intro p e s m args below meth c s₁ Bd hml0 hP hK
  obtain ⟨rfl, hZ, hh⟩ := hP
  have hx := Bd.exec
  have hby := Bd.bytes
  have hml : c.maxLocals = 1 := hml0
  have hown : s.vm.findClass "com/example/ordo/ordo/store/DelayLevels" = some m.cls := findClass_of_methodNamed Bd.named
  have hnm := (name_of_methodNamed Bd.named Bd.method).1
  have X0 : Stand p l e ({ frames := 0, cells := 0, slots := 0, locals := 0 } : Room) s m #[(.int (6 : Int32))] below meth c s₁ [] 0 0 := Stand.of_body Bd
  have e0 : s₁.heap = h0 := by rw [← hh, Bd.state]; rfl
  have N0 := Fr.nil n0
  have pre0 : ∀ t, Steps p.tables e below (s₁.setTop (mkF m 0 #[.val (.int (6 : Int32))] [])) t → Steps p.tables e below (s₁.setTop (entryFrame m #[(.int (6 : Int32))] 1)) t := fun t k => castTop (efd6 m ) k
  have p1 : ∀ t, Steps p.tables e below (s₁.setTop (mkF m 25 #[.val (.int (6 : Int32))] [])) t → Steps p.tables e below (s₁.setTop (entryFrame m #[(.int (6 : Int32))] 1)) t := fun t k => pre0 t (by
    show Steps p.tables e below (s₁.setTop (mkF m 0 #[.val (.int (6 : Int32))] [])) _
    refine XS.iloadN X0.here hx rfl (hb hby dd6_0) rfl ?_
    show Steps p.tables e below (s₁.setTop (mkF m 1 #[.val (.int (6 : Int32))] [(.int (6 : Int32))])) _
    refine XS.iconst X0.here hx rfl (hb hby dd6_1) ?_
    show Steps p.tables e below (s₁.setTop (mkF m 2 #[.val (.int (6 : Int32))] [(.int (1 : Int32)), (.int (6 : Int32))])) _
    refine XS.icmpNo X0.here hx rfl (hb hby dd6_2) rfl ((flt (by decide)).1) ?_
    show Steps p.tables e below (s₁.setTop (mkF m 5 #[.val (.int (6 : Int32))] [])) _
    refine XS.iloadN X0.here hx rfl (hb hby dd6_5) rfl ?_
    show Steps p.tables e below (s₁.setTop (mkF m 6 #[.val (.int (6 : Int32))] [(.int (6 : Int32))])) _
    refine XS.bipush X0.here hx rfl (hb hby dd6_6) ?_
    show Steps p.tables e below (s₁.setTop (mkF m 8 #[.val (.int (6 : Int32))] [(.int (18 : Int32)), (.int (6 : Int32))])) _
    refine XS.icmpYes X0.here hx rfl (pc0 := 8) (pc' := 25) rfl (hb hby dd6_8) rfl ((flt (by decide)).2.2.2) (by decide) (by decide) ?_
    exact k)
  obtain ⟨T2, X2, e2, st2⟩ := getS2 X0 hx hZ hown (host := "") (Or.inl (hw _ (List.mem_of_getElem? (i := 5) rfl))) Via.refl e0 S_D (g := (mkF m 25 #[.val (.int (6 : Int32))] [])) rfl (hb hby dd6_25)
  have p3 : ∀ t, Steps p.tables e below (T2.setTop (mkF m 28 #[.val (.int (6 : Int32))] [(.ref a_D)])) t → Steps p.tables e below (s₁.setTop (entryFrame m #[(.int (6 : Int32))] 1)) t := fun t k => p1 t (st2 t k)
  have p4 : ∀ t, Steps p.tables e below (T2.setTop (mkF m 31 #[.val (.int (6 : Int32))] [(.int ((6 : Int32) - (1 : Int32))), (.ref a_D)])) t → Steps p.tables e below (s₁.setTop (entryFrame m #[(.int (6 : Int32))] 1)) t := fun t k => p3 t (by
    show Steps p.tables e below (T2.setTop (mkF m 28 #[.val (.int (6 : Int32))] [(.ref a_D)])) _
    refine XS.iloadN X2.here hx rfl (hb hby dd6_28) rfl ?_
    show Steps p.tables e below (T2.setTop (mkF m 29 #[.val (.int (6 : Int32))] [(.int (6 : Int32)), (.ref a_D)])) _
    refine XS.iconst X2.here hx rfl (hb hby dd6_29) ?_
    show Steps p.tables e below (T2.setTop (mkF m 30 #[.val (.int (6 : Int32))] [(.int (1 : Int32)), (.int (6 : Int32)), (.ref a_D)])) _
    refine XS.isub X2.here hx rfl (hb hby dd6_30) rfl ?_
    exact k)
  obtain ⟨cl5, Ar5, q5, Sz5, Ng5, Hs5, G5⟩ := id V_D
  have hin5 : ¬ (((6 : Int32) - (1 : Int32)) < 0 ∨ cl5.slots.size ≤ (((6 : Int32) - (1 : Int32))).toNatClampNeg) := inb_of Sz5 ⟨by decide, by decide⟩
  have hat5 : cl5.slots[(((6 : Int32) - (1 : Int32))).toNatClampNeg]? = some (.long (120000 : Int64)) := Hs5.at hin5 (rfl)
  have p6 : ∀ t, Steps p.tables e below (T2.setTop (mkF m 32 #[.val (.int (6 : Int32))] [(.long (120000 : Int64))])) t → Steps p.tables e below (s₁.setTop (entryFrame m #[(.int (6 : Int32))] 1)) t := fun t k => p4 t (by
    show Steps p.tables e below (T2.setTop (mkF m 31 #[.val (.int (6 : Int32))] [(.int ((6 : Int32) - (1 : Int32))), (.ref a_D)])) _
    refine X2.laload hx (j := ((6 : Int32) - (1 : Int32))) (v := (.long (120000 : Int64))) (by rw [e2]; exact Ar5.1) (State.isArrayOf_alike hZ.alike Ar5.2.1) Ar5.2.2 hin5 hat5 (g := (mkF m 31 #[.val (.int (6 : Int32))] [(.int ((6 : Int32) - (1 : Int32))), (.ref a_D)])) rfl rfl (hb hby dd6_31) _ ?_
    exact k)
  obtain ⟨fs, hr, hrun, hended, hW, hsame⟩ := X2.leave (v := some (.long (120000 : Int64))) (fun h => by rw [Bd.returns] at h; cases h)
  refine ⟨_, _, p6 _ ?_, hrun, hended, _, _, rfl, ?_, ⟨_, rfl⟩, hW, hsame.mono (by decide) (by decide)⟩
  · show Steps p.tables e below (T2.setTop (mkF m 32 #[.val (.int (6 : Int32))] [(.long (120000 : Int64))])) _
    exact retOut X2 hx Bd.returns rfl (Or.inr (Or.inl ⟨rfl, rfl, _, rfl⟩)) (hb hby dd6_32) hr
  · show Qd6 Z a_D kk h0 n0 _ T2.heap _
    rw [e2]
    exact ⟨rfl, N0, rfl⟩
theorem de6_0 : decode method_2_code 0 = .ok (.iload_n 0, 1) := by decide +kernel
theorem de6_1 : decode method_2_code 1 = .ok (.iconst 4, 1) := by decide +kernel
theorem de6_2 : decode method_2_code 2 = .ok (.if_icmp .gt 34, 3) := by decide +kernel
theorem de6_36 : decode method_2_code 36 = .ok (.iload_n 0, 1) := by decide +kernel
theorem de6_37 : decode method_2_code 37 = .ok (.bipush 14, 2) := by decide +kernel
theorem de6_39 : decode method_2_code 39 = .ok (.if_icmp .gt 12, 3) := by decide +kernel
theorem de6_42 : decode method_2_code 42 = .ok (.iload_n 0, 1) := by decide +kernel
theorem de6_43 : decode method_2_code 43 = .ok (.iconst 4, 1) := by decide +kernel
theorem de6_44 : decode method_2_code 44 = .ok (.isub, 1) := by decide +kernel
theorem de6_45 : decode method_2_code 45 = .ok (.i2l, 1) := by decide +kernel
theorem de6_46 : decode method_2_code 46 = .ok (.ldc2_w 15, 3) := by decide +kernel
theorem de6_49 : decode method_2_code 49 = .ok (.lmul, 1) := by decide +kernel
theorem de6_50 : decode method_2_code 50 = .ok (.lreturn, 1) := by decide +kernel
theorem pne6 : plainName "com/example/ordo/ordo/store/DelayLevelsDelayMillisPinLaw" = true := by first | (simp [plainName, overriddenIn]; done) | decide +kernel
theorem efe6 (m : MethodId)  : entryFrame m #[(.int (6 : Int32))] 1 = mkF m 0 #[.val (.int (6 : Int32))] [] := by first | (simp [entryFrame, mkF, argsToLocals, Value.category]; done) | rfl
def Qe6 (Z : State)  (h0 : Heap) (n0 : Nat) (v : Option Value) (h : Heap) (L : List Loc) : Prop := v = some (.long ((((6 : Int32) - (4 : Int32)).toInt64) * (60000 : Int64))) ∧ Fr n0 L ∧ h = h0
set_option maxRecDepth 65536 in
set_option maxHeartbeats 40000000 in
theorem rme6 (l : Launch) (Z : State) (a0 : Array Value) (hw : ∀ d ∈ tables_1, d.before a0 Z = true) (ws : List Jvm.Cond)  (h0 : Heap) (n0 : Nat) (Z0 : n0 ≤ h0.size) :
    MetFree l (⟨"com/example/ordo/ordo/store/DelayLevelsDelayMillisPinLaw", "expected", "(I)J"⟩ : MethodName) (head1 (Jvm.Cond.code (⟨"com/example/ordo/ordo/store/DelayLevelsDelayMillisPinLaw", "expected", "(I)J"⟩ : MethodName) method_2_code 1 (some .long) :: ws) ({ frames := 0, cells := 0, slots := 0, locals := 0 } : Room)) (fun a U => a = #[(.int (6 : Int32))] ∧ Z.Warmed39 U.vm ∧ U.heap = h0) (fun _ _ _ _ _ => True) (fun _ U o U' => ∃ v L, o = .returned v ∧ Qe6 Z  h0 n0 v U'.heap L ∧ FrameEnd U o U' L ({ frames := 0, cells := 0, slots := 0, locals := 0 } : Room).cells ({ frames := 0, cells := 0, slots := 0, locals := 0 } : Room).slots) := by
  refine MetFree.of_bodySF (plainFor_of_name pne6) hisR ?_
  intro p e s m args below meth c s₁ Bd hml0 hP hK
  obtain ⟨rfl, hZ, hh⟩ := hP
  have hx := Bd.exec
  have hby := Bd.bytes
  have hml : c.maxLocals = 1 := hml0
  have hown : s.vm.findClass "com/example/ordo/ordo/store/DelayLevelsDelayMillisPinLaw" = some m.cls := findClass_of_methodNamed Bd.named
  have hnm := (name_of_methodNamed Bd.named Bd.method).1
  have X0 : Stand p l e ({ frames := 0, cells := 0, slots := 0, locals := 0 } : Room) s m #[(.int (6 : Int32))] below meth c s₁ [] 0 0 := Stand.of_body Bd
  have e0 : s₁.heap = h0 := by rw [← hh, Bd.state]; rfl
  have N0 := Fr.nil n0
  have pre0 : ∀ t, Steps p.tables e below (s₁.setTop (mkF m 0 #[.val (.int (6 : Int32))] [])) t → Steps p.tables e below (s₁.setTop (entryFrame m #[(.int (6 : Int32))] 1)) t := fun t k => castTop (efe6 m ) k
  have p1 : ∀ t, Steps p.tables e below (s₁.setTop (mkF m 50 #[.val (.int (6 : Int32))] [(.long ((((6 : Int32) - (4 : Int32)).toInt64) * (60000 : Int64)))])) t → Steps p.tables e below (s₁.setTop (entryFrame m #[(.int (6 : Int32))] 1)) t := fun t k => pre0 t (by
    show Steps p.tables e below (s₁.setTop (mkF m 0 #[.val (.int (6 : Int32))] [])) _
    refine XS.iloadN X0.here hx rfl (hb hby de6_0) rfl ?_
    show Steps p.tables e below (s₁.setTop (mkF m 1 #[.val (.int (6 : Int32))] [(.int (6 : Int32))])) _
    refine XS.iconst X0.here hx rfl (hb hby de6_1) ?_
    show Steps p.tables e below (s₁.setTop (mkF m 2 #[.val (.int (6 : Int32))] [(.int (4 : Int32)), (.int (6 : Int32))])) _
    refine XS.icmpYes X0.here hx rfl (pc0 := 2) (pc' := 36) rfl (hb hby de6_2) rfl ((tlt (by decide)).2.2.1) (by decide) (by decide) ?_
    show Steps p.tables e below (s₁.setTop (mkF m 36 #[.val (.int (6 : Int32))] [])) _
    refine XS.iloadN X0.here hx rfl (hb hby de6_36) rfl ?_
    show Steps p.tables e below (s₁.setTop (mkF m 37 #[.val (.int (6 : Int32))] [(.int (6 : Int32))])) _
    refine XS.bipush X0.here hx rfl (hb hby de6_37) ?_
    show Steps p.tables e below (s₁.setTop (mkF m 39 #[.val (.int (6 : Int32))] [(.int (14 : Int32)), (.int (6 : Int32))])) _
    refine XS.icmpNo X0.here hx rfl (hb hby de6_39) rfl ((flt (by decide)).2.2.1) ?_
    show Steps p.tables e below (s₁.setTop (mkF m 42 #[.val (.int (6 : Int32))] [])) _
    refine XS.iloadN X0.here hx rfl (hb hby de6_42) rfl ?_
    show Steps p.tables e below (s₁.setTop (mkF m 43 #[.val (.int (6 : Int32))] [(.int (6 : Int32))])) _
    refine XS.iconst X0.here hx rfl (hb hby de6_43) ?_
    show Steps p.tables e below (s₁.setTop (mkF m 44 #[.val (.int (6 : Int32))] [(.int (4 : Int32)), (.int (6 : Int32))])) _
    refine XS.isub X0.here hx rfl (hb hby de6_44) rfl ?_
    show Steps p.tables e below (s₁.setTop (mkF m 45 #[.val (.int (6 : Int32))] [(.int ((6 : Int32) - (4 : Int32)))])) _
    refine XS.i2l X0.here hx rfl (hb hby de6_45) rfl ?_
    show Steps p.tables e below (s₁.setTop (mkF m 46 #[.val (.int (6 : Int32))] [(.long (((6 : Int32) - (4 : Int32)).toInt64))])) _
    refine X0.ldc2Long hx hown (mvT hZ (hw _ (List.mem_of_getElem? (i := 15) rfl))) (g := (mkF m 46 #[.val (.int (6 : Int32))] [(.long (((6 : Int32) - (4 : Int32)).toInt64))])) rfl (hb hby de6_46) _ ?_
    show Steps p.tables e below (s₁.setTop (mkF m 49 #[.val (.int (6 : Int32))] [(.long (60000 : Int64)), (.long (((6 : Int32) - (4 : Int32)).toInt64))])) _
    refine XS.lmul X0.here hx rfl (hb hby de6_49) rfl ?_
    exact k)
  obtain ⟨fs, hr, hrun, hended, hW, hsame⟩ := X0.leave (v := some (.long ((((6 : Int32) - (4 : Int32)).toInt64) * (60000 : Int64)))) (fun h => by rw [Bd.returns] at h; cases h)
  refine ⟨_, _, p1 _ ?_, hrun, hended, _, _, rfl, ?_, ⟨_, rfl⟩, hW, hsame.mono (by decide) (by decide)⟩
  · show Steps p.tables e below (s₁.setTop (mkF m 50 #[.val (.int (6 : Int32))] [(.long ((((6 : Int32) - (4 : Int32)).toInt64) * (60000 : Int64)))])) _
    exact retOut X0 hx Bd.returns rfl (Or.inr (Or.inl ⟨rfl, rfl, _, rfl⟩)) (hb hby de6_50) hr
  · show Qe6 Z  h0 n0 _ s₁.heap _
    rw [e0]
    exact ⟨rfl, N0, rfl⟩
theorem dd7_0 : decode prog_25_method_2_code 0 = .ok (.iload_n 0, 1) := by decide +kernel
theorem dd7_1 : decode prog_25_method_2_code 1 = .ok (.iconst 1, 1) := by decide +kernel
theorem dd7_2 : decode prog_25_method_2_code 2 = .ok (.if_icmp .lt 9, 3) := by decide +kernel
theorem dd7_5 : decode prog_25_method_2_code 5 = .ok (.iload_n 0, 1) := by decide +kernel
theorem dd7_6 : decode prog_25_method_2_code 6 = .ok (.bipush 18, 2) := by decide +kernel
theorem dd7_8 : decode prog_25_method_2_code 8 = .ok (.if_icmp .le 17, 3) := by decide +kernel
theorem dd7_25 : decode prog_25_method_2_code 25 = .ok (.getstatic 18, 3) := by decide +kernel
theorem dd7_28 : decode prog_25_method_2_code 28 = .ok (.iload_n 0, 1) := by decide +kernel
theorem dd7_29 : decode prog_25_method_2_code 29 = .ok (.iconst 1, 1) := by decide +kernel
theorem dd7_30 : decode prog_25_method_2_code 30 = .ok (.isub, 1) := by decide +kernel
theorem dd7_31 : decode prog_25_method_2_code 31 = .ok (.laload, 1) := by decide +kernel
theorem dd7_32 : decode prog_25_method_2_code 32 = .ok (.lreturn, 1) := by decide +kernel
theorem pnd7 : plainName "com/example/ordo/ordo/store/DelayLevels" = true := by first | (simp [plainName, overriddenIn]; done) | decide +kernel
theorem efd7 (m : MethodId)  : entryFrame m #[(.int (7 : Int32))] 1 = mkF m 0 #[.val (.int (7 : Int32))] [] := by first | (simp [entryFrame, mkF, argsToLocals, Value.category]; done) | rfl
def Qd7 (Z : State)  (a_D : Addr) (kk : ClassId) (h0 : Heap) (n0 : Nat) (v : Option Value) (h : Heap) (L : List Loc) : Prop := v = some (.long (180000 : Int64)) ∧ Fr n0 L ∧ h = h0
set_option maxRecDepth 65536 in
set_option maxHeartbeats 40000000 in
theorem rmd7 (l : Launch) (Z : State) (a0 : Array Value) (hw : ∀ d ∈ tables_1, d.before a0 Z = true) (ws : List Jvm.Cond)  (a_D : Addr) (kk : ClassId) (h0 : Heap) (n0 : Nat) (Z0 : n0 ≤ h0.size) (S_D : Sta Z h0 "com/example/ordo/ordo/store/DelayLevels" "DELAYS" "[J" (.ref a_D)) (V_D : Arv Z h0 a_D kk .long (18 : Int32) own_ds (.long (0 : Int64))) :
    MetFree l (⟨"com/example/ordo/ordo/store/DelayLevels", "delayMillis", "(I)J"⟩ : MethodName) (head1 (Jvm.Cond.code (⟨"com/example/ordo/ordo/store/DelayLevels", "delayMillis", "(I)J"⟩ : MethodName) prog_25_method_2_code 1 (some .long) :: ws) ({ frames := 0, cells := 0, slots := 0, locals := 0 } : Room)) (fun a U => a = #[(.int (7 : Int32))] ∧ Z.Warmed39 U.vm ∧ U.heap = h0) (fun _ _ _ _ _ => True) (fun _ U o U' => ∃ v L, o = .returned v ∧ Qd7 Z a_D kk h0 n0 v U'.heap L ∧ FrameEnd U o U' L ({ frames := 0, cells := 0, slots := 0, locals := 0 } : Room).cells ({ frames := 0, cells := 0, slots := 0, locals := 0 } : Room).slots) := by
  refine MetFree.of_bodySF (plainFor_of_name pnd7) hisR ?_
  intro p e s m args below meth c s₁ Bd hml0 hP hK
  obtain ⟨rfl, hZ, hh⟩ := hP
  have hx := Bd.exec
  have hby := Bd.bytes
  have hml : c.maxLocals = 1 := hml0
  have hown : s.vm.findClass "com/example/ordo/ordo/store/DelayLevels" = some m.cls := findClass_of_methodNamed Bd.named
  have hnm := (name_of_methodNamed Bd.named Bd.method).1
  have X0 : Stand p l e ({ frames := 0, cells := 0, slots := 0, locals := 0 } : Room) s m #[(.int (7 : Int32))] below meth c s₁ [] 0 0 := Stand.of_body Bd
  have e0 : s₁.heap = h0 := by rw [← hh, Bd.state]; rfl
  have N0 := Fr.nil n0
  have pre0 : ∀ t, Steps p.tables e below (s₁.setTop (mkF m 0 #[.val (.int (7 : Int32))] [])) t → Steps p.tables e below (s₁.setTop (entryFrame m #[(.int (7 : Int32))] 1)) t := fun t k => castTop (efd7 m ) k
  have p1 : ∀ t, Steps p.tables e below (s₁.setTop (mkF m 25 #[.val (.int (7 : Int32))] [])) t → Steps p.tables e below (s₁.setTop (entryFrame m #[(.int (7 : Int32))] 1)) t := fun t k => pre0 t (by
    show Steps p.tables e below (s₁.setTop (mkF m 0 #[.val (.int (7 : Int32))] [])) _
    refine XS.iloadN X0.here hx rfl (hb hby dd7_0) rfl ?_
    show Steps p.tables e below (s₁.setTop (mkF m 1 #[.val (.int (7 : Int32))] [(.int (7 : Int32))])) _
    refine XS.iconst X0.here hx rfl (hb hby dd7_1) ?_
    show Steps p.tables e below (s₁.setTop (mkF m 2 #[.val (.int (7 : Int32))] [(.int (1 : Int32)), (.int (7 : Int32))])) _
    refine XS.icmpNo X0.here hx rfl (hb hby dd7_2) rfl ((flt (by decide)).1) ?_
    show Steps p.tables e below (s₁.setTop (mkF m 5 #[.val (.int (7 : Int32))] [])) _
    refine XS.iloadN X0.here hx rfl (hb hby dd7_5) rfl ?_
    show Steps p.tables e below (s₁.setTop (mkF m 6 #[.val (.int (7 : Int32))] [(.int (7 : Int32))])) _
    refine XS.bipush X0.here hx rfl (hb hby dd7_6) ?_
    show Steps p.tables e below (s₁.setTop (mkF m 8 #[.val (.int (7 : Int32))] [(.int (18 : Int32)), (.int (7 : Int32))])) _
    refine XS.icmpYes X0.here hx rfl (pc0 := 8) (pc' := 25) rfl (hb hby dd7_8) rfl ((flt (by decide)).2.2.2) (by decide) (by decide) ?_
    exact k)
  obtain ⟨T2, X2, e2, st2⟩ := getS2 X0 hx hZ hown (host := "") (Or.inl (hw _ (List.mem_of_getElem? (i := 5) rfl))) Via.refl e0 S_D (g := (mkF m 25 #[.val (.int (7 : Int32))] [])) rfl (hb hby dd7_25)
  have p3 : ∀ t, Steps p.tables e below (T2.setTop (mkF m 28 #[.val (.int (7 : Int32))] [(.ref a_D)])) t → Steps p.tables e below (s₁.setTop (entryFrame m #[(.int (7 : Int32))] 1)) t := fun t k => p1 t (st2 t k)
  have p4 : ∀ t, Steps p.tables e below (T2.setTop (mkF m 31 #[.val (.int (7 : Int32))] [(.int ((7 : Int32) - (1 : Int32))), (.ref a_D)])) t → Steps p.tables e below (s₁.setTop (entryFrame m #[(.int (7 : Int32))] 1)) t := fun t k => p3 t (by
    show Steps p.tables e below (T2.setTop (mkF m 28 #[.val (.int (7 : Int32))] [(.ref a_D)])) _
    refine XS.iloadN X2.here hx rfl (hb hby dd7_28) rfl ?_
    show Steps p.tables e below (T2.setTop (mkF m 29 #[.val (.int (7 : Int32))] [(.int (7 : Int32)), (.ref a_D)])) _
    refine XS.iconst X2.here hx rfl (hb hby dd7_29) ?_
    show Steps p.tables e below (T2.setTop (mkF m 30 #[.val (.int (7 : Int32))] [(.int (1 : Int32)), (.int (7 : Int32)), (.ref a_D)])) _
    refine XS.isub X2.here hx rfl (hb hby dd7_30) rfl ?_
    exact k)
  obtain ⟨cl5, Ar5, q5, Sz5, Ng5, Hs5, G5⟩ := id V_D
  have hin5 : ¬ (((7 : Int32) - (1 : Int32)) < 0 ∨ cl5.slots.size ≤ (((7 : Int32) - (1 : Int32))).toNatClampNeg) := inb_of Sz5 ⟨by decide, by decide⟩
  have hat5 : cl5.slots[(((7 : Int32) - (1 : Int32))).toNatClampNeg]? = some (.long (180000 : Int64)) := Hs5.at hin5 (rfl)
  have p6 : ∀ t, Steps p.tables e below (T2.setTop (mkF m 32 #[.val (.int (7 : Int32))] [(.long (180000 : Int64))])) t → Steps p.tables e below (s₁.setTop (entryFrame m #[(.int (7 : Int32))] 1)) t := fun t k => p4 t (by
    show Steps p.tables e below (T2.setTop (mkF m 31 #[.val (.int (7 : Int32))] [(.int ((7 : Int32) - (1 : Int32))), (.ref a_D)])) _
    refine X2.laload hx (j := ((7 : Int32) - (1 : Int32))) (v := (.long (180000 : Int64))) (by rw [e2]; exact Ar5.1) (State.isArrayOf_alike hZ.alike Ar5.2.1) Ar5.2.2 hin5 hat5 (g := (mkF m 31 #[.val (.int (7 : Int32))] [(.int ((7 : Int32) - (1 : Int32))), (.ref a_D)])) rfl rfl (hb hby dd7_31) _ ?_
    exact k)
  obtain ⟨fs, hr, hrun, hended, hW, hsame⟩ := X2.leave (v := some (.long (180000 : Int64))) (fun h => by rw [Bd.returns] at h; cases h)
  refine ⟨_, _, p6 _ ?_, hrun, hended, _, _, rfl, ?_, ⟨_, rfl⟩, hW, hsame.mono (by decide) (by decide)⟩
  · show Steps p.tables e below (T2.setTop (mkF m 32 #[.val (.int (7 : Int32))] [(.long (180000 : Int64))])) _
    exact retOut X2 hx Bd.returns rfl (Or.inr (Or.inl ⟨rfl, rfl, _, rfl⟩)) (hb hby dd7_32) hr
  · show Qd7 Z a_D kk h0 n0 _ T2.heap _
    rw [e2]
    exact ⟨rfl, N0, rfl⟩
theorem de7_0 : decode method_2_code 0 = .ok (.iload_n 0, 1) := by decide +kernel
theorem de7_1 : decode method_2_code 1 = .ok (.iconst 4, 1) := by decide +kernel
theorem de7_2 : decode method_2_code 2 = .ok (.if_icmp .gt 34, 3) := by decide +kernel
theorem de7_36 : decode method_2_code 36 = .ok (.iload_n 0, 1) := by decide +kernel
theorem de7_37 : decode method_2_code 37 = .ok (.bipush 14, 2) := by decide +kernel
theorem de7_39 : decode method_2_code 39 = .ok (.if_icmp .gt 12, 3) := by decide +kernel
theorem de7_42 : decode method_2_code 42 = .ok (.iload_n 0, 1) := by decide +kernel
theorem de7_43 : decode method_2_code 43 = .ok (.iconst 4, 1) := by decide +kernel
theorem de7_44 : decode method_2_code 44 = .ok (.isub, 1) := by decide +kernel
theorem de7_45 : decode method_2_code 45 = .ok (.i2l, 1) := by decide +kernel
theorem de7_46 : decode method_2_code 46 = .ok (.ldc2_w 15, 3) := by decide +kernel
theorem de7_49 : decode method_2_code 49 = .ok (.lmul, 1) := by decide +kernel
theorem de7_50 : decode method_2_code 50 = .ok (.lreturn, 1) := by decide +kernel
theorem pne7 : plainName "com/example/ordo/ordo/store/DelayLevelsDelayMillisPinLaw" = true := by first | (simp [plainName, overriddenIn]; done) | decide +kernel
theorem efe7 (m : MethodId)  : entryFrame m #[(.int (7 : Int32))] 1 = mkF m 0 #[.val (.int (7 : Int32))] [] := by first | (simp [entryFrame, mkF, argsToLocals, Value.category]; done) | rfl
def Qe7 (Z : State)  (h0 : Heap) (n0 : Nat) (v : Option Value) (h : Heap) (L : List Loc) : Prop := v = some (.long ((((7 : Int32) - (4 : Int32)).toInt64) * (60000 : Int64))) ∧ Fr n0 L ∧ h = h0
set_option maxRecDepth 65536 in
set_option maxHeartbeats 40000000 in
theorem rme7 (l : Launch) (Z : State) (a0 : Array Value) (hw : ∀ d ∈ tables_1, d.before a0 Z = true) (ws : List Jvm.Cond)  (h0 : Heap) (n0 : Nat) (Z0 : n0 ≤ h0.size) :
    MetFree l (⟨"com/example/ordo/ordo/store/DelayLevelsDelayMillisPinLaw", "expected", "(I)J"⟩ : MethodName) (head1 (Jvm.Cond.code (⟨"com/example/ordo/ordo/store/DelayLevelsDelayMillisPinLaw", "expected", "(I)J"⟩ : MethodName) method_2_code 1 (some .long) :: ws) ({ frames := 0, cells := 0, slots := 0, locals := 0 } : Room)) (fun a U => a = #[(.int (7 : Int32))] ∧ Z.Warmed39 U.vm ∧ U.heap = h0) (fun _ _ _ _ _ => True) (fun _ U o U' => ∃ v L, o = .returned v ∧ Qe7 Z  h0 n0 v U'.heap L ∧ FrameEnd U o U' L ({ frames := 0, cells := 0, slots := 0, locals := 0 } : Room).cells ({ frames := 0, cells := 0, slots := 0, locals := 0 } : Room).slots) := by
  refine MetFree.of_bodySF (plainFor_of_name pne7) hisR ?_
  intro p e s m args below meth c s₁ Bd hml0 hP hK
  obtain ⟨rfl, hZ, hh⟩ := hP
  have hx := Bd.exec
  have hby := Bd.bytes
  have hml : c.maxLocals = 1 := hml0
  have hown : s.vm.findClass "com/example/ordo/ordo/store/DelayLevelsDelayMillisPinLaw" = some m.cls := findClass_of_methodNamed Bd.named
  have hnm := (name_of_methodNamed Bd.named Bd.method).1
  have X0 : Stand p l e ({ frames := 0, cells := 0, slots := 0, locals := 0 } : Room) s m #[(.int (7 : Int32))] below meth c s₁ [] 0 0 := Stand.of_body Bd
  have e0 : s₁.heap = h0 := by rw [← hh, Bd.state]; rfl
  have N0 := Fr.nil n0
  have pre0 : ∀ t, Steps p.tables e below (s₁.setTop (mkF m 0 #[.val (.int (7 : Int32))] [])) t → Steps p.tables e below (s₁.setTop (entryFrame m #[(.int (7 : Int32))] 1)) t := fun t k => castTop (efe7 m ) k
  have p1 : ∀ t, Steps p.tables e below (s₁.setTop (mkF m 50 #[.val (.int (7 : Int32))] [(.long ((((7 : Int32) - (4 : Int32)).toInt64) * (60000 : Int64)))])) t → Steps p.tables e below (s₁.setTop (entryFrame m #[(.int (7 : Int32))] 1)) t := fun t k => pre0 t (by
    show Steps p.tables e below (s₁.setTop (mkF m 0 #[.val (.int (7 : Int32))] [])) _
    refine XS.iloadN X0.here hx rfl (hb hby de7_0) rfl ?_
    show Steps p.tables e below (s₁.setTop (mkF m 1 #[.val (.int (7 : Int32))] [(.int (7 : Int32))])) _
    refine XS.iconst X0.here hx rfl (hb hby de7_1) ?_
    show Steps p.tables e below (s₁.setTop (mkF m 2 #[.val (.int (7 : Int32))] [(.int (4 : Int32)), (.int (7 : Int32))])) _
    refine XS.icmpYes X0.here hx rfl (pc0 := 2) (pc' := 36) rfl (hb hby de7_2) rfl ((tlt (by decide)).2.2.1) (by decide) (by decide) ?_
    show Steps p.tables e below (s₁.setTop (mkF m 36 #[.val (.int (7 : Int32))] [])) _
    refine XS.iloadN X0.here hx rfl (hb hby de7_36) rfl ?_
    show Steps p.tables e below (s₁.setTop (mkF m 37 #[.val (.int (7 : Int32))] [(.int (7 : Int32))])) _
    refine XS.bipush X0.here hx rfl (hb hby de7_37) ?_
    show Steps p.tables e below (s₁.setTop (mkF m 39 #[.val (.int (7 : Int32))] [(.int (14 : Int32)), (.int (7 : Int32))])) _
    refine XS.icmpNo X0.here hx rfl (hb hby de7_39) rfl ((flt (by decide)).2.2.1) ?_
    show Steps p.tables e below (s₁.setTop (mkF m 42 #[.val (.int (7 : Int32))] [])) _
    refine XS.iloadN X0.here hx rfl (hb hby de7_42) rfl ?_
    show Steps p.tables e below (s₁.setTop (mkF m 43 #[.val (.int (7 : Int32))] [(.int (7 : Int32))])) _
    refine XS.iconst X0.here hx rfl (hb hby de7_43) ?_
    show Steps p.tables e below (s₁.setTop (mkF m 44 #[.val (.int (7 : Int32))] [(.int (4 : Int32)), (.int (7 : Int32))])) _
    refine XS.isub X0.here hx rfl (hb hby de7_44) rfl ?_
    show Steps p.tables e below (s₁.setTop (mkF m 45 #[.val (.int (7 : Int32))] [(.int ((7 : Int32) - (4 : Int32)))])) _
    refine XS.i2l X0.here hx rfl (hb hby de7_45) rfl ?_
    show Steps p.tables e below (s₁.setTop (mkF m 46 #[.val (.int (7 : Int32))] [(.long (((7 : Int32) - (4 : Int32)).toInt64))])) _
    refine X0.ldc2Long hx hown (mvT hZ (hw _ (List.mem_of_getElem? (i := 15) rfl))) (g := (mkF m 46 #[.val (.int (7 : Int32))] [(.long (((7 : Int32) - (4 : Int32)).toInt64))])) rfl (hb hby de7_46) _ ?_
    show Steps p.tables e below (s₁.setTop (mkF m 49 #[.val (.int (7 : Int32))] [(.long (60000 : Int64)), (.long (((7 : Int32) - (4 : Int32)).toInt64))])) _
    refine XS.lmul X0.here hx rfl (hb hby de7_49) rfl ?_
    exact k)
  obtain ⟨fs, hr, hrun, hended, hW, hsame⟩ := X0.leave (v := some (.long ((((7 : Int32) - (4 : Int32)).toInt64) * (60000 : Int64)))) (fun h => by rw [Bd.returns] at h; cases h)
  refine ⟨_, _, p1 _ ?_, hrun, hended, _, _, rfl, ?_, ⟨_, rfl⟩, hW, hsame.mono (by decide) (by decide)⟩
  · show Steps p.tables e below (s₁.setTop (mkF m 50 #[.val (.int (7 : Int32))] [(.long ((((7 : Int32) - (4 : Int32)).toInt64) * (60000 : Int64)))])) _
    exact retOut X0 hx Bd.returns rfl (Or.inr (Or.inl ⟨rfl, rfl, _, rfl⟩)) (hb hby de7_50) hr
  · show Qe7 Z  h0 n0 _ s₁.heap _
    rw [e0]
    exact ⟨rfl, N0, rfl⟩
theorem dd8_0 : decode prog_25_method_2_code 0 = .ok (.iload_n 0, 1) := by decide +kernel
theorem dd8_1 : decode prog_25_method_2_code 1 = .ok (.iconst 1, 1) := by decide +kernel
theorem dd8_2 : decode prog_25_method_2_code 2 = .ok (.if_icmp .lt 9, 3) := by decide +kernel
theorem dd8_5 : decode prog_25_method_2_code 5 = .ok (.iload_n 0, 1) := by decide +kernel
theorem dd8_6 : decode prog_25_method_2_code 6 = .ok (.bipush 18, 2) := by decide +kernel
theorem dd8_8 : decode prog_25_method_2_code 8 = .ok (.if_icmp .le 17, 3) := by decide +kernel
theorem dd8_25 : decode prog_25_method_2_code 25 = .ok (.getstatic 18, 3) := by decide +kernel
theorem dd8_28 : decode prog_25_method_2_code 28 = .ok (.iload_n 0, 1) := by decide +kernel
theorem dd8_29 : decode prog_25_method_2_code 29 = .ok (.iconst 1, 1) := by decide +kernel
theorem dd8_30 : decode prog_25_method_2_code 30 = .ok (.isub, 1) := by decide +kernel
theorem dd8_31 : decode prog_25_method_2_code 31 = .ok (.laload, 1) := by decide +kernel
theorem dd8_32 : decode prog_25_method_2_code 32 = .ok (.lreturn, 1) := by decide +kernel
theorem pnd8 : plainName "com/example/ordo/ordo/store/DelayLevels" = true := by first | (simp [plainName, overriddenIn]; done) | decide +kernel
theorem efd8 (m : MethodId)  : entryFrame m #[(.int (8 : Int32))] 1 = mkF m 0 #[.val (.int (8 : Int32))] [] := by first | (simp [entryFrame, mkF, argsToLocals, Value.category]; done) | rfl
def Qd8 (Z : State)  (a_D : Addr) (kk : ClassId) (h0 : Heap) (n0 : Nat) (v : Option Value) (h : Heap) (L : List Loc) : Prop := v = some (.long (240000 : Int64)) ∧ Fr n0 L ∧ h = h0
set_option maxRecDepth 65536 in
set_option maxHeartbeats 40000000 in
theorem rmd8 (l : Launch) (Z : State) (a0 : Array Value) (hw : ∀ d ∈ tables_1, d.before a0 Z = true) (ws : List Jvm.Cond)  (a_D : Addr) (kk : ClassId) (h0 : Heap) (n0 : Nat) (Z0 : n0 ≤ h0.size) (S_D : Sta Z h0 "com/example/ordo/ordo/store/DelayLevels" "DELAYS" "[J" (.ref a_D)) (V_D : Arv Z h0 a_D kk .long (18 : Int32) own_ds (.long (0 : Int64))) :
    MetFree l (⟨"com/example/ordo/ordo/store/DelayLevels", "delayMillis", "(I)J"⟩ : MethodName) (head1 (Jvm.Cond.code (⟨"com/example/ordo/ordo/store/DelayLevels", "delayMillis", "(I)J"⟩ : MethodName) prog_25_method_2_code 1 (some .long) :: ws) ({ frames := 0, cells := 0, slots := 0, locals := 0 } : Room)) (fun a U => a = #[(.int (8 : Int32))] ∧ Z.Warmed39 U.vm ∧ U.heap = h0) (fun _ _ _ _ _ => True) (fun _ U o U' => ∃ v L, o = .returned v ∧ Qd8 Z a_D kk h0 n0 v U'.heap L ∧ FrameEnd U o U' L ({ frames := 0, cells := 0, slots := 0, locals := 0 } : Room).cells ({ frames := 0, cells := 0, slots := 0, locals := 0 } : Room).slots) := by
  refine MetFree.of_bodySF (plainFor_of_name pnd8) hisR ?_
  intro p e s m args below meth c s₁ Bd hml0 hP hK
  obtain ⟨rfl, hZ, hh⟩ := hP
  have hx := Bd.exec
  have hby := Bd.bytes
  have hml : c.maxLocals = 1 := hml0
  have hown : s.vm.findClass "com/example/ordo/ordo/store/DelayLevels" = some m.cls := findClass_of_methodNamed Bd.named
  have hnm := (name_of_methodNamed Bd.named Bd.method).1
  have X0 : Stand p l e ({ frames := 0, cells := 0, slots := 0, locals := 0 } : Room) s m #[(.int (8 : Int32))] below meth c s₁ [] 0 0 := Stand.of_body Bd
  have e0 : s₁.heap = h0 := by rw [← hh, Bd.state]; rfl
  have N0 := Fr.nil n0
  have pre0 : ∀ t, Steps p.tables e below (s₁.setTop (mkF m 0 #[.val (.int (8 : Int32))] [])) t → Steps p.tables e below (s₁.setTop (entryFrame m #[(.int (8 : Int32))] 1)) t := fun t k => castTop (efd8 m ) k
  have p1 : ∀ t, Steps p.tables e below (s₁.setTop (mkF m 25 #[.val (.int (8 : Int32))] [])) t → Steps p.tables e below (s₁.setTop (entryFrame m #[(.int (8 : Int32))] 1)) t := fun t k => pre0 t (by
    show Steps p.tables e below (s₁.setTop (mkF m 0 #[.val (.int (8 : Int32))] [])) _
    refine XS.iloadN X0.here hx rfl (hb hby dd8_0) rfl ?_
    show Steps p.tables e below (s₁.setTop (mkF m 1 #[.val (.int (8 : Int32))] [(.int (8 : Int32))])) _
    refine XS.iconst X0.here hx rfl (hb hby dd8_1) ?_
    show Steps p.tables e below (s₁.setTop (mkF m 2 #[.val (.int (8 : Int32))] [(.int (1 : Int32)), (.int (8 : Int32))])) _
    refine XS.icmpNo X0.here hx rfl (hb hby dd8_2) rfl ((flt (by decide)).1) ?_
    show Steps p.tables e below (s₁.setTop (mkF m 5 #[.val (.int (8 : Int32))] [])) _
    refine XS.iloadN X0.here hx rfl (hb hby dd8_5) rfl ?_
    show Steps p.tables e below (s₁.setTop (mkF m 6 #[.val (.int (8 : Int32))] [(.int (8 : Int32))])) _
    refine XS.bipush X0.here hx rfl (hb hby dd8_6) ?_
    show Steps p.tables e below (s₁.setTop (mkF m 8 #[.val (.int (8 : Int32))] [(.int (18 : Int32)), (.int (8 : Int32))])) _
    refine XS.icmpYes X0.here hx rfl (pc0 := 8) (pc' := 25) rfl (hb hby dd8_8) rfl ((flt (by decide)).2.2.2) (by decide) (by decide) ?_
    exact k)
  obtain ⟨T2, X2, e2, st2⟩ := getS2 X0 hx hZ hown (host := "") (Or.inl (hw _ (List.mem_of_getElem? (i := 5) rfl))) Via.refl e0 S_D (g := (mkF m 25 #[.val (.int (8 : Int32))] [])) rfl (hb hby dd8_25)
  have p3 : ∀ t, Steps p.tables e below (T2.setTop (mkF m 28 #[.val (.int (8 : Int32))] [(.ref a_D)])) t → Steps p.tables e below (s₁.setTop (entryFrame m #[(.int (8 : Int32))] 1)) t := fun t k => p1 t (st2 t k)
  have p4 : ∀ t, Steps p.tables e below (T2.setTop (mkF m 31 #[.val (.int (8 : Int32))] [(.int ((8 : Int32) - (1 : Int32))), (.ref a_D)])) t → Steps p.tables e below (s₁.setTop (entryFrame m #[(.int (8 : Int32))] 1)) t := fun t k => p3 t (by
    show Steps p.tables e below (T2.setTop (mkF m 28 #[.val (.int (8 : Int32))] [(.ref a_D)])) _
    refine XS.iloadN X2.here hx rfl (hb hby dd8_28) rfl ?_
    show Steps p.tables e below (T2.setTop (mkF m 29 #[.val (.int (8 : Int32))] [(.int (8 : Int32)), (.ref a_D)])) _
    refine XS.iconst X2.here hx rfl (hb hby dd8_29) ?_
    show Steps p.tables e below (T2.setTop (mkF m 30 #[.val (.int (8 : Int32))] [(.int (1 : Int32)), (.int (8 : Int32)), (.ref a_D)])) _
    refine XS.isub X2.here hx rfl (hb hby dd8_30) rfl ?_
    exact k)
  obtain ⟨cl5, Ar5, q5, Sz5, Ng5, Hs5, G5⟩ := id V_D
  have hin5 : ¬ (((8 : Int32) - (1 : Int32)) < 0 ∨ cl5.slots.size ≤ (((8 : Int32) - (1 : Int32))).toNatClampNeg) := inb_of Sz5 ⟨by decide, by decide⟩
  have hat5 : cl5.slots[(((8 : Int32) - (1 : Int32))).toNatClampNeg]? = some (.long (240000 : Int64)) := Hs5.at hin5 (rfl)
  have p6 : ∀ t, Steps p.tables e below (T2.setTop (mkF m 32 #[.val (.int (8 : Int32))] [(.long (240000 : Int64))])) t → Steps p.tables e below (s₁.setTop (entryFrame m #[(.int (8 : Int32))] 1)) t := fun t k => p4 t (by
    show Steps p.tables e below (T2.setTop (mkF m 31 #[.val (.int (8 : Int32))] [(.int ((8 : Int32) - (1 : Int32))), (.ref a_D)])) _
    refine X2.laload hx (j := ((8 : Int32) - (1 : Int32))) (v := (.long (240000 : Int64))) (by rw [e2]; exact Ar5.1) (State.isArrayOf_alike hZ.alike Ar5.2.1) Ar5.2.2 hin5 hat5 (g := (mkF m 31 #[.val (.int (8 : Int32))] [(.int ((8 : Int32) - (1 : Int32))), (.ref a_D)])) rfl rfl (hb hby dd8_31) _ ?_
    exact k)
  obtain ⟨fs, hr, hrun, hended, hW, hsame⟩ := X2.leave (v := some (.long (240000 : Int64))) (fun h => by rw [Bd.returns] at h; cases h)
  refine ⟨_, _, p6 _ ?_, hrun, hended, _, _, rfl, ?_, ⟨_, rfl⟩, hW, hsame.mono (by decide) (by decide)⟩
  · show Steps p.tables e below (T2.setTop (mkF m 32 #[.val (.int (8 : Int32))] [(.long (240000 : Int64))])) _
    exact retOut X2 hx Bd.returns rfl (Or.inr (Or.inl ⟨rfl, rfl, _, rfl⟩)) (hb hby dd8_32) hr
  · show Qd8 Z a_D kk h0 n0 _ T2.heap _
    rw [e2]
    exact ⟨rfl, N0, rfl⟩
theorem de8_0 : decode method_2_code 0 = .ok (.iload_n 0, 1) := by decide +kernel
theorem de8_1 : decode method_2_code 1 = .ok (.iconst 4, 1) := by decide +kernel
theorem de8_2 : decode method_2_code 2 = .ok (.if_icmp .gt 34, 3) := by decide +kernel
theorem de8_36 : decode method_2_code 36 = .ok (.iload_n 0, 1) := by decide +kernel
theorem de8_37 : decode method_2_code 37 = .ok (.bipush 14, 2) := by decide +kernel
theorem de8_39 : decode method_2_code 39 = .ok (.if_icmp .gt 12, 3) := by decide +kernel
theorem de8_42 : decode method_2_code 42 = .ok (.iload_n 0, 1) := by decide +kernel
theorem de8_43 : decode method_2_code 43 = .ok (.iconst 4, 1) := by decide +kernel
theorem de8_44 : decode method_2_code 44 = .ok (.isub, 1) := by decide +kernel
theorem de8_45 : decode method_2_code 45 = .ok (.i2l, 1) := by decide +kernel
theorem de8_46 : decode method_2_code 46 = .ok (.ldc2_w 15, 3) := by decide +kernel
theorem de8_49 : decode method_2_code 49 = .ok (.lmul, 1) := by decide +kernel
theorem de8_50 : decode method_2_code 50 = .ok (.lreturn, 1) := by decide +kernel
theorem pne8 : plainName "com/example/ordo/ordo/store/DelayLevelsDelayMillisPinLaw" = true := by first | (simp [plainName, overriddenIn]; done) | decide +kernel
theorem efe8 (m : MethodId)  : entryFrame m #[(.int (8 : Int32))] 1 = mkF m 0 #[.val (.int (8 : Int32))] [] := by first | (simp [entryFrame, mkF, argsToLocals, Value.category]; done) | rfl
def Qe8 (Z : State)  (h0 : Heap) (n0 : Nat) (v : Option Value) (h : Heap) (L : List Loc) : Prop := v = some (.long ((((8 : Int32) - (4 : Int32)).toInt64) * (60000 : Int64))) ∧ Fr n0 L ∧ h = h0
set_option maxRecDepth 65536 in
set_option maxHeartbeats 40000000 in
theorem rme8 (l : Launch) (Z : State) (a0 : Array Value) (hw : ∀ d ∈ tables_1, d.before a0 Z = true) (ws : List Jvm.Cond)  (h0 : Heap) (n0 : Nat) (Z0 : n0 ≤ h0.size) :
    MetFree l (⟨"com/example/ordo/ordo/store/DelayLevelsDelayMillisPinLaw", "expected", "(I)J"⟩ : MethodName) (head1 (Jvm.Cond.code (⟨"com/example/ordo/ordo/store/DelayLevelsDelayMillisPinLaw", "expected", "(I)J"⟩ : MethodName) method_2_code 1 (some .long) :: ws) ({ frames := 0, cells := 0, slots := 0, locals := 0 } : Room)) (fun a U => a = #[(.int (8 : Int32))] ∧ Z.Warmed39 U.vm ∧ U.heap = h0) (fun _ _ _ _ _ => True) (fun _ U o U' => ∃ v L, o = .returned v ∧ Qe8 Z  h0 n0 v U'.heap L ∧ FrameEnd U o U' L ({ frames := 0, cells := 0, slots := 0, locals := 0 } : Room).cells ({ frames := 0, cells := 0, slots := 0, locals := 0 } : Room).slots) := by
  refine MetFree.of_bodySF (plainFor_of_name pne8) hisR ?_
  intro p e s m args below meth c s₁ Bd hml0 hP hK
  obtain ⟨rfl, hZ, hh⟩ := hP
  have hx := Bd.exec
  have hby := Bd.bytes
  have hml : c.maxLocals = 1 := hml0
  have hown : s.vm.findClass "com/example/ordo/ordo/store/DelayLevelsDelayMillisPinLaw" = some m.cls := findClass_of_methodNamed Bd.named
  have hnm := (name_of_methodNamed Bd.named Bd.method).1
  have X0 : Stand p l e ({ frames := 0, cells := 0, slots := 0, locals := 0 } : Room) s m #[(.int (8 : Int32))] below meth c s₁ [] 0 0 := Stand.of_body Bd
  have e0 : s₁.heap = h0 := by rw [← hh, Bd.state]; rfl
  have N0 := Fr.nil n0
  have pre0 : ∀ t, Steps p.tables e below (s₁.setTop (mkF m 0 #[.val (.int (8 : Int32))] [])) t → Steps p.tables e below (s₁.setTop (entryFrame m #[(.int (8 : Int32))] 1)) t := fun t k => castTop (efe8 m ) k
  have p1 : ∀ t, Steps p.tables e below (s₁.setTop (mkF m 50 #[.val (.int (8 : Int32))] [(.long ((((8 : Int32) - (4 : Int32)).toInt64) * (60000 : Int64)))])) t → Steps p.tables e below (s₁.setTop (entryFrame m #[(.int (8 : Int32))] 1)) t := fun t k => pre0 t (by
    show Steps p.tables e below (s₁.setTop (mkF m 0 #[.val (.int (8 : Int32))] [])) _
    refine XS.iloadN X0.here hx rfl (hb hby de8_0) rfl ?_
    show Steps p.tables e below (s₁.setTop (mkF m 1 #[.val (.int (8 : Int32))] [(.int (8 : Int32))])) _
    refine XS.iconst X0.here hx rfl (hb hby de8_1) ?_
    show Steps p.tables e below (s₁.setTop (mkF m 2 #[.val (.int (8 : Int32))] [(.int (4 : Int32)), (.int (8 : Int32))])) _
    refine XS.icmpYes X0.here hx rfl (pc0 := 2) (pc' := 36) rfl (hb hby de8_2) rfl ((tlt (by decide)).2.2.1) (by decide) (by decide) ?_
    show Steps p.tables e below (s₁.setTop (mkF m 36 #[.val (.int (8 : Int32))] [])) _
    refine XS.iloadN X0.here hx rfl (hb hby de8_36) rfl ?_
    show Steps p.tables e below (s₁.setTop (mkF m 37 #[.val (.int (8 : Int32))] [(.int (8 : Int32))])) _
    refine XS.bipush X0.here hx rfl (hb hby de8_37) ?_
    show Steps p.tables e below (s₁.setTop (mkF m 39 #[.val (.int (8 : Int32))] [(.int (14 : Int32)), (.int (8 : Int32))])) _
    refine XS.icmpNo X0.here hx rfl (hb hby de8_39) rfl ((flt (by decide)).2.2.1) ?_
    show Steps p.tables e below (s₁.setTop (mkF m 42 #[.val (.int (8 : Int32))] [])) _
    refine XS.iloadN X0.here hx rfl (hb hby de8_42) rfl ?_
    show Steps p.tables e below (s₁.setTop (mkF m 43 #[.val (.int (8 : Int32))] [(.int (8 : Int32))])) _
    refine XS.iconst X0.here hx rfl (hb hby de8_43) ?_
    show Steps p.tables e below (s₁.setTop (mkF m 44 #[.val (.int (8 : Int32))] [(.int (4 : Int32)), (.int (8 : Int32))])) _
    refine XS.isub X0.here hx rfl (hb hby de8_44) rfl ?_
    show Steps p.tables e below (s₁.setTop (mkF m 45 #[.val (.int (8 : Int32))] [(.int ((8 : Int32) - (4 : Int32)))])) _
    refine XS.i2l X0.here hx rfl (hb hby de8_45) rfl ?_
    show Steps p.tables e below (s₁.setTop (mkF m 46 #[.val (.int (8 : Int32))] [(.long (((8 : Int32) - (4 : Int32)).toInt64))])) _
    refine X0.ldc2Long hx hown (mvT hZ (hw _ (List.mem_of_getElem? (i := 15) rfl))) (g := (mkF m 46 #[.val (.int (8 : Int32))] [(.long (((8 : Int32) - (4 : Int32)).toInt64))])) rfl (hb hby de8_46) _ ?_
    show Steps p.tables e below (s₁.setTop (mkF m 49 #[.val (.int (8 : Int32))] [(.long (60000 : Int64)), (.long (((8 : Int32) - (4 : Int32)).toInt64))])) _
    refine XS.lmul X0.here hx rfl (hb hby de8_49) rfl ?_
    exact k)
  obtain ⟨fs, hr, hrun, hended, hW, hsame⟩ := X0.leave (v := some (.long ((((8 : Int32) - (4 : Int32)).toInt64) * (60000 : Int64)))) (fun h => by rw [Bd.returns] at h; cases h)
  refine ⟨_, _, p1 _ ?_, hrun, hended, _, _, rfl, ?_, ⟨_, rfl⟩, hW, hsame.mono (by decide) (by decide)⟩
  · show Steps p.tables e below (s₁.setTop (mkF m 50 #[.val (.int (8 : Int32))] [(.long ((((8 : Int32) - (4 : Int32)).toInt64) * (60000 : Int64)))])) _
    exact retOut X0 hx Bd.returns rfl (Or.inr (Or.inl ⟨rfl, rfl, _, rfl⟩)) (hb hby de8_50) hr
  · show Qe8 Z  h0 n0 _ s₁.heap _
    rw [e0]
    exact ⟨rfl, N0, rfl⟩
theorem dd9_0 : decode prog_25_method_2_code 0 = .ok (.iload_n 0, 1) := by decide +kernel
theorem dd9_1 : decode prog_25_method_2_code 1 = .ok (.iconst 1, 1) := by decide +kernel
theorem dd9_2 : decode prog_25_method_2_code 2 = .ok (.if_icmp .lt 9, 3) := by decide +kernel
theorem dd9_5 : decode prog_25_method_2_code 5 = .ok (.iload_n 0, 1) := by decide +kernel
theorem dd9_6 : decode prog_25_method_2_code 6 = .ok (.bipush 18, 2) := by decide +kernel
theorem dd9_8 : decode prog_25_method_2_code 8 = .ok (.if_icmp .le 17, 3) := by decide +kernel
theorem dd9_25 : decode prog_25_method_2_code 25 = .ok (.getstatic 18, 3) := by decide +kernel
theorem dd9_28 : decode prog_25_method_2_code 28 = .ok (.iload_n 0, 1) := by decide +kernel
theorem dd9_29 : decode prog_25_method_2_code 29 = .ok (.iconst 1, 1) := by decide +kernel
theorem dd9_30 : decode prog_25_method_2_code 30 = .ok (.isub, 1) := by decide +kernel
theorem dd9_31 : decode prog_25_method_2_code 31 = .ok (.laload, 1) := by decide +kernel
theorem dd9_32 : decode prog_25_method_2_code 32 = .ok (.lreturn, 1) := by decide +kernel
theorem pnd9 : plainName "com/example/ordo/ordo/store/DelayLevels" = true := by first | (simp [plainName, overriddenIn]; done) | decide +kernel
theorem efd9 (m : MethodId)  : entryFrame m #[(.int (9 : Int32))] 1 = mkF m 0 #[.val (.int (9 : Int32))] [] := by first | (simp [entryFrame, mkF, argsToLocals, Value.category]; done) | rfl
def Qd9 (Z : State)  (a_D : Addr) (kk : ClassId) (h0 : Heap) (n0 : Nat) (v : Option Value) (h : Heap) (L : List Loc) : Prop := v = some (.long (300000 : Int64)) ∧ Fr n0 L ∧ h = h0
set_option maxRecDepth 65536 in
set_option maxHeartbeats 40000000 in
theorem rmd9 (l : Launch) (Z : State) (a0 : Array Value) (hw : ∀ d ∈ tables_1, d.before a0 Z = true) (ws : List Jvm.Cond)  (a_D : Addr) (kk : ClassId) (h0 : Heap) (n0 : Nat) (Z0 : n0 ≤ h0.size) (S_D : Sta Z h0 "com/example/ordo/ordo/store/DelayLevels" "DELAYS" "[J" (.ref a_D)) (V_D : Arv Z h0 a_D kk .long (18 : Int32) own_ds (.long (0 : Int64))) :
    MetFree l (⟨"com/example/ordo/ordo/store/DelayLevels", "delayMillis", "(I)J"⟩ : MethodName) (head1 (Jvm.Cond.code (⟨"com/example/ordo/ordo/store/DelayLevels", "delayMillis", "(I)J"⟩ : MethodName) prog_25_method_2_code 1 (some .long) :: ws) ({ frames := 0, cells := 0, slots := 0, locals := 0 } : Room)) (fun a U => a = #[(.int (9 : Int32))] ∧ Z.Warmed39 U.vm ∧ U.heap = h0) (fun _ _ _ _ _ => True) (fun _ U o U' => ∃ v L, o = .returned v ∧ Qd9 Z a_D kk h0 n0 v U'.heap L ∧ FrameEnd U o U' L ({ frames := 0, cells := 0, slots := 0, locals := 0 } : Room).cells ({ frames := 0, cells := 0, slots := 0, locals := 0 } : Room).slots) := by
  refine MetFree.of_bodySF (plainFor_of_name pnd9) hisR ?_
  intro p e s m args below meth c s₁ Bd hml0 hP hK
  obtain ⟨rfl, hZ, hh⟩ := hP
  have hx := Bd.exec
  have hby := Bd.bytes
  have hml : c.maxLocals = 1 := hml0
  have hown : s.vm.findClass "com/example/ordo/ordo/store/DelayLevels" = some m.cls := findClass_of_methodNamed Bd.named
  have hnm := (name_of_methodNamed Bd.named Bd.method).1
  have X0 : Stand p l e ({ frames := 0, cells := 0, slots := 0, locals := 0 } : Room) s m #[(.int (9 : Int32))] below meth c s₁ [] 0 0 := Stand.of_body Bd
  have e0 : s₁.heap = h0 := by rw [← hh, Bd.state]; rfl
  have N0 := Fr.nil n0
  have pre0 : ∀ t, Steps p.tables e below (s₁.setTop (mkF m 0 #[.val (.int (9 : Int32))] [])) t → Steps p.tables e below (s₁.setTop (entryFrame m #[(.int (9 : Int32))] 1)) t := fun t k => castTop (efd9 m ) k
  have p1 : ∀ t, Steps p.tables e below (s₁.setTop (mkF m 25 #[.val (.int (9 : Int32))] [])) t → Steps p.tables e below (s₁.setTop (entryFrame m #[(.int (9 : Int32))] 1)) t := fun t k => pre0 t (by
    show Steps p.tables e below (s₁.setTop (mkF m 0 #[.val (.int (9 : Int32))] [])) _
    refine XS.iloadN X0.here hx rfl (hb hby dd9_0) rfl ?_
    show Steps p.tables e below (s₁.setTop (mkF m 1 #[.val (.int (9 : Int32))] [(.int (9 : Int32))])) _
    refine XS.iconst X0.here hx rfl (hb hby dd9_1) ?_
    show Steps p.tables e below (s₁.setTop (mkF m 2 #[.val (.int (9 : Int32))] [(.int (1 : Int32)), (.int (9 : Int32))])) _
    refine XS.icmpNo X0.here hx rfl (hb hby dd9_2) rfl ((flt (by decide)).1) ?_
    show Steps p.tables e below (s₁.setTop (mkF m 5 #[.val (.int (9 : Int32))] [])) _
    refine XS.iloadN X0.here hx rfl (hb hby dd9_5) rfl ?_
    show Steps p.tables e below (s₁.setTop (mkF m 6 #[.val (.int (9 : Int32))] [(.int (9 : Int32))])) _
    refine XS.bipush X0.here hx rfl (hb hby dd9_6) ?_
    show Steps p.tables e below (s₁.setTop (mkF m 8 #[.val (.int (9 : Int32))] [(.int (18 : Int32)), (.int (9 : Int32))])) _
    refine XS.icmpYes X0.here hx rfl (pc0 := 8) (pc' := 25) rfl (hb hby dd9_8) rfl ((flt (by decide)).2.2.2) (by decide) (by decide) ?_
    exact k)
  obtain ⟨T2, X2, e2, st2⟩ := getS2 X0 hx hZ hown (host := "") (Or.inl (hw _ (List.mem_of_getElem? (i := 5) rfl))) Via.refl e0 S_D (g := (mkF m 25 #[.val (.int (9 : Int32))] [])) rfl (hb hby dd9_25)
  have p3 : ∀ t, Steps p.tables e below (T2.setTop (mkF m 28 #[.val (.int (9 : Int32))] [(.ref a_D)])) t → Steps p.tables e below (s₁.setTop (entryFrame m #[(.int (9 : Int32))] 1)) t := fun t k => p1 t (st2 t k)
  have p4 : ∀ t, Steps p.tables e below (T2.setTop (mkF m 31 #[.val (.int (9 : Int32))] [(.int ((9 : Int32) - (1 : Int32))), (.ref a_D)])) t → Steps p.tables e below (s₁.setTop (entryFrame m #[(.int (9 : Int32))] 1)) t := fun t k => p3 t (by
    show Steps p.tables e below (T2.setTop (mkF m 28 #[.val (.int (9 : Int32))] [(.ref a_D)])) _
    refine XS.iloadN X2.here hx rfl (hb hby dd9_28) rfl ?_
    show Steps p.tables e below (T2.setTop (mkF m 29 #[.val (.int (9 : Int32))] [(.int (9 : Int32)), (.ref a_D)])) _
    refine XS.iconst X2.here hx rfl (hb hby dd9_29) ?_
    show Steps p.tables e below (T2.setTop (mkF m 30 #[.val (.int (9 : Int32))] [(.int (1 : Int32)), (.int (9 : Int32)), (.ref a_D)])) _
    refine XS.isub X2.here hx rfl (hb hby dd9_30) rfl ?_
    exact k)
  obtain ⟨cl5, Ar5, q5, Sz5, Ng5, Hs5, G5⟩ := id V_D
  have hin5 : ¬ (((9 : Int32) - (1 : Int32)) < 0 ∨ cl5.slots.size ≤ (((9 : Int32) - (1 : Int32))).toNatClampNeg) := inb_of Sz5 ⟨by decide, by decide⟩
  have hat5 : cl5.slots[(((9 : Int32) - (1 : Int32))).toNatClampNeg]? = some (.long (300000 : Int64)) := Hs5.at hin5 (rfl)
  have p6 : ∀ t, Steps p.tables e below (T2.setTop (mkF m 32 #[.val (.int (9 : Int32))] [(.long (300000 : Int64))])) t → Steps p.tables e below (s₁.setTop (entryFrame m #[(.int (9 : Int32))] 1)) t := fun t k => p4 t (by
    show Steps p.tables e below (T2.setTop (mkF m 31 #[.val (.int (9 : Int32))] [(.int ((9 : Int32) - (1 : Int32))), (.ref a_D)])) _
    refine X2.laload hx (j := ((9 : Int32) - (1 : Int32))) (v := (.long (300000 : Int64))) (by rw [e2]; exact Ar5.1) (State.isArrayOf_alike hZ.alike Ar5.2.1) Ar5.2.2 hin5 hat5 (g := (mkF m 31 #[.val (.int (9 : Int32))] [(.int ((9 : Int32) - (1 : Int32))), (.ref a_D)])) rfl rfl (hb hby dd9_31) _ ?_
    exact k)
  obtain ⟨fs, hr, hrun, hended, hW, hsame⟩ := X2.leave (v := some (.long (300000 : Int64))) (fun h => by rw [Bd.returns] at h; cases h)
  refine ⟨_, _, p6 _ ?_, hrun, hended, _, _, rfl, ?_, ⟨_, rfl⟩, hW, hsame.mono (by decide) (by decide)⟩
  · show Steps p.tables e below (T2.setTop (mkF m 32 #[.val (.int (9 : Int32))] [(.long (300000 : Int64))])) _
    exact retOut X2 hx Bd.returns rfl (Or.inr (Or.inl ⟨rfl, rfl, _, rfl⟩)) (hb hby dd9_32) hr
  · show Qd9 Z a_D kk h0 n0 _ T2.heap _
    rw [e2]
    exact ⟨rfl, N0, rfl⟩
theorem de9_0 : decode method_2_code 0 = .ok (.iload_n 0, 1) := by decide +kernel
theorem de9_1 : decode method_2_code 1 = .ok (.iconst 4, 1) := by decide +kernel
theorem de9_2 : decode method_2_code 2 = .ok (.if_icmp .gt 34, 3) := by decide +kernel
theorem de9_36 : decode method_2_code 36 = .ok (.iload_n 0, 1) := by decide +kernel
theorem de9_37 : decode method_2_code 37 = .ok (.bipush 14, 2) := by decide +kernel
theorem de9_39 : decode method_2_code 39 = .ok (.if_icmp .gt 12, 3) := by decide +kernel
theorem de9_42 : decode method_2_code 42 = .ok (.iload_n 0, 1) := by decide +kernel
theorem de9_43 : decode method_2_code 43 = .ok (.iconst 4, 1) := by decide +kernel
theorem de9_44 : decode method_2_code 44 = .ok (.isub, 1) := by decide +kernel
theorem de9_45 : decode method_2_code 45 = .ok (.i2l, 1) := by decide +kernel
theorem de9_46 : decode method_2_code 46 = .ok (.ldc2_w 15, 3) := by decide +kernel
theorem de9_49 : decode method_2_code 49 = .ok (.lmul, 1) := by decide +kernel
theorem de9_50 : decode method_2_code 50 = .ok (.lreturn, 1) := by decide +kernel
theorem pne9 : plainName "com/example/ordo/ordo/store/DelayLevelsDelayMillisPinLaw" = true := by first | (simp [plainName, overriddenIn]; done) | decide +kernel
theorem efe9 (m : MethodId)  : entryFrame m #[(.int (9 : Int32))] 1 = mkF m 0 #[.val (.int (9 : Int32))] [] := by first | (simp [entryFrame, mkF, argsToLocals, Value.category]; done) | rfl
def Qe9 (Z : State)  (h0 : Heap) (n0 : Nat) (v : Option Value) (h : Heap) (L : List Loc) : Prop := v = some (.long ((((9 : Int32) - (4 : Int32)).toInt64) * (60000 : Int64))) ∧ Fr n0 L ∧ h = h0
set_option maxRecDepth 65536 in
set_option maxHeartbeats 40000000 in
theorem rme9 (l : Launch) (Z : State) (a0 : Array Value) (hw : ∀ d ∈ tables_1, d.before a0 Z = true) (ws : List Jvm.Cond)  (h0 : Heap) (n0 : Nat) (Z0 : n0 ≤ h0.size) :
    MetFree l (⟨"com/example/ordo/ordo/store/DelayLevelsDelayMillisPinLaw", "expected", "(I)J"⟩ : MethodName) (head1 (Jvm.Cond.code (⟨"com/example/ordo/ordo/store/DelayLevelsDelayMillisPinLaw", "expected", "(I)J"⟩ : MethodName) method_2_code 1 (some .long) :: ws) ({ frames := 0, cells := 0, slots := 0, locals := 0 } : Room)) (fun a U => a = #[(.int (9 : Int32))] ∧ Z.Warmed39 U.vm ∧ U.heap = h0) (fun _ _ _ _ _ => True) (fun _ U o U' => ∃ v L, o = .returned v ∧ Qe9 Z  h0 n0 v U'.heap L ∧ FrameEnd U o U' L ({ frames := 0, cells := 0, slots := 0, locals := 0 } : Room).cells ({ frames := 0, cells := 0, slots := 0, locals := 0 } : Room).slots) := by
  refine MetFree.of_bodySF (plainFor_of_name pne9) hisR ?_
  intro p e s m args below meth c s₁ Bd hml0 hP hK
  obtain ⟨rfl, hZ, hh⟩ := hP
  have hx := Bd.exec
  have hby := Bd.bytes
  have hml : c.maxLocals = 1 := hml0
  have hown : s.vm.findClass "com/example/ordo/ordo/store/DelayLevelsDelayMillisPinLaw" = some m.cls := findClass_of_methodNamed Bd.named
  have hnm := (name_of_methodNamed Bd.named Bd.method).1
  have X0 : Stand p l e ({ frames := 0, cells := 0, slots := 0, locals := 0 } : Room) s m #[(.int (9 : Int32))] below meth c s₁ [] 0 0 := Stand.of_body Bd
  have e0 : s₁.heap = h0 := by rw [← hh, Bd.state]; rfl
  have N0 := Fr.nil n0
  have pre0 : ∀ t, Steps p.tables e below (s₁.setTop (mkF m 0 #[.val (.int (9 : Int32))] [])) t → Steps p.tables e below (s₁.setTop (entryFrame m #[(.int (9 : Int32))] 1)) t := fun t k => castTop (efe9 m ) k
  have p1 : ∀ t, Steps p.tables e below (s₁.setTop (mkF m 50 #[.val (.int (9 : Int32))] [(.long ((((9 : Int32) - (4 : Int32)).toInt64) * (60000 : Int64)))])) t → Steps p.tables e below (s₁.setTop (entryFrame m #[(.int (9 : Int32))] 1)) t := fun t k => pre0 t (by
    show Steps p.tables e below (s₁.setTop (mkF m 0 #[.val (.int (9 : Int32))] [])) _
    refine XS.iloadN X0.here hx rfl (hb hby de9_0) rfl ?_
    show Steps p.tables e below (s₁.setTop (mkF m 1 #[.val (.int (9 : Int32))] [(.int (9 : Int32))])) _
    refine XS.iconst X0.here hx rfl (hb hby de9_1) ?_
    show Steps p.tables e below (s₁.setTop (mkF m 2 #[.val (.int (9 : Int32))] [(.int (4 : Int32)), (.int (9 : Int32))])) _
    refine XS.icmpYes X0.here hx rfl (pc0 := 2) (pc' := 36) rfl (hb hby de9_2) rfl ((tlt (by decide)).2.2.1) (by decide) (by decide) ?_
    show Steps p.tables e below (s₁.setTop (mkF m 36 #[.val (.int (9 : Int32))] [])) _
    refine XS.iloadN X0.here hx rfl (hb hby de9_36) rfl ?_
    show Steps p.tables e below (s₁.setTop (mkF m 37 #[.val (.int (9 : Int32))] [(.int (9 : Int32))])) _
    refine XS.bipush X0.here hx rfl (hb hby de9_37) ?_
    show Steps p.tables e below (s₁.setTop (mkF m 39 #[.val (.int (9 : Int32))] [(.int (14 : Int32)), (.int (9 : Int32))])) _
    refine XS.icmpNo X0.here hx rfl (hb hby de9_39) rfl ((flt (by decide)).2.2.1) ?_
    show Steps p.tables e below (s₁.setTop (mkF m 42 #[.val (.int (9 : Int32))] [])) _
    refine XS.iloadN X0.here hx rfl (hb hby de9_42) rfl ?_
    show Steps p.tables e below (s₁.setTop (mkF m 43 #[.val (.int (9 : Int32))] [(.int (9 : Int32))])) _
    refine XS.iconst X0.here hx rfl (hb hby de9_43) ?_
    show Steps p.tables e below (s₁.setTop (mkF m 44 #[.val (.int (9 : Int32))] [(.int (4 : Int32)), (.int (9 : Int32))])) _
    refine XS.isub X0.here hx rfl (hb hby de9_44) rfl ?_
    show Steps p.tables e below (s₁.setTop (mkF m 45 #[.val (.int (9 : Int32))] [(.int ((9 : Int32) - (4 : Int32)))])) _
    refine XS.i2l X0.here hx rfl (hb hby de9_45) rfl ?_
    show Steps p.tables e below (s₁.setTop (mkF m 46 #[.val (.int (9 : Int32))] [(.long (((9 : Int32) - (4 : Int32)).toInt64))])) _
    refine X0.ldc2Long hx hown (mvT hZ (hw _ (List.mem_of_getElem? (i := 15) rfl))) (g := (mkF m 46 #[.val (.int (9 : Int32))] [(.long (((9 : Int32) - (4 : Int32)).toInt64))])) rfl (hb hby de9_46) _ ?_
    show Steps p.tables e below (s₁.setTop (mkF m 49 #[.val (.int (9 : Int32))] [(.long (60000 : Int64)), (.long (((9 : Int32) - (4 : Int32)).toInt64))])) _
    refine XS.lmul X0.here hx rfl (hb hby de9_49) rfl ?_
    exact k)
  obtain ⟨fs, hr, hrun, hended, hW, hsame⟩ := X0.leave (v := some (.long ((((9 : Int32) - (4 : Int32)).toInt64) * (60000 : Int64)))) (fun h => by rw [Bd.returns] at h; cases h)
  refine ⟨_, _, p1 _ ?_, hrun, hended, _, _, rfl, ?_, ⟨_, rfl⟩, hW, hsame.mono (by decide) (by decide)⟩
  · show Steps p.tables e below (s₁.setTop (mkF m 50 #[.val (.int (9 : Int32))] [(.long ((((9 : Int32) - (4 : Int32)).toInt64) * (60000 : Int64)))])) _
    exact retOut X0 hx Bd.returns rfl (Or.inr (Or.inl ⟨rfl, rfl, _, rfl⟩)) (hb hby de9_50) hr
  · show Qe9 Z  h0 n0 _ s₁.heap _
    rw [e0]
    exact ⟨rfl, N0, rfl⟩
theorem dd10_0 : decode prog_25_method_2_code 0 = .ok (.iload_n 0, 1) := by decide +kernel
theorem dd10_1 : decode prog_25_method_2_code 1 = .ok (.iconst 1, 1) := by decide +kernel
theorem dd10_2 : decode prog_25_method_2_code 2 = .ok (.if_icmp .lt 9, 3) := by decide +kernel
theorem dd10_5 : decode prog_25_method_2_code 5 = .ok (.iload_n 0, 1) := by decide +kernel
theorem dd10_6 : decode prog_25_method_2_code 6 = .ok (.bipush 18, 2) := by decide +kernel
theorem dd10_8 : decode prog_25_method_2_code 8 = .ok (.if_icmp .le 17, 3) := by decide +kernel
theorem dd10_25 : decode prog_25_method_2_code 25 = .ok (.getstatic 18, 3) := by decide +kernel
theorem dd10_28 : decode prog_25_method_2_code 28 = .ok (.iload_n 0, 1) := by decide +kernel
theorem dd10_29 : decode prog_25_method_2_code 29 = .ok (.iconst 1, 1) := by decide +kernel
theorem dd10_30 : decode prog_25_method_2_code 30 = .ok (.isub, 1) := by decide +kernel
theorem dd10_31 : decode prog_25_method_2_code 31 = .ok (.laload, 1) := by decide +kernel
theorem dd10_32 : decode prog_25_method_2_code 32 = .ok (.lreturn, 1) := by decide +kernel
theorem pnd10 : plainName "com/example/ordo/ordo/store/DelayLevels" = true := by first | (simp [plainName, overriddenIn]; done) | decide +kernel
theorem efd10 (m : MethodId)  : entryFrame m #[(.int (10 : Int32))] 1 = mkF m 0 #[.val (.int (10 : Int32))] [] := by first | (simp [entryFrame, mkF, argsToLocals, Value.category]; done) | rfl
def Qd10 (Z : State)  (a_D : Addr) (kk : ClassId) (h0 : Heap) (n0 : Nat) (v : Option Value) (h : Heap) (L : List Loc) : Prop := v = some (.long (360000 : Int64)) ∧ Fr n0 L ∧ h = h0
set_option maxRecDepth 65536 in
set_option maxHeartbeats 40000000 in
theorem rmd10 (l : Launch) (Z : State) (a0 : Array Value) (hw : ∀ d ∈ tables_1, d.before a0 Z = true) (ws : List Jvm.Cond)  (a_D : Addr) (kk : ClassId) (h0 : Heap) (n0 : Nat) (Z0 : n0 ≤ h0.size) (S_D : Sta Z h0 "com/example/ordo/ordo/store/DelayLevels" "DELAYS" "[J" (.ref a_D)) (V_D : Arv Z h0 a_D kk .long (18 : Int32) own_ds (.long (0 : Int64))) :
    MetFree l (⟨"com/example/ordo/ordo/store/DelayLevels", "delayMillis", "(I)J"⟩ : MethodName) (head1 (Jvm.Cond.code (⟨"com/example/ordo/ordo/store/DelayLevels", "delayMillis", "(I)J"⟩ : MethodName) prog_25_method_2_code 1 (some .long) :: ws) ({ frames := 0, cells := 0, slots := 0, locals := 0 } : Room)) (fun a U => a = #[(.int (10 : Int32))] ∧ Z.Warmed39 U.vm ∧ U.heap = h0) (fun _ _ _ _ _ => True) (fun _ U o U' => ∃ v L, o = .returned v ∧ Qd10 Z a_D kk h0 n0 v U'.heap L ∧ FrameEnd U o U' L ({ frames := 0, cells := 0, slots := 0, locals := 0 } : Room).cells ({ frames := 0, cells := 0, slots := 0, locals := 0 } : Room).slots) := by
  refine MetFree.of_bodySF (plainFor_of_name pnd10) hisR ?_
  intro p e s m args below meth c s₁ Bd hml0 hP hK
  obtain ⟨rfl, hZ, hh⟩ := hP
  have hx := Bd.exec
  have hby := Bd.bytes
  have hml : c.maxLocals = 1 := hml0
  have hown : s.vm.findClass "com/example/ordo/ordo/store/DelayLevels" = some m.cls := findClass_of_methodNamed Bd.named
  have hnm := (name_of_methodNamed Bd.named Bd.method).1
  have X0 : Stand p l e ({ frames := 0, cells := 0, slots := 0, locals := 0 } : Room) s m #[(.int (10 : Int32))] below meth c s₁ [] 0 0 := Stand.of_body Bd
  have e0 : s₁.heap = h0 := by rw [← hh, Bd.state]; rfl
  have N0 := Fr.nil n0
  have pre0 : ∀ t, Steps p.tables e below (s₁.setTop (mkF m 0 #[.val (.int (10 : Int32))] [])) t → Steps p.tables e below (s₁.setTop (entryFrame m #[(.int (10 : Int32))] 1)) t := fun t k => castTop (efd10 m ) k
  have p1 : ∀ t, Steps p.tables e below (s₁.setTop (mkF m 25 #[.val (.int (10 : Int32))] [])) t → Steps p.tables e below (s₁.setTop (entryFrame m #[(.int (10 : Int32))] 1)) t := fun t k => pre0 t (by
    show Steps p.tables e below (s₁.setTop (mkF m 0 #[.val (.int (10 : Int32))] [])) _
    refine XS.iloadN X0.here hx rfl (hb hby dd10_0) rfl ?_
    show Steps p.tables e below (s₁.setTop (mkF m 1 #[.val (.int (10 : Int32))] [(.int (10 : Int32))])) _
    refine XS.iconst X0.here hx rfl (hb hby dd10_1) ?_
    show Steps p.tables e below (s₁.setTop (mkF m 2 #[.val (.int (10 : Int32))] [(.int (1 : Int32)), (.int (10 : Int32))])) _
    refine XS.icmpNo X0.here hx rfl (hb hby dd10_2) rfl ((flt (by decide)).1) ?_
    show Steps p.tables e below (s₁.setTop (mkF m 5 #[.val (.int (10 : Int32))] [])) _
    refine XS.iloadN X0.here hx rfl (hb hby dd10_5) rfl ?_
    show Steps p.tables e below (s₁.setTop (mkF m 6 #[.val (.int (10 : Int32))] [(.int (10 : Int32))])) _
    refine XS.bipush X0.here hx rfl (hb hby dd10_6) ?_
    show Steps p.tables e below (s₁.setTop (mkF m 8 #[.val (.int (10 : Int32))] [(.int (18 : Int32)), (.int (10 : Int32))])) _
    refine XS.icmpYes X0.here hx rfl (pc0 := 8) (pc' := 25) rfl (hb hby dd10_8) rfl ((flt (by decide)).2.2.2) (by decide) (by decide) ?_
    exact k)
  obtain ⟨T2, X2, e2, st2⟩ := getS2 X0 hx hZ hown (host := "") (Or.inl (hw _ (List.mem_of_getElem? (i := 5) rfl))) Via.refl e0 S_D (g := (mkF m 25 #[.val (.int (10 : Int32))] [])) rfl (hb hby dd10_25)
  have p3 : ∀ t, Steps p.tables e below (T2.setTop (mkF m 28 #[.val (.int (10 : Int32))] [(.ref a_D)])) t → Steps p.tables e below (s₁.setTop (entryFrame m #[(.int (10 : Int32))] 1)) t := fun t k => p1 t (st2 t k)
  have p4 : ∀ t, Steps p.tables e below (T2.setTop (mkF m 31 #[.val (.int (10 : Int32))] [(.int ((10 : Int32) - (1 : Int32))), (.ref a_D)])) t → Steps p.tables e below (s₁.setTop (entryFrame m #[(.int (10 : Int32))] 1)) t := fun t k => p3 t (by
    show Steps p.tables e below (T2.setTop (mkF m 28 #[.val (.int (10 : Int32))] [(.ref a_D)])) _
    refine XS.iloadN X2.here hx rfl (hb hby dd10_28) rfl ?_
    show Steps p.tables e below (T2.setTop (mkF m 29 #[.val (.int (10 : Int32))] [(.int (10 : Int32)), (.ref a_D)])) _
    refine XS.iconst X2.here hx rfl (hb hby dd10_29) ?_
    show Steps p.tables e below (T2.setTop (mkF m 30 #[.val (.int (10 : Int32))] [(.int (1 : Int32)), (.int (10 : Int32)), (.ref a_D)])) _
    refine XS.isub X2.here hx rfl (hb hby dd10_30) rfl ?_
    exact k)
  obtain ⟨cl5, Ar5, q5, Sz5, Ng5, Hs5, G5⟩ := id V_D
  have hin5 : ¬ (((10 : Int32) - (1 : Int32)) < 0 ∨ cl5.slots.size ≤ (((10 : Int32) - (1 : Int32))).toNatClampNeg) := inb_of Sz5 ⟨by decide, by decide⟩
  have hat5 : cl5.slots[(((10 : Int32) - (1 : Int32))).toNatClampNeg]? = some (.long (360000 : Int64)) := Hs5.at hin5 (rfl)
  have p6 : ∀ t, Steps p.tables e below (T2.setTop (mkF m 32 #[.val (.int (10 : Int32))] [(.long (360000 : Int64))])) t → Steps p.tables e below (s₁.setTop (entryFrame m #[(.int (10 : Int32))] 1)) t := fun t k => p4 t (by
    show Steps p.tables e below (T2.setTop (mkF m 31 #[.val (.int (10 : Int32))] [(.int ((10 : Int32) - (1 : Int32))), (.ref a_D)])) _
    refine X2.laload hx (j := ((10 : Int32) - (1 : Int32))) (v := (.long (360000 : Int64))) (by rw [e2]; exact Ar5.1) (State.isArrayOf_alike hZ.alike Ar5.2.1) Ar5.2.2 hin5 hat5 (g := (mkF m 31 #[.val (.int (10 : Int32))] [(.int ((10 : Int32) - (1 : Int32))), (.ref a_D)])) rfl rfl (hb hby dd10_31) _ ?_
    exact k)
  obtain ⟨fs, hr, hrun, hended, hW, hsame⟩ := X2.leave (v := some (.long (360000 : Int64))) (fun h => by rw [Bd.returns] at h; cases h)
  refine ⟨_, _, p6 _ ?_, hrun, hended, _, _, rfl, ?_, ⟨_, rfl⟩, hW, hsame.mono (by decide) (by decide)⟩
  · show Steps p.tables e below (T2.setTop (mkF m 32 #[.val (.int (10 : Int32))] [(.long (360000 : Int64))])) _
    exact retOut X2 hx Bd.returns rfl (Or.inr (Or.inl ⟨rfl, rfl, _, rfl⟩)) (hb hby dd10_32) hr
  · show Qd10 Z a_D kk h0 n0 _ T2.heap _
    rw [e2]
    exact ⟨rfl, N0, rfl⟩
theorem de10_0 : decode method_2_code 0 = .ok (.iload_n 0, 1) := by decide +kernel
theorem de10_1 : decode method_2_code 1 = .ok (.iconst 4, 1) := by decide +kernel
theorem de10_2 : decode method_2_code 2 = .ok (.if_icmp .gt 34, 3) := by decide +kernel
theorem de10_36 : decode method_2_code 36 = .ok (.iload_n 0, 1) := by decide +kernel
theorem de10_37 : decode method_2_code 37 = .ok (.bipush 14, 2) := by decide +kernel
theorem de10_39 : decode method_2_code 39 = .ok (.if_icmp .gt 12, 3) := by decide +kernel
theorem de10_42 : decode method_2_code 42 = .ok (.iload_n 0, 1) := by decide +kernel
theorem de10_43 : decode method_2_code 43 = .ok (.iconst 4, 1) := by decide +kernel
theorem de10_44 : decode method_2_code 44 = .ok (.isub, 1) := by decide +kernel
theorem de10_45 : decode method_2_code 45 = .ok (.i2l, 1) := by decide +kernel
theorem de10_46 : decode method_2_code 46 = .ok (.ldc2_w 15, 3) := by decide +kernel
theorem de10_49 : decode method_2_code 49 = .ok (.lmul, 1) := by decide +kernel
theorem de10_50 : decode method_2_code 50 = .ok (.lreturn, 1) := by decide +kernel
theorem pne10 : plainName "com/example/ordo/ordo/store/DelayLevelsDelayMillisPinLaw" = true := by first | (simp [plainName, overriddenIn]; done) | decide +kernel
theorem efe10 (m : MethodId)  : entryFrame m #[(.int (10 : Int32))] 1 = mkF m 0 #[.val (.int (10 : Int32))] [] := by first | (simp [entryFrame, mkF, argsToLocals, Value.category]; done) | rfl
def Qe10 (Z : State)  (h0 : Heap) (n0 : Nat) (v : Option Value) (h : Heap) (L : List Loc) : Prop := v = some (.long ((((10 : Int32) - (4 : Int32)).toInt64) * (60000 : Int64))) ∧ Fr n0 L ∧ h = h0
set_option maxRecDepth 65536 in
set_option maxHeartbeats 40000000 in
theorem rme10 (l : Launch) (Z : State) (a0 : Array Value) (hw : ∀ d ∈ tables_1, d.before a0 Z = true) (ws : List Jvm.Cond)  (h0 : Heap) (n0 : Nat) (Z0 : n0 ≤ h0.size) :
    MetFree l (⟨"com/example/ordo/ordo/store/DelayLevelsDelayMillisPinLaw", "expected", "(I)J"⟩ : MethodName) (head1 (Jvm.Cond.code (⟨"com/example/ordo/ordo/store/DelayLevelsDelayMillisPinLaw", "expected", "(I)J"⟩ : MethodName) method_2_code 1 (some .long) :: ws) ({ frames := 0, cells := 0, slots := 0, locals := 0 } : Room)) (fun a U => a = #[(.int (10 : Int32))] ∧ Z.Warmed39 U.vm ∧ U.heap = h0) (fun _ _ _ _ _ => True) (fun _ U o U' => ∃ v L, o = .returned v ∧ Qe10 Z  h0 n0 v U'.heap L ∧ FrameEnd U o U' L ({ frames := 0, cells := 0, slots := 0, locals := 0 } : Room).cells ({ frames := 0, cells := 0, slots := 0, locals := 0 } : Room).slots) := by
  refine MetFree.of_bodySF (plainFor_of_name pne10) hisR ?_
  intro p e s m args below meth c s₁ Bd hml0 hP hK
  obtain ⟨rfl, hZ, hh⟩ := hP
  have hx := Bd.exec
  have hby := Bd.bytes
  have hml : c.maxLocals = 1 := hml0
  have hown : s.vm.findClass "com/example/ordo/ordo/store/DelayLevelsDelayMillisPinLaw" = some m.cls := findClass_of_methodNamed Bd.named
  have hnm := (name_of_methodNamed Bd.named Bd.method).1
  have X0 : Stand p l e ({ frames := 0, cells := 0, slots := 0, locals := 0 } : Room) s m #[(.int (10 : Int32))] below meth c s₁ [] 0 0 := Stand.of_body Bd
  have e0 : s₁.heap = h0 := by rw [← hh, Bd.state]; rfl
  have N0 := Fr.nil n0
  have pre0 : ∀ t, Steps p.tables e below (s₁.setTop (mkF m 0 #[.val (.int (10 : Int32))] [])) t → Steps p.tables e below (s₁.setTop (entryFrame m #[(.int (10 : Int32))] 1)) t := fun t k => castTop (efe10 m ) k
  have p1 : ∀ t, Steps p.tables e below (s₁.setTop (mkF m 50 #[.val (.int (10 : Int32))] [(.long ((((10 : Int32) - (4 : Int32)).toInt64) * (60000 : Int64)))])) t → Steps p.tables e below (s₁.setTop (entryFrame m #[(.int (10 : Int32))] 1)) t := fun t k => pre0 t (by
    show Steps p.tables e below (s₁.setTop (mkF m 0 #[.val (.int (10 : Int32))] [])) _
    refine XS.iloadN X0.here hx rfl (hb hby de10_0) rfl ?_
    show Steps p.tables e below (s₁.setTop (mkF m 1 #[.val (.int (10 : Int32))] [(.int (10 : Int32))])) _
    refine XS.iconst X0.here hx rfl (hb hby de10_1) ?_
    show Steps p.tables e below (s₁.setTop (mkF m 2 #[.val (.int (10 : Int32))] [(.int (4 : Int32)), (.int (10 : Int32))])) _
    refine XS.icmpYes X0.here hx rfl (pc0 := 2) (pc' := 36) rfl (hb hby de10_2) rfl ((tlt (by decide)).2.2.1) (by decide) (by decide) ?_
    show Steps p.tables e below (s₁.setTop (mkF m 36 #[.val (.int (10 : Int32))] [])) _
    refine XS.iloadN X0.here hx rfl (hb hby de10_36) rfl ?_
    show Steps p.tables e below (s₁.setTop (mkF m 37 #[.val (.int (10 : Int32))] [(.int (10 : Int32))])) _
    refine XS.bipush X0.here hx rfl (hb hby de10_37) ?_
    show Steps p.tables e below (s₁.setTop (mkF m 39 #[.val (.int (10 : Int32))] [(.int (14 : Int32)), (.int (10 : Int32))])) _
    refine XS.icmpNo X0.here hx rfl (hb hby de10_39) rfl ((flt (by decide)).2.2.1) ?_
    show Steps p.tables e below (s₁.setTop (mkF m 42 #[.val (.int (10 : Int32))] [])) _
    refine XS.iloadN X0.here hx rfl (hb hby de10_42) rfl ?_
    show Steps p.tables e below (s₁.setTop (mkF m 43 #[.val (.int (10 : Int32))] [(.int (10 : Int32))])) _
    refine XS.iconst X0.here hx rfl (hb hby de10_43) ?_
    show Steps p.tables e below (s₁.setTop (mkF m 44 #[.val (.int (10 : Int32))] [(.int (4 : Int32)), (.int (10 : Int32))])) _
    refine XS.isub X0.here hx rfl (hb hby de10_44) rfl ?_
    show Steps p.tables e below (s₁.setTop (mkF m 45 #[.val (.int (10 : Int32))] [(.int ((10 : Int32) - (4 : Int32)))])) _
    refine XS.i2l X0.here hx rfl (hb hby de10_45) rfl ?_
    show Steps p.tables e below (s₁.setTop (mkF m 46 #[.val (.int (10 : Int32))] [(.long (((10 : Int32) - (4 : Int32)).toInt64))])) _
    refine X0.ldc2Long hx hown (mvT hZ (hw _ (List.mem_of_getElem? (i := 15) rfl))) (g := (mkF m 46 #[.val (.int (10 : Int32))] [(.long (((10 : Int32) - (4 : Int32)).toInt64))])) rfl (hb hby de10_46) _ ?_
    show Steps p.tables e below (s₁.setTop (mkF m 49 #[.val (.int (10 : Int32))] [(.long (60000 : Int64)), (.long (((10 : Int32) - (4 : Int32)).toInt64))])) _
    refine XS.lmul X0.here hx rfl (hb hby de10_49) rfl ?_
    exact k)
  obtain ⟨fs, hr, hrun, hended, hW, hsame⟩ := X0.leave (v := some (.long ((((10 : Int32) - (4 : Int32)).toInt64) * (60000 : Int64)))) (fun h => by rw [Bd.returns] at h; cases h)
  refine ⟨_, _, p1 _ ?_, hrun, hended, _, _, rfl, ?_, ⟨_, rfl⟩, hW, hsame.mono (by decide) (by decide)⟩
  · show Steps p.tables e below (s₁.setTop (mkF m 50 #[.val (.int (10 : Int32))] [(.long ((((10 : Int32) - (4 : Int32)).toInt64) * (60000 : Int64)))])) _
    exact retOut X0 hx Bd.returns rfl (Or.inr (Or.inl ⟨rfl, rfl, _, rfl⟩)) (hb hby de10_50) hr
  · show Qe10 Z  h0 n0 _ s₁.heap _
    rw [e0]
    exact ⟨rfl, N0, rfl⟩
theorem dd11_0 : decode prog_25_method_2_code 0 = .ok (.iload_n 0, 1) := by decide +kernel
theorem dd11_1 : decode prog_25_method_2_code 1 = .ok (.iconst 1, 1) := by decide +kernel
theorem dd11_2 : decode prog_25_method_2_code 2 = .ok (.if_icmp .lt 9, 3) := by decide +kernel
theorem dd11_5 : decode prog_25_method_2_code 5 = .ok (.iload_n 0, 1) := by decide +kernel
theorem dd11_6 : decode prog_25_method_2_code 6 = .ok (.bipush 18, 2) := by decide +kernel
theorem dd11_8 : decode prog_25_method_2_code 8 = .ok (.if_icmp .le 17, 3) := by decide +kernel
theorem dd11_25 : decode prog_25_method_2_code 25 = .ok (.getstatic 18, 3) := by decide +kernel
theorem dd11_28 : decode prog_25_method_2_code 28 = .ok (.iload_n 0, 1) := by decide +kernel
theorem dd11_29 : decode prog_25_method_2_code 29 = .ok (.iconst 1, 1) := by decide +kernel
theorem dd11_30 : decode prog_25_method_2_code 30 = .ok (.isub, 1) := by decide +kernel
theorem dd11_31 : decode prog_25_method_2_code 31 = .ok (.laload, 1) := by decide +kernel
theorem dd11_32 : decode prog_25_method_2_code 32 = .ok (.lreturn, 1) := by decide +kernel
theorem pnd11 : plainName "com/example/ordo/ordo/store/DelayLevels" = true := by first | (simp [plainName, overriddenIn]; done) | decide +kernel
theorem efd11 (m : MethodId)  : entryFrame m #[(.int (11 : Int32))] 1 = mkF m 0 #[.val (.int (11 : Int32))] [] := by first | (simp [entryFrame, mkF, argsToLocals, Value.category]; done) | rfl
def Qd11 (Z : State)  (a_D : Addr) (kk : ClassId) (h0 : Heap) (n0 : Nat) (v : Option Value) (h : Heap) (L : List Loc) : Prop := v = some (.long (420000 : Int64)) ∧ Fr n0 L ∧ h = h0
set_option maxRecDepth 65536 in
set_option maxHeartbeats 40000000 in
theorem rmd11 (l : Launch) (Z : State) (a0 : Array Value) (hw : ∀ d ∈ tables_1, d.before a0 Z = true) (ws : List Jvm.Cond)  (a_D : Addr) (kk : ClassId) (h0 : Heap) (n0 : Nat) (Z0 : n0 ≤ h0.size) (S_D : Sta Z h0 "com/example/ordo/ordo/store/DelayLevels" "DELAYS" "[J" (.ref a_D)) (V_D : Arv Z h0 a_D kk .long (18 : Int32) own_ds (.long (0 : Int64))) :
    MetFree l (⟨"com/example/ordo/ordo/store/DelayLevels", "delayMillis", "(I)J"⟩ : MethodName) (head1 (Jvm.Cond.code (⟨"com/example/ordo/ordo/store/DelayLevels", "delayMillis", "(I)J"⟩ : MethodName) prog_25_method_2_code 1 (some .long) :: ws) ({ frames := 0, cells := 0, slots := 0, locals := 0 } : Room)) (fun a U => a = #[(.int (11 : Int32))] ∧ Z.Warmed39 U.vm ∧ U.heap = h0) (fun _ _ _ _ _ => True) (fun _ U o U' => ∃ v L, o = .returned v ∧ Qd11 Z a_D kk h0 n0 v U'.heap L ∧ FrameEnd U o U' L ({ frames := 0, cells := 0, slots := 0, locals := 0 } : Room).cells ({ frames := 0, cells := 0, slots := 0, locals := 0 } : Room).slots) := by
  refine MetFree.of_bodySF (plainFor_of_name pnd11) hisR ?_
  intro p e s m args below meth c s₁ Bd hml0 hP hK
  obtain ⟨rfl, hZ, hh⟩ := hP
  have hx := Bd.exec
  have hby := Bd.bytes
  have hml : c.maxLocals = 1 := hml0
  have hown : s.vm.findClass "com/example/ordo/ordo/store/DelayLevels" = some m.cls := findClass_of_methodNamed Bd.named
  have hnm := (name_of_methodNamed Bd.named Bd.method).1
  have X0 : Stand p l e ({ frames := 0, cells := 0, slots := 0, locals := 0 } : Room) s m #[(.int (11 : Int32))] below meth c s₁ [] 0 0 := Stand.of_body Bd
  have e0 : s₁.heap = h0 := by rw [← hh, Bd.state]; rfl
  have N0 := Fr.nil n0
  have pre0 : ∀ t, Steps p.tables e below (s₁.setTop (mkF m 0 #[.val (.int (11 : Int32))] [])) t → Steps p.tables e below (s₁.setTop (entryFrame m #[(.int (11 : Int32))] 1)) t := fun t k => castTop (efd11 m ) k
  have p1 : ∀ t, Steps p.tables e below (s₁.setTop (mkF m 25 #[.val (.int (11 : Int32))] [])) t → Steps p.tables e below (s₁.setTop (entryFrame m #[(.int (11 : Int32))] 1)) t := fun t k => pre0 t (by
    show Steps p.tables e below (s₁.setTop (mkF m 0 #[.val (.int (11 : Int32))] [])) _
    refine XS.iloadN X0.here hx rfl (hb hby dd11_0) rfl ?_
    show Steps p.tables e below (s₁.setTop (mkF m 1 #[.val (.int (11 : Int32))] [(.int (11 : Int32))])) _
    refine XS.iconst X0.here hx rfl (hb hby dd11_1) ?_
    show Steps p.tables e below (s₁.setTop (mkF m 2 #[.val (.int (11 : Int32))] [(.int (1 : Int32)), (.int (11 : Int32))])) _
    refine XS.icmpNo X0.here hx rfl (hb hby dd11_2) rfl ((flt (by decide)).1) ?_
    show Steps p.tables e below (s₁.setTop (mkF m 5 #[.val (.int (11 : Int32))] [])) _
    refine XS.iloadN X0.here hx rfl (hb hby dd11_5) rfl ?_
    show Steps p.tables e below (s₁.setTop (mkF m 6 #[.val (.int (11 : Int32))] [(.int (11 : Int32))])) _
    refine XS.bipush X0.here hx rfl (hb hby dd11_6) ?_
    show Steps p.tables e below (s₁.setTop (mkF m 8 #[.val (.int (11 : Int32))] [(.int (18 : Int32)), (.int (11 : Int32))])) _
    refine XS.icmpYes X0.here hx rfl (pc0 := 8) (pc' := 25) rfl (hb hby dd11_8) rfl ((flt (by decide)).2.2.2) (by decide) (by decide) ?_
    exact k)
  obtain ⟨T2, X2, e2, st2⟩ := getS2 X0 hx hZ hown (host := "") (Or.inl (hw _ (List.mem_of_getElem? (i := 5) rfl))) Via.refl e0 S_D (g := (mkF m 25 #[.val (.int (11 : Int32))] [])) rfl (hb hby dd11_25)
  have p3 : ∀ t, Steps p.tables e below (T2.setTop (mkF m 28 #[.val (.int (11 : Int32))] [(.ref a_D)])) t → Steps p.tables e below (s₁.setTop (entryFrame m #[(.int (11 : Int32))] 1)) t := fun t k => p1 t (st2 t k)
  have p4 : ∀ t, Steps p.tables e below (T2.setTop (mkF m 31 #[.val (.int (11 : Int32))] [(.int ((11 : Int32) - (1 : Int32))), (.ref a_D)])) t → Steps p.tables e below (s₁.setTop (entryFrame m #[(.int (11 : Int32))] 1)) t := fun t k => p3 t (by
    show Steps p.tables e below (T2.setTop (mkF m 28 #[.val (.int (11 : Int32))] [(.ref a_D)])) _
    refine XS.iloadN X2.here hx rfl (hb hby dd11_28) rfl ?_
    show Steps p.tables e below (T2.setTop (mkF m 29 #[.val (.int (11 : Int32))] [(.int (11 : Int32)), (.ref a_D)])) _
    refine XS.iconst X2.here hx rfl (hb hby dd11_29) ?_
    show Steps p.tables e below (T2.setTop (mkF m 30 #[.val (.int (11 : Int32))] [(.int (1 : Int32)), (.int (11 : Int32)), (.ref a_D)])) _
    refine XS.isub X2.here hx rfl (hb hby dd11_30) rfl ?_
    exact k)
  obtain ⟨cl5, Ar5, q5, Sz5, Ng5, Hs5, G5⟩ := id V_D
  have hin5 : ¬ (((11 : Int32) - (1 : Int32)) < 0 ∨ cl5.slots.size ≤ (((11 : Int32) - (1 : Int32))).toNatClampNeg) := inb_of Sz5 ⟨by decide, by decide⟩
  have hat5 : cl5.slots[(((11 : Int32) - (1 : Int32))).toNatClampNeg]? = some (.long (420000 : Int64)) := Hs5.at hin5 (rfl)
  have p6 : ∀ t, Steps p.tables e below (T2.setTop (mkF m 32 #[.val (.int (11 : Int32))] [(.long (420000 : Int64))])) t → Steps p.tables e below (s₁.setTop (entryFrame m #[(.int (11 : Int32))] 1)) t := fun t k => p4 t (by
    show Steps p.tables e below (T2.setTop (mkF m 31 #[.val (.int (11 : Int32))] [(.int ((11 : Int32) - (1 : Int32))), (.ref a_D)])) _
    refine X2.laload hx (j := ((11 : Int32) - (1 : Int32))) (v := (.long (420000 : Int64))) (by rw [e2]; exact Ar5.1) (State.isArrayOf_alike hZ.alike Ar5.2.1) Ar5.2.2 hin5 hat5 (g := (mkF m 31 #[.val (.int (11 : Int32))] [(.int ((11 : Int32) - (1 : Int32))), (.ref a_D)])) rfl rfl (hb hby dd11_31) _ ?_
    exact k)
  obtain ⟨fs, hr, hrun, hended, hW, hsame⟩ := X2.leave (v := some (.long (420000 : Int64))) (fun h => by rw [Bd.returns] at h; cases h)
  refine ⟨_, _, p6 _ ?_, hrun, hended, _, _, rfl, ?_, ⟨_, rfl⟩, hW, hsame.mono (by decide) (by decide)⟩
  · show Steps p.tables e below (T2.setTop (mkF m 32 #[.val (.int (11 : Int32))] [(.long (420000 : Int64))])) _
    exact retOut X2 hx Bd.returns rfl (Or.inr (Or.inl ⟨rfl, rfl, _, rfl⟩)) (hb hby dd11_32) hr
  · show Qd11 Z a_D kk h0 n0 _ T2.heap _
    rw [e2]
    exact ⟨rfl, N0, rfl⟩
theorem de11_0 : decode method_2_code 0 = .ok (.iload_n 0, 1) := by decide +kernel
theorem de11_1 : decode method_2_code 1 = .ok (.iconst 4, 1) := by decide +kernel
theorem de11_2 : decode method_2_code 2 = .ok (.if_icmp .gt 34, 3) := by decide +kernel
theorem de11_36 : decode method_2_code 36 = .ok (.iload_n 0, 1) := by decide +kernel
theorem de11_37 : decode method_2_code 37 = .ok (.bipush 14, 2) := by decide +kernel
theorem de11_39 : decode method_2_code 39 = .ok (.if_icmp .gt 12, 3) := by decide +kernel
theorem de11_42 : decode method_2_code 42 = .ok (.iload_n 0, 1) := by decide +kernel
theorem de11_43 : decode method_2_code 43 = .ok (.iconst 4, 1) := by decide +kernel
theorem de11_44 : decode method_2_code 44 = .ok (.isub, 1) := by decide +kernel
theorem de11_45 : decode method_2_code 45 = .ok (.i2l, 1) := by decide +kernel
theorem de11_46 : decode method_2_code 46 = .ok (.ldc2_w 15, 3) := by decide +kernel
theorem de11_49 : decode method_2_code 49 = .ok (.lmul, 1) := by decide +kernel
theorem de11_50 : decode method_2_code 50 = .ok (.lreturn, 1) := by decide +kernel
theorem pne11 : plainName "com/example/ordo/ordo/store/DelayLevelsDelayMillisPinLaw" = true := by first | (simp [plainName, overriddenIn]; done) | decide +kernel
theorem efe11 (m : MethodId)  : entryFrame m #[(.int (11 : Int32))] 1 = mkF m 0 #[.val (.int (11 : Int32))] [] := by first | (simp [entryFrame, mkF, argsToLocals, Value.category]; done) | rfl
def Qe11 (Z : State)  (h0 : Heap) (n0 : Nat) (v : Option Value) (h : Heap) (L : List Loc) : Prop := v = some (.long ((((11 : Int32) - (4 : Int32)).toInt64) * (60000 : Int64))) ∧ Fr n0 L ∧ h = h0
set_option maxRecDepth 65536 in
set_option maxHeartbeats 40000000 in
theorem rme11 (l : Launch) (Z : State) (a0 : Array Value) (hw : ∀ d ∈ tables_1, d.before a0 Z = true) (ws : List Jvm.Cond)  (h0 : Heap) (n0 : Nat) (Z0 : n0 ≤ h0.size) :
    MetFree l (⟨"com/example/ordo/ordo/store/DelayLevelsDelayMillisPinLaw", "expected", "(I)J"⟩ : MethodName) (head1 (Jvm.Cond.code (⟨"com/example/ordo/ordo/store/DelayLevelsDelayMillisPinLaw", "expected", "(I)J"⟩ : MethodName) method_2_code 1 (some .long) :: ws) ({ frames := 0, cells := 0, slots := 0, locals := 0 } : Room)) (fun a U => a = #[(.int (11 : Int32))] ∧ Z.Warmed39 U.vm ∧ U.heap = h0) (fun _ _ _ _ _ => True) (fun _ U o U' => ∃ v L, o = .returned v ∧ Qe11 Z  h0 n0 v U'.heap L ∧ FrameEnd U o U' L ({ frames := 0, cells := 0, slots := 0, locals := 0 } : Room).cells ({ frames := 0, cells := 0, slots := 0, locals := 0 } : Room).slots) := by
  refine MetFree.of_bodySF (plainFor_of_name pne11) hisR ?_
  intro p e s m args below meth c s₁ Bd hml0 hP hK
  obtain ⟨rfl, hZ, hh⟩ := hP
  have hx := Bd.exec
  have hby := Bd.bytes
  have hml : c.maxLocals = 1 := hml0
  have hown : s.vm.findClass "com/example/ordo/ordo/store/DelayLevelsDelayMillisPinLaw" = some m.cls := findClass_of_methodNamed Bd.named
  have hnm := (name_of_methodNamed Bd.named Bd.method).1
  have X0 : Stand p l e ({ frames := 0, cells := 0, slots := 0, locals := 0 } : Room) s m #[(.int (11 : Int32))] below meth c s₁ [] 0 0 := Stand.of_body Bd
  have e0 : s₁.heap = h0 := by rw [← hh, Bd.state]; rfl
  have N0 := Fr.nil n0
  have pre0 : ∀ t, Steps p.tables e below (s₁.setTop (mkF m 0 #[.val (.int (11 : Int32))] [])) t → Steps p.tables e below (s₁.setTop (entryFrame m #[(.int (11 : Int32))] 1)) t := fun t k => castTop (efe11 m ) k
  have p1 : ∀ t, Steps p.tables e below (s₁.setTop (mkF m 50 #[.val (.int (11 : Int32))] [(.long ((((11 : Int32) - (4 : Int32)).toInt64) * (60000 : Int64)))])) t → Steps p.tables e below (s₁.setTop (entryFrame m #[(.int (11 : Int32))] 1)) t := fun t k => pre0 t (by
    show Steps p.tables e below (s₁.setTop (mkF m 0 #[.val (.int (11 : Int32))] [])) _
    refine XS.iloadN X0.here hx rfl (hb hby de11_0) rfl ?_
    show Steps p.tables e below (s₁.setTop (mkF m 1 #[.val (.int (11 : Int32))] [(.int (11 : Int32))])) _
    refine XS.iconst X0.here hx rfl (hb hby de11_1) ?_
    show Steps p.tables e below (s₁.setTop (mkF m 2 #[.val (.int (11 : Int32))] [(.int (4 : Int32)), (.int (11 : Int32))])) _
    refine XS.icmpYes X0.here hx rfl (pc0 := 2) (pc' := 36) rfl (hb hby de11_2) rfl ((tlt (by decide)).2.2.1) (by decide) (by decide) ?_
    show Steps p.tables e below (s₁.setTop (mkF m 36 #[.val (.int (11 : Int32))] [])) _
    refine XS.iloadN X0.here hx rfl (hb hby de11_36) rfl ?_
    show Steps p.tables e below (s₁.setTop (mkF m 37 #[.val (.int (11 : Int32))] [(.int (11 : Int32))])) _
    refine XS.bipush X0.here hx rfl (hb hby de11_37) ?_
    show Steps p.tables e below (s₁.setTop (mkF m 39 #[.val (.int (11 : Int32))] [(.int (14 : Int32)), (.int (11 : Int32))])) _
    refine XS.icmpNo X0.here hx rfl (hb hby de11_39) rfl ((flt (by decide)).2.2.1) ?_
    show Steps p.tables e below (s₁.setTop (mkF m 42 #[.val (.int (11 : Int32))] [])) _
    refine XS.iloadN X0.here hx rfl (hb hby de11_42) rfl ?_
    show Steps p.tables e below (s₁.setTop (mkF m 43 #[.val (.int (11 : Int32))] [(.int (11 : Int32))])) _
    refine XS.iconst X0.here hx rfl (hb hby de11_43) ?_
    show Steps p.tables e below (s₁.setTop (mkF m 44 #[.val (.int (11 : Int32))] [(.int (4 : Int32)), (.int (11 : Int32))])) _
    refine XS.isub X0.here hx rfl (hb hby de11_44) rfl ?_
    show Steps p.tables e below (s₁.setTop (mkF m 45 #[.val (.int (11 : Int32))] [(.int ((11 : Int32) - (4 : Int32)))])) _
    refine XS.i2l X0.here hx rfl (hb hby de11_45) rfl ?_
    show Steps p.tables e below (s₁.setTop (mkF m 46 #[.val (.int (11 : Int32))] [(.long (((11 : Int32) - (4 : Int32)).toInt64))])) _
    refine X0.ldc2Long hx hown (mvT hZ (hw _ (List.mem_of_getElem? (i := 15) rfl))) (g := (mkF m 46 #[.val (.int (11 : Int32))] [(.long (((11 : Int32) - (4 : Int32)).toInt64))])) rfl (hb hby de11_46) _ ?_
    show Steps p.tables e below (s₁.setTop (mkF m 49 #[.val (.int (11 : Int32))] [(.long (60000 : Int64)), (.long (((11 : Int32) - (4 : Int32)).toInt64))])) _
    refine XS.lmul X0.here hx rfl (hb hby de11_49) rfl ?_
    exact k)
  obtain ⟨fs, hr, hrun, hended, hW, hsame⟩ := X0.leave (v := some (.long ((((11 : Int32) - (4 : Int32)).toInt64) * (60000 : Int64)))) (fun h => by rw [Bd.returns] at h; cases h)
  refine ⟨_, _, p1 _ ?_, hrun, hended, _, _, rfl, ?_, ⟨_, rfl⟩, hW, hsame.mono (by decide) (by decide)⟩
  · show Steps p.tables e below (s₁.setTop (mkF m 50 #[.val (.int (11 : Int32))] [(.long ((((11 : Int32) - (4 : Int32)).toInt64) * (60000 : Int64)))])) _
    exact retOut X0 hx Bd.returns rfl (Or.inr (Or.inl ⟨rfl, rfl, _, rfl⟩)) (hb hby de11_50) hr
  · show Qe11 Z  h0 n0 _ s₁.heap _
    rw [e0]
    exact ⟨rfl, N0, rfl⟩
theorem dd12_0 : decode prog_25_method_2_code 0 = .ok (.iload_n 0, 1) := by decide +kernel
theorem dd12_1 : decode prog_25_method_2_code 1 = .ok (.iconst 1, 1) := by decide +kernel
theorem dd12_2 : decode prog_25_method_2_code 2 = .ok (.if_icmp .lt 9, 3) := by decide +kernel
theorem dd12_5 : decode prog_25_method_2_code 5 = .ok (.iload_n 0, 1) := by decide +kernel
theorem dd12_6 : decode prog_25_method_2_code 6 = .ok (.bipush 18, 2) := by decide +kernel
theorem dd12_8 : decode prog_25_method_2_code 8 = .ok (.if_icmp .le 17, 3) := by decide +kernel
theorem dd12_25 : decode prog_25_method_2_code 25 = .ok (.getstatic 18, 3) := by decide +kernel
theorem dd12_28 : decode prog_25_method_2_code 28 = .ok (.iload_n 0, 1) := by decide +kernel
theorem dd12_29 : decode prog_25_method_2_code 29 = .ok (.iconst 1, 1) := by decide +kernel
theorem dd12_30 : decode prog_25_method_2_code 30 = .ok (.isub, 1) := by decide +kernel
theorem dd12_31 : decode prog_25_method_2_code 31 = .ok (.laload, 1) := by decide +kernel
theorem dd12_32 : decode prog_25_method_2_code 32 = .ok (.lreturn, 1) := by decide +kernel
theorem pnd12 : plainName "com/example/ordo/ordo/store/DelayLevels" = true := by first | (simp [plainName, overriddenIn]; done) | decide +kernel
theorem efd12 (m : MethodId)  : entryFrame m #[(.int (12 : Int32))] 1 = mkF m 0 #[.val (.int (12 : Int32))] [] := by first | (simp [entryFrame, mkF, argsToLocals, Value.category]; done) | rfl
def Qd12 (Z : State)  (a_D : Addr) (kk : ClassId) (h0 : Heap) (n0 : Nat) (v : Option Value) (h : Heap) (L : List Loc) : Prop := v = some (.long (480000 : Int64)) ∧ Fr n0 L ∧ h = h0
set_option maxRecDepth 65536 in
set_option maxHeartbeats 40000000 in
theorem rmd12 (l : Launch) (Z : State) (a0 : Array Value) (hw : ∀ d ∈ tables_1, d.before a0 Z = true) (ws : List Jvm.Cond)  (a_D : Addr) (kk : ClassId) (h0 : Heap) (n0 : Nat) (Z0 : n0 ≤ h0.size) (S_D : Sta Z h0 "com/example/ordo/ordo/store/DelayLevels" "DELAYS" "[J" (.ref a_D)) (V_D : Arv Z h0 a_D kk .long (18 : Int32) own_ds (.long (0 : Int64))) :
    MetFree l (⟨"com/example/ordo/ordo/store/DelayLevels", "delayMillis", "(I)J"⟩ : MethodName) (head1 (Jvm.Cond.code (⟨"com/example/ordo/ordo/store/DelayLevels", "delayMillis", "(I)J"⟩ : MethodName) prog_25_method_2_code 1 (some .long) :: ws) ({ frames := 0, cells := 0, slots := 0, locals := 0 } : Room)) (fun a U => a = #[(.int (12 : Int32))] ∧ Z.Warmed39 U.vm ∧ U.heap = h0) (fun _ _ _ _ _ => True) (fun _ U o U' => ∃ v L, o = .returned v ∧ Qd12 Z a_D kk h0 n0 v U'.heap L ∧ FrameEnd U o U' L ({ frames := 0, cells := 0, slots := 0, locals := 0 } : Room).cells ({ frames := 0, cells := 0, slots := 0, locals := 0 } : Room).slots) := by
  refine MetFree.of_bodySF (plainFor_of_name pnd12) hisR ?_
  intro p e s m args below meth c s₁ Bd hml0 hP hK
  obtain ⟨rfl, hZ, hh⟩ := hP
  have hx := Bd.exec
  have hby := Bd.bytes
  have hml : c.maxLocals = 1 := hml0
  have hown : s.vm.findClass "com/example/ordo/ordo/store/DelayLevels" = some m.cls := findClass_of_methodNamed Bd.named
  have hnm := (name_of_methodNamed Bd.named Bd.method).1
  have X0 : Stand p l e ({ frames := 0, cells := 0, slots := 0, locals := 0 } : Room) s m #[(.int (12 : Int32))] below meth c s₁ [] 0 0 := Stand.of_body Bd
  have e0 : s₁.heap = h0 := by rw [← hh, Bd.state]; rfl
  have N0 := Fr.nil n0
  have pre0 : ∀ t, Steps p.tables e below (s₁.setTop (mkF m 0 #[.val (.int (12 : Int32))] [])) t → Steps p.tables e below (s₁.setTop (entryFrame m #[(.int (12 : Int32))] 1)) t := fun t k => castTop (efd12 m ) k
  have p1 : ∀ t, Steps p.tables e below (s₁.setTop (mkF m 25 #[.val (.int (12 : Int32))] [])) t → Steps p.tables e below (s₁.setTop (entryFrame m #[(.int (12 : Int32))] 1)) t := fun t k => pre0 t (by
    show Steps p.tables e below (s₁.setTop (mkF m 0 #[.val (.int (12 : Int32))] [])) _
    refine XS.iloadN X0.here hx rfl (hb hby dd12_0) rfl ?_
    show Steps p.tables e below (s₁.setTop (mkF m 1 #[.val (.int (12 : Int32))] [(.int (12 : Int32))])) _
    refine XS.iconst X0.here hx rfl (hb hby dd12_1) ?_
    show Steps p.tables e below (s₁.setTop (mkF m 2 #[.val (.int (12 : Int32))] [(.int (1 : Int32)), (.int (12 : Int32))])) _
    refine XS.icmpNo X0.here hx rfl (hb hby dd12_2) rfl ((flt (by decide)).1) ?_
    show Steps p.tables e below (s₁.setTop (mkF m 5 #[.val (.int (12 : Int32))] [])) _
    refine XS.iloadN X0.here hx rfl (hb hby dd12_5) rfl ?_
    show Steps p.tables e below (s₁.setTop (mkF m 6 #[.val (.int (12 : Int32))] [(.int (12 : Int32))])) _
    refine XS.bipush X0.here hx rfl (hb hby dd12_6) ?_
    show Steps p.tables e below (s₁.setTop (mkF m 8 #[.val (.int (12 : Int32))] [(.int (18 : Int32)), (.int (12 : Int32))])) _
    refine XS.icmpYes X0.here hx rfl (pc0 := 8) (pc' := 25) rfl (hb hby dd12_8) rfl ((flt (by decide)).2.2.2) (by decide) (by decide) ?_
    exact k)
  obtain ⟨T2, X2, e2, st2⟩ := getS2 X0 hx hZ hown (host := "") (Or.inl (hw _ (List.mem_of_getElem? (i := 5) rfl))) Via.refl e0 S_D (g := (mkF m 25 #[.val (.int (12 : Int32))] [])) rfl (hb hby dd12_25)
  have p3 : ∀ t, Steps p.tables e below (T2.setTop (mkF m 28 #[.val (.int (12 : Int32))] [(.ref a_D)])) t → Steps p.tables e below (s₁.setTop (entryFrame m #[(.int (12 : Int32))] 1)) t := fun t k => p1 t (st2 t k)
  have p4 : ∀ t, Steps p.tables e below (T2.setTop (mkF m 31 #[.val (.int (12 : Int32))] [(.int ((12 : Int32) - (1 : Int32))), (.ref a_D)])) t → Steps p.tables e below (s₁.setTop (entryFrame m #[(.int (12 : Int32))] 1)) t := fun t k => p3 t (by
    show Steps p.tables e below (T2.setTop (mkF m 28 #[.val (.int (12 : Int32))] [(.ref a_D)])) _
    refine XS.iloadN X2.here hx rfl (hb hby dd12_28) rfl ?_
    show Steps p.tables e below (T2.setTop (mkF m 29 #[.val (.int (12 : Int32))] [(.int (12 : Int32)), (.ref a_D)])) _
    refine XS.iconst X2.here hx rfl (hb hby dd12_29) ?_
    show Steps p.tables e below (T2.setTop (mkF m 30 #[.val (.int (12 : Int32))] [(.int (1 : Int32)), (.int (12 : Int32)), (.ref a_D)])) _
    refine XS.isub X2.here hx rfl (hb hby dd12_30) rfl ?_
    exact k)
  obtain ⟨cl5, Ar5, q5, Sz5, Ng5, Hs5, G5⟩ := id V_D
  have hin5 : ¬ (((12 : Int32) - (1 : Int32)) < 0 ∨ cl5.slots.size ≤ (((12 : Int32) - (1 : Int32))).toNatClampNeg) := inb_of Sz5 ⟨by decide, by decide⟩
  have hat5 : cl5.slots[(((12 : Int32) - (1 : Int32))).toNatClampNeg]? = some (.long (480000 : Int64)) := Hs5.at hin5 (rfl)
  have p6 : ∀ t, Steps p.tables e below (T2.setTop (mkF m 32 #[.val (.int (12 : Int32))] [(.long (480000 : Int64))])) t → Steps p.tables e below (s₁.setTop (entryFrame m #[(.int (12 : Int32))] 1)) t := fun t k => p4 t (by
    show Steps p.tables e below (T2.setTop (mkF m 31 #[.val (.int (12 : Int32))] [(.int ((12 : Int32) - (1 : Int32))), (.ref a_D)])) _
    refine X2.laload hx (j := ((12 : Int32) - (1 : Int32))) (v := (.long (480000 : Int64))) (by rw [e2]; exact Ar5.1) (State.isArrayOf_alike hZ.alike Ar5.2.1) Ar5.2.2 hin5 hat5 (g := (mkF m 31 #[.val (.int (12 : Int32))] [(.int ((12 : Int32) - (1 : Int32))), (.ref a_D)])) rfl rfl (hb hby dd12_31) _ ?_
    exact k)
  obtain ⟨fs, hr, hrun, hended, hW, hsame⟩ := X2.leave (v := some (.long (480000 : Int64))) (fun h => by rw [Bd.returns] at h; cases h)
  refine ⟨_, _, p6 _ ?_, hrun, hended, _, _, rfl, ?_, ⟨_, rfl⟩, hW, hsame.mono (by decide) (by decide)⟩
  · show Steps p.tables e below (T2.setTop (mkF m 32 #[.val (.int (12 : Int32))] [(.long (480000 : Int64))])) _
    exact retOut X2 hx Bd.returns rfl (Or.inr (Or.inl ⟨rfl, rfl, _, rfl⟩)) (hb hby dd12_32) hr
  · show Qd12 Z a_D kk h0 n0 _ T2.heap _
    rw [e2]
    exact ⟨rfl, N0, rfl⟩
theorem de12_0 : decode method_2_code 0 = .ok (.iload_n 0, 1) := by decide +kernel
theorem de12_1 : decode method_2_code 1 = .ok (.iconst 4, 1) := by decide +kernel
theorem de12_2 : decode method_2_code 2 = .ok (.if_icmp .gt 34, 3) := by decide +kernel
theorem de12_36 : decode method_2_code 36 = .ok (.iload_n 0, 1) := by decide +kernel
theorem de12_37 : decode method_2_code 37 = .ok (.bipush 14, 2) := by decide +kernel
theorem de12_39 : decode method_2_code 39 = .ok (.if_icmp .gt 12, 3) := by decide +kernel
theorem de12_42 : decode method_2_code 42 = .ok (.iload_n 0, 1) := by decide +kernel
theorem de12_43 : decode method_2_code 43 = .ok (.iconst 4, 1) := by decide +kernel
theorem de12_44 : decode method_2_code 44 = .ok (.isub, 1) := by decide +kernel
theorem de12_45 : decode method_2_code 45 = .ok (.i2l, 1) := by decide +kernel
theorem de12_46 : decode method_2_code 46 = .ok (.ldc2_w 15, 3) := by decide +kernel
theorem de12_49 : decode method_2_code 49 = .ok (.lmul, 1) := by decide +kernel
theorem de12_50 : decode method_2_code 50 = .ok (.lreturn, 1) := by decide +kernel
theorem pne12 : plainName "com/example/ordo/ordo/store/DelayLevelsDelayMillisPinLaw" = true := by first | (simp [plainName, overriddenIn]; done) | decide +kernel
theorem efe12 (m : MethodId)  : entryFrame m #[(.int (12 : Int32))] 1 = mkF m 0 #[.val (.int (12 : Int32))] [] := by first | (simp [entryFrame, mkF, argsToLocals, Value.category]; done) | rfl
def Qe12 (Z : State)  (h0 : Heap) (n0 : Nat) (v : Option Value) (h : Heap) (L : List Loc) : Prop := v = some (.long ((((12 : Int32) - (4 : Int32)).toInt64) * (60000 : Int64))) ∧ Fr n0 L ∧ h = h0
set_option maxRecDepth 65536 in
set_option maxHeartbeats 40000000 in
theorem rme12 (l : Launch) (Z : State) (a0 : Array Value) (hw : ∀ d ∈ tables_1, d.before a0 Z = true) (ws : List Jvm.Cond)  (h0 : Heap) (n0 : Nat) (Z0 : n0 ≤ h0.size) :
    MetFree l (⟨"com/example/ordo/ordo/store/DelayLevelsDelayMillisPinLaw", "expected", "(I)J"⟩ : MethodName) (head1 (Jvm.Cond.code (⟨"com/example/ordo/ordo/store/DelayLevelsDelayMillisPinLaw", "expected", "(I)J"⟩ : MethodName) method_2_code 1 (some .long) :: ws) ({ frames := 0, cells := 0, slots := 0, locals := 0 } : Room)) (fun a U => a = #[(.int (12 : Int32))] ∧ Z.Warmed39 U.vm ∧ U.heap = h0) (fun _ _ _ _ _ => True) (fun _ U o U' => ∃ v L, o = .returned v ∧ Qe12 Z  h0 n0 v U'.heap L ∧ FrameEnd U o U' L ({ frames := 0, cells := 0, slots := 0, locals := 0 } : Room).cells ({ frames := 0, cells := 0, slots := 0, locals := 0 } : Room).slots) := by
  refine MetFree.of_bodySF (plainFor_of_name pne12) hisR ?_
  intro p e s m args below meth c s₁ Bd hml0 hP hK
  obtain ⟨rfl, hZ, hh⟩ := hP
  have hx := Bd.exec
  have hby := Bd.bytes
  have hml : c.maxLocals = 1 := hml0
  have hown : s.vm.findClass "com/example/ordo/ordo/store/DelayLevelsDelayMillisPinLaw" = some m.cls := findClass_of_methodNamed Bd.named
  have hnm := (name_of_methodNamed Bd.named Bd.method).1
  have X0 : Stand p l e ({ frames := 0, cells := 0, slots := 0, locals := 0 } : Room) s m #[(.int (12 : Int32))] below meth c s₁ [] 0 0 := Stand.of_body Bd
  have e0 : s₁.heap = h0 := by rw [← hh, Bd.state]; rfl
  have N0 := Fr.nil n0
  have pre0 : ∀ t, Steps p.tables e below (s₁.setTop (mkF m 0 #[.val (.int (12 : Int32))] [])) t → Steps p.tables e below (s₁.setTop (entryFrame m #[(.int (12 : Int32))] 1)) t := fun t k => castTop (efe12 m ) k
  have p1 : ∀ t, Steps p.tables e below (s₁.setTop (mkF m 50 #[.val (.int (12 : Int32))] [(.long ((((12 : Int32) - (4 : Int32)).toInt64) * (60000 : Int64)))])) t → Steps p.tables e below (s₁.setTop (entryFrame m #[(.int (12 : Int32))] 1)) t := fun t k => pre0 t (by
    show Steps p.tables e below (s₁.setTop (mkF m 0 #[.val (.int (12 : Int32))] [])) _
    refine XS.iloadN X0.here hx rfl (hb hby de12_0) rfl ?_
    show Steps p.tables e below (s₁.setTop (mkF m 1 #[.val (.int (12 : Int32))] [(.int (12 : Int32))])) _
    refine XS.iconst X0.here hx rfl (hb hby de12_1) ?_
    show Steps p.tables e below (s₁.setTop (mkF m 2 #[.val (.int (12 : Int32))] [(.int (4 : Int32)), (.int (12 : Int32))])) _
    refine XS.icmpYes X0.here hx rfl (pc0 := 2) (pc' := 36) rfl (hb hby de12_2) rfl ((tlt (by decide)).2.2.1) (by decide) (by decide) ?_
    show Steps p.tables e below (s₁.setTop (mkF m 36 #[.val (.int (12 : Int32))] [])) _
    refine XS.iloadN X0.here hx rfl (hb hby de12_36) rfl ?_
    show Steps p.tables e below (s₁.setTop (mkF m 37 #[.val (.int (12 : Int32))] [(.int (12 : Int32))])) _
    refine XS.bipush X0.here hx rfl (hb hby de12_37) ?_
    show Steps p.tables e below (s₁.setTop (mkF m 39 #[.val (.int (12 : Int32))] [(.int (14 : Int32)), (.int (12 : Int32))])) _
    refine XS.icmpNo X0.here hx rfl (hb hby de12_39) rfl ((flt (by decide)).2.2.1) ?_
    show Steps p.tables e below (s₁.setTop (mkF m 42 #[.val (.int (12 : Int32))] [])) _
    refine XS.iloadN X0.here hx rfl (hb hby de12_42) rfl ?_
    show Steps p.tables e below (s₁.setTop (mkF m 43 #[.val (.int (12 : Int32))] [(.int (12 : Int32))])) _
    refine XS.iconst X0.here hx rfl (hb hby de12_43) ?_
    show Steps p.tables e below (s₁.setTop (mkF m 44 #[.val (.int (12 : Int32))] [(.int (4 : Int32)), (.int (12 : Int32))])) _
    refine XS.isub X0.here hx rfl (hb hby de12_44) rfl ?_
    show Steps p.tables e below (s₁.setTop (mkF m 45 #[.val (.int (12 : Int32))] [(.int ((12 : Int32) - (4 : Int32)))])) _
    refine XS.i2l X0.here hx rfl (hb hby de12_45) rfl ?_
    show Steps p.tables e below (s₁.setTop (mkF m 46 #[.val (.int (12 : Int32))] [(.long (((12 : Int32) - (4 : Int32)).toInt64))])) _
    refine X0.ldc2Long hx hown (mvT hZ (hw _ (List.mem_of_getElem? (i := 15) rfl))) (g := (mkF m 46 #[.val (.int (12 : Int32))] [(.long (((12 : Int32) - (4 : Int32)).toInt64))])) rfl (hb hby de12_46) _ ?_
    show Steps p.tables e below (s₁.setTop (mkF m 49 #[.val (.int (12 : Int32))] [(.long (60000 : Int64)), (.long (((12 : Int32) - (4 : Int32)).toInt64))])) _
    refine XS.lmul X0.here hx rfl (hb hby de12_49) rfl ?_
    exact k)
  obtain ⟨fs, hr, hrun, hended, hW, hsame⟩ := X0.leave (v := some (.long ((((12 : Int32) - (4 : Int32)).toInt64) * (60000 : Int64)))) (fun h => by rw [Bd.returns] at h; cases h)
  refine ⟨_, _, p1 _ ?_, hrun, hended, _, _, rfl, ?_, ⟨_, rfl⟩, hW, hsame.mono (by decide) (by decide)⟩
  · show Steps p.tables e below (s₁.setTop (mkF m 50 #[.val (.int (12 : Int32))] [(.long ((((12 : Int32) - (4 : Int32)).toInt64) * (60000 : Int64)))])) _
    exact retOut X0 hx Bd.returns rfl (Or.inr (Or.inl ⟨rfl, rfl, _, rfl⟩)) (hb hby de12_50) hr
  · show Qe12 Z  h0 n0 _ s₁.heap _
    rw [e0]
    exact ⟨rfl, N0, rfl⟩
theorem dd13_0 : decode prog_25_method_2_code 0 = .ok (.iload_n 0, 1) := by decide +kernel
theorem dd13_1 : decode prog_25_method_2_code 1 = .ok (.iconst 1, 1) := by decide +kernel
theorem dd13_2 : decode prog_25_method_2_code 2 = .ok (.if_icmp .lt 9, 3) := by decide +kernel
theorem dd13_5 : decode prog_25_method_2_code 5 = .ok (.iload_n 0, 1) := by decide +kernel
theorem dd13_6 : decode prog_25_method_2_code 6 = .ok (.bipush 18, 2) := by decide +kernel
theorem dd13_8 : decode prog_25_method_2_code 8 = .ok (.if_icmp .le 17, 3) := by decide +kernel
theorem dd13_25 : decode prog_25_method_2_code 25 = .ok (.getstatic 18, 3) := by decide +kernel
theorem dd13_28 : decode prog_25_method_2_code 28 = .ok (.iload_n 0, 1) := by decide +kernel
theorem dd13_29 : decode prog_25_method_2_code 29 = .ok (.iconst 1, 1) := by decide +kernel
theorem dd13_30 : decode prog_25_method_2_code 30 = .ok (.isub, 1) := by decide +kernel
theorem dd13_31 : decode prog_25_method_2_code 31 = .ok (.laload, 1) := by decide +kernel
theorem dd13_32 : decode prog_25_method_2_code 32 = .ok (.lreturn, 1) := by decide +kernel
theorem pnd13 : plainName "com/example/ordo/ordo/store/DelayLevels" = true := by first | (simp [plainName, overriddenIn]; done) | decide +kernel
theorem efd13 (m : MethodId)  : entryFrame m #[(.int (13 : Int32))] 1 = mkF m 0 #[.val (.int (13 : Int32))] [] := by first | (simp [entryFrame, mkF, argsToLocals, Value.category]; done) | rfl
def Qd13 (Z : State)  (a_D : Addr) (kk : ClassId) (h0 : Heap) (n0 : Nat) (v : Option Value) (h : Heap) (L : List Loc) : Prop := v = some (.long (540000 : Int64)) ∧ Fr n0 L ∧ h = h0
set_option maxRecDepth 65536 in
set_option maxHeartbeats 40000000 in
theorem rmd13 (l : Launch) (Z : State) (a0 : Array Value) (hw : ∀ d ∈ tables_1, d.before a0 Z = true) (ws : List Jvm.Cond)  (a_D : Addr) (kk : ClassId) (h0 : Heap) (n0 : Nat) (Z0 : n0 ≤ h0.size) (S_D : Sta Z h0 "com/example/ordo/ordo/store/DelayLevels" "DELAYS" "[J" (.ref a_D)) (V_D : Arv Z h0 a_D kk .long (18 : Int32) own_ds (.long (0 : Int64))) :
    MetFree l (⟨"com/example/ordo/ordo/store/DelayLevels", "delayMillis", "(I)J"⟩ : MethodName) (head1 (Jvm.Cond.code (⟨"com/example/ordo/ordo/store/DelayLevels", "delayMillis", "(I)J"⟩ : MethodName) prog_25_method_2_code 1 (some .long) :: ws) ({ frames := 0, cells := 0, slots := 0, locals := 0 } : Room)) (fun a U => a = #[(.int (13 : Int32))] ∧ Z.Warmed39 U.vm ∧ U.heap = h0) (fun _ _ _ _ _ => True) (fun _ U o U' => ∃ v L, o = .returned v ∧ Qd13 Z a_D kk h0 n0 v U'.heap L ∧ FrameEnd U o U' L ({ frames := 0, cells := 0, slots := 0, locals := 0 } : Room).cells ({ frames := 0, cells := 0, slots := 0, locals := 0 } : Room).slots) := by
  refine MetFree.of_bodySF (plainFor_of_name pnd13) hisR ?_
  intro p e s m args below meth c s₁ Bd hml0 hP hK
  obtain ⟨rfl, hZ, hh⟩ := hP
  have hx := Bd.exec
  have hby := Bd.bytes
  have hml : c.maxLocals = 1 := hml0
  have hown : s.vm.findClass "com/example/ordo/ordo/store/DelayLevels" = some m.cls := findClass_of_methodNamed Bd.named
  have hnm := (name_of_methodNamed Bd.named Bd.method).1
  have X0 : Stand p l e ({ frames := 0, cells := 0, slots := 0, locals := 0 } : Room) s m #[(.int (13 : Int32))] below meth c s₁ [] 0 0 := Stand.of_body Bd
  have e0 : s₁.heap = h0 := by rw [← hh, Bd.state]; rfl
  have N0 := Fr.nil n0
  have pre0 : ∀ t, Steps p.tables e below (s₁.setTop (mkF m 0 #[.val (.int (13 : Int32))] [])) t → Steps p.tables e below (s₁.setTop (entryFrame m #[(.int (13 : Int32))] 1)) t := fun t k => castTop (efd13 m ) k
  have p1 : ∀ t, Steps p.tables e below (s₁.setTop (mkF m 25 #[.val (.int (13 : Int32))] [])) t → Steps p.tables e below (s₁.setTop (entryFrame m #[(.int (13 : Int32))] 1)) t := fun t k => pre0 t (by
    show Steps p.tables e below (s₁.setTop (mkF m 0 #[.val (.int (13 : Int32))] [])) _
    refine XS.iloadN X0.here hx rfl (hb hby dd13_0) rfl ?_
    show Steps p.tables e below (s₁.setTop (mkF m 1 #[.val (.int (13 : Int32))] [(.int (13 : Int32))])) _
    refine XS.iconst X0.here hx rfl (hb hby dd13_1) ?_
    show Steps p.tables e below (s₁.setTop (mkF m 2 #[.val (.int (13 : Int32))] [(.int (1 : Int32)), (.int (13 : Int32))])) _
    refine XS.icmpNo X0.here hx rfl (hb hby dd13_2) rfl ((flt (by decide)).1) ?_
    show Steps p.tables e below (s₁.setTop (mkF m 5 #[.val (.int (13 : Int32))] [])) _
    refine XS.iloadN X0.here hx rfl (hb hby dd13_5) rfl ?_
    show Steps p.tables e below (s₁.setTop (mkF m 6 #[.val (.int (13 : Int32))] [(.int (13 : Int32))])) _
    refine XS.bipush X0.here hx rfl (hb hby dd13_6) ?_
    show Steps p.tables e below (s₁.setTop (mkF m 8 #[.val (.int (13 : Int32))] [(.int (18 : Int32)), (.int (13 : Int32))])) _
    refine XS.icmpYes X0.here hx rfl (pc0 := 8) (pc' := 25) rfl (hb hby dd13_8) rfl ((flt (by decide)).2.2.2) (by decide) (by decide) ?_
    exact k)
  obtain ⟨T2, X2, e2, st2⟩ := getS2 X0 hx hZ hown (host := "") (Or.inl (hw _ (List.mem_of_getElem? (i := 5) rfl))) Via.refl e0 S_D (g := (mkF m 25 #[.val (.int (13 : Int32))] [])) rfl (hb hby dd13_25)
  have p3 : ∀ t, Steps p.tables e below (T2.setTop (mkF m 28 #[.val (.int (13 : Int32))] [(.ref a_D)])) t → Steps p.tables e below (s₁.setTop (entryFrame m #[(.int (13 : Int32))] 1)) t := fun t k => p1 t (st2 t k)
  have p4 : ∀ t, Steps p.tables e below (T2.setTop (mkF m 31 #[.val (.int (13 : Int32))] [(.int ((13 : Int32) - (1 : Int32))), (.ref a_D)])) t → Steps p.tables e below (s₁.setTop (entryFrame m #[(.int (13 : Int32))] 1)) t := fun t k => p3 t (by
    show Steps p.tables e below (T2.setTop (mkF m 28 #[.val (.int (13 : Int32))] [(.ref a_D)])) _
    refine XS.iloadN X2.here hx rfl (hb hby dd13_28) rfl ?_
    show Steps p.tables e below (T2.setTop (mkF m 29 #[.val (.int (13 : Int32))] [(.int (13 : Int32)), (.ref a_D)])) _
    refine XS.iconst X2.here hx rfl (hb hby dd13_29) ?_
    show Steps p.tables e below (T2.setTop (mkF m 30 #[.val (.int (13 : Int32))] [(.int (1 : Int32)), (.int (13 : Int32)), (.ref a_D)])) _
    refine XS.isub X2.here hx rfl (hb hby dd13_30) rfl ?_
    exact k)
  obtain ⟨cl5, Ar5, q5, Sz5, Ng5, Hs5, G5⟩ := id V_D
  have hin5 : ¬ (((13 : Int32) - (1 : Int32)) < 0 ∨ cl5.slots.size ≤ (((13 : Int32) - (1 : Int32))).toNatClampNeg) := inb_of Sz5 ⟨by decide, by decide⟩
  have hat5 : cl5.slots[(((13 : Int32) - (1 : Int32))).toNatClampNeg]? = some (.long (540000 : Int64)) := Hs5.at hin5 (rfl)
  have p6 : ∀ t, Steps p.tables e below (T2.setTop (mkF m 32 #[.val (.int (13 : Int32))] [(.long (540000 : Int64))])) t → Steps p.tables e below (s₁.setTop (entryFrame m #[(.int (13 : Int32))] 1)) t := fun t k => p4 t (by
    show Steps p.tables e below (T2.setTop (mkF m 31 #[.val (.int (13 : Int32))] [(.int ((13 : Int32) - (1 : Int32))), (.ref a_D)])) _
    refine X2.laload hx (j := ((13 : Int32) - (1 : Int32))) (v := (.long (540000 : Int64))) (by rw [e2]; exact Ar5.1) (State.isArrayOf_alike hZ.alike Ar5.2.1) Ar5.2.2 hin5 hat5 (g := (mkF m 31 #[.val (.int (13 : Int32))] [(.int ((13 : Int32) - (1 : Int32))), (.ref a_D)])) rfl rfl (hb hby dd13_31) _ ?_
    exact k)
  obtain ⟨fs, hr, hrun, hended, hW, hsame⟩ := X2.leave (v := some (.long (540000 : Int64))) (fun h => by rw [Bd.returns] at h; cases h)
  refine ⟨_, _, p6 _ ?_, hrun, hended, _, _, rfl, ?_, ⟨_, rfl⟩, hW, hsame.mono (by decide) (by decide)⟩
  · show Steps p.tables e below (T2.setTop (mkF m 32 #[.val (.int (13 : Int32))] [(.long (540000 : Int64))])) _
    exact retOut X2 hx Bd.returns rfl (Or.inr (Or.inl ⟨rfl, rfl, _, rfl⟩)) (hb hby dd13_32) hr
  · show Qd13 Z a_D kk h0 n0 _ T2.heap _
    rw [e2]
    exact ⟨rfl, N0, rfl⟩
theorem de13_0 : decode method_2_code 0 = .ok (.iload_n 0, 1) := by decide +kernel
theorem de13_1 : decode method_2_code 1 = .ok (.iconst 4, 1) := by decide +kernel
theorem de13_2 : decode method_2_code 2 = .ok (.if_icmp .gt 34, 3) := by decide +kernel
theorem de13_36 : decode method_2_code 36 = .ok (.iload_n 0, 1) := by decide +kernel
theorem de13_37 : decode method_2_code 37 = .ok (.bipush 14, 2) := by decide +kernel
theorem de13_39 : decode method_2_code 39 = .ok (.if_icmp .gt 12, 3) := by decide +kernel
theorem de13_42 : decode method_2_code 42 = .ok (.iload_n 0, 1) := by decide +kernel
theorem de13_43 : decode method_2_code 43 = .ok (.iconst 4, 1) := by decide +kernel
theorem de13_44 : decode method_2_code 44 = .ok (.isub, 1) := by decide +kernel
theorem de13_45 : decode method_2_code 45 = .ok (.i2l, 1) := by decide +kernel
theorem de13_46 : decode method_2_code 46 = .ok (.ldc2_w 15, 3) := by decide +kernel
theorem de13_49 : decode method_2_code 49 = .ok (.lmul, 1) := by decide +kernel
theorem de13_50 : decode method_2_code 50 = .ok (.lreturn, 1) := by decide +kernel
theorem pne13 : plainName "com/example/ordo/ordo/store/DelayLevelsDelayMillisPinLaw" = true := by first | (simp [plainName, overriddenIn]; done) | decide +kernel
theorem efe13 (m : MethodId)  : entryFrame m #[(.int (13 : Int32))] 1 = mkF m 0 #[.val (.int (13 : Int32))] [] := by first | (simp [entryFrame, mkF, argsToLocals, Value.category]; done) | rfl
def Qe13 (Z : State)  (h0 : Heap) (n0 : Nat) (v : Option Value) (h : Heap) (L : List Loc) : Prop := v = some (.long ((((13 : Int32) - (4 : Int32)).toInt64) * (60000 : Int64))) ∧ Fr n0 L ∧ h = h0
set_option maxRecDepth 65536 in
set_option maxHeartbeats 40000000 in
theorem rme13 (l : Launch) (Z : State) (a0 : Array Value) (hw : ∀ d ∈ tables_1, d.before a0 Z = true) (ws : List Jvm.Cond)  (h0 : Heap) (n0 : Nat) (Z0 : n0 ≤ h0.size) :
    MetFree l (⟨"com/example/ordo/ordo/store/DelayLevelsDelayMillisPinLaw", "expected", "(I)J"⟩ : MethodName) (head1 (Jvm.Cond.code (⟨"com/example/ordo/ordo/store/DelayLevelsDelayMillisPinLaw", "expected", "(I)J"⟩ : MethodName) method_2_code 1 (some .long) :: ws) ({ frames := 0, cells := 0, slots := 0, locals := 0 } : Room)) (fun a U => a = #[(.int (13 : Int32))] ∧ Z.Warmed39 U.vm ∧ U.heap = h0) (fun _ _ _ _ _ => True) (fun _ U o U' => ∃ v L, o = .returned v ∧ Qe13 Z  h0 n0 v U'.heap L ∧ FrameEnd U o U' L ({ frames := 0, cells := 0, slots := 0, locals := 0 } : Room).cells ({ frames := 0, cells := 0, slots := 0, locals := 0 } : Room).slots) := by
  refine MetFree.of_bodySF (plainFor_of_name pne13) hisR ?_
  intro p e s m args below meth c s₁ Bd hml0 hP hK
  obtain ⟨rfl, hZ, hh⟩ := hP
  have hx := Bd.exec
  have hby := Bd.bytes
  have hml : c.maxLocals = 1 := hml0
  have hown : s.vm.findClass "com/example/ordo/ordo/store/DelayLevelsDelayMillisPinLaw" = some m.cls := findClass_of_methodNamed Bd.named
  have hnm := (name_of_methodNamed Bd.named Bd.method).1
  have X0 : Stand p l e ({ frames := 0, cells := 0, slots := 0, locals := 0 } : Room) s m #[(.int (13 : Int32))] below meth c s₁ [] 0 0 := Stand.of_body Bd
  have e0 : s₁.heap = h0 := by rw [← hh, Bd.state]; rfl
  have N0 := Fr.nil n0
  have pre0 : ∀ t, Steps p.tables e below (s₁.setTop (mkF m 0 #[.val (.int (13 : Int32))] [])) t → Steps p.tables e below (s₁.setTop (entryFrame m #[(.int (13 : Int32))] 1)) t := fun t k => castTop (efe13 m ) k
  have p1 : ∀ t, Steps p.tables e below (s₁.setTop (mkF m 50 #[.val (.int (13 : Int32))] [(.long ((((13 : Int32) - (4 : Int32)).toInt64) * (60000 : Int64)))])) t → Steps p.tables e below (s₁.setTop (entryFrame m #[(.int (13 : Int32))] 1)) t := fun t k => pre0 t (by
    show Steps p.tables e below (s₁.setTop (mkF m 0 #[.val (.int (13 : Int32))] [])) _
    refine XS.iloadN X0.here hx rfl (hb hby de13_0) rfl ?_
    show Steps p.tables e below (s₁.setTop (mkF m 1 #[.val (.int (13 : Int32))] [(.int (13 : Int32))])) _
    refine XS.iconst X0.here hx rfl (hb hby de13_1) ?_
    show Steps p.tables e below (s₁.setTop (mkF m 2 #[.val (.int (13 : Int32))] [(.int (4 : Int32)), (.int (13 : Int32))])) _
    refine XS.icmpYes X0.here hx rfl (pc0 := 2) (pc' := 36) rfl (hb hby de13_2) rfl ((tlt (by decide)).2.2.1) (by decide) (by decide) ?_
    show Steps p.tables e below (s₁.setTop (mkF m 36 #[.val (.int (13 : Int32))] [])) _
    refine XS.iloadN X0.here hx rfl (hb hby de13_36) rfl ?_
    show Steps p.tables e below (s₁.setTop (mkF m 37 #[.val (.int (13 : Int32))] [(.int (13 : Int32))])) _
    refine XS.bipush X0.here hx rfl (hb hby de13_37) ?_
    show Steps p.tables e below (s₁.setTop (mkF m 39 #[.val (.int (13 : Int32))] [(.int (14 : Int32)), (.int (13 : Int32))])) _
    refine XS.icmpNo X0.here hx rfl (hb hby de13_39) rfl ((flt (by decide)).2.2.1) ?_
    show Steps p.tables e below (s₁.setTop (mkF m 42 #[.val (.int (13 : Int32))] [])) _
    refine XS.iloadN X0.here hx rfl (hb hby de13_42) rfl ?_
    show Steps p.tables e below (s₁.setTop (mkF m 43 #[.val (.int (13 : Int32))] [(.int (13 : Int32))])) _
    refine XS.iconst X0.here hx rfl (hb hby de13_43) ?_
    show Steps p.tables e below (s₁.setTop (mkF m 44 #[.val (.int (13 : Int32))] [(.int (4 : Int32)), (.int (13 : Int32))])) _
    refine XS.isub X0.here hx rfl (hb hby de13_44) rfl ?_
    show Steps p.tables e below (s₁.setTop (mkF m 45 #[.val (.int (13 : Int32))] [(.int ((13 : Int32) - (4 : Int32)))])) _
    refine XS.i2l X0.here hx rfl (hb hby de13_45) rfl ?_
    show Steps p.tables e below (s₁.setTop (mkF m 46 #[.val (.int (13 : Int32))] [(.long (((13 : Int32) - (4 : Int32)).toInt64))])) _
    refine X0.ldc2Long hx hown (mvT hZ (hw _ (List.mem_of_getElem? (i := 15) rfl))) (g := (mkF m 46 #[.val (.int (13 : Int32))] [(.long (((13 : Int32) - (4 : Int32)).toInt64))])) rfl (hb hby de13_46) _ ?_
    show Steps p.tables e below (s₁.setTop (mkF m 49 #[.val (.int (13 : Int32))] [(.long (60000 : Int64)), (.long (((13 : Int32) - (4 : Int32)).toInt64))])) _
    refine XS.lmul X0.here hx rfl (hb hby de13_49) rfl ?_
    exact k)
  obtain ⟨fs, hr, hrun, hended, hW, hsame⟩ := X0.leave (v := some (.long ((((13 : Int32) - (4 : Int32)).toInt64) * (60000 : Int64)))) (fun h => by rw [Bd.returns] at h; cases h)
  refine ⟨_, _, p1 _ ?_, hrun, hended, _, _, rfl, ?_, ⟨_, rfl⟩, hW, hsame.mono (by decide) (by decide)⟩
  · show Steps p.tables e below (s₁.setTop (mkF m 50 #[.val (.int (13 : Int32))] [(.long ((((13 : Int32) - (4 : Int32)).toInt64) * (60000 : Int64)))])) _
    exact retOut X0 hx Bd.returns rfl (Or.inr (Or.inl ⟨rfl, rfl, _, rfl⟩)) (hb hby de13_50) hr
  · show Qe13 Z  h0 n0 _ s₁.heap _
    rw [e0]
    exact ⟨rfl, N0, rfl⟩
theorem dd14_0 : decode prog_25_method_2_code 0 = .ok (.iload_n 0, 1) := by decide +kernel
theorem dd14_1 : decode prog_25_method_2_code 1 = .ok (.iconst 1, 1) := by decide +kernel
theorem dd14_2 : decode prog_25_method_2_code 2 = .ok (.if_icmp .lt 9, 3) := by decide +kernel
theorem dd14_5 : decode prog_25_method_2_code 5 = .ok (.iload_n 0, 1) := by decide +kernel
theorem dd14_6 : decode prog_25_method_2_code 6 = .ok (.bipush 18, 2) := by decide +kernel
theorem dd14_8 : decode prog_25_method_2_code 8 = .ok (.if_icmp .le 17, 3) := by decide +kernel
theorem dd14_25 : decode prog_25_method_2_code 25 = .ok (.getstatic 18, 3) := by decide +kernel
theorem dd14_28 : decode prog_25_method_2_code 28 = .ok (.iload_n 0, 1) := by decide +kernel
theorem dd14_29 : decode prog_25_method_2_code 29 = .ok (.iconst 1, 1) := by decide +kernel
theorem dd14_30 : decode prog_25_method_2_code 30 = .ok (.isub, 1) := by decide +kernel
theorem dd14_31 : decode prog_25_method_2_code 31 = .ok (.laload, 1) := by decide +kernel
theorem dd14_32 : decode prog_25_method_2_code 32 = .ok (.lreturn, 1) := by decide +kernel
theorem pnd14 : plainName "com/example/ordo/ordo/store/DelayLevels" = true := by first | (simp [plainName, overriddenIn]; done) | decide +kernel
theorem efd14 (m : MethodId)  : entryFrame m #[(.int (14 : Int32))] 1 = mkF m 0 #[.val (.int (14 : Int32))] [] := by first | (simp [entryFrame, mkF, argsToLocals, Value.category]; done) | rfl
def Qd14 (Z : State)  (a_D : Addr) (kk : ClassId) (h0 : Heap) (n0 : Nat) (v : Option Value) (h : Heap) (L : List Loc) : Prop := v = some (.long (600000 : Int64)) ∧ Fr n0 L ∧ h = h0
set_option maxRecDepth 65536 in
set_option maxHeartbeats 40000000 in
theorem rmd14 (l : Launch) (Z : State) (a0 : Array Value) (hw : ∀ d ∈ tables_1, d.before a0 Z = true) (ws : List Jvm.Cond)  (a_D : Addr) (kk : ClassId) (h0 : Heap) (n0 : Nat) (Z0 : n0 ≤ h0.size) (S_D : Sta Z h0 "com/example/ordo/ordo/store/DelayLevels" "DELAYS" "[J" (.ref a_D)) (V_D : Arv Z h0 a_D kk .long (18 : Int32) own_ds (.long (0 : Int64))) :
    MetFree l (⟨"com/example/ordo/ordo/store/DelayLevels", "delayMillis", "(I)J"⟩ : MethodName) (head1 (Jvm.Cond.code (⟨"com/example/ordo/ordo/store/DelayLevels", "delayMillis", "(I)J"⟩ : MethodName) prog_25_method_2_code 1 (some .long) :: ws) ({ frames := 0, cells := 0, slots := 0, locals := 0 } : Room)) (fun a U => a = #[(.int (14 : Int32))] ∧ Z.Warmed39 U.vm ∧ U.heap = h0) (fun _ _ _ _ _ => True) (fun _ U o U' => ∃ v L, o = .returned v ∧ Qd14 Z a_D kk h0 n0 v U'.heap L ∧ FrameEnd U o U' L ({ frames := 0, cells := 0, slots := 0, locals := 0 } : Room).cells ({ frames := 0, cells := 0, slots := 0, locals := 0 } : Room).slots) := by
  refine MetFree.of_bodySF (plainFor_of_name pnd14) hisR ?_
  intro p e s m args below meth c s₁ Bd hml0 hP hK
  obtain ⟨rfl, hZ, hh⟩ := hP
  have hx := Bd.exec
  have hby := Bd.bytes
  have hml : c.maxLocals = 1 := hml0
  have hown : s.vm.findClass "com/example/ordo/ordo/store/DelayLevels" = some m.cls := findClass_of_methodNamed Bd.named
  have hnm := (name_of_methodNamed Bd.named Bd.method).1
  have X0 : Stand p l e ({ frames := 0, cells := 0, slots := 0, locals := 0 } : Room) s m #[(.int (14 : Int32))] below meth c s₁ [] 0 0 := Stand.of_body Bd
  have e0 : s₁.heap = h0 := by rw [← hh, Bd.state]; rfl
  have N0 := Fr.nil n0
  have pre0 : ∀ t, Steps p.tables e below (s₁.setTop (mkF m 0 #[.val (.int (14 : Int32))] [])) t → Steps p.tables e below (s₁.setTop (entryFrame m #[(.int (14 : Int32))] 1)) t := fun t k => castTop (efd14 m ) k
  have p1 : ∀ t, Steps p.tables e below (s₁.setTop (mkF m 25 #[.val (.int (14 : Int32))] [])) t → Steps p.tables e below (s₁.setTop (entryFrame m #[(.int (14 : Int32))] 1)) t := fun t k => pre0 t (by
    show Steps p.tables e below (s₁.setTop (mkF m 0 #[.val (.int (14 : Int32))] [])) _
    refine XS.iloadN X0.here hx rfl (hb hby dd14_0) rfl ?_
    show Steps p.tables e below (s₁.setTop (mkF m 1 #[.val (.int (14 : Int32))] [(.int (14 : Int32))])) _
    refine XS.iconst X0.here hx rfl (hb hby dd14_1) ?_
    show Steps p.tables e below (s₁.setTop (mkF m 2 #[.val (.int (14 : Int32))] [(.int (1 : Int32)), (.int (14 : Int32))])) _
    refine XS.icmpNo X0.here hx rfl (hb hby dd14_2) rfl ((flt (by decide)).1) ?_
    show Steps p.tables e below (s₁.setTop (mkF m 5 #[.val (.int (14 : Int32))] [])) _
    refine XS.iloadN X0.here hx rfl (hb hby dd14_5) rfl ?_
    show Steps p.tables e below (s₁.setTop (mkF m 6 #[.val (.int (14 : Int32))] [(.int (14 : Int32))])) _
    refine XS.bipush X0.here hx rfl (hb hby dd14_6) ?_
    show Steps p.tables e below (s₁.setTop (mkF m 8 #[.val (.int (14 : Int32))] [(.int (18 : Int32)), (.int (14 : Int32))])) _
    refine XS.icmpYes X0.here hx rfl (pc0 := 8) (pc' := 25) rfl (hb hby dd14_8) rfl ((flt (by decide)).2.2.2) (by decide) (by decide) ?_
    exact k)
  obtain ⟨T2, X2, e2, st2⟩ := getS2 X0 hx hZ hown (host := "") (Or.inl (hw _ (List.mem_of_getElem? (i := 5) rfl))) Via.refl e0 S_D (g := (mkF m 25 #[.val (.int (14 : Int32))] [])) rfl (hb hby dd14_25)
  have p3 : ∀ t, Steps p.tables e below (T2.setTop (mkF m 28 #[.val (.int (14 : Int32))] [(.ref a_D)])) t → Steps p.tables e below (s₁.setTop (entryFrame m #[(.int (14 : Int32))] 1)) t := fun t k => p1 t (st2 t k)
  have p4 : ∀ t, Steps p.tables e below (T2.setTop (mkF m 31 #[.val (.int (14 : Int32))] [(.int ((14 : Int32) - (1 : Int32))), (.ref a_D)])) t → Steps p.tables e below (s₁.setTop (entryFrame m #[(.int (14 : Int32))] 1)) t := fun t k => p3 t (by
    show Steps p.tables e below (T2.setTop (mkF m 28 #[.val (.int (14 : Int32))] [(.ref a_D)])) _
    refine XS.iloadN X2.here hx rfl (hb hby dd14_28) rfl ?_
    show Steps p.tables e below (T2.setTop (mkF m 29 #[.val (.int (14 : Int32))] [(.int (14 : Int32)), (.ref a_D)])) _
    refine XS.iconst X2.here hx rfl (hb hby dd14_29) ?_
    show Steps p.tables e below (T2.setTop (mkF m 30 #[.val (.int (14 : Int32))] [(.int (1 : Int32)), (.int (14 : Int32)), (.ref a_D)])) _
    refine XS.isub X2.here hx rfl (hb hby dd14_30) rfl ?_
    exact k)
  obtain ⟨cl5, Ar5, q5, Sz5, Ng5, Hs5, G5⟩ := id V_D
  have hin5 : ¬ (((14 : Int32) - (1 : Int32)) < 0 ∨ cl5.slots.size ≤ (((14 : Int32) - (1 : Int32))).toNatClampNeg) := inb_of Sz5 ⟨by decide, by decide⟩
  have hat5 : cl5.slots[(((14 : Int32) - (1 : Int32))).toNatClampNeg]? = some (.long (600000 : Int64)) := Hs5.at hin5 (rfl)
  have p6 : ∀ t, Steps p.tables e below (T2.setTop (mkF m 32 #[.val (.int (14 : Int32))] [(.long (600000 : Int64))])) t → Steps p.tables e below (s₁.setTop (entryFrame m #[(.int (14 : Int32))] 1)) t := fun t k => p4 t (by
    show Steps p.tables e below (T2.setTop (mkF m 31 #[.val (.int (14 : Int32))] [(.int ((14 : Int32) - (1 : Int32))), (.ref a_D)])) _
    refine X2.laload hx (j := ((14 : Int32) - (1 : Int32))) (v := (.long (600000 : Int64))) (by rw [e2]; exact Ar5.1) (State.isArrayOf_alike hZ.alike Ar5.2.1) Ar5.2.2 hin5 hat5 (g := (mkF m 31 #[.val (.int (14 : Int32))] [(.int ((14 : Int32) - (1 : Int32))), (.ref a_D)])) rfl rfl (hb hby dd14_31) _ ?_
    exact k)
  obtain ⟨fs, hr, hrun, hended, hW, hsame⟩ := X2.leave (v := some (.long (600000 : Int64))) (fun h => by rw [Bd.returns] at h; cases h)
  refine ⟨_, _, p6 _ ?_, hrun, hended, _, _, rfl, ?_, ⟨_, rfl⟩, hW, hsame.mono (by decide) (by decide)⟩
  · show Steps p.tables e below (T2.setTop (mkF m 32 #[.val (.int (14 : Int32))] [(.long (600000 : Int64))])) _
    exact retOut X2 hx Bd.returns rfl (Or.inr (Or.inl ⟨rfl, rfl, _, rfl⟩)) (hb hby dd14_32) hr
  · show Qd14 Z a_D kk h0 n0 _ T2.heap _
    rw [e2]
    exact ⟨rfl, N0, rfl⟩
theorem de14_0 : decode method_2_code 0 = .ok (.iload_n 0, 1) := by decide +kernel
theorem de14_1 : decode method_2_code 1 = .ok (.iconst 4, 1) := by decide +kernel
theorem de14_2 : decode method_2_code 2 = .ok (.if_icmp .gt 34, 3) := by decide +kernel
theorem de14_36 : decode method_2_code 36 = .ok (.iload_n 0, 1) := by decide +kernel
theorem de14_37 : decode method_2_code 37 = .ok (.bipush 14, 2) := by decide +kernel
theorem de14_39 : decode method_2_code 39 = .ok (.if_icmp .gt 12, 3) := by decide +kernel
theorem de14_42 : decode method_2_code 42 = .ok (.iload_n 0, 1) := by decide +kernel
theorem de14_43 : decode method_2_code 43 = .ok (.iconst 4, 1) := by decide +kernel
theorem de14_44 : decode method_2_code 44 = .ok (.isub, 1) := by decide +kernel
theorem de14_45 : decode method_2_code 45 = .ok (.i2l, 1) := by decide +kernel
theorem de14_46 : decode method_2_code 46 = .ok (.ldc2_w 15, 3) := by decide +kernel
theorem de14_49 : decode method_2_code 49 = .ok (.lmul, 1) := by decide +kernel
theorem de14_50 : decode method_2_code 50 = .ok (.lreturn, 1) := by decide +kernel
theorem pne14 : plainName "com/example/ordo/ordo/store/DelayLevelsDelayMillisPinLaw" = true := by first | (simp [plainName, overriddenIn]; done) | decide +kernel
theorem efe14 (m : MethodId)  : entryFrame m #[(.int (14 : Int32))] 1 = mkF m 0 #[.val (.int (14 : Int32))] [] := by first | (simp [entryFrame, mkF, argsToLocals, Value.category]; done) | rfl
def Qe14 (Z : State)  (h0 : Heap) (n0 : Nat) (v : Option Value) (h : Heap) (L : List Loc) : Prop := v = some (.long ((((14 : Int32) - (4 : Int32)).toInt64) * (60000 : Int64))) ∧ Fr n0 L ∧ h = h0
set_option maxRecDepth 65536 in
set_option maxHeartbeats 40000000 in
theorem rme14 (l : Launch) (Z : State) (a0 : Array Value) (hw : ∀ d ∈ tables_1, d.before a0 Z = true) (ws : List Jvm.Cond)  (h0 : Heap) (n0 : Nat) (Z0 : n0 ≤ h0.size) :
    MetFree l (⟨"com/example/ordo/ordo/store/DelayLevelsDelayMillisPinLaw", "expected", "(I)J"⟩ : MethodName) (head1 (Jvm.Cond.code (⟨"com/example/ordo/ordo/store/DelayLevelsDelayMillisPinLaw", "expected", "(I)J"⟩ : MethodName) method_2_code 1 (some .long) :: ws) ({ frames := 0, cells := 0, slots := 0, locals := 0 } : Room)) (fun a U => a = #[(.int (14 : Int32))] ∧ Z.Warmed39 U.vm ∧ U.heap = h0) (fun _ _ _ _ _ => True) (fun _ U o U' => ∃ v L, o = .returned v ∧ Qe14 Z  h0 n0 v U'.heap L ∧ FrameEnd U o U' L ({ frames := 0, cells := 0, slots := 0, locals := 0 } : Room).cells ({ frames := 0, cells := 0, slots := 0, locals := 0 } : Room).slots) := by
  refine MetFree.of_bodySF (plainFor_of_name pne14) hisR ?_
  intro p e s m args below meth c s₁ Bd hml0 hP hK
  obtain ⟨rfl, hZ, hh⟩ := hP
  have hx := Bd.exec
  have hby := Bd.bytes
  have hml : c.maxLocals = 1 := hml0
  have hown : s.vm.findClass "com/example/ordo/ordo/store/DelayLevelsDelayMillisPinLaw" = some m.cls := findClass_of_methodNamed Bd.named
  have hnm := (name_of_methodNamed Bd.named Bd.method).1
  have X0 : Stand p l e ({ frames := 0, cells := 0, slots := 0, locals := 0 } : Room) s m #[(.int (14 : Int32))] below meth c s₁ [] 0 0 := Stand.of_body Bd
  have e0 : s₁.heap = h0 := by rw [← hh, Bd.state]; rfl
  have N0 := Fr.nil n0
  have pre0 : ∀ t, Steps p.tables e below (s₁.setTop (mkF m 0 #[.val (.int (14 : Int32))] [])) t → Steps p.tables e below (s₁.setTop (entryFrame m #[(.int (14 : Int32))] 1)) t := fun t k => castTop (efe14 m ) k
  have p1 : ∀ t, Steps p.tables e below (s₁.setTop (mkF m 50 #[.val (.int (14 : Int32))] [(.long ((((14 : Int32) - (4 : Int32)).toInt64) * (60000 : Int64)))])) t → Steps p.tables e below (s₁.setTop (entryFrame m #[(.int (14 : Int32))] 1)) t := fun t k => pre0 t (by
    show Steps p.tables e below (s₁.setTop (mkF m 0 #[.val (.int (14 : Int32))] [])) _
    refine XS.iloadN X0.here hx rfl (hb hby de14_0) rfl ?_
    show Steps p.tables e below (s₁.setTop (mkF m 1 #[.val (.int (14 : Int32))] [(.int (14 : Int32))])) _
    refine XS.iconst X0.here hx rfl (hb hby de14_1) ?_
    show Steps p.tables e below (s₁.setTop (mkF m 2 #[.val (.int (14 : Int32))] [(.int (4 : Int32)), (.int (14 : Int32))])) _
    refine XS.icmpYes X0.here hx rfl (pc0 := 2) (pc' := 36) rfl (hb hby de14_2) rfl ((tlt (by decide)).2.2.1) (by decide) (by decide) ?_
    show Steps p.tables e below (s₁.setTop (mkF m 36 #[.val (.int (14 : Int32))] [])) _
    refine XS.iloadN X0.here hx rfl (hb hby de14_36) rfl ?_
    show Steps p.tables e below (s₁.setTop (mkF m 37 #[.val (.int (14 : Int32))] [(.int (14 : Int32))])) _
    refine XS.bipush X0.here hx rfl (hb hby de14_37) ?_
    show Steps p.tables e below (s₁.setTop (mkF m 39 #[.val (.int (14 : Int32))] [(.int (14 : Int32)), (.int (14 : Int32))])) _
    refine XS.icmpNo X0.here hx rfl (hb hby de14_39) rfl ((flt (by decide)).2.2.1) ?_
    show Steps p.tables e below (s₁.setTop (mkF m 42 #[.val (.int (14 : Int32))] [])) _
    refine XS.iloadN X0.here hx rfl (hb hby de14_42) rfl ?_
    show Steps p.tables e below (s₁.setTop (mkF m 43 #[.val (.int (14 : Int32))] [(.int (14 : Int32))])) _
    refine XS.iconst X0.here hx rfl (hb hby de14_43) ?_
    show Steps p.tables e below (s₁.setTop (mkF m 44 #[.val (.int (14 : Int32))] [(.int (4 : Int32)), (.int (14 : Int32))])) _
    refine XS.isub X0.here hx rfl (hb hby de14_44) rfl ?_
    show Steps p.tables e below (s₁.setTop (mkF m 45 #[.val (.int (14 : Int32))] [(.int ((14 : Int32) - (4 : Int32)))])) _
    refine XS.i2l X0.here hx rfl (hb hby de14_45) rfl ?_
    show Steps p.tables e below (s₁.setTop (mkF m 46 #[.val (.int (14 : Int32))] [(.long (((14 : Int32) - (4 : Int32)).toInt64))])) _
    refine X0.ldc2Long hx hown (mvT hZ (hw _ (List.mem_of_getElem? (i := 15) rfl))) (g := (mkF m 46 #[.val (.int (14 : Int32))] [(.long (((14 : Int32) - (4 : Int32)).toInt64))])) rfl (hb hby de14_46) _ ?_
    show Steps p.tables e below (s₁.setTop (mkF m 49 #[.val (.int (14 : Int32))] [(.long (60000 : Int64)), (.long (((14 : Int32) - (4 : Int32)).toInt64))])) _
    refine XS.lmul X0.here hx rfl (hb hby de14_49) rfl ?_
    exact k)
  obtain ⟨fs, hr, hrun, hended, hW, hsame⟩ := X0.leave (v := some (.long ((((14 : Int32) - (4 : Int32)).toInt64) * (60000 : Int64)))) (fun h => by rw [Bd.returns] at h; cases h)
  refine ⟨_, _, p1 _ ?_, hrun, hended, _, _, rfl, ?_, ⟨_, rfl⟩, hW, hsame.mono (by decide) (by decide)⟩
  · show Steps p.tables e below (s₁.setTop (mkF m 50 #[.val (.int (14 : Int32))] [(.long ((((14 : Int32) - (4 : Int32)).toInt64) * (60000 : Int64)))])) _
    exact retOut X0 hx Bd.returns rfl (Or.inr (Or.inl ⟨rfl, rfl, _, rfl⟩)) (hb hby de14_50) hr
  · show Qe14 Z  h0 n0 _ s₁.heap _
    rw [e0]
    exact ⟨rfl, N0, rfl⟩
theorem dd15_0 : decode prog_25_method_2_code 0 = .ok (.iload_n 0, 1) := by decide +kernel
theorem dd15_1 : decode prog_25_method_2_code 1 = .ok (.iconst 1, 1) := by decide +kernel
theorem dd15_2 : decode prog_25_method_2_code 2 = .ok (.if_icmp .lt 9, 3) := by decide +kernel
theorem dd15_5 : decode prog_25_method_2_code 5 = .ok (.iload_n 0, 1) := by decide +kernel
theorem dd15_6 : decode prog_25_method_2_code 6 = .ok (.bipush 18, 2) := by decide +kernel
theorem dd15_8 : decode prog_25_method_2_code 8 = .ok (.if_icmp .le 17, 3) := by decide +kernel
theorem dd15_25 : decode prog_25_method_2_code 25 = .ok (.getstatic 18, 3) := by decide +kernel
theorem dd15_28 : decode prog_25_method_2_code 28 = .ok (.iload_n 0, 1) := by decide +kernel
theorem dd15_29 : decode prog_25_method_2_code 29 = .ok (.iconst 1, 1) := by decide +kernel
theorem dd15_30 : decode prog_25_method_2_code 30 = .ok (.isub, 1) := by decide +kernel
theorem dd15_31 : decode prog_25_method_2_code 31 = .ok (.laload, 1) := by decide +kernel
theorem dd15_32 : decode prog_25_method_2_code 32 = .ok (.lreturn, 1) := by decide +kernel
theorem pnd15 : plainName "com/example/ordo/ordo/store/DelayLevels" = true := by first | (simp [plainName, overriddenIn]; done) | decide +kernel
theorem efd15 (m : MethodId)  : entryFrame m #[(.int (15 : Int32))] 1 = mkF m 0 #[.val (.int (15 : Int32))] [] := by first | (simp [entryFrame, mkF, argsToLocals, Value.category]; done) | rfl
def Qd15 (Z : State)  (a_D : Addr) (kk : ClassId) (h0 : Heap) (n0 : Nat) (v : Option Value) (h : Heap) (L : List Loc) : Prop := v = some (.long (1200000 : Int64)) ∧ Fr n0 L ∧ h = h0
set_option maxRecDepth 65536 in
set_option maxHeartbeats 40000000 in
theorem rmd15 (l : Launch) (Z : State) (a0 : Array Value) (hw : ∀ d ∈ tables_1, d.before a0 Z = true) (ws : List Jvm.Cond)  (a_D : Addr) (kk : ClassId) (h0 : Heap) (n0 : Nat) (Z0 : n0 ≤ h0.size) (S_D : Sta Z h0 "com/example/ordo/ordo/store/DelayLevels" "DELAYS" "[J" (.ref a_D)) (V_D : Arv Z h0 a_D kk .long (18 : Int32) own_ds (.long (0 : Int64))) :
    MetFree l (⟨"com/example/ordo/ordo/store/DelayLevels", "delayMillis", "(I)J"⟩ : MethodName) (head1 (Jvm.Cond.code (⟨"com/example/ordo/ordo/store/DelayLevels", "delayMillis", "(I)J"⟩ : MethodName) prog_25_method_2_code 1 (some .long) :: ws) ({ frames := 0, cells := 0, slots := 0, locals := 0 } : Room)) (fun a U => a = #[(.int (15 : Int32))] ∧ Z.Warmed39 U.vm ∧ U.heap = h0) (fun _ _ _ _ _ => True) (fun _ U o U' => ∃ v L, o = .returned v ∧ Qd15 Z a_D kk h0 n0 v U'.heap L ∧ FrameEnd U o U' L ({ frames := 0, cells := 0, slots := 0, locals := 0 } : Room).cells ({ frames := 0, cells := 0, slots := 0, locals := 0 } : Room).slots) := by
  refine MetFree.of_bodySF (plainFor_of_name pnd15) hisR ?_
  intro p e s m args below meth c s₁ Bd hml0 hP hK
  obtain ⟨rfl, hZ, hh⟩ := hP
  have hx := Bd.exec
  have hby := Bd.bytes
  have hml : c.maxLocals = 1 := hml0
  have hown : s.vm.findClass "com/example/ordo/ordo/store/DelayLevels" = some m.cls := findClass_of_methodNamed Bd.named
  have hnm := (name_of_methodNamed Bd.named Bd.method).1
  have X0 : Stand p l e ({ frames := 0, cells := 0, slots := 0, locals := 0 } : Room) s m #[(.int (15 : Int32))] below meth c s₁ [] 0 0 := Stand.of_body Bd
  have e0 : s₁.heap = h0 := by rw [← hh, Bd.state]; rfl
  have N0 := Fr.nil n0
  have pre0 : ∀ t, Steps p.tables e below (s₁.setTop (mkF m 0 #[.val (.int (15 : Int32))] [])) t → Steps p.tables e below (s₁.setTop (entryFrame m #[(.int (15 : Int32))] 1)) t := fun t k => castTop (efd15 m ) k
  have p1 : ∀ t, Steps p.tables e below (s₁.setTop (mkF m 25 #[.val (.int (15 : Int32))] [])) t → Steps p.tables e below (s₁.setTop (entryFrame m #[(.int (15 : Int32))] 1)) t := fun t k => pre0 t (by
    show Steps p.tables e below (s₁.setTop (mkF m 0 #[.val (.int (15 : Int32))] [])) _
    refine XS.iloadN X0.here hx rfl (hb hby dd15_0) rfl ?_
    show Steps p.tables e below (s₁.setTop (mkF m 1 #[.val (.int (15 : Int32))] [(.int (15 : Int32))])) _
    refine XS.iconst X0.here hx rfl (hb hby dd15_1) ?_
    show Steps p.tables e below (s₁.setTop (mkF m 2 #[.val (.int (15 : Int32))] [(.int (1 : Int32)), (.int (15 : Int32))])) _
    refine XS.icmpNo X0.here hx rfl (hb hby dd15_2) rfl ((flt (by decide)).1) ?_
    show Steps p.tables e below (s₁.setTop (mkF m 5 #[.val (.int (15 : Int32))] [])) _
    refine XS.iloadN X0.here hx rfl (hb hby dd15_5) rfl ?_
    show Steps p.tables e below (s₁.setTop (mkF m 6 #[.val (.int (15 : Int32))] [(.int (15 : Int32))])) _
    refine XS.bipush X0.here hx rfl (hb hby dd15_6) ?_
    show Steps p.tables e below (s₁.setTop (mkF m 8 #[.val (.int (15 : Int32))] [(.int (18 : Int32)), (.int (15 : Int32))])) _
    refine XS.icmpYes X0.here hx rfl (pc0 := 8) (pc' := 25) rfl (hb hby dd15_8) rfl ((flt (by decide)).2.2.2) (by decide) (by decide) ?_
    exact k)
  obtain ⟨T2, X2, e2, st2⟩ := getS2 X0 hx hZ hown (host := "") (Or.inl (hw _ (List.mem_of_getElem? (i := 5) rfl))) Via.refl e0 S_D (g := (mkF m 25 #[.val (.int (15 : Int32))] [])) rfl (hb hby dd15_25)
  have p3 : ∀ t, Steps p.tables e below (T2.setTop (mkF m 28 #[.val (.int (15 : Int32))] [(.ref a_D)])) t → Steps p.tables e below (s₁.setTop (entryFrame m #[(.int (15 : Int32))] 1)) t := fun t k => p1 t (st2 t k)
  have p4 : ∀ t, Steps p.tables e below (T2.setTop (mkF m 31 #[.val (.int (15 : Int32))] [(.int ((15 : Int32) - (1 : Int32))), (.ref a_D)])) t → Steps p.tables e below (s₁.setTop (entryFrame m #[(.int (15 : Int32))] 1)) t := fun t k => p3 t (by
    show Steps p.tables e below (T2.setTop (mkF m 28 #[.val (.int (15 : Int32))] [(.ref a_D)])) _
    refine XS.iloadN X2.here hx rfl (hb hby dd15_28) rfl ?_
    show Steps p.tables e below (T2.setTop (mkF m 29 #[.val (.int (15 : Int32))] [(.int (15 : Int32)), (.ref a_D)])) _
    refine XS.iconst X2.here hx rfl (hb hby dd15_29) ?_
    show Steps p.tables e below (T2.setTop (mkF m 30 #[.val (.int (15 : Int32))] [(.int (1 : Int32)), (.int (15 : Int32)), (.ref a_D)])) _
    refine XS.isub X2.here hx rfl (hb hby dd15_30) rfl ?_
    exact k)
  obtain ⟨cl5, Ar5, q5, Sz5, Ng5, Hs5, G5⟩ := id V_D
  have hin5 : ¬ (((15 : Int32) - (1 : Int32)) < 0 ∨ cl5.slots.size ≤ (((15 : Int32) - (1 : Int32))).toNatClampNeg) := inb_of Sz5 ⟨by decide, by decide⟩
  have hat5 : cl5.slots[(((15 : Int32) - (1 : Int32))).toNatClampNeg]? = some (.long (1200000 : Int64)) := Hs5.at hin5 (rfl)
  have p6 : ∀ t, Steps p.tables e below (T2.setTop (mkF m 32 #[.val (.int (15 : Int32))] [(.long (1200000 : Int64))])) t → Steps p.tables e below (s₁.setTop (entryFrame m #[(.int (15 : Int32))] 1)) t := fun t k => p4 t (by
    show Steps p.tables e below (T2.setTop (mkF m 31 #[.val (.int (15 : Int32))] [(.int ((15 : Int32) - (1 : Int32))), (.ref a_D)])) _
    refine X2.laload hx (j := ((15 : Int32) - (1 : Int32))) (v := (.long (1200000 : Int64))) (by rw [e2]; exact Ar5.1) (State.isArrayOf_alike hZ.alike Ar5.2.1) Ar5.2.2 hin5 hat5 (g := (mkF m 31 #[.val (.int (15 : Int32))] [(.int ((15 : Int32) - (1 : Int32))), (.ref a_D)])) rfl rfl (hb hby dd15_31) _ ?_
    exact k)
  obtain ⟨fs, hr, hrun, hended, hW, hsame⟩ := X2.leave (v := some (.long (1200000 : Int64))) (fun h => by rw [Bd.returns] at h; cases h)
  refine ⟨_, _, p6 _ ?_, hrun, hended, _, _, rfl, ?_, ⟨_, rfl⟩, hW, hsame.mono (by decide) (by decide)⟩
  · show Steps p.tables e below (T2.setTop (mkF m 32 #[.val (.int (15 : Int32))] [(.long (1200000 : Int64))])) _
    exact retOut X2 hx Bd.returns rfl (Or.inr (Or.inl ⟨rfl, rfl, _, rfl⟩)) (hb hby dd15_32) hr
  · show Qd15 Z a_D kk h0 n0 _ T2.heap _
    rw [e2]
    exact ⟨rfl, N0, rfl⟩
theorem de15_0 : decode method_2_code 0 = .ok (.iload_n 0, 1) := by decide +kernel
theorem de15_1 : decode method_2_code 1 = .ok (.iconst 4, 1) := by decide +kernel
theorem de15_2 : decode method_2_code 2 = .ok (.if_icmp .gt 34, 3) := by decide +kernel
theorem de15_36 : decode method_2_code 36 = .ok (.iload_n 0, 1) := by decide +kernel
theorem de15_37 : decode method_2_code 37 = .ok (.bipush 14, 2) := by decide +kernel
theorem de15_39 : decode method_2_code 39 = .ok (.if_icmp .gt 12, 3) := by decide +kernel
theorem de15_51 : decode method_2_code 51 = .ok (.iload_n 0, 1) := by decide +kernel
theorem de15_52 : decode method_2_code 52 = .ok (.bipush 15, 2) := by decide +kernel
theorem de15_54 : decode method_2_code 54 = .ok (.if_icmp .ne 7, 3) := by decide +kernel
theorem de15_57 : decode method_2_code 57 = .ok (.ldc2_w 17, 3) := by decide +kernel
theorem de15_60 : decode method_2_code 60 = .ok (.lreturn, 1) := by decide +kernel
theorem pne15 : plainName "com/example/ordo/ordo/store/DelayLevelsDelayMillisPinLaw" = true := by first | (simp [plainName, overriddenIn]; done) | decide +kernel
theorem efe15 (m : MethodId)  : entryFrame m #[(.int (15 : Int32))] 1 = mkF m 0 #[.val (.int (15 : Int32))] [] := by first | (simp [entryFrame, mkF, argsToLocals, Value.category]; done) | rfl
def Qe15 (Z : State)  (h0 : Heap) (n0 : Nat) (v : Option Value) (h : Heap) (L : List Loc) : Prop := v = some (.long (1200000 : Int64)) ∧ Fr n0 L ∧ h = h0
set_option maxRecDepth 65536 in
set_option maxHeartbeats 40000000 in
theorem rme15 (l : Launch) (Z : State) (a0 : Array Value) (hw : ∀ d ∈ tables_1, d.before a0 Z = true) (ws : List Jvm.Cond)  (h0 : Heap) (n0 : Nat) (Z0 : n0 ≤ h0.size) :
    MetFree l (⟨"com/example/ordo/ordo/store/DelayLevelsDelayMillisPinLaw", "expected", "(I)J"⟩ : MethodName) (head1 (Jvm.Cond.code (⟨"com/example/ordo/ordo/store/DelayLevelsDelayMillisPinLaw", "expected", "(I)J"⟩ : MethodName) method_2_code 1 (some .long) :: ws) ({ frames := 0, cells := 0, slots := 0, locals := 0 } : Room)) (fun a U => a = #[(.int (15 : Int32))] ∧ Z.Warmed39 U.vm ∧ U.heap = h0) (fun _ _ _ _ _ => True) (fun _ U o U' => ∃ v L, o = .returned v ∧ Qe15 Z  h0 n0 v U'.heap L ∧ FrameEnd U o U' L ({ frames := 0, cells := 0, slots := 0, locals := 0 } : Room).cells ({ frames := 0, cells := 0, slots := 0, locals := 0 } : Room).slots) := by
  refine MetFree.of_bodySF (plainFor_of_name pne15) hisR ?_
  intro p e s m args below meth c s₁ Bd hml0 hP hK
  obtain ⟨rfl, hZ, hh⟩ := hP
  have hx := Bd.exec
  have hby := Bd.bytes
  have hml : c.maxLocals = 1 := hml0
  have hown : s.vm.findClass "com/example/ordo/ordo/store/DelayLevelsDelayMillisPinLaw" = some m.cls := findClass_of_methodNamed Bd.named
  have hnm := (name_of_methodNamed Bd.named Bd.method).1
  have X0 : Stand p l e ({ frames := 0, cells := 0, slots := 0, locals := 0 } : Room) s m #[(.int (15 : Int32))] below meth c s₁ [] 0 0 := Stand.of_body Bd
  have e0 : s₁.heap = h0 := by rw [← hh, Bd.state]; rfl
  have N0 := Fr.nil n0
  have pre0 : ∀ t, Steps p.tables e below (s₁.setTop (mkF m 0 #[.val (.int (15 : Int32))] [])) t → Steps p.tables e below (s₁.setTop (entryFrame m #[(.int (15 : Int32))] 1)) t := fun t k => castTop (efe15 m ) k
  have p1 : ∀ t, Steps p.tables e below (s₁.setTop (mkF m 60 #[.val (.int (15 : Int32))] [(.long (1200000 : Int64))])) t → Steps p.tables e below (s₁.setTop (entryFrame m #[(.int (15 : Int32))] 1)) t := fun t k => pre0 t (by
    show Steps p.tables e below (s₁.setTop (mkF m 0 #[.val (.int (15 : Int32))] [])) _
    refine XS.iloadN X0.here hx rfl (hb hby de15_0) rfl ?_
    show Steps p.tables e below (s₁.setTop (mkF m 1 #[.val (.int (15 : Int32))] [(.int (15 : Int32))])) _
    refine XS.iconst X0.here hx rfl (hb hby de15_1) ?_
    show Steps p.tables e below (s₁.setTop (mkF m 2 #[.val (.int (15 : Int32))] [(.int (4 : Int32)), (.int (15 : Int32))])) _
    refine XS.icmpYes X0.here hx rfl (pc0 := 2) (pc' := 36) rfl (hb hby de15_2) rfl ((tlt (by decide)).2.2.1) (by decide) (by decide) ?_
    show Steps p.tables e below (s₁.setTop (mkF m 36 #[.val (.int (15 : Int32))] [])) _
    refine XS.iloadN X0.here hx rfl (hb hby de15_36) rfl ?_
    show Steps p.tables e below (s₁.setTop (mkF m 37 #[.val (.int (15 : Int32))] [(.int (15 : Int32))])) _
    refine XS.bipush X0.here hx rfl (hb hby de15_37) ?_
    show Steps p.tables e below (s₁.setTop (mkF m 39 #[.val (.int (15 : Int32))] [(.int (14 : Int32)), (.int (15 : Int32))])) _
    refine XS.icmpYes X0.here hx rfl (pc0 := 39) (pc' := 51) rfl (hb hby de15_39) rfl ((tlt (by decide)).2.2.1) (by decide) (by decide) ?_
    show Steps p.tables e below (s₁.setTop (mkF m 51 #[.val (.int (15 : Int32))] [])) _
    refine XS.iloadN X0.here hx rfl (hb hby de15_51) rfl ?_
    show Steps p.tables e below (s₁.setTop (mkF m 52 #[.val (.int (15 : Int32))] [(.int (15 : Int32))])) _
    refine XS.bipush X0.here hx rfl (hb hby de15_52) ?_
    show Steps p.tables e below (s₁.setTop (mkF m 54 #[.val (.int (15 : Int32))] [(.int (15 : Int32)), (.int (15 : Int32))])) _
    refine XS.icmpNo X0.here hx rfl (hb hby de15_54) rfl ((teq (rfl)).2) ?_
    show Steps p.tables e below (s₁.setTop (mkF m 57 #[.val (.int (15 : Int32))] [])) _
    refine X0.ldc2Long hx hown (mvT hZ (hw _ (List.mem_of_getElem? (i := 19) rfl))) (g := (mkF m 57 #[.val (.int (15 : Int32))] [])) rfl (hb hby de15_57) _ ?_
    exact k)
  obtain ⟨fs, hr, hrun, hended, hW, hsame⟩ := X0.leave (v := some (.long (1200000 : Int64))) (fun h => by rw [Bd.returns] at h; cases h)
  refine ⟨_, _, p1 _ ?_, hrun, hended, _, _, rfl, ?_, ⟨_, rfl⟩, hW, hsame.mono (by decide) (by decide)⟩
  · show Steps p.tables e below (s₁.setTop (mkF m 60 #[.val (.int (15 : Int32))] [(.long (1200000 : Int64))])) _
    exact retOut X0 hx Bd.returns rfl (Or.inr (Or.inl ⟨rfl, rfl, _, rfl⟩)) (hb hby de15_60) hr
  · show Qe15 Z  h0 n0 _ s₁.heap _
    rw [e0]
    exact ⟨rfl, N0, rfl⟩
theorem dd16_0 : decode prog_25_method_2_code 0 = .ok (.iload_n 0, 1) := by decide +kernel
theorem dd16_1 : decode prog_25_method_2_code 1 = .ok (.iconst 1, 1) := by decide +kernel
theorem dd16_2 : decode prog_25_method_2_code 2 = .ok (.if_icmp .lt 9, 3) := by decide +kernel
theorem dd16_5 : decode prog_25_method_2_code 5 = .ok (.iload_n 0, 1) := by decide +kernel
theorem dd16_6 : decode prog_25_method_2_code 6 = .ok (.bipush 18, 2) := by decide +kernel
theorem dd16_8 : decode prog_25_method_2_code 8 = .ok (.if_icmp .le 17, 3) := by decide +kernel
theorem dd16_25 : decode prog_25_method_2_code 25 = .ok (.getstatic 18, 3) := by decide +kernel
theorem dd16_28 : decode prog_25_method_2_code 28 = .ok (.iload_n 0, 1) := by decide +kernel
theorem dd16_29 : decode prog_25_method_2_code 29 = .ok (.iconst 1, 1) := by decide +kernel
theorem dd16_30 : decode prog_25_method_2_code 30 = .ok (.isub, 1) := by decide +kernel
theorem dd16_31 : decode prog_25_method_2_code 31 = .ok (.laload, 1) := by decide +kernel
theorem dd16_32 : decode prog_25_method_2_code 32 = .ok (.lreturn, 1) := by decide +kernel
theorem pnd16 : plainName "com/example/ordo/ordo/store/DelayLevels" = true := by first | (simp [plainName, overriddenIn]; done) | decide +kernel
theorem efd16 (m : MethodId)  : entryFrame m #[(.int (16 : Int32))] 1 = mkF m 0 #[.val (.int (16 : Int32))] [] := by first | (simp [entryFrame, mkF, argsToLocals, Value.category]; done) | rfl
def Qd16 (Z : State)  (a_D : Addr) (kk : ClassId) (h0 : Heap) (n0 : Nat) (v : Option Value) (h : Heap) (L : List Loc) : Prop := v = some (.long (1800000 : Int64)) ∧ Fr n0 L ∧ h = h0
set_option maxRecDepth 65536 in
set_option maxHeartbeats 40000000 in
theorem rmd16 (l : Launch) (Z : State) (a0 : Array Value) (hw : ∀ d ∈ tables_1, d.before a0 Z = true) (ws : List Jvm.Cond)  (a_D : Addr) (kk : ClassId) (h0 : Heap) (n0 : Nat) (Z0 : n0 ≤ h0.size) (S_D : Sta Z h0 "com/example/ordo/ordo/store/DelayLevels" "DELAYS" "[J" (.ref a_D)) (V_D : Arv Z h0 a_D kk .long (18 : Int32) own_ds (.long (0 : Int64))) :
    MetFree l (⟨"com/example/ordo/ordo/store/DelayLevels", "delayMillis", "(I)J"⟩ : MethodName) (head1 (Jvm.Cond.code (⟨"com/example/ordo/ordo/store/DelayLevels", "delayMillis", "(I)J"⟩ : MethodName) prog_25_method_2_code 1 (some .long) :: ws) ({ frames := 0, cells := 0, slots := 0, locals := 0 } : Room)) (fun a U => a = #[(.int (16 : Int32))] ∧ Z.Warmed39 U.vm ∧ U.heap = h0) (fun _ _ _ _ _ => True) (fun _ U o U' => ∃ v L, o = .returned v ∧ Qd16 Z a_D kk h0 n0 v U'.heap L ∧ FrameEnd U o U' L ({ frames := 0, cells := 0, slots := 0, locals := 0 } : Room).cells ({ frames := 0, cells := 0, slots := 0, locals := 0 } : Room).slots) := by
  refine MetFree.of_bodySF (plainFor_of_name pnd16) hisR ?_
  intro p e s m args below meth c s₁ Bd hml0 hP hK
  obtain ⟨rfl, hZ, hh⟩ := hP
  have hx := Bd.exec
  have hby := Bd.bytes
  have hml : c.maxLocals = 1 := hml0
  have hown : s.vm.findClass "com/example/ordo/ordo/store/DelayLevels" = some m.cls := findClass_of_methodNamed Bd.named
  have hnm := (name_of_methodNamed Bd.named Bd.method).1
  have X0 : Stand p l e ({ frames := 0, cells := 0, slots := 0, locals := 0 } : Room) s m #[(.int (16 : Int32))] below meth c s₁ [] 0 0 := Stand.of_body Bd
  have e0 : s₁.heap = h0 := by rw [← hh, Bd.state]; rfl
  have N0 := Fr.nil n0
  have pre0 : ∀ t, Steps p.tables e below (s₁.setTop (mkF m 0 #[.val (.int (16 : Int32))] [])) t → Steps p.tables e below (s₁.setTop (entryFrame m #[(.int (16 : Int32))] 1)) t := fun t k => castTop (efd16 m ) k
  have p1 : ∀ t, Steps p.tables e below (s₁.setTop (mkF m 25 #[.val (.int (16 : Int32))] [])) t → Steps p.tables e below (s₁.setTop (entryFrame m #[(.int (16 : Int32))] 1)) t := fun t k => pre0 t (by
    show Steps p.tables e below (s₁.setTop (mkF m 0 #[.val (.int (16 : Int32))] [])) _
    refine XS.iloadN X0.here hx rfl (hb hby dd16_0) rfl ?_
    show Steps p.tables e below (s₁.setTop (mkF m 1 #[.val (.int (16 : Int32))] [(.int (16 : Int32))])) _
    refine XS.iconst X0.here hx rfl (hb hby dd16_1) ?_
    show Steps p.tables e below (s₁.setTop (mkF m 2 #[.val (.int (16 : Int32))] [(.int (1 : Int32)), (.int (16 : Int32))])) _
    refine XS.icmpNo X0.here hx rfl (hb hby dd16_2) rfl ((flt (by decide)).1) ?_
    show Steps p.tables e below (s₁.setTop (mkF m 5 #[.val (.int (16 : Int32))] [])) _
    refine XS.iloadN X0.here hx rfl (hb hby dd16_5) rfl ?_
    show Steps p.tables e below (s₁.setTop (mkF m 6 #[.val (.int (16 : Int32))] [(.int (16 : Int32))])) _
    refine XS.bipush X0.here hx rfl (hb hby dd16_6) ?_
    show Steps p.tables e below (s₁.setTop (mkF m 8 #[.val (.int (16 : Int32))] [(.int (18 : Int32)), (.int (16 : Int32))])) _
    refine XS.icmpYes X0.here hx rfl (pc0 := 8) (pc' := 25) rfl (hb hby dd16_8) rfl ((flt (by decide)).2.2.2) (by decide) (by decide) ?_
    exact k)
  obtain ⟨T2, X2, e2, st2⟩ := getS2 X0 hx hZ hown (host := "") (Or.inl (hw _ (List.mem_of_getElem? (i := 5) rfl))) Via.refl e0 S_D (g := (mkF m 25 #[.val (.int (16 : Int32))] [])) rfl (hb hby dd16_25)
  have p3 : ∀ t, Steps p.tables e below (T2.setTop (mkF m 28 #[.val (.int (16 : Int32))] [(.ref a_D)])) t → Steps p.tables e below (s₁.setTop (entryFrame m #[(.int (16 : Int32))] 1)) t := fun t k => p1 t (st2 t k)
  have p4 : ∀ t, Steps p.tables e below (T2.setTop (mkF m 31 #[.val (.int (16 : Int32))] [(.int ((16 : Int32) - (1 : Int32))), (.ref a_D)])) t → Steps p.tables e below (s₁.setTop (entryFrame m #[(.int (16 : Int32))] 1)) t := fun t k => p3 t (by
    show Steps p.tables e below (T2.setTop (mkF m 28 #[.val (.int (16 : Int32))] [(.ref a_D)])) _
    refine XS.iloadN X2.here hx rfl (hb hby dd16_28) rfl ?_
    show Steps p.tables e below (T2.setTop (mkF m 29 #[.val (.int (16 : Int32))] [(.int (16 : Int32)), (.ref a_D)])) _
    refine XS.iconst X2.here hx rfl (hb hby dd16_29) ?_
    show Steps p.tables e below (T2.setTop (mkF m 30 #[.val (.int (16 : Int32))] [(.int (1 : Int32)), (.int (16 : Int32)), (.ref a_D)])) _
    refine XS.isub X2.here hx rfl (hb hby dd16_30) rfl ?_
    exact k)
  obtain ⟨cl5, Ar5, q5, Sz5, Ng5, Hs5, G5⟩ := id V_D
  have hin5 : ¬ (((16 : Int32) - (1 : Int32)) < 0 ∨ cl5.slots.size ≤ (((16 : Int32) - (1 : Int32))).toNatClampNeg) := inb_of Sz5 ⟨by decide, by decide⟩
  have hat5 : cl5.slots[(((16 : Int32) - (1 : Int32))).toNatClampNeg]? = some (.long (1800000 : Int64)) := Hs5.at hin5 (rfl)
  have p6 : ∀ t, Steps p.tables e below (T2.setTop (mkF m 32 #[.val (.int (16 : Int32))] [(.long (1800000 : Int64))])) t → Steps p.tables e below (s₁.setTop (entryFrame m #[(.int (16 : Int32))] 1)) t := fun t k => p4 t (by
    show Steps p.tables e below (T2.setTop (mkF m 31 #[.val (.int (16 : Int32))] [(.int ((16 : Int32) - (1 : Int32))), (.ref a_D)])) _
    refine X2.laload hx (j := ((16 : Int32) - (1 : Int32))) (v := (.long (1800000 : Int64))) (by rw [e2]; exact Ar5.1) (State.isArrayOf_alike hZ.alike Ar5.2.1) Ar5.2.2 hin5 hat5 (g := (mkF m 31 #[.val (.int (16 : Int32))] [(.int ((16 : Int32) - (1 : Int32))), (.ref a_D)])) rfl rfl (hb hby dd16_31) _ ?_
    exact k)
  obtain ⟨fs, hr, hrun, hended, hW, hsame⟩ := X2.leave (v := some (.long (1800000 : Int64))) (fun h => by rw [Bd.returns] at h; cases h)
  refine ⟨_, _, p6 _ ?_, hrun, hended, _, _, rfl, ?_, ⟨_, rfl⟩, hW, hsame.mono (by decide) (by decide)⟩
  · show Steps p.tables e below (T2.setTop (mkF m 32 #[.val (.int (16 : Int32))] [(.long (1800000 : Int64))])) _
    exact retOut X2 hx Bd.returns rfl (Or.inr (Or.inl ⟨rfl, rfl, _, rfl⟩)) (hb hby dd16_32) hr
  · show Qd16 Z a_D kk h0 n0 _ T2.heap _
    rw [e2]
    exact ⟨rfl, N0, rfl⟩
theorem de16_0 : decode method_2_code 0 = .ok (.iload_n 0, 1) := by decide +kernel
theorem de16_1 : decode method_2_code 1 = .ok (.iconst 4, 1) := by decide +kernel
theorem de16_2 : decode method_2_code 2 = .ok (.if_icmp .gt 34, 3) := by decide +kernel
theorem de16_36 : decode method_2_code 36 = .ok (.iload_n 0, 1) := by decide +kernel
theorem de16_37 : decode method_2_code 37 = .ok (.bipush 14, 2) := by decide +kernel
theorem de16_39 : decode method_2_code 39 = .ok (.if_icmp .gt 12, 3) := by decide +kernel
theorem de16_51 : decode method_2_code 51 = .ok (.iload_n 0, 1) := by decide +kernel
theorem de16_52 : decode method_2_code 52 = .ok (.bipush 15, 2) := by decide +kernel
theorem de16_54 : decode method_2_code 54 = .ok (.if_icmp .ne 7, 3) := by decide +kernel
theorem de16_61 : decode method_2_code 61 = .ok (.iload_n 0, 1) := by decide +kernel
theorem de16_62 : decode method_2_code 62 = .ok (.bipush 16, 2) := by decide +kernel
theorem de16_64 : decode method_2_code 64 = .ok (.if_icmp .ne 7, 3) := by decide +kernel
theorem de16_67 : decode method_2_code 67 = .ok (.ldc2_w 19, 3) := by decide +kernel
theorem de16_70 : decode method_2_code 70 = .ok (.lreturn, 1) := by decide +kernel
theorem pne16 : plainName "com/example/ordo/ordo/store/DelayLevelsDelayMillisPinLaw" = true := by first | (simp [plainName, overriddenIn]; done) | decide +kernel
theorem efe16 (m : MethodId)  : entryFrame m #[(.int (16 : Int32))] 1 = mkF m 0 #[.val (.int (16 : Int32))] [] := by first | (simp [entryFrame, mkF, argsToLocals, Value.category]; done) | rfl
def Qe16 (Z : State)  (h0 : Heap) (n0 : Nat) (v : Option Value) (h : Heap) (L : List Loc) : Prop := v = some (.long (1800000 : Int64)) ∧ Fr n0 L ∧ h = h0
set_option maxRecDepth 65536 in
set_option maxHeartbeats 40000000 in
theorem rme16 (l : Launch) (Z : State) (a0 : Array Value) (hw : ∀ d ∈ tables_1, d.before a0 Z = true) (ws : List Jvm.Cond)  (h0 : Heap) (n0 : Nat) (Z0 : n0 ≤ h0.size) :
    MetFree l (⟨"com/example/ordo/ordo/store/DelayLevelsDelayMillisPinLaw", "expected", "(I)J"⟩ : MethodName) (head1 (Jvm.Cond.code (⟨"com/example/ordo/ordo/store/DelayLevelsDelayMillisPinLaw", "expected", "(I)J"⟩ : MethodName) method_2_code 1 (some .long) :: ws) ({ frames := 0, cells := 0, slots := 0, locals := 0 } : Room)) (fun a U => a = #[(.int (16 : Int32))] ∧ Z.Warmed39 U.vm ∧ U.heap = h0) (fun _ _ _ _ _ => True) (fun _ U o U' => ∃ v L, o = .returned v ∧ Qe16 Z  h0 n0 v U'.heap L ∧ FrameEnd U o U' L ({ frames := 0, cells := 0, slots := 0, locals := 0 } : Room).cells ({ frames := 0, cells := 0, slots := 0, locals := 0 } : Room).slots) := by
  refine MetFree.of_bodySF (plainFor_of_name pne16) hisR ?_
  intro p e s m args below meth c s₁ Bd hml0 hP hK
  obtain ⟨rfl, hZ, hh⟩ := hP
  have hx := Bd.exec
  have hby := Bd.bytes
  have hml : c.maxLocals = 1 := hml0
  have hown : s.vm.findClass "com/example/ordo/ordo/store/DelayLevelsDelayMillisPinLaw" = some m.cls := findClass_of_methodNamed Bd.named
  have hnm := (name_of_methodNamed Bd.named Bd.method).1
  have X0 : Stand p l e ({ frames := 0, cells := 0, slots := 0, locals := 0 } : Room) s m #[(.int (16 : Int32))] below meth c s₁ [] 0 0 := Stand.of_body Bd
  have e0 : s₁.heap = h0 := by rw [← hh, Bd.state]; rfl
  have N0 := Fr.nil n0
  have pre0 : ∀ t, Steps p.tables e below (s₁.setTop (mkF m 0 #[.val (.int (16 : Int32))] [])) t → Steps p.tables e below (s₁.setTop (entryFrame m #[(.int (16 : Int32))] 1)) t := fun t k => castTop (efe16 m ) k
  have p1 : ∀ t, Steps p.tables e below (s₁.setTop (mkF m 70 #[.val (.int (16 : Int32))] [(.long (1800000 : Int64))])) t → Steps p.tables e below (s₁.setTop (entryFrame m #[(.int (16 : Int32))] 1)) t := fun t k => pre0 t (by
    show Steps p.tables e below (s₁.setTop (mkF m 0 #[.val (.int (16 : Int32))] [])) _
    refine XS.iloadN X0.here hx rfl (hb hby de16_0) rfl ?_
    show Steps p.tables e below (s₁.setTop (mkF m 1 #[.val (.int (16 : Int32))] [(.int (16 : Int32))])) _
    refine XS.iconst X0.here hx rfl (hb hby de16_1) ?_
    show Steps p.tables e below (s₁.setTop (mkF m 2 #[.val (.int (16 : Int32))] [(.int (4 : Int32)), (.int (16 : Int32))])) _
    refine XS.icmpYes X0.here hx rfl (pc0 := 2) (pc' := 36) rfl (hb hby de16_2) rfl ((tlt (by decide)).2.2.1) (by decide) (by decide) ?_
    show Steps p.tables e below (s₁.setTop (mkF m 36 #[.val (.int (16 : Int32))] [])) _
    refine XS.iloadN X0.here hx rfl (hb hby de16_36) rfl ?_
    show Steps p.tables e below (s₁.setTop (mkF m 37 #[.val (.int (16 : Int32))] [(.int (16 : Int32))])) _
    refine XS.bipush X0.here hx rfl (hb hby de16_37) ?_
    show Steps p.tables e below (s₁.setTop (mkF m 39 #[.val (.int (16 : Int32))] [(.int (14 : Int32)), (.int (16 : Int32))])) _
    refine XS.icmpYes X0.here hx rfl (pc0 := 39) (pc' := 51) rfl (hb hby de16_39) rfl ((tlt (by decide)).2.2.1) (by decide) (by decide) ?_
    show Steps p.tables e below (s₁.setTop (mkF m 51 #[.val (.int (16 : Int32))] [])) _
    refine XS.iloadN X0.here hx rfl (hb hby de16_51) rfl ?_
    show Steps p.tables e below (s₁.setTop (mkF m 52 #[.val (.int (16 : Int32))] [(.int (16 : Int32))])) _
    refine XS.bipush X0.here hx rfl (hb hby de16_52) ?_
    show Steps p.tables e below (s₁.setTop (mkF m 54 #[.val (.int (16 : Int32))] [(.int (15 : Int32)), (.int (16 : Int32))])) _
    refine XS.icmpYes X0.here hx rfl (pc0 := 54) (pc' := 61) rfl (hb hby de16_54) rfl ((feq (by decide)).2) (by decide) (by decide) ?_
    show Steps p.tables e below (s₁.setTop (mkF m 61 #[.val (.int (16 : Int32))] [])) _
    refine XS.iloadN X0.here hx rfl (hb hby de16_61) rfl ?_
    show Steps p.tables e below (s₁.setTop (mkF m 62 #[.val (.int (16 : Int32))] [(.int (16 : Int32))])) _
    refine XS.bipush X0.here hx rfl (hb hby de16_62) ?_
    show Steps p.tables e below (s₁.setTop (mkF m 64 #[.val (.int (16 : Int32))] [(.int (16 : Int32)), (.int (16 : Int32))])) _
    refine XS.icmpNo X0.here hx rfl (hb hby de16_64) rfl ((teq (rfl)).2) ?_
    show Steps p.tables e below (s₁.setTop (mkF m 67 #[.val (.int (16 : Int32))] [])) _
    refine X0.ldc2Long hx hown (mvT hZ (hw _ (List.mem_of_getElem? (i := 17) rfl))) (g := (mkF m 67 #[.val (.int (16 : Int32))] [])) rfl (hb hby de16_67) _ ?_
    exact k)
  obtain ⟨fs, hr, hrun, hended, hW, hsame⟩ := X0.leave (v := some (.long (1800000 : Int64))) (fun h => by rw [Bd.returns] at h; cases h)
  refine ⟨_, _, p1 _ ?_, hrun, hended, _, _, rfl, ?_, ⟨_, rfl⟩, hW, hsame.mono (by decide) (by decide)⟩
  · show Steps p.tables e below (s₁.setTop (mkF m 70 #[.val (.int (16 : Int32))] [(.long (1800000 : Int64))])) _
    exact retOut X0 hx Bd.returns rfl (Or.inr (Or.inl ⟨rfl, rfl, _, rfl⟩)) (hb hby de16_70) hr
  · show Qe16 Z  h0 n0 _ s₁.heap _
    rw [e0]
    exact ⟨rfl, N0, rfl⟩
theorem dd17_0 : decode prog_25_method_2_code 0 = .ok (.iload_n 0, 1) := by decide +kernel
theorem dd17_1 : decode prog_25_method_2_code 1 = .ok (.iconst 1, 1) := by decide +kernel
theorem dd17_2 : decode prog_25_method_2_code 2 = .ok (.if_icmp .lt 9, 3) := by decide +kernel
theorem dd17_5 : decode prog_25_method_2_code 5 = .ok (.iload_n 0, 1) := by decide +kernel
theorem dd17_6 : decode prog_25_method_2_code 6 = .ok (.bipush 18, 2) := by decide +kernel
theorem dd17_8 : decode prog_25_method_2_code 8 = .ok (.if_icmp .le 17, 3) := by decide +kernel
theorem dd17_25 : decode prog_25_method_2_code 25 = .ok (.getstatic 18, 3) := by decide +kernel
theorem dd17_28 : decode prog_25_method_2_code 28 = .ok (.iload_n 0, 1) := by decide +kernel
theorem dd17_29 : decode prog_25_method_2_code 29 = .ok (.iconst 1, 1) := by decide +kernel
theorem dd17_30 : decode prog_25_method_2_code 30 = .ok (.isub, 1) := by decide +kernel
theorem dd17_31 : decode prog_25_method_2_code 31 = .ok (.laload, 1) := by decide +kernel
theorem dd17_32 : decode prog_25_method_2_code 32 = .ok (.lreturn, 1) := by decide +kernel
theorem pnd17 : plainName "com/example/ordo/ordo/store/DelayLevels" = true := by first | (simp [plainName, overriddenIn]; done) | decide +kernel
theorem efd17 (m : MethodId)  : entryFrame m #[(.int (17 : Int32))] 1 = mkF m 0 #[.val (.int (17 : Int32))] [] := by first | (simp [entryFrame, mkF, argsToLocals, Value.category]; done) | rfl
def Qd17 (Z : State)  (a_D : Addr) (kk : ClassId) (h0 : Heap) (n0 : Nat) (v : Option Value) (h : Heap) (L : List Loc) : Prop := v = some (.long (3600000 : Int64)) ∧ Fr n0 L ∧ h = h0
set_option maxRecDepth 65536 in
set_option maxHeartbeats 40000000 in
theorem rmd17 (l : Launch) (Z : State) (a0 : Array Value) (hw : ∀ d ∈ tables_1, d.before a0 Z = true) (ws : List Jvm.Cond)  (a_D : Addr) (kk : ClassId) (h0 : Heap) (n0 : Nat) (Z0 : n0 ≤ h0.size) (S_D : Sta Z h0 "com/example/ordo/ordo/store/DelayLevels" "DELAYS" "[J" (.ref a_D)) (V_D : Arv Z h0 a_D kk .long (18 : Int32) own_ds (.long (0 : Int64))) :
    MetFree l (⟨"com/example/ordo/ordo/store/DelayLevels", "delayMillis", "(I)J"⟩ : MethodName) (head1 (Jvm.Cond.code (⟨"com/example/ordo/ordo/store/DelayLevels", "delayMillis", "(I)J"⟩ : MethodName) prog_25_method_2_code 1 (some .long) :: ws) ({ frames := 0, cells := 0, slots := 0, locals := 0 } : Room)) (fun a U => a = #[(.int (17 : Int32))] ∧ Z.Warmed39 U.vm ∧ U.heap = h0) (fun _ _ _ _ _ => True) (fun _ U o U' => ∃ v L, o = .returned v ∧ Qd17 Z a_D kk h0 n0 v U'.heap L ∧ FrameEnd U o U' L ({ frames := 0, cells := 0, slots := 0, locals := 0 } : Room).cells ({ frames := 0, cells := 0, slots := 0, locals := 0 } : Room).slots) := by
  refine MetFree.of_bodySF (plainFor_of_name pnd17) hisR ?_
  intro p e s m args below meth c s₁ Bd hml0 hP hK
  obtain ⟨rfl, hZ, hh⟩ := hP
  have hx := Bd.exec
  have hby := Bd.bytes
  have hml : c.maxLocals = 1 := hml0
  have hown : s.vm.findClass "com/example/ordo/ordo/store/DelayLevels" = some m.cls := findClass_of_methodNamed Bd.named
  have hnm := (name_of_methodNamed Bd.named Bd.method).1
  have X0 : Stand p l e ({ frames := 0, cells := 0, slots := 0, locals := 0 } : Room) s m #[(.int (17 : Int32))] below meth c s₁ [] 0 0 := Stand.of_body Bd
  have e0 : s₁.heap = h0 := by rw [← hh, Bd.state]; rfl
  have N0 := Fr.nil n0
  have pre0 : ∀ t, Steps p.tables e below (s₁.setTop (mkF m 0 #[.val (.int (17 : Int32))] [])) t → Steps p.tables e below (s₁.setTop (entryFrame m #[(.int (17 : Int32))] 1)) t := fun t k => castTop (efd17 m ) k
  have p1 : ∀ t, Steps p.tables e below (s₁.setTop (mkF m 25 #[.val (.int (17 : Int32))] [])) t → Steps p.tables e below (s₁.setTop (entryFrame m #[(.int (17 : Int32))] 1)) t := fun t k => pre0 t (by
    show Steps p.tables e below (s₁.setTop (mkF m 0 #[.val (.int (17 : Int32))] [])) _
    refine XS.iloadN X0.here hx rfl (hb hby dd17_0) rfl ?_
    show Steps p.tables e below (s₁.setTop (mkF m 1 #[.val (.int (17 : Int32))] [(.int (17 : Int32))])) _
    refine XS.iconst X0.here hx rfl (hb hby dd17_1) ?_
    show Steps p.tables e below (s₁.setTop (mkF m 2 #[.val (.int (17 : Int32))] [(.int (1 : Int32)), (.int (17 : Int32))])) _
    refine XS.icmpNo X0.here hx rfl (hb hby dd17_2) rfl ((flt (by decide)).1) ?_
    show Steps p.tables e below (s₁.setTop (mkF m 5 #[.val (.int (17 : Int32))] [])) _
    refine XS.iloadN X0.here hx rfl (hb hby dd17_5) rfl ?_
    show Steps p.tables e below (s₁.setTop (mkF m 6 #[.val (.int (17 : Int32))] [(.int (17 : Int32))])) _
    refine XS.bipush X0.here hx rfl (hb hby dd17_6) ?_
    show Steps p.tables e below (s₁.setTop (mkF m 8 #[.val (.int (17 : Int32))] [(.int (18 : Int32)), (.int (17 : Int32))])) _
    refine XS.icmpYes X0.here hx rfl (pc0 := 8) (pc' := 25) rfl (hb hby dd17_8) rfl ((flt (by decide)).2.2.2) (by decide) (by decide) ?_
    exact k)
  obtain ⟨T2, X2, e2, st2⟩ := getS2 X0 hx hZ hown (host := "") (Or.inl (hw _ (List.mem_of_getElem? (i := 5) rfl))) Via.refl e0 S_D (g := (mkF m 25 #[.val (.int (17 : Int32))] [])) rfl (hb hby dd17_25)
  have p3 : ∀ t, Steps p.tables e below (T2.setTop (mkF m 28 #[.val (.int (17 : Int32))] [(.ref a_D)])) t → Steps p.tables e below (s₁.setTop (entryFrame m #[(.int (17 : Int32))] 1)) t := fun t k => p1 t (st2 t k)
  have p4 : ∀ t, Steps p.tables e below (T2.setTop (mkF m 31 #[.val (.int (17 : Int32))] [(.int ((17 : Int32) - (1 : Int32))), (.ref a_D)])) t → Steps p.tables e below (s₁.setTop (entryFrame m #[(.int (17 : Int32))] 1)) t := fun t k => p3 t (by
    show Steps p.tables e below (T2.setTop (mkF m 28 #[.val (.int (17 : Int32))] [(.ref a_D)])) _
    refine XS.iloadN X2.here hx rfl (hb hby dd17_28) rfl ?_
    show Steps p.tables e below (T2.setTop (mkF m 29 #[.val (.int (17 : Int32))] [(.int (17 : Int32)), (.ref a_D)])) _
    refine XS.iconst X2.here hx rfl (hb hby dd17_29) ?_
    show Steps p.tables e below (T2.setTop (mkF m 30 #[.val (.int (17 : Int32))] [(.int (1 : Int32)), (.int (17 : Int32)), (.ref a_D)])) _
    refine XS.isub X2.here hx rfl (hb hby dd17_30) rfl ?_
    exact k)
  obtain ⟨cl5, Ar5, q5, Sz5, Ng5, Hs5, G5⟩ := id V_D
  have hin5 : ¬ (((17 : Int32) - (1 : Int32)) < 0 ∨ cl5.slots.size ≤ (((17 : Int32) - (1 : Int32))).toNatClampNeg) := inb_of Sz5 ⟨by decide, by decide⟩
  have hat5 : cl5.slots[(((17 : Int32) - (1 : Int32))).toNatClampNeg]? = some (.long (3600000 : Int64)) := Hs5.at hin5 (rfl)
  have p6 : ∀ t, Steps p.tables e below (T2.setTop (mkF m 32 #[.val (.int (17 : Int32))] [(.long (3600000 : Int64))])) t → Steps p.tables e below (s₁.setTop (entryFrame m #[(.int (17 : Int32))] 1)) t := fun t k => p4 t (by
    show Steps p.tables e below (T2.setTop (mkF m 31 #[.val (.int (17 : Int32))] [(.int ((17 : Int32) - (1 : Int32))), (.ref a_D)])) _
    refine X2.laload hx (j := ((17 : Int32) - (1 : Int32))) (v := (.long (3600000 : Int64))) (by rw [e2]; exact Ar5.1) (State.isArrayOf_alike hZ.alike Ar5.2.1) Ar5.2.2 hin5 hat5 (g := (mkF m 31 #[.val (.int (17 : Int32))] [(.int ((17 : Int32) - (1 : Int32))), (.ref a_D)])) rfl rfl (hb hby dd17_31) _ ?_
    exact k)
  obtain ⟨fs, hr, hrun, hended, hW, hsame⟩ := X2.leave (v := some (.long (3600000 : Int64))) (fun h => by rw [Bd.returns] at h; cases h)
  refine ⟨_, _, p6 _ ?_, hrun, hended, _, _, rfl, ?_, ⟨_, rfl⟩, hW, hsame.mono (by decide) (by decide)⟩
  · show Steps p.tables e below (T2.setTop (mkF m 32 #[.val (.int (17 : Int32))] [(.long (3600000 : Int64))])) _
    exact retOut X2 hx Bd.returns rfl (Or.inr (Or.inl ⟨rfl, rfl, _, rfl⟩)) (hb hby dd17_32) hr
  · show Qd17 Z a_D kk h0 n0 _ T2.heap _
    rw [e2]
    exact ⟨rfl, N0, rfl⟩
theorem de17_0 : decode method_2_code 0 = .ok (.iload_n 0, 1) := by decide +kernel
theorem de17_1 : decode method_2_code 1 = .ok (.iconst 4, 1) := by decide +kernel
theorem de17_2 : decode method_2_code 2 = .ok (.if_icmp .gt 34, 3) := by decide +kernel
theorem de17_36 : decode method_2_code 36 = .ok (.iload_n 0, 1) := by decide +kernel
theorem de17_37 : decode method_2_code 37 = .ok (.bipush 14, 2) := by decide +kernel
theorem de17_39 : decode method_2_code 39 = .ok (.if_icmp .gt 12, 3) := by decide +kernel
theorem de17_51 : decode method_2_code 51 = .ok (.iload_n 0, 1) := by decide +kernel
theorem de17_52 : decode method_2_code 52 = .ok (.bipush 15, 2) := by decide +kernel
theorem de17_54 : decode method_2_code 54 = .ok (.if_icmp .ne 7, 3) := by decide +kernel
theorem de17_61 : decode method_2_code 61 = .ok (.iload_n 0, 1) := by decide +kernel
theorem de17_62 : decode method_2_code 62 = .ok (.bipush 16, 2) := by decide +kernel
theorem de17_64 : decode method_2_code 64 = .ok (.if_icmp .ne 7, 3) := by decide +kernel
theorem de17_71 : decode method_2_code 71 = .ok (.iload_n 0, 1) := by decide +kernel
theorem de17_72 : decode method_2_code 72 = .ok (.bipush 17, 2) := by decide +kernel
theorem de17_74 : decode method_2_code 74 = .ok (.if_icmp .ne 7, 3) := by decide +kernel
theorem de17_77 : decode method_2_code 77 = .ok (.ldc2_w 21, 3) := by decide +kernel
theorem de17_80 : decode method_2_code 80 = .ok (.lreturn, 1) := by decide +kernel
theorem pne17 : plainName "com/example/ordo/ordo/store/DelayLevelsDelayMillisPinLaw" = true := by first | (simp [plainName, overriddenIn]; done) | decide +kernel
theorem efe17 (m : MethodId)  : entryFrame m #[(.int (17 : Int32))] 1 = mkF m 0 #[.val (.int (17 : Int32))] [] := by first | (simp [entryFrame, mkF, argsToLocals, Value.category]; done) | rfl
def Qe17 (Z : State)  (h0 : Heap) (n0 : Nat) (v : Option Value) (h : Heap) (L : List Loc) : Prop := v = some (.long (3600000 : Int64)) ∧ Fr n0 L ∧ h = h0
set_option maxRecDepth 65536 in
set_option maxHeartbeats 40000000 in
theorem rme17 (l : Launch) (Z : State) (a0 : Array Value) (hw : ∀ d ∈ tables_1, d.before a0 Z = true) (ws : List Jvm.Cond)  (h0 : Heap) (n0 : Nat) (Z0 : n0 ≤ h0.size) :
    MetFree l (⟨"com/example/ordo/ordo/store/DelayLevelsDelayMillisPinLaw", "expected", "(I)J"⟩ : MethodName) (head1 (Jvm.Cond.code (⟨"com/example/ordo/ordo/store/DelayLevelsDelayMillisPinLaw", "expected", "(I)J"⟩ : MethodName) method_2_code 1 (some .long) :: ws) ({ frames := 0, cells := 0, slots := 0, locals := 0 } : Room)) (fun a U => a = #[(.int (17 : Int32))] ∧ Z.Warmed39 U.vm ∧ U.heap = h0) (fun _ _ _ _ _ => True) (fun _ U o U' => ∃ v L, o = .returned v ∧ Qe17 Z  h0 n0 v U'.heap L ∧ FrameEnd U o U' L ({ frames := 0, cells := 0, slots := 0, locals := 0 } : Room).cells ({ frames := 0, cells := 0, slots := 0, locals := 0 } : Room).slots) := by
  refine MetFree.of_bodySF (plainFor_of_name pne17) hisR ?_
  intro p e s m args below meth c s₁ Bd hml0 hP hK
  obtain ⟨rfl, hZ, hh⟩ := hP
  have hx := Bd.exec
  have hby := Bd.bytes
  have hml : c.maxLocals = 1 := hml0
  have hown : s.vm.findClass "com/example/ordo/ordo/store/DelayLevelsDelayMillisPinLaw" = some m.cls := findClass_of_methodNamed Bd.named
  have hnm := (name_of_methodNamed Bd.named Bd.method).1
  have X0 : Stand p l e ({ frames := 0, cells := 0, slots := 0, locals := 0 } : Room) s m #[(.int (17 : Int32))] below meth c s₁ [] 0 0 := Stand.of_body Bd
  have e0 : s₁.heap = h0 := by rw [← hh, Bd.state]; rfl
  have N0 := Fr.nil n0
  have pre0 : ∀ t, Steps p.tables e below (s₁.setTop (mkF m 0 #[.val (.int (17 : Int32))] [])) t → Steps p.tables e below (s₁.setTop (entryFrame m #[(.int (17 : Int32))] 1)) t := fun t k => castTop (efe17 m ) k
  have p1 : ∀ t, Steps p.tables e below (s₁.setTop (mkF m 80 #[.val (.int (17 : Int32))] [(.long (3600000 : Int64))])) t → Steps p.tables e below (s₁.setTop (entryFrame m #[(.int (17 : Int32))] 1)) t := fun t k => pre0 t (by
    show Steps p.tables e below (s₁.setTop (mkF m 0 #[.val (.int (17 : Int32))] [])) _
    refine XS.iloadN X0.here hx rfl (hb hby de17_0) rfl ?_
    show Steps p.tables e below (s₁.setTop (mkF m 1 #[.val (.int (17 : Int32))] [(.int (17 : Int32))])) _
    refine XS.iconst X0.here hx rfl (hb hby de17_1) ?_
    show Steps p.tables e below (s₁.setTop (mkF m 2 #[.val (.int (17 : Int32))] [(.int (4 : Int32)), (.int (17 : Int32))])) _
    refine XS.icmpYes X0.here hx rfl (pc0 := 2) (pc' := 36) rfl (hb hby de17_2) rfl ((tlt (by decide)).2.2.1) (by decide) (by decide) ?_
    show Steps p.tables e below (s₁.setTop (mkF m 36 #[.val (.int (17 : Int32))] [])) _
    refine XS.iloadN X0.here hx rfl (hb hby de17_36) rfl ?_
    show Steps p.tables e below (s₁.setTop (mkF m 37 #[.val (.int (17 : Int32))] [(.int (17 : Int32))])) _
    refine XS.bipush X0.here hx rfl (hb hby de17_37) ?_
    show Steps p.tables e below (s₁.setTop (mkF m 39 #[.val (.int (17 : Int32))] [(.int (14 : Int32)), (.int (17 : Int32))])) _
    refine XS.icmpYes X0.here hx rfl (pc0 := 39) (pc' := 51) rfl (hb hby de17_39) rfl ((tlt (by decide)).2.2.1) (by decide) (by decide) ?_
    show Steps p.tables e below (s₁.setTop (mkF m 51 #[.val (.int (17 : Int32))] [])) _
    refine XS.iloadN X0.here hx rfl (hb hby de17_51) rfl ?_
    show Steps p.tables e below (s₁.setTop (mkF m 52 #[.val (.int (17 : Int32))] [(.int (17 : Int32))])) _
    refine XS.bipush X0.here hx rfl (hb hby de17_52) ?_
    show Steps p.tables e below (s₁.setTop (mkF m 54 #[.val (.int (17 : Int32))] [(.int (15 : Int32)), (.int (17 : Int32))])) _
    refine XS.icmpYes X0.here hx rfl (pc0 := 54) (pc' := 61) rfl (hb hby de17_54) rfl ((feq (by decide)).2) (by decide) (by decide) ?_
    show Steps p.tables e below (s₁.setTop (mkF m 61 #[.val (.int (17 : Int32))] [])) _
    refine XS.iloadN X0.here hx rfl (hb hby de17_61) rfl ?_
    show Steps p.tables e below (s₁.setTop (mkF m 62 #[.val (.int (17 : Int32))] [(.int (17 : Int32))])) _
    refine XS.bipush X0.here hx rfl (hb hby de17_62) ?_
    show Steps p.tables e below (s₁.setTop (mkF m 64 #[.val (.int (17 : Int32))] [(.int (16 : Int32)), (.int (17 : Int32))])) _
    refine XS.icmpYes X0.here hx rfl (pc0 := 64) (pc' := 71) rfl (hb hby de17_64) rfl ((feq (by decide)).2) (by decide) (by decide) ?_
    show Steps p.tables e below (s₁.setTop (mkF m 71 #[.val (.int (17 : Int32))] [])) _
    refine XS.iloadN X0.here hx rfl (hb hby de17_71) rfl ?_
    show Steps p.tables e below (s₁.setTop (mkF m 72 #[.val (.int (17 : Int32))] [(.int (17 : Int32))])) _
    refine XS.bipush X0.here hx rfl (hb hby de17_72) ?_
    show Steps p.tables e below (s₁.setTop (mkF m 74 #[.val (.int (17 : Int32))] [(.int (17 : Int32)), (.int (17 : Int32))])) _
    refine XS.icmpNo X0.here hx rfl (hb hby de17_74) rfl ((teq (rfl)).2) ?_
    show Steps p.tables e below (s₁.setTop (mkF m 77 #[.val (.int (17 : Int32))] [])) _
    refine X0.ldc2Long hx hown (mvT hZ (hw _ (List.mem_of_getElem? (i := 16) rfl))) (g := (mkF m 77 #[.val (.int (17 : Int32))] [])) rfl (hb hby de17_77) _ ?_
    exact k)
  obtain ⟨fs, hr, hrun, hended, hW, hsame⟩ := X0.leave (v := some (.long (3600000 : Int64))) (fun h => by rw [Bd.returns] at h; cases h)
  refine ⟨_, _, p1 _ ?_, hrun, hended, _, _, rfl, ?_, ⟨_, rfl⟩, hW, hsame.mono (by decide) (by decide)⟩
  · show Steps p.tables e below (s₁.setTop (mkF m 80 #[.val (.int (17 : Int32))] [(.long (3600000 : Int64))])) _
    exact retOut X0 hx Bd.returns rfl (Or.inr (Or.inl ⟨rfl, rfl, _, rfl⟩)) (hb hby de17_80) hr
  · show Qe17 Z  h0 n0 _ s₁.heap _
    rw [e0]
    exact ⟨rfl, N0, rfl⟩
theorem dd18_0 : decode prog_25_method_2_code 0 = .ok (.iload_n 0, 1) := by decide +kernel
theorem dd18_1 : decode prog_25_method_2_code 1 = .ok (.iconst 1, 1) := by decide +kernel
theorem dd18_2 : decode prog_25_method_2_code 2 = .ok (.if_icmp .lt 9, 3) := by decide +kernel
theorem dd18_5 : decode prog_25_method_2_code 5 = .ok (.iload_n 0, 1) := by decide +kernel
theorem dd18_6 : decode prog_25_method_2_code 6 = .ok (.bipush 18, 2) := by decide +kernel
theorem dd18_8 : decode prog_25_method_2_code 8 = .ok (.if_icmp .le 17, 3) := by decide +kernel
theorem dd18_25 : decode prog_25_method_2_code 25 = .ok (.getstatic 18, 3) := by decide +kernel
theorem dd18_28 : decode prog_25_method_2_code 28 = .ok (.iload_n 0, 1) := by decide +kernel
theorem dd18_29 : decode prog_25_method_2_code 29 = .ok (.iconst 1, 1) := by decide +kernel
theorem dd18_30 : decode prog_25_method_2_code 30 = .ok (.isub, 1) := by decide +kernel
theorem dd18_31 : decode prog_25_method_2_code 31 = .ok (.laload, 1) := by decide +kernel
theorem dd18_32 : decode prog_25_method_2_code 32 = .ok (.lreturn, 1) := by decide +kernel
theorem pnd18 : plainName "com/example/ordo/ordo/store/DelayLevels" = true := by first | (simp [plainName, overriddenIn]; done) | decide +kernel
theorem efd18 (m : MethodId)  : entryFrame m #[(.int (18 : Int32))] 1 = mkF m 0 #[.val (.int (18 : Int32))] [] := by first | (simp [entryFrame, mkF, argsToLocals, Value.category]; done) | rfl
def Qd18 (Z : State)  (a_D : Addr) (kk : ClassId) (h0 : Heap) (n0 : Nat) (v : Option Value) (h : Heap) (L : List Loc) : Prop := v = some (.long (7200000 : Int64)) ∧ Fr n0 L ∧ h = h0
set_option maxRecDepth 65536 in
set_option maxHeartbeats 40000000 in
theorem rmd18 (l : Launch) (Z : State) (a0 : Array Value) (hw : ∀ d ∈ tables_1, d.before a0 Z = true) (ws : List Jvm.Cond)  (a_D : Addr) (kk : ClassId) (h0 : Heap) (n0 : Nat) (Z0 : n0 ≤ h0.size) (S_D : Sta Z h0 "com/example/ordo/ordo/store/DelayLevels" "DELAYS" "[J" (.ref a_D)) (V_D : Arv Z h0 a_D kk .long (18 : Int32) own_ds (.long (0 : Int64))) :
    MetFree l (⟨"com/example/ordo/ordo/store/DelayLevels", "delayMillis", "(I)J"⟩ : MethodName) (head1 (Jvm.Cond.code (⟨"com/example/ordo/ordo/store/DelayLevels", "delayMillis", "(I)J"⟩ : MethodName) prog_25_method_2_code 1 (some .long) :: ws) ({ frames := 0, cells := 0, slots := 0, locals := 0 } : Room)) (fun a U => a = #[(.int (18 : Int32))] ∧ Z.Warmed39 U.vm ∧ U.heap = h0) (fun _ _ _ _ _ => True) (fun _ U o U' => ∃ v L, o = .returned v ∧ Qd18 Z a_D kk h0 n0 v U'.heap L ∧ FrameEnd U o U' L ({ frames := 0, cells := 0, slots := 0, locals := 0 } : Room).cells ({ frames := 0, cells := 0, slots := 0, locals := 0 } : Room).slots) := by
  refine MetFree.of_bodySF (plainFor_of_name pnd18) hisR ?_
  intro p e s m args below meth c s₁ Bd hml0 hP hK
  obtain ⟨rfl, hZ, hh⟩ := hP
  have hx := Bd.exec
  have hby := Bd.bytes
  have hml : c.maxLocals = 1 := hml0
  have hown : s.vm.findClass "com/example/ordo/ordo/store/DelayLevels" = some m.cls := findClass_of_methodNamed Bd.named
  have hnm := (name_of_methodNamed Bd.named Bd.method).1
  have X0 : Stand p l e ({ frames := 0, cells := 0, slots := 0, locals := 0 } : Room) s m #[(.int (18 : Int32))] below meth c s₁ [] 0 0 := Stand.of_body Bd
  have e0 : s₁.heap = h0 := by rw [← hh, Bd.state]; rfl
  have N0 := Fr.nil n0
  have pre0 : ∀ t, Steps p.tables e below (s₁.setTop (mkF m 0 #[.val (.int (18 : Int32))] [])) t → Steps p.tables e below (s₁.setTop (entryFrame m #[(.int (18 : Int32))] 1)) t := fun t k => castTop (efd18 m ) k
  have p1 : ∀ t, Steps p.tables e below (s₁.setTop (mkF m 25 #[.val (.int (18 : Int32))] [])) t → Steps p.tables e below (s₁.setTop (entryFrame m #[(.int (18 : Int32))] 1)) t := fun t k => pre0 t (by
    show Steps p.tables e below (s₁.setTop (mkF m 0 #[.val (.int (18 : Int32))] [])) _
    refine XS.iloadN X0.here hx rfl (hb hby dd18_0) rfl ?_
    show Steps p.tables e below (s₁.setTop (mkF m 1 #[.val (.int (18 : Int32))] [(.int (18 : Int32))])) _
    refine XS.iconst X0.here hx rfl (hb hby dd18_1) ?_
    show Steps p.tables e below (s₁.setTop (mkF m 2 #[.val (.int (18 : Int32))] [(.int (1 : Int32)), (.int (18 : Int32))])) _
    refine XS.icmpNo X0.here hx rfl (hb hby dd18_2) rfl ((flt (by decide)).1) ?_
    show Steps p.tables e below (s₁.setTop (mkF m 5 #[.val (.int (18 : Int32))] [])) _
    refine XS.iloadN X0.here hx rfl (hb hby dd18_5) rfl ?_
    show Steps p.tables e below (s₁.setTop (mkF m 6 #[.val (.int (18 : Int32))] [(.int (18 : Int32))])) _
    refine XS.bipush X0.here hx rfl (hb hby dd18_6) ?_
    show Steps p.tables e below (s₁.setTop (mkF m 8 #[.val (.int (18 : Int32))] [(.int (18 : Int32)), (.int (18 : Int32))])) _
    refine XS.icmpYes X0.here hx rfl (pc0 := 8) (pc' := 25) rfl (hb hby dd18_8) rfl ((flt (by decide)).2.2.2) (by decide) (by decide) ?_
    exact k)
  obtain ⟨T2, X2, e2, st2⟩ := getS2 X0 hx hZ hown (host := "") (Or.inl (hw _ (List.mem_of_getElem? (i := 5) rfl))) Via.refl e0 S_D (g := (mkF m 25 #[.val (.int (18 : Int32))] [])) rfl (hb hby dd18_25)
  have p3 : ∀ t, Steps p.tables e below (T2.setTop (mkF m 28 #[.val (.int (18 : Int32))] [(.ref a_D)])) t → Steps p.tables e below (s₁.setTop (entryFrame m #[(.int (18 : Int32))] 1)) t := fun t k => p1 t (st2 t k)
  have p4 : ∀ t, Steps p.tables e below (T2.setTop (mkF m 31 #[.val (.int (18 : Int32))] [(.int ((18 : Int32) - (1 : Int32))), (.ref a_D)])) t → Steps p.tables e below (s₁.setTop (entryFrame m #[(.int (18 : Int32))] 1)) t := fun t k => p3 t (by
    show Steps p.tables e below (T2.setTop (mkF m 28 #[.val (.int (18 : Int32))] [(.ref a_D)])) _
    refine XS.iloadN X2.here hx rfl (hb hby dd18_28) rfl ?_
    show Steps p.tables e below (T2.setTop (mkF m 29 #[.val (.int (18 : Int32))] [(.int (18 : Int32)), (.ref a_D)])) _
    refine XS.iconst X2.here hx rfl (hb hby dd18_29) ?_
    show Steps p.tables e below (T2.setTop (mkF m 30 #[.val (.int (18 : Int32))] [(.int (1 : Int32)), (.int (18 : Int32)), (.ref a_D)])) _
    refine XS.isub X2.here hx rfl (hb hby dd18_30) rfl ?_
    exact k)
  obtain ⟨cl5, Ar5, q5, Sz5, Ng5, Hs5, G5⟩ := id V_D
  have hin5 : ¬ (((18 : Int32) - (1 : Int32)) < 0 ∨ cl5.slots.size ≤ (((18 : Int32) - (1 : Int32))).toNatClampNeg) := inb_of Sz5 ⟨by decide, by decide⟩
  have hat5 : cl5.slots[(((18 : Int32) - (1 : Int32))).toNatClampNeg]? = some (.long (7200000 : Int64)) := Hs5.at hin5 (rfl)
  have p6 : ∀ t, Steps p.tables e below (T2.setTop (mkF m 32 #[.val (.int (18 : Int32))] [(.long (7200000 : Int64))])) t → Steps p.tables e below (s₁.setTop (entryFrame m #[(.int (18 : Int32))] 1)) t := fun t k => p4 t (by
    show Steps p.tables e below (T2.setTop (mkF m 31 #[.val (.int (18 : Int32))] [(.int ((18 : Int32) - (1 : Int32))), (.ref a_D)])) _
    refine X2.laload hx (j := ((18 : Int32) - (1 : Int32))) (v := (.long (7200000 : Int64))) (by rw [e2]; exact Ar5.1) (State.isArrayOf_alike hZ.alike Ar5.2.1) Ar5.2.2 hin5 hat5 (g := (mkF m 31 #[.val (.int (18 : Int32))] [(.int ((18 : Int32) - (1 : Int32))), (.ref a_D)])) rfl rfl (hb hby dd18_31) _ ?_
    exact k)
  obtain ⟨fs, hr, hrun, hended, hW, hsame⟩ := X2.leave (v := some (.long (7200000 : Int64))) (fun h => by rw [Bd.returns] at h; cases h)
  refine ⟨_, _, p6 _ ?_, hrun, hended, _, _, rfl, ?_, ⟨_, rfl⟩, hW, hsame.mono (by decide) (by decide)⟩
  · show Steps p.tables e below (T2.setTop (mkF m 32 #[.val (.int (18 : Int32))] [(.long (7200000 : Int64))])) _
    exact retOut X2 hx Bd.returns rfl (Or.inr (Or.inl ⟨rfl, rfl, _, rfl⟩)) (hb hby dd18_32) hr
  · show Qd18 Z a_D kk h0 n0 _ T2.heap _
    rw [e2]
    exact ⟨rfl, N0, rfl⟩
theorem de18_0 : decode method_2_code 0 = .ok (.iload_n 0, 1) := by decide +kernel
theorem de18_1 : decode method_2_code 1 = .ok (.iconst 4, 1) := by decide +kernel
theorem de18_2 : decode method_2_code 2 = .ok (.if_icmp .gt 34, 3) := by decide +kernel
theorem de18_36 : decode method_2_code 36 = .ok (.iload_n 0, 1) := by decide +kernel
theorem de18_37 : decode method_2_code 37 = .ok (.bipush 14, 2) := by decide +kernel
theorem de18_39 : decode method_2_code 39 = .ok (.if_icmp .gt 12, 3) := by decide +kernel
theorem de18_51 : decode method_2_code 51 = .ok (.iload_n 0, 1) := by decide +kernel
theorem de18_52 : decode method_2_code 52 = .ok (.bipush 15, 2) := by decide +kernel
theorem de18_54 : decode method_2_code 54 = .ok (.if_icmp .ne 7, 3) := by decide +kernel
theorem de18_61 : decode method_2_code 61 = .ok (.iload_n 0, 1) := by decide +kernel
theorem de18_62 : decode method_2_code 62 = .ok (.bipush 16, 2) := by decide +kernel
theorem de18_64 : decode method_2_code 64 = .ok (.if_icmp .ne 7, 3) := by decide +kernel
theorem de18_71 : decode method_2_code 71 = .ok (.iload_n 0, 1) := by decide +kernel
theorem de18_72 : decode method_2_code 72 = .ok (.bipush 17, 2) := by decide +kernel
theorem de18_74 : decode method_2_code 74 = .ok (.if_icmp .ne 7, 3) := by decide +kernel
theorem de18_81 : decode method_2_code 81 = .ok (.ldc2_w 23, 3) := by decide +kernel
theorem de18_84 : decode method_2_code 84 = .ok (.lreturn, 1) := by decide +kernel
theorem pne18 : plainName "com/example/ordo/ordo/store/DelayLevelsDelayMillisPinLaw" = true := by first | (simp [plainName, overriddenIn]; done) | decide +kernel
theorem efe18 (m : MethodId)  : entryFrame m #[(.int (18 : Int32))] 1 = mkF m 0 #[.val (.int (18 : Int32))] [] := by first | (simp [entryFrame, mkF, argsToLocals, Value.category]; done) | rfl
def Qe18 (Z : State)  (h0 : Heap) (n0 : Nat) (v : Option Value) (h : Heap) (L : List Loc) : Prop := v = some (.long (7200000 : Int64)) ∧ Fr n0 L ∧ h = h0
set_option maxRecDepth 65536 in
set_option maxHeartbeats 40000000 in
theorem rme18 (l : Launch) (Z : State) (a0 : Array Value) (hw : ∀ d ∈ tables_1, d.before a0 Z = true) (ws : List Jvm.Cond)  (h0 : Heap) (n0 : Nat) (Z0 : n0 ≤ h0.size) :
    MetFree l (⟨"com/example/ordo/ordo/store/DelayLevelsDelayMillisPinLaw", "expected", "(I)J"⟩ : MethodName) (head1 (Jvm.Cond.code (⟨"com/example/ordo/ordo/store/DelayLevelsDelayMillisPinLaw", "expected", "(I)J"⟩ : MethodName) method_2_code 1 (some .long) :: ws) ({ frames := 0, cells := 0, slots := 0, locals := 0 } : Room)) (fun a U => a = #[(.int (18 : Int32))] ∧ Z.Warmed39 U.vm ∧ U.heap = h0) (fun _ _ _ _ _ => True) (fun _ U o U' => ∃ v L, o = .returned v ∧ Qe18 Z  h0 n0 v U'.heap L ∧ FrameEnd U o U' L ({ frames := 0, cells := 0, slots := 0, locals := 0 } : Room).cells ({ frames := 0, cells := 0, slots := 0, locals := 0 } : Room).slots) := by
  refine MetFree.of_bodySF (plainFor_of_name pne18) hisR ?_
  intro p e s m args below meth c s₁ Bd hml0 hP hK
  obtain ⟨rfl, hZ, hh⟩ := hP
  have hx := Bd.exec
  have hby := Bd.bytes
  have hml : c.maxLocals = 1 := hml0
  have hown : s.vm.findClass "com/example/ordo/ordo/store/DelayLevelsDelayMillisPinLaw" = some m.cls := findClass_of_methodNamed Bd.named
  have hnm := (name_of_methodNamed Bd.named Bd.method).1
  have X0 : Stand p l e ({ frames := 0, cells := 0, slots := 0, locals := 0 } : Room) s m #[(.int (18 : Int32))] below meth c s₁ [] 0 0 := Stand.of_body Bd
  have e0 : s₁.heap = h0 := by rw [← hh, Bd.state]; rfl
  have N0 := Fr.nil n0
  have pre0 : ∀ t, Steps p.tables e below (s₁.setTop (mkF m 0 #[.val (.int (18 : Int32))] [])) t → Steps p.tables e below (s₁.setTop (entryFrame m #[(.int (18 : Int32))] 1)) t := fun t k => castTop (efe18 m ) k
  have p1 : ∀ t, Steps p.tables e below (s₁.setTop (mkF m 84 #[.val (.int (18 : Int32))] [(.long (7200000 : Int64))])) t → Steps p.tables e below (s₁.setTop (entryFrame m #[(.int (18 : Int32))] 1)) t := fun t k => pre0 t (by
    show Steps p.tables e below (s₁.setTop (mkF m 0 #[.val (.int (18 : Int32))] [])) _
    refine XS.iloadN X0.here hx rfl (hb hby de18_0) rfl ?_
    show Steps p.tables e below (s₁.setTop (mkF m 1 #[.val (.int (18 : Int32))] [(.int (18 : Int32))])) _
    refine XS.iconst X0.here hx rfl (hb hby de18_1) ?_
    show Steps p.tables e below (s₁.setTop (mkF m 2 #[.val (.int (18 : Int32))] [(.int (4 : Int32)), (.int (18 : Int32))])) _
    refine XS.icmpYes X0.here hx rfl (pc0 := 2) (pc' := 36) rfl (hb hby de18_2) rfl ((tlt (by decide)).2.2.1) (by decide) (by decide) ?_
    show Steps p.tables e below (s₁.setTop (mkF m 36 #[.val (.int (18 : Int32))] [])) _
    refine XS.iloadN X0.here hx rfl (hb hby de18_36) rfl ?_
    show Steps p.tables e below (s₁.setTop (mkF m 37 #[.val (.int (18 : Int32))] [(.int (18 : Int32))])) _
    refine XS.bipush X0.here hx rfl (hb hby de18_37) ?_
    show Steps p.tables e below (s₁.setTop (mkF m 39 #[.val (.int (18 : Int32))] [(.int (14 : Int32)), (.int (18 : Int32))])) _
    refine XS.icmpYes X0.here hx rfl (pc0 := 39) (pc' := 51) rfl (hb hby de18_39) rfl ((tlt (by decide)).2.2.1) (by decide) (by decide) ?_
    show Steps p.tables e below (s₁.setTop (mkF m 51 #[.val (.int (18 : Int32))] [])) _
    refine XS.iloadN X0.here hx rfl (hb hby de18_51) rfl ?_
    show Steps p.tables e below (s₁.setTop (mkF m 52 #[.val (.int (18 : Int32))] [(.int (18 : Int32))])) _
    refine XS.bipush X0.here hx rfl (hb hby de18_52) ?_
    show Steps p.tables e below (s₁.setTop (mkF m 54 #[.val (.int (18 : Int32))] [(.int (15 : Int32)), (.int (18 : Int32))])) _
    refine XS.icmpYes X0.here hx rfl (pc0 := 54) (pc' := 61) rfl (hb hby de18_54) rfl ((feq (by decide)).2) (by decide) (by decide) ?_
    show Steps p.tables e below (s₁.setTop (mkF m 61 #[.val (.int (18 : Int32))] [])) _
    refine XS.iloadN X0.here hx rfl (hb hby de18_61) rfl ?_
    show Steps p.tables e below (s₁.setTop (mkF m 62 #[.val (.int (18 : Int32))] [(.int (18 : Int32))])) _
    refine XS.bipush X0.here hx rfl (hb hby de18_62) ?_
    show Steps p.tables e below (s₁.setTop (mkF m 64 #[.val (.int (18 : Int32))] [(.int (16 : Int32)), (.int (18 : Int32))])) _
    refine XS.icmpYes X0.here hx rfl (pc0 := 64) (pc' := 71) rfl (hb hby de18_64) rfl ((feq (by decide)).2) (by decide) (by decide) ?_
    show Steps p.tables e below (s₁.setTop (mkF m 71 #[.val (.int (18 : Int32))] [])) _
    refine XS.iloadN X0.here hx rfl (hb hby de18_71) rfl ?_
    show Steps p.tables e below (s₁.setTop (mkF m 72 #[.val (.int (18 : Int32))] [(.int (18 : Int32))])) _
    refine XS.bipush X0.here hx rfl (hb hby de18_72) ?_
    show Steps p.tables e below (s₁.setTop (mkF m 74 #[.val (.int (18 : Int32))] [(.int (17 : Int32)), (.int (18 : Int32))])) _
    refine XS.icmpYes X0.here hx rfl (pc0 := 74) (pc' := 81) rfl (hb hby de18_74) rfl ((feq (by decide)).2) (by decide) (by decide) ?_
    show Steps p.tables e below (s₁.setTop (mkF m 81 #[.val (.int (18 : Int32))] [])) _
    refine X0.ldc2Long hx hown (mvT hZ (hw _ (List.mem_of_getElem? (i := 18) rfl))) (g := (mkF m 81 #[.val (.int (18 : Int32))] [])) rfl (hb hby de18_81) _ ?_
    exact k)
  obtain ⟨fs, hr, hrun, hended, hW, hsame⟩ := X0.leave (v := some (.long (7200000 : Int64))) (fun h => by rw [Bd.returns] at h; cases h)
  refine ⟨_, _, p1 _ ?_, hrun, hended, _, _, rfl, ?_, ⟨_, rfl⟩, hW, hsame.mono (by decide) (by decide)⟩
  · show Steps p.tables e below (s₁.setTop (mkF m 84 #[.val (.int (18 : Int32))] [(.long (7200000 : Int64))])) _
    exact retOut X0 hx Bd.returns rfl (Or.inr (Or.inl ⟨rfl, rfl, _, rfl⟩)) (hb hby de18_84) hr
  · show Qe18 Z  h0 n0 _ s₁.heap _
    rw [e0]
    exact ⟨rfl, N0, rfl⟩
theorem pn0 : plainName "com/example/ordo/ordo/store/DelayLevelsDelayMillisPinLaw" = true := by first | (simp [plainName, overriddenIn]; done) | decide +kernel
theorem pd0_0 : parseMethodDescriptor "(I)J" = some ⟨[.int], some .long⟩ := by decide +kernel
theorem ef0 (m : MethodId) (x0 : Int32) : entryFrame m #[(.int x0)] maxLocals = mkF m 0 #[.val (.int x0), .unset] [] := by first | (simp [entryFrame, mkF, argsToLocals, Value.category, maxLocals]; done) | rfl
def Q0 (Z : State) (x0 : Int32) (a_D : Addr) (kk : ClassId) (h0 : Heap) (n0 : Nat) (v : Option Value) (h : Heap) (L : List Loc) : Prop := v = some (.int (1 : Int32)) ∧ Fr n0 L
set_option maxRecDepth 65536 in
set_option maxHeartbeats 40000000 in
theorem rm0 (l : Launch) (Z : State) (a0 : Array Value) (hw : ∀ d ∈ tables_1, d.before a0 Z = true) (ws : List Jvm.Cond) (x0 : Int32) (a_D : Addr) (kk : ClassId) (h0 : Heap) (n0 : Nat) (Z0 : n0 ≤ h0.size) (S_D : Sta Z h0 "com/example/ordo/ordo/store/DelayLevels" "DELAYS" "[J" (.ref a_D)) (V_D : Arv Z h0 a_D kk .long (18 : Int32) own_ds (.long (0 : Int64))) :
    MetFree l x (head1 (Jvm.Cond.code x code maxLocals ret :: ws) room_1) (fun a U => a = #[(.int x0)] ∧ Z.Warmed39 U.vm ∧ U.heap = h0) (fun _ _ _ _ _ => True) (fun _ U o U' => ∃ v L, o = .returned v ∧ Q0 Z x0 a_D kk h0 n0 v U'.heap L ∧ FrameEnd U o U' L room_1.cells room_1.slots) := by
  refine MetFree.of_bodySF (plainFor_of_name pn0) hisR ?_
  intro p e s m args below meth c s₁ Bd hml0 hP hK
  obtain ⟨rfl, hZ, hh⟩ := hP
  have hx := Bd.exec
  have hby := Bd.bytes
  have hml : c.maxLocals = 2 := hml0
  have hown : s.vm.findClass "com/example/ordo/ordo/store/DelayLevelsDelayMillisPinLaw" = some m.cls := findClass_of_methodNamed Bd.named
  have hnm := (name_of_methodNamed Bd.named Bd.method).1
  have X0 : Stand p l e room_1 s m #[(.int x0)] below meth c s₁ [] 0 0 := Stand.of_body Bd
  have e0 : s₁.heap = h0 := by rw [← hh, Bd.state]; rfl
  have N0 := Fr.nil n0
  have pre0 : ∀ t, Steps p.tables e below (s₁.setTop (mkF m 0 #[.val (.int x0), .unset] [])) t → Steps p.tables e below (s₁.setTop (entryFrame m #[(.int x0)] maxLocals)) t := fun t k => castTop (ef0 m x0) k
  have p1 : ∀ t, Steps p.tables e below (s₁.setTop (mkF m 10 #[.val (.int x0), .val (.int (((x0 &&& (2147483647 : Int32)) % (18 : Int32)) + (1 : Int32)))] [])) t → Steps p.tables e below (s₁.setTop (entryFrame m #[(.int x0)] maxLocals)) t := fun t k => pre0 t (by
    show Steps p.tables e below (s₁.setTop (mkF m 0 #[.val (.int x0), .unset] [])) _
    refine XS.iloadN X0.here hx rfl (hb hby at_0) rfl ?_
    show Steps p.tables e below (s₁.setTop (mkF m 1 #[.val (.int x0), .unset] [(.int x0)])) _
    refine X0.ldcInt hx hown (mvT hZ (hw _ (List.mem_of_getElem? (i := 0) rfl))) (g := (mkF m 1 #[.val (.int x0), .unset] [(.int x0)])) rfl (hb hby at_1) _ ?_
    show Steps p.tables e below (s₁.setTop (mkF m 3 #[.val (.int x0), .unset] [(.int (2147483647 : Int32)), (.int x0)])) _
    refine XS.iand X0.here hx rfl (hb hby at_3) rfl ?_
    show Steps p.tables e below (s₁.setTop (mkF m 4 #[.val (.int x0), .unset] [(.int (x0 &&& (2147483647 : Int32)))])) _
    refine XS.bipush X0.here hx rfl (hb hby at_4) ?_
    show Steps p.tables e below (s₁.setTop (mkF m 6 #[.val (.int x0), .unset] [(.int (18 : Int32)), (.int (x0 &&& (2147483647 : Int32)))])) _
    refine iremM X0 hx rfl (hb hby at_6) rfl (by decide) ?_
    show Steps p.tables e below (s₁.setTop (mkF m 7 #[.val (.int x0), .unset] [(.int ((x0 &&& (2147483647 : Int32)) % (18 : Int32)))])) _
    refine XS.iconst X0.here hx rfl (hb hby at_7) ?_
    show Steps p.tables e below (s₁.setTop (mkF m 8 #[.val (.int x0), .unset] [(.int (1 : Int32)), (.int ((x0 &&& (2147483647 : Int32)) % (18 : Int32)))])) _
    refine XS.iadd X0.here hx rfl (hb hby at_8) rfl ?_
    show Steps p.tables e below (s₁.setTop (mkF m 9 #[.val (.int x0), .unset] [(.int (((x0 &&& (2147483647 : Int32)) % (18 : Int32)) + (1 : Int32)))])) _
    refine XS.istoreN X0.here hx rfl (hb hby at_9) rfl (l' := #[.val (.int x0), .val (.int (((x0 &&& (2147483647 : Int32)) % (18 : Int32)) + (1 : Int32)))]) rfl ?_
    exact k)
  obtain ⟨vk, hvk⟩ : ∃ z : Int32, z = (((x0 &&& (2147483647 : Int32)) % (18 : Int32)) + (1 : Int32)) := ⟨_, rfl⟩
  have p2 : ∀ t, Steps p.tables e below (s₁.setTop (mkF m 10 #[.val (.int x0), .val (.int vk)] [])) t → Steps p.tables e below (s₁.setTop (entryFrame m #[(.int x0)] maxLocals)) t := by
    intro t k; subst hvk; exact p1 t k
  rcases own_k18 hvk with rfl | rfl | rfl | rfl | rfl | rfl | rfl | rfl | rfl | rfl | rfl | rfl | rfl | rfl | rfl | rfl | rfl | rfl
  · have p3 : ∀ t, Steps p.tables e below (s₁.setTop (mkF m 24 #[.val (.int x0), .val (.int (1 : Int32))] [(.int (1 : Int32))])) t → Steps p.tables e below (s₁.setTop (entryFrame m #[(.int x0)] maxLocals)) t := fun t k => p2 t (by
      show Steps p.tables e below (s₁.setTop (mkF m 10 #[.val (.int x0), .val (.int (1 : Int32))] [])) _
      refine XS.iloadN X0.here hx rfl (hb hby at_10) rfl ?_
      show Steps p.tables e below (s₁.setTop (mkF m 11 #[.val (.int x0), .val (.int (1 : Int32))] [(.int (1 : Int32))])) _
      refine XS.iconst X0.here hx rfl (hb hby at_11) ?_
      show Steps p.tables e below (s₁.setTop (mkF m 12 #[.val (.int x0), .val (.int (1 : Int32))] [(.int (1 : Int32)), (.int (1 : Int32))])) _
      refine XS.icmpNo X0.here hx rfl (hb hby at_12) rfl ((flt (by decide)).1) ?_
      show Steps p.tables e below (s₁.setTop (mkF m 15 #[.val (.int x0), .val (.int (1 : Int32))] [])) _
      refine XS.iloadN X0.here hx rfl (hb hby at_15) rfl ?_
      show Steps p.tables e below (s₁.setTop (mkF m 16 #[.val (.int x0), .val (.int (1 : Int32))] [(.int (1 : Int32))])) _
      refine XS.bipush X0.here hx rfl (hb hby at_16) ?_
      show Steps p.tables e below (s₁.setTop (mkF m 18 #[.val (.int x0), .val (.int (1 : Int32))] [(.int (18 : Int32)), (.int (1 : Int32))])) _
      refine XS.icmpYes X0.here hx rfl (pc0 := 18) (pc' := 23) rfl (hb hby at_18) rfl ((flt (by decide)).2.2.2) (by decide) (by decide) ?_
      show Steps p.tables e below (s₁.setTop (mkF m 23 #[.val (.int x0), .val (.int (1 : Int32))] [])) _
      refine XS.iloadN X0.here hx rfl (hb hby at_23) rfl ?_
      exact k)
    obtain ⟨_, _, ⟨T4, L4, k4, n4⟩, -, X4, ⟨Lc4, hQ4, l4, y4, z4⟩, st4⟩ := Jvm.LawKit.callS X0 hx (y := (⟨"com/example/ordo/ordo/store/DelayLevels", "delayMillis", "(I)J"⟩ : MethodName)) hown (mvT hZ (hw _ (List.mem_of_getElem? (i := 1) rfl))) (mvT hZ (hw _ (List.mem_of_getElem? (i := 2) rfl))) (mvT hZ (hw _ (List.mem_of_getElem? (i := 3) rfl))) (mvT hZ (hw _ (List.mem_of_getElem? (i := 4) rfl))) (by decide) (backOf (W := 0) (rmd1 l Z a0 hw []  a_D kk h0 n0 Z0 S_D V_D) hZ (hw _ (List.mem_of_getElem? (i := 4) rfl)) (hw _ (List.mem_of_getElem? (i := 3) rfl)) (by decide) (by decide)) (g := (mkF m 24 #[.val (.int x0), .val (.int (1 : Int32))] [(.int (1 : Int32))])) rfl (by rw [hml]; rfl) (argsL := [(.int (1 : Int32))]) (rest := []) (lenOf pd0_0 rfl) rfl (by show 2 * 0 + _ ≤ _; exact Nat.le_of_eq rfl) (hb hby at_24) (fun _ _ => ⟨rfl, e0, (by decide : 0 + 0 ≤ _), (by decide : 0 + 0 ≤ _)⟩)
    dsimp only [Pt.U, Pt.locs, Pt.cells, Pt.slots] at X4 l4 y4 z4 st4 hQ4
    subst l4 y4 z4
    obtain ⟨rfl, Nq4, e4⟩ := hQ4
    have N4 := Fr.app N0 Nq4
    have p5 : ∀ t, Steps p.tables e below (T4.setTop (mkF m 27 #[.val (.int x0), .val (.int (1 : Int32))] [(.long (1000 : Int64))])) t → Steps p.tables e below (s₁.setTop (entryFrame m #[(.int x0)] maxLocals)) t := fun t k => p3 t (st4 _ k)
    have p6 : ∀ t, Steps p.tables e below (T4.setTop (mkF m 28 #[.val (.int x0), .val (.int (1 : Int32))] [(.int (1 : Int32)), (.long (1000 : Int64))])) t → Steps p.tables e below (s₁.setTop (entryFrame m #[(.int x0)] maxLocals)) t := fun t k => p5 t (by
      show Steps p.tables e below (T4.setTop (mkF m 27 #[.val (.int x0), .val (.int (1 : Int32))] [(.long (1000 : Int64))])) _
      refine XS.iloadN X4.here hx rfl (hb hby at_27) rfl ?_
      exact k)
    obtain ⟨_, _, ⟨T7, L7, k7, n7⟩, -, X7, ⟨Lc7, hQ7, l7, y7, z7⟩, st7⟩ := Jvm.LawKit.callS X4 hx (y := (⟨"com/example/ordo/ordo/store/DelayLevelsDelayMillisPinLaw", "expected", "(I)J"⟩ : MethodName)) hown (mvT hZ (hw _ (List.mem_of_getElem? (i := 7) rfl))) (mvT hZ (hw _ (List.mem_of_getElem? (i := 8) rfl))) (mvT hZ (hw _ (List.mem_of_getElem? (i := 9) rfl))) (mvT hZ (hw _ (List.mem_of_getElem? (i := 10) rfl))) (by decide) (backOf (W := 2) (rme1 l Z a0 hw []   h0 n0 Z0 ) hZ (hw _ (List.mem_of_getElem? (i := 10) rfl)) (hw _ (List.mem_of_getElem? (i := 9) rfl)) (by decide) (by decide)) (g := (mkF m 28 #[.val (.int x0), .val (.int (1 : Int32))] [(.int (1 : Int32)), (.long (1000 : Int64))])) rfl (by rw [hml]; rfl) (argsL := [(.int (1 : Int32))]) (rest := [(.long (1000 : Int64))]) (lenOf pd0_0 rfl) rfl (by show 2 * 0 + _ ≤ _; exact Nat.le_of_eq rfl) (hb hby at_28) (fun _ _ => ⟨rfl, e4, (by decide : 0 + 0 ≤ _), (by decide : 0 + 0 ≤ _)⟩)
    dsimp only [Pt.U, Pt.locs, Pt.cells, Pt.slots] at X7 l7 y7 z7 st7 hQ7
    subst l7 y7 z7
    obtain ⟨rfl, Nq7, e7⟩ := hQ7
    have N7 := Fr.app N4 Nq7
    have p8 : ∀ t, Steps p.tables e below (T7.setTop (mkF m 31 #[.val (.int x0), .val (.int (1 : Int32))] [(.long (1000 : Int64)), (.long (1000 : Int64))])) t → Steps p.tables e below (s₁.setTop (entryFrame m #[(.int x0)] maxLocals)) t := fun t k => p6 t (st7 _ k)
    have p9 : ∀ t, Steps p.tables e below (T7.setTop (mkF m 40 #[.val (.int x0), .val (.int (1 : Int32))] [(.int (1 : Int32))])) t → Steps p.tables e below (s₁.setTop (entryFrame m #[(.int x0)] maxLocals)) t := fun t k => p8 t (by
      show Steps p.tables e below (T7.setTop (mkF m 31 #[.val (.int x0), .val (.int (1 : Int32))] [(.long (1000 : Int64)), (.long (1000 : Int64))])) _
      refine XS.lcmp X7.here hx rfl (hb hby at_31) rfl ?_
      show Steps p.tables e below (T7.setTop (mkF m 32 #[.val (.int x0), .val (.int (1 : Int32))] [(.int (lcmpW (1000 : Int64) (1000 : Int64)))])) _
      refine XS.ifNo X7.here hx rfl (hb hby at_32) rfl ((if0 _ _).trans (teq (by decide)).2) ?_
      show Steps p.tables e below (T7.setTop (mkF m 35 #[.val (.int x0), .val (.int (1 : Int32))] [])) _
      refine XS.iconst X7.here hx rfl (hb hby at_35) ?_
      show Steps p.tables e below (T7.setTop (mkF m 36 #[.val (.int x0), .val (.int (1 : Int32))] [(.int (1 : Int32))])) _
      refine XS.goto X7.here hx rfl (pc0 := 36) (pc' := 40) rfl (hb hby at_36) (by decide) (by decide) ?_
      exact k)
    obtain ⟨fs, hr, hrun, hended, hW, hsame⟩ := X7.leave (v := some (.int (1 : Int32))) (fun h => by rw [Bd.returns] at h; cases h)
    refine ⟨_, _, p9 _ ?_, hrun, hended, _, _, rfl, ?_, ⟨_, rfl⟩, hW, hsame.mono (by decide) (by decide)⟩
    · show Steps p.tables e below (T7.setTop (mkF m 40 #[.val (.int x0), .val (.int (1 : Int32))] [(.int (1 : Int32))])) _
      exact retN X7 hx (t := .boolean) Bd.returns (by simp) (hb hby at_40) hr
    · show Q0 Z x0 a_D kk h0 n0 _ T7.heap _
      rw [e7]
      exact ⟨rfl, N7⟩
  · have p10 : ∀ t, Steps p.tables e below (s₁.setTop (mkF m 24 #[.val (.int x0), .val (.int (2 : Int32))] [(.int (2 : Int32))])) t → Steps p.tables e below (s₁.setTop (entryFrame m #[(.int x0)] maxLocals)) t := fun t k => p2 t (by
      show Steps p.tables e below (s₁.setTop (mkF m 10 #[.val (.int x0), .val (.int (2 : Int32))] [])) _
      refine XS.iloadN X0.here hx rfl (hb hby at_10) rfl ?_
      show Steps p.tables e below (s₁.setTop (mkF m 11 #[.val (.int x0), .val (.int (2 : Int32))] [(.int (2 : Int32))])) _
      refine XS.iconst X0.here hx rfl (hb hby at_11) ?_
      show Steps p.tables e below (s₁.setTop (mkF m 12 #[.val (.int x0), .val (.int (2 : Int32))] [(.int (1 : Int32)), (.int (2 : Int32))])) _
      refine XS.icmpNo X0.here hx rfl (hb hby at_12) rfl ((flt (by decide)).1) ?_
      show Steps p.tables e below (s₁.setTop (mkF m 15 #[.val (.int x0), .val (.int (2 : Int32))] [])) _
      refine XS.iloadN X0.here hx rfl (hb hby at_15) rfl ?_
      show Steps p.tables e below (s₁.setTop (mkF m 16 #[.val (.int x0), .val (.int (2 : Int32))] [(.int (2 : Int32))])) _
      refine XS.bipush X0.here hx rfl (hb hby at_16) ?_
      show Steps p.tables e below (s₁.setTop (mkF m 18 #[.val (.int x0), .val (.int (2 : Int32))] [(.int (18 : Int32)), (.int (2 : Int32))])) _
      refine XS.icmpYes X0.here hx rfl (pc0 := 18) (pc' := 23) rfl (hb hby at_18) rfl ((flt (by decide)).2.2.2) (by decide) (by decide) ?_
      show Steps p.tables e below (s₁.setTop (mkF m 23 #[.val (.int x0), .val (.int (2 : Int32))] [])) _
      refine XS.iloadN X0.here hx rfl (hb hby at_23) rfl ?_
      exact k)
    obtain ⟨_, _, ⟨T11, L11, k11, n11⟩, -, X11, ⟨Lc11, hQ11, l11, y11, z11⟩, st11⟩ := Jvm.LawKit.callS X0 hx (y := (⟨"com/example/ordo/ordo/store/DelayLevels", "delayMillis", "(I)J"⟩ : MethodName)) hown (mvT hZ (hw _ (List.mem_of_getElem? (i := 1) rfl))) (mvT hZ (hw _ (List.mem_of_getElem? (i := 2) rfl))) (mvT hZ (hw _ (List.mem_of_getElem? (i := 3) rfl))) (mvT hZ (hw _ (List.mem_of_getElem? (i := 4) rfl))) (by decide) (backOf (W := 0) (rmd2 l Z a0 hw []  a_D kk h0 n0 Z0 S_D V_D) hZ (hw _ (List.mem_of_getElem? (i := 4) rfl)) (hw _ (List.mem_of_getElem? (i := 3) rfl)) (by decide) (by decide)) (g := (mkF m 24 #[.val (.int x0), .val (.int (2 : Int32))] [(.int (2 : Int32))])) rfl (by rw [hml]; rfl) (argsL := [(.int (2 : Int32))]) (rest := []) (lenOf pd0_0 rfl) rfl (by show 2 * 0 + _ ≤ _; exact Nat.le_of_eq rfl) (hb hby at_24) (fun _ _ => ⟨rfl, e0, (by decide : 0 + 0 ≤ _), (by decide : 0 + 0 ≤ _)⟩)
    dsimp only [Pt.U, Pt.locs, Pt.cells, Pt.slots] at X11 l11 y11 z11 st11 hQ11
    subst l11 y11 z11
    obtain ⟨rfl, Nq11, e11⟩ := hQ11
    have N11 := Fr.app N0 Nq11
    have p12 : ∀ t, Steps p.tables e below (T11.setTop (mkF m 27 #[.val (.int x0), .val (.int (2 : Int32))] [(.long (5000 : Int64))])) t → Steps p.tables e below (s₁.setTop (entryFrame m #[(.int x0)] maxLocals)) t := fun t k => p10 t (st11 _ k)
    have p13 : ∀ t, Steps p.tables e below (T11.setTop (mkF m 28 #[.val (.int x0), .val (.int (2 : Int32))] [(.int (2 : Int32)), (.long (5000 : Int64))])) t → Steps p.tables e below (s₁.setTop (entryFrame m #[(.int x0)] maxLocals)) t := fun t k => p12 t (by
      show Steps p.tables e below (T11.setTop (mkF m 27 #[.val (.int x0), .val (.int (2 : Int32))] [(.long (5000 : Int64))])) _
      refine XS.iloadN X11.here hx rfl (hb hby at_27) rfl ?_
      exact k)
    obtain ⟨_, _, ⟨T14, L14, k14, n14⟩, -, X14, ⟨Lc14, hQ14, l14, y14, z14⟩, st14⟩ := Jvm.LawKit.callS X11 hx (y := (⟨"com/example/ordo/ordo/store/DelayLevelsDelayMillisPinLaw", "expected", "(I)J"⟩ : MethodName)) hown (mvT hZ (hw _ (List.mem_of_getElem? (i := 7) rfl))) (mvT hZ (hw _ (List.mem_of_getElem? (i := 8) rfl))) (mvT hZ (hw _ (List.mem_of_getElem? (i := 9) rfl))) (mvT hZ (hw _ (List.mem_of_getElem? (i := 10) rfl))) (by decide) (backOf (W := 2) (rme2 l Z a0 hw []   h0 n0 Z0 ) hZ (hw _ (List.mem_of_getElem? (i := 10) rfl)) (hw _ (List.mem_of_getElem? (i := 9) rfl)) (by decide) (by decide)) (g := (mkF m 28 #[.val (.int x0), .val (.int (2 : Int32))] [(.int (2 : Int32)), (.long (5000 : Int64))])) rfl (by rw [hml]; rfl) (argsL := [(.int (2 : Int32))]) (rest := [(.long (5000 : Int64))]) (lenOf pd0_0 rfl) rfl (by show 2 * 0 + _ ≤ _; exact Nat.le_of_eq rfl) (hb hby at_28) (fun _ _ => ⟨rfl, e11, (by decide : 0 + 0 ≤ _), (by decide : 0 + 0 ≤ _)⟩)
    dsimp only [Pt.U, Pt.locs, Pt.cells, Pt.slots] at X14 l14 y14 z14 st14 hQ14
    subst l14 y14 z14
    obtain ⟨rfl, Nq14, e14⟩ := hQ14
    have N14 := Fr.app N11 Nq14
    have p15 : ∀ t, Steps p.tables e below (T14.setTop (mkF m 31 #[.val (.int x0), .val (.int (2 : Int32))] [(.long (5000 : Int64)), (.long (5000 : Int64))])) t → Steps p.tables e below (s₁.setTop (entryFrame m #[(.int x0)] maxLocals)) t := fun t k => p13 t (st14 _ k)
    have p16 : ∀ t, Steps p.tables e below (T14.setTop (mkF m 40 #[.val (.int x0), .val (.int (2 : Int32))] [(.int (1 : Int32))])) t → Steps p.tables e below (s₁.setTop (entryFrame m #[(.int x0)] maxLocals)) t := fun t k => p15 t (by
      show Steps p.tables e below (T14.setTop (mkF m 31 #[.val (.int x0), .val (.int (2 : Int32))] [(.long (5000 : Int64)), (.long (5000 : Int64))])) _
      refine XS.lcmp X14.here hx rfl (hb hby at_31) rfl ?_
      show Steps p.tables e below (T14.setTop (mkF m 32 #[.val (.int x0), .val (.int (2 : Int32))] [(.int (lcmpW (5000 : Int64) (5000 : Int64)))])) _
      refine XS.ifNo X14.here hx rfl (hb hby at_32) rfl ((if0 _ _).trans (teq (by decide)).2) ?_
      show Steps p.tables e below (T14.setTop (mkF m 35 #[.val (.int x0), .val (.int (2 : Int32))] [])) _
      refine XS.iconst X14.here hx rfl (hb hby at_35) ?_
      show Steps p.tables e below (T14.setTop (mkF m 36 #[.val (.int x0), .val (.int (2 : Int32))] [(.int (1 : Int32))])) _
      refine XS.goto X14.here hx rfl (pc0 := 36) (pc' := 40) rfl (hb hby at_36) (by decide) (by decide) ?_
      exact k)
    obtain ⟨fs, hr, hrun, hended, hW, hsame⟩ := X14.leave (v := some (.int (1 : Int32))) (fun h => by rw [Bd.returns] at h; cases h)
    refine ⟨_, _, p16 _ ?_, hrun, hended, _, _, rfl, ?_, ⟨_, rfl⟩, hW, hsame.mono (by decide) (by decide)⟩
    · show Steps p.tables e below (T14.setTop (mkF m 40 #[.val (.int x0), .val (.int (2 : Int32))] [(.int (1 : Int32))])) _
      exact retN X14 hx (t := .boolean) Bd.returns (by simp) (hb hby at_40) hr
    · show Q0 Z x0 a_D kk h0 n0 _ T14.heap _
      rw [e14]
      exact ⟨rfl, N14⟩
  · have p17 : ∀ t, Steps p.tables e below (s₁.setTop (mkF m 24 #[.val (.int x0), .val (.int (3 : Int32))] [(.int (3 : Int32))])) t → Steps p.tables e below (s₁.setTop (entryFrame m #[(.int x0)] maxLocals)) t := fun t k => p2 t (by
      show Steps p.tables e below (s₁.setTop (mkF m 10 #[.val (.int x0), .val (.int (3 : Int32))] [])) _
      refine XS.iloadN X0.here hx rfl (hb hby at_10) rfl ?_
      show Steps p.tables e below (s₁.setTop (mkF m 11 #[.val (.int x0), .val (.int (3 : Int32))] [(.int (3 : Int32))])) _
      refine XS.iconst X0.here hx rfl (hb hby at_11) ?_
      show Steps p.tables e below (s₁.setTop (mkF m 12 #[.val (.int x0), .val (.int (3 : Int32))] [(.int (1 : Int32)), (.int (3 : Int32))])) _
      refine XS.icmpNo X0.here hx rfl (hb hby at_12) rfl ((flt (by decide)).1) ?_
      show Steps p.tables e below (s₁.setTop (mkF m 15 #[.val (.int x0), .val (.int (3 : Int32))] [])) _
      refine XS.iloadN X0.here hx rfl (hb hby at_15) rfl ?_
      show Steps p.tables e below (s₁.setTop (mkF m 16 #[.val (.int x0), .val (.int (3 : Int32))] [(.int (3 : Int32))])) _
      refine XS.bipush X0.here hx rfl (hb hby at_16) ?_
      show Steps p.tables e below (s₁.setTop (mkF m 18 #[.val (.int x0), .val (.int (3 : Int32))] [(.int (18 : Int32)), (.int (3 : Int32))])) _
      refine XS.icmpYes X0.here hx rfl (pc0 := 18) (pc' := 23) rfl (hb hby at_18) rfl ((flt (by decide)).2.2.2) (by decide) (by decide) ?_
      show Steps p.tables e below (s₁.setTop (mkF m 23 #[.val (.int x0), .val (.int (3 : Int32))] [])) _
      refine XS.iloadN X0.here hx rfl (hb hby at_23) rfl ?_
      exact k)
    obtain ⟨_, _, ⟨T18, L18, k18, n18⟩, -, X18, ⟨Lc18, hQ18, l18, y18, z18⟩, st18⟩ := Jvm.LawKit.callS X0 hx (y := (⟨"com/example/ordo/ordo/store/DelayLevels", "delayMillis", "(I)J"⟩ : MethodName)) hown (mvT hZ (hw _ (List.mem_of_getElem? (i := 1) rfl))) (mvT hZ (hw _ (List.mem_of_getElem? (i := 2) rfl))) (mvT hZ (hw _ (List.mem_of_getElem? (i := 3) rfl))) (mvT hZ (hw _ (List.mem_of_getElem? (i := 4) rfl))) (by decide) (backOf (W := 0) (rmd3 l Z a0 hw []  a_D kk h0 n0 Z0 S_D V_D) hZ (hw _ (List.mem_of_getElem? (i := 4) rfl)) (hw _ (List.mem_of_getElem? (i := 3) rfl)) (by decide) (by decide)) (g := (mkF m 24 #[.val (.int x0), .val (.int (3 : Int32))] [(.int (3 : Int32))])) rfl (by rw [hml]; rfl) (argsL := [(.int (3 : Int32))]) (rest := []) (lenOf pd0_0 rfl) rfl (by show 2 * 0 + _ ≤ _; exact Nat.le_of_eq rfl) (hb hby at_24) (fun _ _ => ⟨rfl, e0, (by decide : 0 + 0 ≤ _), (by decide : 0 + 0 ≤ _)⟩)
    dsimp only [Pt.U, Pt.locs, Pt.cells, Pt.slots] at X18 l18 y18 z18 st18 hQ18
    subst l18 y18 z18
    obtain ⟨rfl, Nq18, e18⟩ := hQ18
    have N18 := Fr.app N0 Nq18
    have p19 : ∀ t, Steps p.tables e below (T18.setTop (mkF m 27 #[.val (.int x0), .val (.int (3 : Int32))] [(.long (10000 : Int64))])) t → Steps p.tables e below (s₁.setTop (entryFrame m #[(.int x0)] maxLocals)) t := fun t k => p17 t (st18 _ k)
    have p20 : ∀ t, Steps p.tables e below (T18.setTop (mkF m 28 #[.val (.int x0), .val (.int (3 : Int32))] [(.int (3 : Int32)), (.long (10000 : Int64))])) t → Steps p.tables e below (s₁.setTop (entryFrame m #[(.int x0)] maxLocals)) t := fun t k => p19 t (by
      show Steps p.tables e below (T18.setTop (mkF m 27 #[.val (.int x0), .val (.int (3 : Int32))] [(.long (10000 : Int64))])) _
      refine XS.iloadN X18.here hx rfl (hb hby at_27) rfl ?_
      exact k)
    obtain ⟨_, _, ⟨T21, L21, k21, n21⟩, -, X21, ⟨Lc21, hQ21, l21, y21, z21⟩, st21⟩ := Jvm.LawKit.callS X18 hx (y := (⟨"com/example/ordo/ordo/store/DelayLevelsDelayMillisPinLaw", "expected", "(I)J"⟩ : MethodName)) hown (mvT hZ (hw _ (List.mem_of_getElem? (i := 7) rfl))) (mvT hZ (hw _ (List.mem_of_getElem? (i := 8) rfl))) (mvT hZ (hw _ (List.mem_of_getElem? (i := 9) rfl))) (mvT hZ (hw _ (List.mem_of_getElem? (i := 10) rfl))) (by decide) (backOf (W := 2) (rme3 l Z a0 hw []   h0 n0 Z0 ) hZ (hw _ (List.mem_of_getElem? (i := 10) rfl)) (hw _ (List.mem_of_getElem? (i := 9) rfl)) (by decide) (by decide)) (g := (mkF m 28 #[.val (.int x0), .val (.int (3 : Int32))] [(.int (3 : Int32)), (.long (10000 : Int64))])) rfl (by rw [hml]; rfl) (argsL := [(.int (3 : Int32))]) (rest := [(.long (10000 : Int64))]) (lenOf pd0_0 rfl) rfl (by show 2 * 0 + _ ≤ _; exact Nat.le_of_eq rfl) (hb hby at_28) (fun _ _ => ⟨rfl, e18, (by decide : 0 + 0 ≤ _), (by decide : 0 + 0 ≤ _)⟩)
    dsimp only [Pt.U, Pt.locs, Pt.cells, Pt.slots] at X21 l21 y21 z21 st21 hQ21
    subst l21 y21 z21
    obtain ⟨rfl, Nq21, e21⟩ := hQ21
    have N21 := Fr.app N18 Nq21
    have p22 : ∀ t, Steps p.tables e below (T21.setTop (mkF m 31 #[.val (.int x0), .val (.int (3 : Int32))] [(.long (10000 : Int64)), (.long (10000 : Int64))])) t → Steps p.tables e below (s₁.setTop (entryFrame m #[(.int x0)] maxLocals)) t := fun t k => p20 t (st21 _ k)
    have p23 : ∀ t, Steps p.tables e below (T21.setTop (mkF m 40 #[.val (.int x0), .val (.int (3 : Int32))] [(.int (1 : Int32))])) t → Steps p.tables e below (s₁.setTop (entryFrame m #[(.int x0)] maxLocals)) t := fun t k => p22 t (by
      show Steps p.tables e below (T21.setTop (mkF m 31 #[.val (.int x0), .val (.int (3 : Int32))] [(.long (10000 : Int64)), (.long (10000 : Int64))])) _
      refine XS.lcmp X21.here hx rfl (hb hby at_31) rfl ?_
      show Steps p.tables e below (T21.setTop (mkF m 32 #[.val (.int x0), .val (.int (3 : Int32))] [(.int (lcmpW (10000 : Int64) (10000 : Int64)))])) _
      refine XS.ifNo X21.here hx rfl (hb hby at_32) rfl ((if0 _ _).trans (teq (by decide)).2) ?_
      show Steps p.tables e below (T21.setTop (mkF m 35 #[.val (.int x0), .val (.int (3 : Int32))] [])) _
      refine XS.iconst X21.here hx rfl (hb hby at_35) ?_
      show Steps p.tables e below (T21.setTop (mkF m 36 #[.val (.int x0), .val (.int (3 : Int32))] [(.int (1 : Int32))])) _
      refine XS.goto X21.here hx rfl (pc0 := 36) (pc' := 40) rfl (hb hby at_36) (by decide) (by decide) ?_
      exact k)
    obtain ⟨fs, hr, hrun, hended, hW, hsame⟩ := X21.leave (v := some (.int (1 : Int32))) (fun h => by rw [Bd.returns] at h; cases h)
    refine ⟨_, _, p23 _ ?_, hrun, hended, _, _, rfl, ?_, ⟨_, rfl⟩, hW, hsame.mono (by decide) (by decide)⟩
    · show Steps p.tables e below (T21.setTop (mkF m 40 #[.val (.int x0), .val (.int (3 : Int32))] [(.int (1 : Int32))])) _
      exact retN X21 hx (t := .boolean) Bd.returns (by simp) (hb hby at_40) hr
    · show Q0 Z x0 a_D kk h0 n0 _ T21.heap _
      rw [e21]
      exact ⟨rfl, N21⟩
  · have p24 : ∀ t, Steps p.tables e below (s₁.setTop (mkF m 24 #[.val (.int x0), .val (.int (4 : Int32))] [(.int (4 : Int32))])) t → Steps p.tables e below (s₁.setTop (entryFrame m #[(.int x0)] maxLocals)) t := fun t k => p2 t (by
      show Steps p.tables e below (s₁.setTop (mkF m 10 #[.val (.int x0), .val (.int (4 : Int32))] [])) _
      refine XS.iloadN X0.here hx rfl (hb hby at_10) rfl ?_
      show Steps p.tables e below (s₁.setTop (mkF m 11 #[.val (.int x0), .val (.int (4 : Int32))] [(.int (4 : Int32))])) _
      refine XS.iconst X0.here hx rfl (hb hby at_11) ?_
      show Steps p.tables e below (s₁.setTop (mkF m 12 #[.val (.int x0), .val (.int (4 : Int32))] [(.int (1 : Int32)), (.int (4 : Int32))])) _
      refine XS.icmpNo X0.here hx rfl (hb hby at_12) rfl ((flt (by decide)).1) ?_
      show Steps p.tables e below (s₁.setTop (mkF m 15 #[.val (.int x0), .val (.int (4 : Int32))] [])) _
      refine XS.iloadN X0.here hx rfl (hb hby at_15) rfl ?_
      show Steps p.tables e below (s₁.setTop (mkF m 16 #[.val (.int x0), .val (.int (4 : Int32))] [(.int (4 : Int32))])) _
      refine XS.bipush X0.here hx rfl (hb hby at_16) ?_
      show Steps p.tables e below (s₁.setTop (mkF m 18 #[.val (.int x0), .val (.int (4 : Int32))] [(.int (18 : Int32)), (.int (4 : Int32))])) _
      refine XS.icmpYes X0.here hx rfl (pc0 := 18) (pc' := 23) rfl (hb hby at_18) rfl ((flt (by decide)).2.2.2) (by decide) (by decide) ?_
      show Steps p.tables e below (s₁.setTop (mkF m 23 #[.val (.int x0), .val (.int (4 : Int32))] [])) _
      refine XS.iloadN X0.here hx rfl (hb hby at_23) rfl ?_
      exact k)
    obtain ⟨_, _, ⟨T25, L25, k25, n25⟩, -, X25, ⟨Lc25, hQ25, l25, y25, z25⟩, st25⟩ := Jvm.LawKit.callS X0 hx (y := (⟨"com/example/ordo/ordo/store/DelayLevels", "delayMillis", "(I)J"⟩ : MethodName)) hown (mvT hZ (hw _ (List.mem_of_getElem? (i := 1) rfl))) (mvT hZ (hw _ (List.mem_of_getElem? (i := 2) rfl))) (mvT hZ (hw _ (List.mem_of_getElem? (i := 3) rfl))) (mvT hZ (hw _ (List.mem_of_getElem? (i := 4) rfl))) (by decide) (backOf (W := 0) (rmd4 l Z a0 hw []  a_D kk h0 n0 Z0 S_D V_D) hZ (hw _ (List.mem_of_getElem? (i := 4) rfl)) (hw _ (List.mem_of_getElem? (i := 3) rfl)) (by decide) (by decide)) (g := (mkF m 24 #[.val (.int x0), .val (.int (4 : Int32))] [(.int (4 : Int32))])) rfl (by rw [hml]; rfl) (argsL := [(.int (4 : Int32))]) (rest := []) (lenOf pd0_0 rfl) rfl (by show 2 * 0 + _ ≤ _; exact Nat.le_of_eq rfl) (hb hby at_24) (fun _ _ => ⟨rfl, e0, (by decide : 0 + 0 ≤ _), (by decide : 0 + 0 ≤ _)⟩)
    dsimp only [Pt.U, Pt.locs, Pt.cells, Pt.slots] at X25 l25 y25 z25 st25 hQ25
    subst l25 y25 z25
    obtain ⟨rfl, Nq25, e25⟩ := hQ25
    have N25 := Fr.app N0 Nq25
    have p26 : ∀ t, Steps p.tables e below (T25.setTop (mkF m 27 #[.val (.int x0), .val (.int (4 : Int32))] [(.long (30000 : Int64))])) t → Steps p.tables e below (s₁.setTop (entryFrame m #[(.int x0)] maxLocals)) t := fun t k => p24 t (st25 _ k)
    have p27 : ∀ t, Steps p.tables e below (T25.setTop (mkF m 28 #[.val (.int x0), .val (.int (4 : Int32))] [(.int (4 : Int32)), (.long (30000 : Int64))])) t → Steps p.tables e below (s₁.setTop (entryFrame m #[(.int x0)] maxLocals)) t := fun t k => p26 t (by
      show Steps p.tables e below (T25.setTop (mkF m 27 #[.val (.int x0), .val (.int (4 : Int32))] [(.long (30000 : Int64))])) _
      refine XS.iloadN X25.here hx rfl (hb hby at_27) rfl ?_
      exact k)
    obtain ⟨_, _, ⟨T28, L28, k28, n28⟩, -, X28, ⟨Lc28, hQ28, l28, y28, z28⟩, st28⟩ := Jvm.LawKit.callS X25 hx (y := (⟨"com/example/ordo/ordo/store/DelayLevelsDelayMillisPinLaw", "expected", "(I)J"⟩ : MethodName)) hown (mvT hZ (hw _ (List.mem_of_getElem? (i := 7) rfl))) (mvT hZ (hw _ (List.mem_of_getElem? (i := 8) rfl))) (mvT hZ (hw _ (List.mem_of_getElem? (i := 9) rfl))) (mvT hZ (hw _ (List.mem_of_getElem? (i := 10) rfl))) (by decide) (backOf (W := 2) (rme4 l Z a0 hw []   h0 n0 Z0 ) hZ (hw _ (List.mem_of_getElem? (i := 10) rfl)) (hw _ (List.mem_of_getElem? (i := 9) rfl)) (by decide) (by decide)) (g := (mkF m 28 #[.val (.int x0), .val (.int (4 : Int32))] [(.int (4 : Int32)), (.long (30000 : Int64))])) rfl (by rw [hml]; rfl) (argsL := [(.int (4 : Int32))]) (rest := [(.long (30000 : Int64))]) (lenOf pd0_0 rfl) rfl (by show 2 * 0 + _ ≤ _; exact Nat.le_of_eq rfl) (hb hby at_28) (fun _ _ => ⟨rfl, e25, (by decide : 0 + 0 ≤ _), (by decide : 0 + 0 ≤ _)⟩)
    dsimp only [Pt.U, Pt.locs, Pt.cells, Pt.slots] at X28 l28 y28 z28 st28 hQ28
    subst l28 y28 z28
    obtain ⟨rfl, Nq28, e28⟩ := hQ28
    have N28 := Fr.app N25 Nq28
    have p29 : ∀ t, Steps p.tables e below (T28.setTop (mkF m 31 #[.val (.int x0), .val (.int (4 : Int32))] [(.long (30000 : Int64)), (.long (30000 : Int64))])) t → Steps p.tables e below (s₁.setTop (entryFrame m #[(.int x0)] maxLocals)) t := fun t k => p27 t (st28 _ k)
    have p30 : ∀ t, Steps p.tables e below (T28.setTop (mkF m 40 #[.val (.int x0), .val (.int (4 : Int32))] [(.int (1 : Int32))])) t → Steps p.tables e below (s₁.setTop (entryFrame m #[(.int x0)] maxLocals)) t := fun t k => p29 t (by
      show Steps p.tables e below (T28.setTop (mkF m 31 #[.val (.int x0), .val (.int (4 : Int32))] [(.long (30000 : Int64)), (.long (30000 : Int64))])) _
      refine XS.lcmp X28.here hx rfl (hb hby at_31) rfl ?_
      show Steps p.tables e below (T28.setTop (mkF m 32 #[.val (.int x0), .val (.int (4 : Int32))] [(.int (lcmpW (30000 : Int64) (30000 : Int64)))])) _
      refine XS.ifNo X28.here hx rfl (hb hby at_32) rfl ((if0 _ _).trans (teq (by decide)).2) ?_
      show Steps p.tables e below (T28.setTop (mkF m 35 #[.val (.int x0), .val (.int (4 : Int32))] [])) _
      refine XS.iconst X28.here hx rfl (hb hby at_35) ?_
      show Steps p.tables e below (T28.setTop (mkF m 36 #[.val (.int x0), .val (.int (4 : Int32))] [(.int (1 : Int32))])) _
      refine XS.goto X28.here hx rfl (pc0 := 36) (pc' := 40) rfl (hb hby at_36) (by decide) (by decide) ?_
      exact k)
    obtain ⟨fs, hr, hrun, hended, hW, hsame⟩ := X28.leave (v := some (.int (1 : Int32))) (fun h => by rw [Bd.returns] at h; cases h)
    refine ⟨_, _, p30 _ ?_, hrun, hended, _, _, rfl, ?_, ⟨_, rfl⟩, hW, hsame.mono (by decide) (by decide)⟩
    · show Steps p.tables e below (T28.setTop (mkF m 40 #[.val (.int x0), .val (.int (4 : Int32))] [(.int (1 : Int32))])) _
      exact retN X28 hx (t := .boolean) Bd.returns (by simp) (hb hby at_40) hr
    · show Q0 Z x0 a_D kk h0 n0 _ T28.heap _
      rw [e28]
      exact ⟨rfl, N28⟩
  · have p31 : ∀ t, Steps p.tables e below (s₁.setTop (mkF m 24 #[.val (.int x0), .val (.int (5 : Int32))] [(.int (5 : Int32))])) t → Steps p.tables e below (s₁.setTop (entryFrame m #[(.int x0)] maxLocals)) t := fun t k => p2 t (by
      show Steps p.tables e below (s₁.setTop (mkF m 10 #[.val (.int x0), .val (.int (5 : Int32))] [])) _
      refine XS.iloadN X0.here hx rfl (hb hby at_10) rfl ?_
      show Steps p.tables e below (s₁.setTop (mkF m 11 #[.val (.int x0), .val (.int (5 : Int32))] [(.int (5 : Int32))])) _
      refine XS.iconst X0.here hx rfl (hb hby at_11) ?_
      show Steps p.tables e below (s₁.setTop (mkF m 12 #[.val (.int x0), .val (.int (5 : Int32))] [(.int (1 : Int32)), (.int (5 : Int32))])) _
      refine XS.icmpNo X0.here hx rfl (hb hby at_12) rfl ((flt (by decide)).1) ?_
      show Steps p.tables e below (s₁.setTop (mkF m 15 #[.val (.int x0), .val (.int (5 : Int32))] [])) _
      refine XS.iloadN X0.here hx rfl (hb hby at_15) rfl ?_
      show Steps p.tables e below (s₁.setTop (mkF m 16 #[.val (.int x0), .val (.int (5 : Int32))] [(.int (5 : Int32))])) _
      refine XS.bipush X0.here hx rfl (hb hby at_16) ?_
      show Steps p.tables e below (s₁.setTop (mkF m 18 #[.val (.int x0), .val (.int (5 : Int32))] [(.int (18 : Int32)), (.int (5 : Int32))])) _
      refine XS.icmpYes X0.here hx rfl (pc0 := 18) (pc' := 23) rfl (hb hby at_18) rfl ((flt (by decide)).2.2.2) (by decide) (by decide) ?_
      show Steps p.tables e below (s₁.setTop (mkF m 23 #[.val (.int x0), .val (.int (5 : Int32))] [])) _
      refine XS.iloadN X0.here hx rfl (hb hby at_23) rfl ?_
      exact k)
    obtain ⟨_, _, ⟨T32, L32, k32, n32⟩, -, X32, ⟨Lc32, hQ32, l32, y32, z32⟩, st32⟩ := Jvm.LawKit.callS X0 hx (y := (⟨"com/example/ordo/ordo/store/DelayLevels", "delayMillis", "(I)J"⟩ : MethodName)) hown (mvT hZ (hw _ (List.mem_of_getElem? (i := 1) rfl))) (mvT hZ (hw _ (List.mem_of_getElem? (i := 2) rfl))) (mvT hZ (hw _ (List.mem_of_getElem? (i := 3) rfl))) (mvT hZ (hw _ (List.mem_of_getElem? (i := 4) rfl))) (by decide) (backOf (W := 0) (rmd5 l Z a0 hw []  a_D kk h0 n0 Z0 S_D V_D) hZ (hw _ (List.mem_of_getElem? (i := 4) rfl)) (hw _ (List.mem_of_getElem? (i := 3) rfl)) (by decide) (by decide)) (g := (mkF m 24 #[.val (.int x0), .val (.int (5 : Int32))] [(.int (5 : Int32))])) rfl (by rw [hml]; rfl) (argsL := [(.int (5 : Int32))]) (rest := []) (lenOf pd0_0 rfl) rfl (by show 2 * 0 + _ ≤ _; exact Nat.le_of_eq rfl) (hb hby at_24) (fun _ _ => ⟨rfl, e0, (by decide : 0 + 0 ≤ _), (by decide : 0 + 0 ≤ _)⟩)
    dsimp only [Pt.U, Pt.locs, Pt.cells, Pt.slots] at X32 l32 y32 z32 st32 hQ32
    subst l32 y32 z32
    obtain ⟨rfl, Nq32, e32⟩ := hQ32
    have N32 := Fr.app N0 Nq32
    have p33 : ∀ t, Steps p.tables e below (T32.setTop (mkF m 27 #[.val (.int x0), .val (.int (5 : Int32))] [(.long (60000 : Int64))])) t → Steps p.tables e below (s₁.setTop (entryFrame m #[(.int x0)] maxLocals)) t := fun t k => p31 t (st32 _ k)
    have p34 : ∀ t, Steps p.tables e below (T32.setTop (mkF m 28 #[.val (.int x0), .val (.int (5 : Int32))] [(.int (5 : Int32)), (.long (60000 : Int64))])) t → Steps p.tables e below (s₁.setTop (entryFrame m #[(.int x0)] maxLocals)) t := fun t k => p33 t (by
      show Steps p.tables e below (T32.setTop (mkF m 27 #[.val (.int x0), .val (.int (5 : Int32))] [(.long (60000 : Int64))])) _
      refine XS.iloadN X32.here hx rfl (hb hby at_27) rfl ?_
      exact k)
    obtain ⟨_, _, ⟨T35, L35, k35, n35⟩, -, X35, ⟨Lc35, hQ35, l35, y35, z35⟩, st35⟩ := Jvm.LawKit.callS X32 hx (y := (⟨"com/example/ordo/ordo/store/DelayLevelsDelayMillisPinLaw", "expected", "(I)J"⟩ : MethodName)) hown (mvT hZ (hw _ (List.mem_of_getElem? (i := 7) rfl))) (mvT hZ (hw _ (List.mem_of_getElem? (i := 8) rfl))) (mvT hZ (hw _ (List.mem_of_getElem? (i := 9) rfl))) (mvT hZ (hw _ (List.mem_of_getElem? (i := 10) rfl))) (by decide) (backOf (W := 2) (rme5 l Z a0 hw []   h0 n0 Z0 ) hZ (hw _ (List.mem_of_getElem? (i := 10) rfl)) (hw _ (List.mem_of_getElem? (i := 9) rfl)) (by decide) (by decide)) (g := (mkF m 28 #[.val (.int x0), .val (.int (5 : Int32))] [(.int (5 : Int32)), (.long (60000 : Int64))])) rfl (by rw [hml]; rfl) (argsL := [(.int (5 : Int32))]) (rest := [(.long (60000 : Int64))]) (lenOf pd0_0 rfl) rfl (by show 2 * 0 + _ ≤ _; exact Nat.le_of_eq rfl) (hb hby at_28) (fun _ _ => ⟨rfl, e32, (by decide : 0 + 0 ≤ _), (by decide : 0 + 0 ≤ _)⟩)
    dsimp only [Pt.U, Pt.locs, Pt.cells, Pt.slots] at X35 l35 y35 z35 st35 hQ35
    subst l35 y35 z35
    obtain ⟨rfl, Nq35, e35⟩ := hQ35
    have N35 := Fr.app N32 Nq35
    have p36 : ∀ t, Steps p.tables e below (T35.setTop (mkF m 31 #[.val (.int x0), .val (.int (5 : Int32))] [(.long ((((5 : Int32) - (4 : Int32)).toInt64) * (60000 : Int64))), (.long (60000 : Int64))])) t → Steps p.tables e below (s₁.setTop (entryFrame m #[(.int x0)] maxLocals)) t := fun t k => p34 t (st35 _ k)
    have p37 : ∀ t, Steps p.tables e below (T35.setTop (mkF m 40 #[.val (.int x0), .val (.int (5 : Int32))] [(.int (1 : Int32))])) t → Steps p.tables e below (s₁.setTop (entryFrame m #[(.int x0)] maxLocals)) t := fun t k => p36 t (by
      show Steps p.tables e below (T35.setTop (mkF m 31 #[.val (.int x0), .val (.int (5 : Int32))] [(.long ((((5 : Int32) - (4 : Int32)).toInt64) * (60000 : Int64))), (.long (60000 : Int64))])) _
      refine XS.lcmp X35.here hx rfl (hb hby at_31) rfl ?_
      show Steps p.tables e below (T35.setTop (mkF m 32 #[.val (.int x0), .val (.int (5 : Int32))] [(.int (lcmpW (60000 : Int64) ((((5 : Int32) - (4 : Int32)).toInt64) * (60000 : Int64))))])) _
      refine XS.ifNo X35.here hx rfl (hb hby at_32) rfl ((if0 _ _).trans (teq (by decide)).2) ?_
      show Steps p.tables e below (T35.setTop (mkF m 35 #[.val (.int x0), .val (.int (5 : Int32))] [])) _
      refine XS.iconst X35.here hx rfl (hb hby at_35) ?_
      show Steps p.tables e below (T35.setTop (mkF m 36 #[.val (.int x0), .val (.int (5 : Int32))] [(.int (1 : Int32))])) _
      refine XS.goto X35.here hx rfl (pc0 := 36) (pc' := 40) rfl (hb hby at_36) (by decide) (by decide) ?_
      exact k)
    obtain ⟨fs, hr, hrun, hended, hW, hsame⟩ := X35.leave (v := some (.int (1 : Int32))) (fun h => by rw [Bd.returns] at h; cases h)
    refine ⟨_, _, p37 _ ?_, hrun, hended, _, _, rfl, ?_, ⟨_, rfl⟩, hW, hsame.mono (by decide) (by decide)⟩
    · show Steps p.tables e below (T35.setTop (mkF m 40 #[.val (.int x0), .val (.int (5 : Int32))] [(.int (1 : Int32))])) _
      exact retN X35 hx (t := .boolean) Bd.returns (by simp) (hb hby at_40) hr
    · show Q0 Z x0 a_D kk h0 n0 _ T35.heap _
      rw [e35]
      exact ⟨rfl, N35⟩
  · have p38 : ∀ t, Steps p.tables e below (s₁.setTop (mkF m 24 #[.val (.int x0), .val (.int (6 : Int32))] [(.int (6 : Int32))])) t → Steps p.tables e below (s₁.setTop (entryFrame m #[(.int x0)] maxLocals)) t := fun t k => p2 t (by
      show Steps p.tables e below (s₁.setTop (mkF m 10 #[.val (.int x0), .val (.int (6 : Int32))] [])) _
      refine XS.iloadN X0.here hx rfl (hb hby at_10) rfl ?_
      show Steps p.tables e below (s₁.setTop (mkF m 11 #[.val (.int x0), .val (.int (6 : Int32))] [(.int (6 : Int32))])) _
      refine XS.iconst X0.here hx rfl (hb hby at_11) ?_
      show Steps p.tables e below (s₁.setTop (mkF m 12 #[.val (.int x0), .val (.int (6 : Int32))] [(.int (1 : Int32)), (.int (6 : Int32))])) _
      refine XS.icmpNo X0.here hx rfl (hb hby at_12) rfl ((flt (by decide)).1) ?_
      show Steps p.tables e below (s₁.setTop (mkF m 15 #[.val (.int x0), .val (.int (6 : Int32))] [])) _
      refine XS.iloadN X0.here hx rfl (hb hby at_15) rfl ?_
      show Steps p.tables e below (s₁.setTop (mkF m 16 #[.val (.int x0), .val (.int (6 : Int32))] [(.int (6 : Int32))])) _
      refine XS.bipush X0.here hx rfl (hb hby at_16) ?_
      show Steps p.tables e below (s₁.setTop (mkF m 18 #[.val (.int x0), .val (.int (6 : Int32))] [(.int (18 : Int32)), (.int (6 : Int32))])) _
      refine XS.icmpYes X0.here hx rfl (pc0 := 18) (pc' := 23) rfl (hb hby at_18) rfl ((flt (by decide)).2.2.2) (by decide) (by decide) ?_
      show Steps p.tables e below (s₁.setTop (mkF m 23 #[.val (.int x0), .val (.int (6 : Int32))] [])) _
      refine XS.iloadN X0.here hx rfl (hb hby at_23) rfl ?_
      exact k)
    obtain ⟨_, _, ⟨T39, L39, k39, n39⟩, -, X39, ⟨Lc39, hQ39, l39, y39, z39⟩, st39⟩ := Jvm.LawKit.callS X0 hx (y := (⟨"com/example/ordo/ordo/store/DelayLevels", "delayMillis", "(I)J"⟩ : MethodName)) hown (mvT hZ (hw _ (List.mem_of_getElem? (i := 1) rfl))) (mvT hZ (hw _ (List.mem_of_getElem? (i := 2) rfl))) (mvT hZ (hw _ (List.mem_of_getElem? (i := 3) rfl))) (mvT hZ (hw _ (List.mem_of_getElem? (i := 4) rfl))) (by decide) (backOf (W := 0) (rmd6 l Z a0 hw []  a_D kk h0 n0 Z0 S_D V_D) hZ (hw _ (List.mem_of_getElem? (i := 4) rfl)) (hw _ (List.mem_of_getElem? (i := 3) rfl)) (by decide) (by decide)) (g := (mkF m 24 #[.val (.int x0), .val (.int (6 : Int32))] [(.int (6 : Int32))])) rfl (by rw [hml]; rfl) (argsL := [(.int (6 : Int32))]) (rest := []) (lenOf pd0_0 rfl) rfl (by show 2 * 0 + _ ≤ _; exact Nat.le_of_eq rfl) (hb hby at_24) (fun _ _ => ⟨rfl, e0, (by decide : 0 + 0 ≤ _), (by decide : 0 + 0 ≤ _)⟩)
    dsimp only [Pt.U, Pt.locs, Pt.cells, Pt.slots] at X39 l39 y39 z39 st39 hQ39
    subst l39 y39 z39
    obtain ⟨rfl, Nq39, e39⟩ := hQ39
    have N39 := Fr.app N0 Nq39
    have p40 : ∀ t, Steps p.tables e below (T39.setTop (mkF m 27 #[.val (.int x0), .val (.int (6 : Int32))] [(.long (120000 : Int64))])) t → Steps p.tables e below (s₁.setTop (entryFrame m #[(.int x0)] maxLocals)) t := fun t k => p38 t (st39 _ k)
    have p41 : ∀ t, Steps p.tables e below (T39.setTop (mkF m 28 #[.val (.int x0), .val (.int (6 : Int32))] [(.int (6 : Int32)), (.long (120000 : Int64))])) t → Steps p.tables e below (s₁.setTop (entryFrame m #[(.int x0)] maxLocals)) t := fun t k => p40 t (by
      show Steps p.tables e below (T39.setTop (mkF m 27 #[.val (.int x0), .val (.int (6 : Int32))] [(.long (120000 : Int64))])) _
      refine XS.iloadN X39.here hx rfl (hb hby at_27) rfl ?_
      exact k)
    obtain ⟨_, _, ⟨T42, L42, k42, n42⟩, -, X42, ⟨Lc42, hQ42, l42, y42, z42⟩, st42⟩ := Jvm.LawKit.callS X39 hx (y := (⟨"com/example/ordo/ordo/store/DelayLevelsDelayMillisPinLaw", "expected", "(I)J"⟩ : MethodName)) hown (mvT hZ (hw _ (List.mem_of_getElem? (i := 7) rfl))) (mvT hZ (hw _ (List.mem_of_getElem? (i := 8) rfl))) (mvT hZ (hw _ (List.mem_of_getElem? (i := 9) rfl))) (mvT hZ (hw _ (List.mem_of_getElem? (i := 10) rfl))) (by decide) (backOf (W := 2) (rme6 l Z a0 hw []   h0 n0 Z0 ) hZ (hw _ (List.mem_of_getElem? (i := 10) rfl)) (hw _ (List.mem_of_getElem? (i := 9) rfl)) (by decide) (by decide)) (g := (mkF m 28 #[.val (.int x0), .val (.int (6 : Int32))] [(.int (6 : Int32)), (.long (120000 : Int64))])) rfl (by rw [hml]; rfl) (argsL := [(.int (6 : Int32))]) (rest := [(.long (120000 : Int64))]) (lenOf pd0_0 rfl) rfl (by show 2 * 0 + _ ≤ _; exact Nat.le_of_eq rfl) (hb hby at_28) (fun _ _ => ⟨rfl, e39, (by decide : 0 + 0 ≤ _), (by decide : 0 + 0 ≤ _)⟩)
    dsimp only [Pt.U, Pt.locs, Pt.cells, Pt.slots] at X42 l42 y42 z42 st42 hQ42
    subst l42 y42 z42
    obtain ⟨rfl, Nq42, e42⟩ := hQ42
    have N42 := Fr.app N39 Nq42
    have p43 : ∀ t, Steps p.tables e below (T42.setTop (mkF m 31 #[.val (.int x0), .val (.int (6 : Int32))] [(.long ((((6 : Int32) - (4 : Int32)).toInt64) * (60000 : Int64))), (.long (120000 : Int64))])) t → Steps p.tables e below (s₁.setTop (entryFrame m #[(.int x0)] maxLocals)) t := fun t k => p41 t (st42 _ k)
    have p44 : ∀ t, Steps p.tables e below (T42.setTop (mkF m 40 #[.val (.int x0), .val (.int (6 : Int32))] [(.int (1 : Int32))])) t → Steps p.tables e below (s₁.setTop (entryFrame m #[(.int x0)] maxLocals)) t := fun t k => p43 t (by
      show Steps p.tables e below (T42.setTop (mkF m 31 #[.val (.int x0), .val (.int (6 : Int32))] [(.long ((((6 : Int32) - (4 : Int32)).toInt64) * (60000 : Int64))), (.long (120000 : Int64))])) _
      refine XS.lcmp X42.here hx rfl (hb hby at_31) rfl ?_
      show Steps p.tables e below (T42.setTop (mkF m 32 #[.val (.int x0), .val (.int (6 : Int32))] [(.int (lcmpW (120000 : Int64) ((((6 : Int32) - (4 : Int32)).toInt64) * (60000 : Int64))))])) _
      refine XS.ifNo X42.here hx rfl (hb hby at_32) rfl ((if0 _ _).trans (teq (by decide)).2) ?_
      show Steps p.tables e below (T42.setTop (mkF m 35 #[.val (.int x0), .val (.int (6 : Int32))] [])) _
      refine XS.iconst X42.here hx rfl (hb hby at_35) ?_
      show Steps p.tables e below (T42.setTop (mkF m 36 #[.val (.int x0), .val (.int (6 : Int32))] [(.int (1 : Int32))])) _
      refine XS.goto X42.here hx rfl (pc0 := 36) (pc' := 40) rfl (hb hby at_36) (by decide) (by decide) ?_
      exact k)
    obtain ⟨fs, hr, hrun, hended, hW, hsame⟩ := X42.leave (v := some (.int (1 : Int32))) (fun h => by rw [Bd.returns] at h; cases h)
    refine ⟨_, _, p44 _ ?_, hrun, hended, _, _, rfl, ?_, ⟨_, rfl⟩, hW, hsame.mono (by decide) (by decide)⟩
    · show Steps p.tables e below (T42.setTop (mkF m 40 #[.val (.int x0), .val (.int (6 : Int32))] [(.int (1 : Int32))])) _
      exact retN X42 hx (t := .boolean) Bd.returns (by simp) (hb hby at_40) hr
    · show Q0 Z x0 a_D kk h0 n0 _ T42.heap _
      rw [e42]
      exact ⟨rfl, N42⟩
  · have p45 : ∀ t, Steps p.tables e below (s₁.setTop (mkF m 24 #[.val (.int x0), .val (.int (7 : Int32))] [(.int (7 : Int32))])) t → Steps p.tables e below (s₁.setTop (entryFrame m #[(.int x0)] maxLocals)) t := fun t k => p2 t (by
      show Steps p.tables e below (s₁.setTop (mkF m 10 #[.val (.int x0), .val (.int (7 : Int32))] [])) _
      refine XS.iloadN X0.here hx rfl (hb hby at_10) rfl ?_
      show Steps p.tables e below (s₁.setTop (mkF m 11 #[.val (.int x0), .val (.int (7 : Int32))] [(.int (7 : Int32))])) _
      refine XS.iconst X0.here hx rfl (hb hby at_11) ?_
      show Steps p.tables e below (s₁.setTop (mkF m 12 #[.val (.int x0), .val (.int (7 : Int32))] [(.int (1 : Int32)), (.int (7 : Int32))])) _
      refine XS.icmpNo X0.here hx rfl (hb hby at_12) rfl ((flt (by decide)).1) ?_
      show Steps p.tables e below (s₁.setTop (mkF m 15 #[.val (.int x0), .val (.int (7 : Int32))] [])) _
      refine XS.iloadN X0.here hx rfl (hb hby at_15) rfl ?_
      show Steps p.tables e below (s₁.setTop (mkF m 16 #[.val (.int x0), .val (.int (7 : Int32))] [(.int (7 : Int32))])) _
      refine XS.bipush X0.here hx rfl (hb hby at_16) ?_
      show Steps p.tables e below (s₁.setTop (mkF m 18 #[.val (.int x0), .val (.int (7 : Int32))] [(.int (18 : Int32)), (.int (7 : Int32))])) _
      refine XS.icmpYes X0.here hx rfl (pc0 := 18) (pc' := 23) rfl (hb hby at_18) rfl ((flt (by decide)).2.2.2) (by decide) (by decide) ?_
      show Steps p.tables e below (s₁.setTop (mkF m 23 #[.val (.int x0), .val (.int (7 : Int32))] [])) _
      refine XS.iloadN X0.here hx rfl (hb hby at_23) rfl ?_
      exact k)
    obtain ⟨_, _, ⟨T46, L46, k46, n46⟩, -, X46, ⟨Lc46, hQ46, l46, y46, z46⟩, st46⟩ := Jvm.LawKit.callS X0 hx (y := (⟨"com/example/ordo/ordo/store/DelayLevels", "delayMillis", "(I)J"⟩ : MethodName)) hown (mvT hZ (hw _ (List.mem_of_getElem? (i := 1) rfl))) (mvT hZ (hw _ (List.mem_of_getElem? (i := 2) rfl))) (mvT hZ (hw _ (List.mem_of_getElem? (i := 3) rfl))) (mvT hZ (hw _ (List.mem_of_getElem? (i := 4) rfl))) (by decide) (backOf (W := 0) (rmd7 l Z a0 hw []  a_D kk h0 n0 Z0 S_D V_D) hZ (hw _ (List.mem_of_getElem? (i := 4) rfl)) (hw _ (List.mem_of_getElem? (i := 3) rfl)) (by decide) (by decide)) (g := (mkF m 24 #[.val (.int x0), .val (.int (7 : Int32))] [(.int (7 : Int32))])) rfl (by rw [hml]; rfl) (argsL := [(.int (7 : Int32))]) (rest := []) (lenOf pd0_0 rfl) rfl (by show 2 * 0 + _ ≤ _; exact Nat.le_of_eq rfl) (hb hby at_24) (fun _ _ => ⟨rfl, e0, (by decide : 0 + 0 ≤ _), (by decide : 0 + 0 ≤ _)⟩)
    dsimp only [Pt.U, Pt.locs, Pt.cells, Pt.slots] at X46 l46 y46 z46 st46 hQ46
    subst l46 y46 z46
    obtain ⟨rfl, Nq46, e46⟩ := hQ46
    have N46 := Fr.app N0 Nq46
    have p47 : ∀ t, Steps p.tables e below (T46.setTop (mkF m 27 #[.val (.int x0), .val (.int (7 : Int32))] [(.long (180000 : Int64))])) t → Steps p.tables e below (s₁.setTop (entryFrame m #[(.int x0)] maxLocals)) t := fun t k => p45 t (st46 _ k)
    have p48 : ∀ t, Steps p.tables e below (T46.setTop (mkF m 28 #[.val (.int x0), .val (.int (7 : Int32))] [(.int (7 : Int32)), (.long (180000 : Int64))])) t → Steps p.tables e below (s₁.setTop (entryFrame m #[(.int x0)] maxLocals)) t := fun t k => p47 t (by
      show Steps p.tables e below (T46.setTop (mkF m 27 #[.val (.int x0), .val (.int (7 : Int32))] [(.long (180000 : Int64))])) _
      refine XS.iloadN X46.here hx rfl (hb hby at_27) rfl ?_
      exact k)
    obtain ⟨_, _, ⟨T49, L49, k49, n49⟩, -, X49, ⟨Lc49, hQ49, l49, y49, z49⟩, st49⟩ := Jvm.LawKit.callS X46 hx (y := (⟨"com/example/ordo/ordo/store/DelayLevelsDelayMillisPinLaw", "expected", "(I)J"⟩ : MethodName)) hown (mvT hZ (hw _ (List.mem_of_getElem? (i := 7) rfl))) (mvT hZ (hw _ (List.mem_of_getElem? (i := 8) rfl))) (mvT hZ (hw _ (List.mem_of_getElem? (i := 9) rfl))) (mvT hZ (hw _ (List.mem_of_getElem? (i := 10) rfl))) (by decide) (backOf (W := 2) (rme7 l Z a0 hw []   h0 n0 Z0 ) hZ (hw _ (List.mem_of_getElem? (i := 10) rfl)) (hw _ (List.mem_of_getElem? (i := 9) rfl)) (by decide) (by decide)) (g := (mkF m 28 #[.val (.int x0), .val (.int (7 : Int32))] [(.int (7 : Int32)), (.long (180000 : Int64))])) rfl (by rw [hml]; rfl) (argsL := [(.int (7 : Int32))]) (rest := [(.long (180000 : Int64))]) (lenOf pd0_0 rfl) rfl (by show 2 * 0 + _ ≤ _; exact Nat.le_of_eq rfl) (hb hby at_28) (fun _ _ => ⟨rfl, e46, (by decide : 0 + 0 ≤ _), (by decide : 0 + 0 ≤ _)⟩)
    dsimp only [Pt.U, Pt.locs, Pt.cells, Pt.slots] at X49 l49 y49 z49 st49 hQ49
    subst l49 y49 z49
    obtain ⟨rfl, Nq49, e49⟩ := hQ49
    have N49 := Fr.app N46 Nq49
    have p50 : ∀ t, Steps p.tables e below (T49.setTop (mkF m 31 #[.val (.int x0), .val (.int (7 : Int32))] [(.long ((((7 : Int32) - (4 : Int32)).toInt64) * (60000 : Int64))), (.long (180000 : Int64))])) t → Steps p.tables e below (s₁.setTop (entryFrame m #[(.int x0)] maxLocals)) t := fun t k => p48 t (st49 _ k)
    have p51 : ∀ t, Steps p.tables e below (T49.setTop (mkF m 40 #[.val (.int x0), .val (.int (7 : Int32))] [(.int (1 : Int32))])) t → Steps p.tables e below (s₁.setTop (entryFrame m #[(.int x0)] maxLocals)) t := fun t k => p50 t (by
      show Steps p.tables e below (T49.setTop (mkF m 31 #[.val (.int x0), .val (.int (7 : Int32))] [(.long ((((7 : Int32) - (4 : Int32)).toInt64) * (60000 : Int64))), (.long (180000 : Int64))])) _
      refine XS.lcmp X49.here hx rfl (hb hby at_31) rfl ?_
      show Steps p.tables e below (T49.setTop (mkF m 32 #[.val (.int x0), .val (.int (7 : Int32))] [(.int (lcmpW (180000 : Int64) ((((7 : Int32) - (4 : Int32)).toInt64) * (60000 : Int64))))])) _
      refine XS.ifNo X49.here hx rfl (hb hby at_32) rfl ((if0 _ _).trans (teq (by decide)).2) ?_
      show Steps p.tables e below (T49.setTop (mkF m 35 #[.val (.int x0), .val (.int (7 : Int32))] [])) _
      refine XS.iconst X49.here hx rfl (hb hby at_35) ?_
      show Steps p.tables e below (T49.setTop (mkF m 36 #[.val (.int x0), .val (.int (7 : Int32))] [(.int (1 : Int32))])) _
      refine XS.goto X49.here hx rfl (pc0 := 36) (pc' := 40) rfl (hb hby at_36) (by decide) (by decide) ?_
      exact k)
    obtain ⟨fs, hr, hrun, hended, hW, hsame⟩ := X49.leave (v := some (.int (1 : Int32))) (fun h => by rw [Bd.returns] at h; cases h)
    refine ⟨_, _, p51 _ ?_, hrun, hended, _, _, rfl, ?_, ⟨_, rfl⟩, hW, hsame.mono (by decide) (by decide)⟩
    · show Steps p.tables e below (T49.setTop (mkF m 40 #[.val (.int x0), .val (.int (7 : Int32))] [(.int (1 : Int32))])) _
      exact retN X49 hx (t := .boolean) Bd.returns (by simp) (hb hby at_40) hr
    · show Q0 Z x0 a_D kk h0 n0 _ T49.heap _
      rw [e49]
      exact ⟨rfl, N49⟩
  · have p52 : ∀ t, Steps p.tables e below (s₁.setTop (mkF m 24 #[.val (.int x0), .val (.int (8 : Int32))] [(.int (8 : Int32))])) t → Steps p.tables e below (s₁.setTop (entryFrame m #[(.int x0)] maxLocals)) t := fun t k => p2 t (by
      show Steps p.tables e below (s₁.setTop (mkF m 10 #[.val (.int x0), .val (.int (8 : Int32))] [])) _
      refine XS.iloadN X0.here hx rfl (hb hby at_10) rfl ?_
      show Steps p.tables e below (s₁.setTop (mkF m 11 #[.val (.int x0), .val (.int (8 : Int32))] [(.int (8 : Int32))])) _
      refine XS.iconst X0.here hx rfl (hb hby at_11) ?_
      show Steps p.tables e below (s₁.setTop (mkF m 12 #[.val (.int x0), .val (.int (8 : Int32))] [(.int (1 : Int32)), (.int (8 : Int32))])) _
      refine XS.icmpNo X0.here hx rfl (hb hby at_12) rfl ((flt (by decide)).1) ?_
      show Steps p.tables e below (s₁.setTop (mkF m 15 #[.val (.int x0), .val (.int (8 : Int32))] [])) _
      refine XS.iloadN X0.here hx rfl (hb hby at_15) rfl ?_
      show Steps p.tables e below (s₁.setTop (mkF m 16 #[.val (.int x0), .val (.int (8 : Int32))] [(.int (8 : Int32))])) _
      refine XS.bipush X0.here hx rfl (hb hby at_16) ?_
      show Steps p.tables e below (s₁.setTop (mkF m 18 #[.val (.int x0), .val (.int (8 : Int32))] [(.int (18 : Int32)), (.int (8 : Int32))])) _
      refine XS.icmpYes X0.here hx rfl (pc0 := 18) (pc' := 23) rfl (hb hby at_18) rfl ((flt (by decide)).2.2.2) (by decide) (by decide) ?_
      show Steps p.tables e below (s₁.setTop (mkF m 23 #[.val (.int x0), .val (.int (8 : Int32))] [])) _
      refine XS.iloadN X0.here hx rfl (hb hby at_23) rfl ?_
      exact k)
    obtain ⟨_, _, ⟨T53, L53, k53, n53⟩, -, X53, ⟨Lc53, hQ53, l53, y53, z53⟩, st53⟩ := Jvm.LawKit.callS X0 hx (y := (⟨"com/example/ordo/ordo/store/DelayLevels", "delayMillis", "(I)J"⟩ : MethodName)) hown (mvT hZ (hw _ (List.mem_of_getElem? (i := 1) rfl))) (mvT hZ (hw _ (List.mem_of_getElem? (i := 2) rfl))) (mvT hZ (hw _ (List.mem_of_getElem? (i := 3) rfl))) (mvT hZ (hw _ (List.mem_of_getElem? (i := 4) rfl))) (by decide) (backOf (W := 0) (rmd8 l Z a0 hw []  a_D kk h0 n0 Z0 S_D V_D) hZ (hw _ (List.mem_of_getElem? (i := 4) rfl)) (hw _ (List.mem_of_getElem? (i := 3) rfl)) (by decide) (by decide)) (g := (mkF m 24 #[.val (.int x0), .val (.int (8 : Int32))] [(.int (8 : Int32))])) rfl (by rw [hml]; rfl) (argsL := [(.int (8 : Int32))]) (rest := []) (lenOf pd0_0 rfl) rfl (by show 2 * 0 + _ ≤ _; exact Nat.le_of_eq rfl) (hb hby at_24) (fun _ _ => ⟨rfl, e0, (by decide : 0 + 0 ≤ _), (by decide : 0 + 0 ≤ _)⟩)
    dsimp only [Pt.U, Pt.locs, Pt.cells, Pt.slots] at X53 l53 y53 z53 st53 hQ53
    subst l53 y53 z53
    obtain ⟨rfl, Nq53, e53⟩ := hQ53
    have N53 := Fr.app N0 Nq53
    have p54 : ∀ t, Steps p.tables e below (T53.setTop (mkF m 27 #[.val (.int x0), .val (.int (8 : Int32))] [(.long (240000 : Int64))])) t → Steps p.tables e below (s₁.setTop (entryFrame m #[(.int x0)] maxLocals)) t := fun t k => p52 t (st53 _ k)
    have p55 : ∀ t, Steps p.tables e below (T53.setTop (mkF m 28 #[.val (.int x0), .val (.int (8 : Int32))] [(.int (8 : Int32)), (.long (240000 : Int64))])) t → Steps p.tables e below (s₁.setTop (entryFrame m #[(.int x0)] maxLocals)) t := fun t k => p54 t (by
      show Steps p.tables e below (T53.setTop (mkF m 27 #[.val (.int x0), .val (.int (8 : Int32))] [(.long (240000 : Int64))])) _
      refine XS.iloadN X53.here hx rfl (hb hby at_27) rfl ?_
      exact k)
    obtain ⟨_, _, ⟨T56, L56, k56, n56⟩, -, X56, ⟨Lc56, hQ56, l56, y56, z56⟩, st56⟩ := Jvm.LawKit.callS X53 hx (y := (⟨"com/example/ordo/ordo/store/DelayLevelsDelayMillisPinLaw", "expected", "(I)J"⟩ : MethodName)) hown (mvT hZ (hw _ (List.mem_of_getElem? (i := 7) rfl))) (mvT hZ (hw _ (List.mem_of_getElem? (i := 8) rfl))) (mvT hZ (hw _ (List.mem_of_getElem? (i := 9) rfl))) (mvT hZ (hw _ (List.mem_of_getElem? (i := 10) rfl))) (by decide) (backOf (W := 2) (rme8 l Z a0 hw []   h0 n0 Z0 ) hZ (hw _ (List.mem_of_getElem? (i := 10) rfl)) (hw _ (List.mem_of_getElem? (i := 9) rfl)) (by decide) (by decide)) (g := (mkF m 28 #[.val (.int x0), .val (.int (8 : Int32))] [(.int (8 : Int32)), (.long (240000 : Int64))])) rfl (by rw [hml]; rfl) (argsL := [(.int (8 : Int32))]) (rest := [(.long (240000 : Int64))]) (lenOf pd0_0 rfl) rfl (by show 2 * 0 + _ ≤ _; exact Nat.le_of_eq rfl) (hb hby at_28) (fun _ _ => ⟨rfl, e53, (by decide : 0 + 0 ≤ _), (by decide : 0 + 0 ≤ _)⟩)
    dsimp only [Pt.U, Pt.locs, Pt.cells, Pt.slots] at X56 l56 y56 z56 st56 hQ56
    subst l56 y56 z56
    obtain ⟨rfl, Nq56, e56⟩ := hQ56
    have N56 := Fr.app N53 Nq56
    have p57 : ∀ t, Steps p.tables e below (T56.setTop (mkF m 31 #[.val (.int x0), .val (.int (8 : Int32))] [(.long ((((8 : Int32) - (4 : Int32)).toInt64) * (60000 : Int64))), (.long (240000 : Int64))])) t → Steps p.tables e below (s₁.setTop (entryFrame m #[(.int x0)] maxLocals)) t := fun t k => p55 t (st56 _ k)
    have p58 : ∀ t, Steps p.tables e below (T56.setTop (mkF m 40 #[.val (.int x0), .val (.int (8 : Int32))] [(.int (1 : Int32))])) t → Steps p.tables e below (s₁.setTop (entryFrame m #[(.int x0)] maxLocals)) t := fun t k => p57 t (by
      show Steps p.tables e below (T56.setTop (mkF m 31 #[.val (.int x0), .val (.int (8 : Int32))] [(.long ((((8 : Int32) - (4 : Int32)).toInt64) * (60000 : Int64))), (.long (240000 : Int64))])) _
      refine XS.lcmp X56.here hx rfl (hb hby at_31) rfl ?_
      show Steps p.tables e below (T56.setTop (mkF m 32 #[.val (.int x0), .val (.int (8 : Int32))] [(.int (lcmpW (240000 : Int64) ((((8 : Int32) - (4 : Int32)).toInt64) * (60000 : Int64))))])) _
      refine XS.ifNo X56.here hx rfl (hb hby at_32) rfl ((if0 _ _).trans (teq (by decide)).2) ?_
      show Steps p.tables e below (T56.setTop (mkF m 35 #[.val (.int x0), .val (.int (8 : Int32))] [])) _
      refine XS.iconst X56.here hx rfl (hb hby at_35) ?_
      show Steps p.tables e below (T56.setTop (mkF m 36 #[.val (.int x0), .val (.int (8 : Int32))] [(.int (1 : Int32))])) _
      refine XS.goto X56.here hx rfl (pc0 := 36) (pc' := 40) rfl (hb hby at_36) (by decide) (by decide) ?_
      exact k)
    obtain ⟨fs, hr, hrun, hended, hW, hsame⟩ := X56.leave (v := some (.int (1 : Int32))) (fun h => by rw [Bd.returns] at h; cases h)
    refine ⟨_, _, p58 _ ?_, hrun, hended, _, _, rfl, ?_, ⟨_, rfl⟩, hW, hsame.mono (by decide) (by decide)⟩
    · show Steps p.tables e below (T56.setTop (mkF m 40 #[.val (.int x0), .val (.int (8 : Int32))] [(.int (1 : Int32))])) _
      exact retN X56 hx (t := .boolean) Bd.returns (by simp) (hb hby at_40) hr
    · show Q0 Z x0 a_D kk h0 n0 _ T56.heap _
      rw [e56]
      exact ⟨rfl, N56⟩
  · have p59 : ∀ t, Steps p.tables e below (s₁.setTop (mkF m 24 #[.val (.int x0), .val (.int (9 : Int32))] [(.int (9 : Int32))])) t → Steps p.tables e below (s₁.setTop (entryFrame m #[(.int x0)] maxLocals)) t := fun t k => p2 t (by
      show Steps p.tables e below (s₁.setTop (mkF m 10 #[.val (.int x0), .val (.int (9 : Int32))] [])) _
      refine XS.iloadN X0.here hx rfl (hb hby at_10) rfl ?_
      show Steps p.tables e below (s₁.setTop (mkF m 11 #[.val (.int x0), .val (.int (9 : Int32))] [(.int (9 : Int32))])) _
      refine XS.iconst X0.here hx rfl (hb hby at_11) ?_
      show Steps p.tables e below (s₁.setTop (mkF m 12 #[.val (.int x0), .val (.int (9 : Int32))] [(.int (1 : Int32)), (.int (9 : Int32))])) _
      refine XS.icmpNo X0.here hx rfl (hb hby at_12) rfl ((flt (by decide)).1) ?_
      show Steps p.tables e below (s₁.setTop (mkF m 15 #[.val (.int x0), .val (.int (9 : Int32))] [])) _
      refine XS.iloadN X0.here hx rfl (hb hby at_15) rfl ?_
      show Steps p.tables e below (s₁.setTop (mkF m 16 #[.val (.int x0), .val (.int (9 : Int32))] [(.int (9 : Int32))])) _
      refine XS.bipush X0.here hx rfl (hb hby at_16) ?_
      show Steps p.tables e below (s₁.setTop (mkF m 18 #[.val (.int x0), .val (.int (9 : Int32))] [(.int (18 : Int32)), (.int (9 : Int32))])) _
      refine XS.icmpYes X0.here hx rfl (pc0 := 18) (pc' := 23) rfl (hb hby at_18) rfl ((flt (by decide)).2.2.2) (by decide) (by decide) ?_
      show Steps p.tables e below (s₁.setTop (mkF m 23 #[.val (.int x0), .val (.int (9 : Int32))] [])) _
      refine XS.iloadN X0.here hx rfl (hb hby at_23) rfl ?_
      exact k)
    obtain ⟨_, _, ⟨T60, L60, k60, n60⟩, -, X60, ⟨Lc60, hQ60, l60, y60, z60⟩, st60⟩ := Jvm.LawKit.callS X0 hx (y := (⟨"com/example/ordo/ordo/store/DelayLevels", "delayMillis", "(I)J"⟩ : MethodName)) hown (mvT hZ (hw _ (List.mem_of_getElem? (i := 1) rfl))) (mvT hZ (hw _ (List.mem_of_getElem? (i := 2) rfl))) (mvT hZ (hw _ (List.mem_of_getElem? (i := 3) rfl))) (mvT hZ (hw _ (List.mem_of_getElem? (i := 4) rfl))) (by decide) (backOf (W := 0) (rmd9 l Z a0 hw []  a_D kk h0 n0 Z0 S_D V_D) hZ (hw _ (List.mem_of_getElem? (i := 4) rfl)) (hw _ (List.mem_of_getElem? (i := 3) rfl)) (by decide) (by decide)) (g := (mkF m 24 #[.val (.int x0), .val (.int (9 : Int32))] [(.int (9 : Int32))])) rfl (by rw [hml]; rfl) (argsL := [(.int (9 : Int32))]) (rest := []) (lenOf pd0_0 rfl) rfl (by show 2 * 0 + _ ≤ _; exact Nat.le_of_eq rfl) (hb hby at_24) (fun _ _ => ⟨rfl, e0, (by decide : 0 + 0 ≤ _), (by decide : 0 + 0 ≤ _)⟩)
    dsimp only [Pt.U, Pt.locs, Pt.cells, Pt.slots] at X60 l60 y60 z60 st60 hQ60
    subst l60 y60 z60
    obtain ⟨rfl, Nq60, e60⟩ := hQ60
    have N60 := Fr.app N0 Nq60
    have p61 : ∀ t, Steps p.tables e below (T60.setTop (mkF m 27 #[.val (.int x0), .val (.int (9 : Int32))] [(.long (300000 : Int64))])) t → Steps p.tables e below (s₁.setTop (entryFrame m #[(.int x0)] maxLocals)) t := fun t k => p59 t (st60 _ k)
    have p62 : ∀ t, Steps p.tables e below (T60.setTop (mkF m 28 #[.val (.int x0), .val (.int (9 : Int32))] [(.int (9 : Int32)), (.long (300000 : Int64))])) t → Steps p.tables e below (s₁.setTop (entryFrame m #[(.int x0)] maxLocals)) t := fun t k => p61 t (by
      show Steps p.tables e below (T60.setTop (mkF m 27 #[.val (.int x0), .val (.int (9 : Int32))] [(.long (300000 : Int64))])) _
      refine XS.iloadN X60.here hx rfl (hb hby at_27) rfl ?_
      exact k)
    obtain ⟨_, _, ⟨T63, L63, k63, n63⟩, -, X63, ⟨Lc63, hQ63, l63, y63, z63⟩, st63⟩ := Jvm.LawKit.callS X60 hx (y := (⟨"com/example/ordo/ordo/store/DelayLevelsDelayMillisPinLaw", "expected", "(I)J"⟩ : MethodName)) hown (mvT hZ (hw _ (List.mem_of_getElem? (i := 7) rfl))) (mvT hZ (hw _ (List.mem_of_getElem? (i := 8) rfl))) (mvT hZ (hw _ (List.mem_of_getElem? (i := 9) rfl))) (mvT hZ (hw _ (List.mem_of_getElem? (i := 10) rfl))) (by decide) (backOf (W := 2) (rme9 l Z a0 hw []   h0 n0 Z0 ) hZ (hw _ (List.mem_of_getElem? (i := 10) rfl)) (hw _ (List.mem_of_getElem? (i := 9) rfl)) (by decide) (by decide)) (g := (mkF m 28 #[.val (.int x0), .val (.int (9 : Int32))] [(.int (9 : Int32)), (.long (300000 : Int64))])) rfl (by rw [hml]; rfl) (argsL := [(.int (9 : Int32))]) (rest := [(.long (300000 : Int64))]) (lenOf pd0_0 rfl) rfl (by show 2 * 0 + _ ≤ _; exact Nat.le_of_eq rfl) (hb hby at_28) (fun _ _ => ⟨rfl, e60, (by decide : 0 + 0 ≤ _), (by decide : 0 + 0 ≤ _)⟩)
    dsimp only [Pt.U, Pt.locs, Pt.cells, Pt.slots] at X63 l63 y63 z63 st63 hQ63
    subst l63 y63 z63
    obtain ⟨rfl, Nq63, e63⟩ := hQ63
    have N63 := Fr.app N60 Nq63
    have p64 : ∀ t, Steps p.tables e below (T63.setTop (mkF m 31 #[.val (.int x0), .val (.int (9 : Int32))] [(.long ((((9 : Int32) - (4 : Int32)).toInt64) * (60000 : Int64))), (.long (300000 : Int64))])) t → Steps p.tables e below (s₁.setTop (entryFrame m #[(.int x0)] maxLocals)) t := fun t k => p62 t (st63 _ k)
    have p65 : ∀ t, Steps p.tables e below (T63.setTop (mkF m 40 #[.val (.int x0), .val (.int (9 : Int32))] [(.int (1 : Int32))])) t → Steps p.tables e below (s₁.setTop (entryFrame m #[(.int x0)] maxLocals)) t := fun t k => p64 t (by
      show Steps p.tables e below (T63.setTop (mkF m 31 #[.val (.int x0), .val (.int (9 : Int32))] [(.long ((((9 : Int32) - (4 : Int32)).toInt64) * (60000 : Int64))), (.long (300000 : Int64))])) _
      refine XS.lcmp X63.here hx rfl (hb hby at_31) rfl ?_
      show Steps p.tables e below (T63.setTop (mkF m 32 #[.val (.int x0), .val (.int (9 : Int32))] [(.int (lcmpW (300000 : Int64) ((((9 : Int32) - (4 : Int32)).toInt64) * (60000 : Int64))))])) _
      refine XS.ifNo X63.here hx rfl (hb hby at_32) rfl ((if0 _ _).trans (teq (by decide)).2) ?_
      show Steps p.tables e below (T63.setTop (mkF m 35 #[.val (.int x0), .val (.int (9 : Int32))] [])) _
      refine XS.iconst X63.here hx rfl (hb hby at_35) ?_
      show Steps p.tables e below (T63.setTop (mkF m 36 #[.val (.int x0), .val (.int (9 : Int32))] [(.int (1 : Int32))])) _
      refine XS.goto X63.here hx rfl (pc0 := 36) (pc' := 40) rfl (hb hby at_36) (by decide) (by decide) ?_
      exact k)
    obtain ⟨fs, hr, hrun, hended, hW, hsame⟩ := X63.leave (v := some (.int (1 : Int32))) (fun h => by rw [Bd.returns] at h; cases h)
    refine ⟨_, _, p65 _ ?_, hrun, hended, _, _, rfl, ?_, ⟨_, rfl⟩, hW, hsame.mono (by decide) (by decide)⟩
    · show Steps p.tables e below (T63.setTop (mkF m 40 #[.val (.int x0), .val (.int (9 : Int32))] [(.int (1 : Int32))])) _
      exact retN X63 hx (t := .boolean) Bd.returns (by simp) (hb hby at_40) hr
    · show Q0 Z x0 a_D kk h0 n0 _ T63.heap _
      rw [e63]
      exact ⟨rfl, N63⟩
  · have p66 : ∀ t, Steps p.tables e below (s₁.setTop (mkF m 24 #[.val (.int x0), .val (.int (10 : Int32))] [(.int (10 : Int32))])) t → Steps p.tables e below (s₁.setTop (entryFrame m #[(.int x0)] maxLocals)) t := fun t k => p2 t (by
      show Steps p.tables e below (s₁.setTop (mkF m 10 #[.val (.int x0), .val (.int (10 : Int32))] [])) _
      refine XS.iloadN X0.here hx rfl (hb hby at_10) rfl ?_
      show Steps p.tables e below (s₁.setTop (mkF m 11 #[.val (.int x0), .val (.int (10 : Int32))] [(.int (10 : Int32))])) _
      refine XS.iconst X0.here hx rfl (hb hby at_11) ?_
      show Steps p.tables e below (s₁.setTop (mkF m 12 #[.val (.int x0), .val (.int (10 : Int32))] [(.int (1 : Int32)), (.int (10 : Int32))])) _
      refine XS.icmpNo X0.here hx rfl (hb hby at_12) rfl ((flt (by decide)).1) ?_
      show Steps p.tables e below (s₁.setTop (mkF m 15 #[.val (.int x0), .val (.int (10 : Int32))] [])) _
      refine XS.iloadN X0.here hx rfl (hb hby at_15) rfl ?_
      show Steps p.tables e below (s₁.setTop (mkF m 16 #[.val (.int x0), .val (.int (10 : Int32))] [(.int (10 : Int32))])) _
      refine XS.bipush X0.here hx rfl (hb hby at_16) ?_
      show Steps p.tables e below (s₁.setTop (mkF m 18 #[.val (.int x0), .val (.int (10 : Int32))] [(.int (18 : Int32)), (.int (10 : Int32))])) _
      refine XS.icmpYes X0.here hx rfl (pc0 := 18) (pc' := 23) rfl (hb hby at_18) rfl ((flt (by decide)).2.2.2) (by decide) (by decide) ?_
      show Steps p.tables e below (s₁.setTop (mkF m 23 #[.val (.int x0), .val (.int (10 : Int32))] [])) _
      refine XS.iloadN X0.here hx rfl (hb hby at_23) rfl ?_
      exact k)
    obtain ⟨_, _, ⟨T67, L67, k67, n67⟩, -, X67, ⟨Lc67, hQ67, l67, y67, z67⟩, st67⟩ := Jvm.LawKit.callS X0 hx (y := (⟨"com/example/ordo/ordo/store/DelayLevels", "delayMillis", "(I)J"⟩ : MethodName)) hown (mvT hZ (hw _ (List.mem_of_getElem? (i := 1) rfl))) (mvT hZ (hw _ (List.mem_of_getElem? (i := 2) rfl))) (mvT hZ (hw _ (List.mem_of_getElem? (i := 3) rfl))) (mvT hZ (hw _ (List.mem_of_getElem? (i := 4) rfl))) (by decide) (backOf (W := 0) (rmd10 l Z a0 hw []  a_D kk h0 n0 Z0 S_D V_D) hZ (hw _ (List.mem_of_getElem? (i := 4) rfl)) (hw _ (List.mem_of_getElem? (i := 3) rfl)) (by decide) (by decide)) (g := (mkF m 24 #[.val (.int x0), .val (.int (10 : Int32))] [(.int (10 : Int32))])) rfl (by rw [hml]; rfl) (argsL := [(.int (10 : Int32))]) (rest := []) (lenOf pd0_0 rfl) rfl (by show 2 * 0 + _ ≤ _; exact Nat.le_of_eq rfl) (hb hby at_24) (fun _ _ => ⟨rfl, e0, (by decide : 0 + 0 ≤ _), (by decide : 0 + 0 ≤ _)⟩)
    dsimp only [Pt.U, Pt.locs, Pt.cells, Pt.slots] at X67 l67 y67 z67 st67 hQ67
    subst l67 y67 z67
    obtain ⟨rfl, Nq67, e67⟩ := hQ67
    have N67 := Fr.app N0 Nq67
    have p68 : ∀ t, Steps p.tables e below (T67.setTop (mkF m 27 #[.val (.int x0), .val (.int (10 : Int32))] [(.long (360000 : Int64))])) t → Steps p.tables e below (s₁.setTop (entryFrame m #[(.int x0)] maxLocals)) t := fun t k => p66 t (st67 _ k)
    have p69 : ∀ t, Steps p.tables e below (T67.setTop (mkF m 28 #[.val (.int x0), .val (.int (10 : Int32))] [(.int (10 : Int32)), (.long (360000 : Int64))])) t → Steps p.tables e below (s₁.setTop (entryFrame m #[(.int x0)] maxLocals)) t := fun t k => p68 t (by
      show Steps p.tables e below (T67.setTop (mkF m 27 #[.val (.int x0), .val (.int (10 : Int32))] [(.long (360000 : Int64))])) _
      refine XS.iloadN X67.here hx rfl (hb hby at_27) rfl ?_
      exact k)
    obtain ⟨_, _, ⟨T70, L70, k70, n70⟩, -, X70, ⟨Lc70, hQ70, l70, y70, z70⟩, st70⟩ := Jvm.LawKit.callS X67 hx (y := (⟨"com/example/ordo/ordo/store/DelayLevelsDelayMillisPinLaw", "expected", "(I)J"⟩ : MethodName)) hown (mvT hZ (hw _ (List.mem_of_getElem? (i := 7) rfl))) (mvT hZ (hw _ (List.mem_of_getElem? (i := 8) rfl))) (mvT hZ (hw _ (List.mem_of_getElem? (i := 9) rfl))) (mvT hZ (hw _ (List.mem_of_getElem? (i := 10) rfl))) (by decide) (backOf (W := 2) (rme10 l Z a0 hw []   h0 n0 Z0 ) hZ (hw _ (List.mem_of_getElem? (i := 10) rfl)) (hw _ (List.mem_of_getElem? (i := 9) rfl)) (by decide) (by decide)) (g := (mkF m 28 #[.val (.int x0), .val (.int (10 : Int32))] [(.int (10 : Int32)), (.long (360000 : Int64))])) rfl (by rw [hml]; rfl) (argsL := [(.int (10 : Int32))]) (rest := [(.long (360000 : Int64))]) (lenOf pd0_0 rfl) rfl (by show 2 * 0 + _ ≤ _; exact Nat.le_of_eq rfl) (hb hby at_28) (fun _ _ => ⟨rfl, e67, (by decide : 0 + 0 ≤ _), (by decide : 0 + 0 ≤ _)⟩)
    dsimp only [Pt.U, Pt.locs, Pt.cells, Pt.slots] at X70 l70 y70 z70 st70 hQ70
    subst l70 y70 z70
    obtain ⟨rfl, Nq70, e70⟩ := hQ70
    have N70 := Fr.app N67 Nq70
    have p71 : ∀ t, Steps p.tables e below (T70.setTop (mkF m 31 #[.val (.int x0), .val (.int (10 : Int32))] [(.long ((((10 : Int32) - (4 : Int32)).toInt64) * (60000 : Int64))), (.long (360000 : Int64))])) t → Steps p.tables e below (s₁.setTop (entryFrame m #[(.int x0)] maxLocals)) t := fun t k => p69 t (st70 _ k)
    have p72 : ∀ t, Steps p.tables e below (T70.setTop (mkF m 40 #[.val (.int x0), .val (.int (10 : Int32))] [(.int (1 : Int32))])) t → Steps p.tables e below (s₁.setTop (entryFrame m #[(.int x0)] maxLocals)) t := fun t k => p71 t (by
      show Steps p.tables e below (T70.setTop (mkF m 31 #[.val (.int x0), .val (.int (10 : Int32))] [(.long ((((10 : Int32) - (4 : Int32)).toInt64) * (60000 : Int64))), (.long (360000 : Int64))])) _
      refine XS.lcmp X70.here hx rfl (hb hby at_31) rfl ?_
      show Steps p.tables e below (T70.setTop (mkF m 32 #[.val (.int x0), .val (.int (10 : Int32))] [(.int (lcmpW (360000 : Int64) ((((10 : Int32) - (4 : Int32)).toInt64) * (60000 : Int64))))])) _
      refine XS.ifNo X70.here hx rfl (hb hby at_32) rfl ((if0 _ _).trans (teq (by decide)).2) ?_
      show Steps p.tables e below (T70.setTop (mkF m 35 #[.val (.int x0), .val (.int (10 : Int32))] [])) _
      refine XS.iconst X70.here hx rfl (hb hby at_35) ?_
      show Steps p.tables e below (T70.setTop (mkF m 36 #[.val (.int x0), .val (.int (10 : Int32))] [(.int (1 : Int32))])) _
      refine XS.goto X70.here hx rfl (pc0 := 36) (pc' := 40) rfl (hb hby at_36) (by decide) (by decide) ?_
      exact k)
    obtain ⟨fs, hr, hrun, hended, hW, hsame⟩ := X70.leave (v := some (.int (1 : Int32))) (fun h => by rw [Bd.returns] at h; cases h)
    refine ⟨_, _, p72 _ ?_, hrun, hended, _, _, rfl, ?_, ⟨_, rfl⟩, hW, hsame.mono (by decide) (by decide)⟩
    · show Steps p.tables e below (T70.setTop (mkF m 40 #[.val (.int x0), .val (.int (10 : Int32))] [(.int (1 : Int32))])) _
      exact retN X70 hx (t := .boolean) Bd.returns (by simp) (hb hby at_40) hr
    · show Q0 Z x0 a_D kk h0 n0 _ T70.heap _
      rw [e70]
      exact ⟨rfl, N70⟩
  · have p73 : ∀ t, Steps p.tables e below (s₁.setTop (mkF m 24 #[.val (.int x0), .val (.int (11 : Int32))] [(.int (11 : Int32))])) t → Steps p.tables e below (s₁.setTop (entryFrame m #[(.int x0)] maxLocals)) t := fun t k => p2 t (by
      show Steps p.tables e below (s₁.setTop (mkF m 10 #[.val (.int x0), .val (.int (11 : Int32))] [])) _
      refine XS.iloadN X0.here hx rfl (hb hby at_10) rfl ?_
      show Steps p.tables e below (s₁.setTop (mkF m 11 #[.val (.int x0), .val (.int (11 : Int32))] [(.int (11 : Int32))])) _
      refine XS.iconst X0.here hx rfl (hb hby at_11) ?_
      show Steps p.tables e below (s₁.setTop (mkF m 12 #[.val (.int x0), .val (.int (11 : Int32))] [(.int (1 : Int32)), (.int (11 : Int32))])) _
      refine XS.icmpNo X0.here hx rfl (hb hby at_12) rfl ((flt (by decide)).1) ?_
      show Steps p.tables e below (s₁.setTop (mkF m 15 #[.val (.int x0), .val (.int (11 : Int32))] [])) _
      refine XS.iloadN X0.here hx rfl (hb hby at_15) rfl ?_
      show Steps p.tables e below (s₁.setTop (mkF m 16 #[.val (.int x0), .val (.int (11 : Int32))] [(.int (11 : Int32))])) _
      refine XS.bipush X0.here hx rfl (hb hby at_16) ?_
      show Steps p.tables e below (s₁.setTop (mkF m 18 #[.val (.int x0), .val (.int (11 : Int32))] [(.int (18 : Int32)), (.int (11 : Int32))])) _
      refine XS.icmpYes X0.here hx rfl (pc0 := 18) (pc' := 23) rfl (hb hby at_18) rfl ((flt (by decide)).2.2.2) (by decide) (by decide) ?_
      show Steps p.tables e below (s₁.setTop (mkF m 23 #[.val (.int x0), .val (.int (11 : Int32))] [])) _
      refine XS.iloadN X0.here hx rfl (hb hby at_23) rfl ?_
      exact k)
    obtain ⟨_, _, ⟨T74, L74, k74, n74⟩, -, X74, ⟨Lc74, hQ74, l74, y74, z74⟩, st74⟩ := Jvm.LawKit.callS X0 hx (y := (⟨"com/example/ordo/ordo/store/DelayLevels", "delayMillis", "(I)J"⟩ : MethodName)) hown (mvT hZ (hw _ (List.mem_of_getElem? (i := 1) rfl))) (mvT hZ (hw _ (List.mem_of_getElem? (i := 2) rfl))) (mvT hZ (hw _ (List.mem_of_getElem? (i := 3) rfl))) (mvT hZ (hw _ (List.mem_of_getElem? (i := 4) rfl))) (by decide) (backOf (W := 0) (rmd11 l Z a0 hw []  a_D kk h0 n0 Z0 S_D V_D) hZ (hw _ (List.mem_of_getElem? (i := 4) rfl)) (hw _ (List.mem_of_getElem? (i := 3) rfl)) (by decide) (by decide)) (g := (mkF m 24 #[.val (.int x0), .val (.int (11 : Int32))] [(.int (11 : Int32))])) rfl (by rw [hml]; rfl) (argsL := [(.int (11 : Int32))]) (rest := []) (lenOf pd0_0 rfl) rfl (by show 2 * 0 + _ ≤ _; exact Nat.le_of_eq rfl) (hb hby at_24) (fun _ _ => ⟨rfl, e0, (by decide : 0 + 0 ≤ _), (by decide : 0 + 0 ≤ _)⟩)
    dsimp only [Pt.U, Pt.locs, Pt.cells, Pt.slots] at X74 l74 y74 z74 st74 hQ74
    subst l74 y74 z74
    obtain ⟨rfl, Nq74, e74⟩ := hQ74
    have N74 := Fr.app N0 Nq74
    have p75 : ∀ t, Steps p.tables e below (T74.setTop (mkF m 27 #[.val (.int x0), .val (.int (11 : Int32))] [(.long (420000 : Int64))])) t → Steps p.tables e below (s₁.setTop (entryFrame m #[(.int x0)] maxLocals)) t := fun t k => p73 t (st74 _ k)
    have p76 : ∀ t, Steps p.tables e below (T74.setTop (mkF m 28 #[.val (.int x0), .val (.int (11 : Int32))] [(.int (11 : Int32)), (.long (420000 : Int64))])) t → Steps p.tables e below (s₁.setTop (entryFrame m #[(.int x0)] maxLocals)) t := fun t k => p75 t (by
      show Steps p.tables e below (T74.setTop (mkF m 27 #[.val (.int x0), .val (.int (11 : Int32))] [(.long (420000 : Int64))])) _
      refine XS.iloadN X74.here hx rfl (hb hby at_27) rfl ?_
      exact k)
    obtain ⟨_, _, ⟨T77, L77, k77, n77⟩, -, X77, ⟨Lc77, hQ77, l77, y77, z77⟩, st77⟩ := Jvm.LawKit.callS X74 hx (y := (⟨"com/example/ordo/ordo/store/DelayLevelsDelayMillisPinLaw", "expected", "(I)J"⟩ : MethodName)) hown (mvT hZ (hw _ (List.mem_of_getElem? (i := 7) rfl))) (mvT hZ (hw _ (List.mem_of_getElem? (i := 8) rfl))) (mvT hZ (hw _ (List.mem_of_getElem? (i := 9) rfl))) (mvT hZ (hw _ (List.mem_of_getElem? (i := 10) rfl))) (by decide) (backOf (W := 2) (rme11 l Z a0 hw []   h0 n0 Z0 ) hZ (hw _ (List.mem_of_getElem? (i := 10) rfl)) (hw _ (List.mem_of_getElem? (i := 9) rfl)) (by decide) (by decide)) (g := (mkF m 28 #[.val (.int x0), .val (.int (11 : Int32))] [(.int (11 : Int32)), (.long (420000 : Int64))])) rfl (by rw [hml]; rfl) (argsL := [(.int (11 : Int32))]) (rest := [(.long (420000 : Int64))]) (lenOf pd0_0 rfl) rfl (by show 2 * 0 + _ ≤ _; exact Nat.le_of_eq rfl) (hb hby at_28) (fun _ _ => ⟨rfl, e74, (by decide : 0 + 0 ≤ _), (by decide : 0 + 0 ≤ _)⟩)
    dsimp only [Pt.U, Pt.locs, Pt.cells, Pt.slots] at X77 l77 y77 z77 st77 hQ77
    subst l77 y77 z77
    obtain ⟨rfl, Nq77, e77⟩ := hQ77
    have N77 := Fr.app N74 Nq77
    have p78 : ∀ t, Steps p.tables e below (T77.setTop (mkF m 31 #[.val (.int x0), .val (.int (11 : Int32))] [(.long ((((11 : Int32) - (4 : Int32)).toInt64) * (60000 : Int64))), (.long (420000 : Int64))])) t → Steps p.tables e below (s₁.setTop (entryFrame m #[(.int x0)] maxLocals)) t := fun t k => p76 t (st77 _ k)
    have p79 : ∀ t, Steps p.tables e below (T77.setTop (mkF m 40 #[.val (.int x0), .val (.int (11 : Int32))] [(.int (1 : Int32))])) t → Steps p.tables e below (s₁.setTop (entryFrame m #[(.int x0)] maxLocals)) t := fun t k => p78 t (by
      show Steps p.tables e below (T77.setTop (mkF m 31 #[.val (.int x0), .val (.int (11 : Int32))] [(.long ((((11 : Int32) - (4 : Int32)).toInt64) * (60000 : Int64))), (.long (420000 : Int64))])) _
      refine XS.lcmp X77.here hx rfl (hb hby at_31) rfl ?_
      show Steps p.tables e below (T77.setTop (mkF m 32 #[.val (.int x0), .val (.int (11 : Int32))] [(.int (lcmpW (420000 : Int64) ((((11 : Int32) - (4 : Int32)).toInt64) * (60000 : Int64))))])) _
      refine XS.ifNo X77.here hx rfl (hb hby at_32) rfl ((if0 _ _).trans (teq (by decide)).2) ?_
      show Steps p.tables e below (T77.setTop (mkF m 35 #[.val (.int x0), .val (.int (11 : Int32))] [])) _
      refine XS.iconst X77.here hx rfl (hb hby at_35) ?_
      show Steps p.tables e below (T77.setTop (mkF m 36 #[.val (.int x0), .val (.int (11 : Int32))] [(.int (1 : Int32))])) _
      refine XS.goto X77.here hx rfl (pc0 := 36) (pc' := 40) rfl (hb hby at_36) (by decide) (by decide) ?_
      exact k)
    obtain ⟨fs, hr, hrun, hended, hW, hsame⟩ := X77.leave (v := some (.int (1 : Int32))) (fun h => by rw [Bd.returns] at h; cases h)
    refine ⟨_, _, p79 _ ?_, hrun, hended, _, _, rfl, ?_, ⟨_, rfl⟩, hW, hsame.mono (by decide) (by decide)⟩
    · show Steps p.tables e below (T77.setTop (mkF m 40 #[.val (.int x0), .val (.int (11 : Int32))] [(.int (1 : Int32))])) _
      exact retN X77 hx (t := .boolean) Bd.returns (by simp) (hb hby at_40) hr
    · show Q0 Z x0 a_D kk h0 n0 _ T77.heap _
      rw [e77]
      exact ⟨rfl, N77⟩
  · have p80 : ∀ t, Steps p.tables e below (s₁.setTop (mkF m 24 #[.val (.int x0), .val (.int (12 : Int32))] [(.int (12 : Int32))])) t → Steps p.tables e below (s₁.setTop (entryFrame m #[(.int x0)] maxLocals)) t := fun t k => p2 t (by
      show Steps p.tables e below (s₁.setTop (mkF m 10 #[.val (.int x0), .val (.int (12 : Int32))] [])) _
      refine XS.iloadN X0.here hx rfl (hb hby at_10) rfl ?_
      show Steps p.tables e below (s₁.setTop (mkF m 11 #[.val (.int x0), .val (.int (12 : Int32))] [(.int (12 : Int32))])) _
      refine XS.iconst X0.here hx rfl (hb hby at_11) ?_
      show Steps p.tables e below (s₁.setTop (mkF m 12 #[.val (.int x0), .val (.int (12 : Int32))] [(.int (1 : Int32)), (.int (12 : Int32))])) _
      refine XS.icmpNo X0.here hx rfl (hb hby at_12) rfl ((flt (by decide)).1) ?_
      show Steps p.tables e below (s₁.setTop (mkF m 15 #[.val (.int x0), .val (.int (12 : Int32))] [])) _
      refine XS.iloadN X0.here hx rfl (hb hby at_15) rfl ?_
      show Steps p.tables e below (s₁.setTop (mkF m 16 #[.val (.int x0), .val (.int (12 : Int32))] [(.int (12 : Int32))])) _
      refine XS.bipush X0.here hx rfl (hb hby at_16) ?_
      show Steps p.tables e below (s₁.setTop (mkF m 18 #[.val (.int x0), .val (.int (12 : Int32))] [(.int (18 : Int32)), (.int (12 : Int32))])) _
      refine XS.icmpYes X0.here hx rfl (pc0 := 18) (pc' := 23) rfl (hb hby at_18) rfl ((flt (by decide)).2.2.2) (by decide) (by decide) ?_
      show Steps p.tables e below (s₁.setTop (mkF m 23 #[.val (.int x0), .val (.int (12 : Int32))] [])) _
      refine XS.iloadN X0.here hx rfl (hb hby at_23) rfl ?_
      exact k)
    obtain ⟨_, _, ⟨T81, L81, k81, n81⟩, -, X81, ⟨Lc81, hQ81, l81, y81, z81⟩, st81⟩ := Jvm.LawKit.callS X0 hx (y := (⟨"com/example/ordo/ordo/store/DelayLevels", "delayMillis", "(I)J"⟩ : MethodName)) hown (mvT hZ (hw _ (List.mem_of_getElem? (i := 1) rfl))) (mvT hZ (hw _ (List.mem_of_getElem? (i := 2) rfl))) (mvT hZ (hw _ (List.mem_of_getElem? (i := 3) rfl))) (mvT hZ (hw _ (List.mem_of_getElem? (i := 4) rfl))) (by decide) (backOf (W := 0) (rmd12 l Z a0 hw []  a_D kk h0 n0 Z0 S_D V_D) hZ (hw _ (List.mem_of_getElem? (i := 4) rfl)) (hw _ (List.mem_of_getElem? (i := 3) rfl)) (by decide) (by decide)) (g := (mkF m 24 #[.val (.int x0), .val (.int (12 : Int32))] [(.int (12 : Int32))])) rfl (by rw [hml]; rfl) (argsL := [(.int (12 : Int32))]) (rest := []) (lenOf pd0_0 rfl) rfl (by show 2 * 0 + _ ≤ _; exact Nat.le_of_eq rfl) (hb hby at_24) (fun _ _ => ⟨rfl, e0, (by decide : 0 + 0 ≤ _), (by decide : 0 + 0 ≤ _)⟩)
    dsimp only [Pt.U, Pt.locs, Pt.cells, Pt.slots] at X81 l81 y81 z81 st81 hQ81
    subst l81 y81 z81
    obtain ⟨rfl, Nq81, e81⟩ := hQ81
    have N81 := Fr.app N0 Nq81
    have p82 : ∀ t, Steps p.tables e below (T81.setTop (mkF m 27 #[.val (.int x0), .val (.int (12 : Int32))] [(.long (480000 : Int64))])) t → Steps p.tables e below (s₁.setTop (entryFrame m #[(.int x0)] maxLocals)) t := fun t k => p80 t (st81 _ k)
    have p83 : ∀ t, Steps p.tables e below (T81.setTop (mkF m 28 #[.val (.int x0), .val (.int (12 : Int32))] [(.int (12 : Int32)), (.long (480000 : Int64))])) t → Steps p.tables e below (s₁.setTop (entryFrame m #[(.int x0)] maxLocals)) t := fun t k => p82 t (by
      show Steps p.tables e below (T81.setTop (mkF m 27 #[.val (.int x0), .val (.int (12 : Int32))] [(.long (480000 : Int64))])) _
      refine XS.iloadN X81.here hx rfl (hb hby at_27) rfl ?_
      exact k)
    obtain ⟨_, _, ⟨T84, L84, k84, n84⟩, -, X84, ⟨Lc84, hQ84, l84, y84, z84⟩, st84⟩ := Jvm.LawKit.callS X81 hx (y := (⟨"com/example/ordo/ordo/store/DelayLevelsDelayMillisPinLaw", "expected", "(I)J"⟩ : MethodName)) hown (mvT hZ (hw _ (List.mem_of_getElem? (i := 7) rfl))) (mvT hZ (hw _ (List.mem_of_getElem? (i := 8) rfl))) (mvT hZ (hw _ (List.mem_of_getElem? (i := 9) rfl))) (mvT hZ (hw _ (List.mem_of_getElem? (i := 10) rfl))) (by decide) (backOf (W := 2) (rme12 l Z a0 hw []   h0 n0 Z0 ) hZ (hw _ (List.mem_of_getElem? (i := 10) rfl)) (hw _ (List.mem_of_getElem? (i := 9) rfl)) (by decide) (by decide)) (g := (mkF m 28 #[.val (.int x0), .val (.int (12 : Int32))] [(.int (12 : Int32)), (.long (480000 : Int64))])) rfl (by rw [hml]; rfl) (argsL := [(.int (12 : Int32))]) (rest := [(.long (480000 : Int64))]) (lenOf pd0_0 rfl) rfl (by show 2 * 0 + _ ≤ _; exact Nat.le_of_eq rfl) (hb hby at_28) (fun _ _ => ⟨rfl, e81, (by decide : 0 + 0 ≤ _), (by decide : 0 + 0 ≤ _)⟩)
    dsimp only [Pt.U, Pt.locs, Pt.cells, Pt.slots] at X84 l84 y84 z84 st84 hQ84
    subst l84 y84 z84
    obtain ⟨rfl, Nq84, e84⟩ := hQ84
    have N84 := Fr.app N81 Nq84
    have p85 : ∀ t, Steps p.tables e below (T84.setTop (mkF m 31 #[.val (.int x0), .val (.int (12 : Int32))] [(.long ((((12 : Int32) - (4 : Int32)).toInt64) * (60000 : Int64))), (.long (480000 : Int64))])) t → Steps p.tables e below (s₁.setTop (entryFrame m #[(.int x0)] maxLocals)) t := fun t k => p83 t (st84 _ k)
    have p86 : ∀ t, Steps p.tables e below (T84.setTop (mkF m 40 #[.val (.int x0), .val (.int (12 : Int32))] [(.int (1 : Int32))])) t → Steps p.tables e below (s₁.setTop (entryFrame m #[(.int x0)] maxLocals)) t := fun t k => p85 t (by
      show Steps p.tables e below (T84.setTop (mkF m 31 #[.val (.int x0), .val (.int (12 : Int32))] [(.long ((((12 : Int32) - (4 : Int32)).toInt64) * (60000 : Int64))), (.long (480000 : Int64))])) _
      refine XS.lcmp X84.here hx rfl (hb hby at_31) rfl ?_
      show Steps p.tables e below (T84.setTop (mkF m 32 #[.val (.int x0), .val (.int (12 : Int32))] [(.int (lcmpW (480000 : Int64) ((((12 : Int32) - (4 : Int32)).toInt64) * (60000 : Int64))))])) _
      refine XS.ifNo X84.here hx rfl (hb hby at_32) rfl ((if0 _ _).trans (teq (by decide)).2) ?_
      show Steps p.tables e below (T84.setTop (mkF m 35 #[.val (.int x0), .val (.int (12 : Int32))] [])) _
      refine XS.iconst X84.here hx rfl (hb hby at_35) ?_
      show Steps p.tables e below (T84.setTop (mkF m 36 #[.val (.int x0), .val (.int (12 : Int32))] [(.int (1 : Int32))])) _
      refine XS.goto X84.here hx rfl (pc0 := 36) (pc' := 40) rfl (hb hby at_36) (by decide) (by decide) ?_
      exact k)
    obtain ⟨fs, hr, hrun, hended, hW, hsame⟩ := X84.leave (v := some (.int (1 : Int32))) (fun h => by rw [Bd.returns] at h; cases h)
    refine ⟨_, _, p86 _ ?_, hrun, hended, _, _, rfl, ?_, ⟨_, rfl⟩, hW, hsame.mono (by decide) (by decide)⟩
    · show Steps p.tables e below (T84.setTop (mkF m 40 #[.val (.int x0), .val (.int (12 : Int32))] [(.int (1 : Int32))])) _
      exact retN X84 hx (t := .boolean) Bd.returns (by simp) (hb hby at_40) hr
    · show Q0 Z x0 a_D kk h0 n0 _ T84.heap _
      rw [e84]
      exact ⟨rfl, N84⟩
  · have p87 : ∀ t, Steps p.tables e below (s₁.setTop (mkF m 24 #[.val (.int x0), .val (.int (13 : Int32))] [(.int (13 : Int32))])) t → Steps p.tables e below (s₁.setTop (entryFrame m #[(.int x0)] maxLocals)) t := fun t k => p2 t (by
      show Steps p.tables e below (s₁.setTop (mkF m 10 #[.val (.int x0), .val (.int (13 : Int32))] [])) _
      refine XS.iloadN X0.here hx rfl (hb hby at_10) rfl ?_
      show Steps p.tables e below (s₁.setTop (mkF m 11 #[.val (.int x0), .val (.int (13 : Int32))] [(.int (13 : Int32))])) _
      refine XS.iconst X0.here hx rfl (hb hby at_11) ?_
      show Steps p.tables e below (s₁.setTop (mkF m 12 #[.val (.int x0), .val (.int (13 : Int32))] [(.int (1 : Int32)), (.int (13 : Int32))])) _
      refine XS.icmpNo X0.here hx rfl (hb hby at_12) rfl ((flt (by decide)).1) ?_
      show Steps p.tables e below (s₁.setTop (mkF m 15 #[.val (.int x0), .val (.int (13 : Int32))] [])) _
      refine XS.iloadN X0.here hx rfl (hb hby at_15) rfl ?_
      show Steps p.tables e below (s₁.setTop (mkF m 16 #[.val (.int x0), .val (.int (13 : Int32))] [(.int (13 : Int32))])) _
      refine XS.bipush X0.here hx rfl (hb hby at_16) ?_
      show Steps p.tables e below (s₁.setTop (mkF m 18 #[.val (.int x0), .val (.int (13 : Int32))] [(.int (18 : Int32)), (.int (13 : Int32))])) _
      refine XS.icmpYes X0.here hx rfl (pc0 := 18) (pc' := 23) rfl (hb hby at_18) rfl ((flt (by decide)).2.2.2) (by decide) (by decide) ?_
      show Steps p.tables e below (s₁.setTop (mkF m 23 #[.val (.int x0), .val (.int (13 : Int32))] [])) _
      refine XS.iloadN X0.here hx rfl (hb hby at_23) rfl ?_
      exact k)
    obtain ⟨_, _, ⟨T88, L88, k88, n88⟩, -, X88, ⟨Lc88, hQ88, l88, y88, z88⟩, st88⟩ := Jvm.LawKit.callS X0 hx (y := (⟨"com/example/ordo/ordo/store/DelayLevels", "delayMillis", "(I)J"⟩ : MethodName)) hown (mvT hZ (hw _ (List.mem_of_getElem? (i := 1) rfl))) (mvT hZ (hw _ (List.mem_of_getElem? (i := 2) rfl))) (mvT hZ (hw _ (List.mem_of_getElem? (i := 3) rfl))) (mvT hZ (hw _ (List.mem_of_getElem? (i := 4) rfl))) (by decide) (backOf (W := 0) (rmd13 l Z a0 hw []  a_D kk h0 n0 Z0 S_D V_D) hZ (hw _ (List.mem_of_getElem? (i := 4) rfl)) (hw _ (List.mem_of_getElem? (i := 3) rfl)) (by decide) (by decide)) (g := (mkF m 24 #[.val (.int x0), .val (.int (13 : Int32))] [(.int (13 : Int32))])) rfl (by rw [hml]; rfl) (argsL := [(.int (13 : Int32))]) (rest := []) (lenOf pd0_0 rfl) rfl (by show 2 * 0 + _ ≤ _; exact Nat.le_of_eq rfl) (hb hby at_24) (fun _ _ => ⟨rfl, e0, (by decide : 0 + 0 ≤ _), (by decide : 0 + 0 ≤ _)⟩)
    dsimp only [Pt.U, Pt.locs, Pt.cells, Pt.slots] at X88 l88 y88 z88 st88 hQ88
    subst l88 y88 z88
    obtain ⟨rfl, Nq88, e88⟩ := hQ88
    have N88 := Fr.app N0 Nq88
    have p89 : ∀ t, Steps p.tables e below (T88.setTop (mkF m 27 #[.val (.int x0), .val (.int (13 : Int32))] [(.long (540000 : Int64))])) t → Steps p.tables e below (s₁.setTop (entryFrame m #[(.int x0)] maxLocals)) t := fun t k => p87 t (st88 _ k)
    have p90 : ∀ t, Steps p.tables e below (T88.setTop (mkF m 28 #[.val (.int x0), .val (.int (13 : Int32))] [(.int (13 : Int32)), (.long (540000 : Int64))])) t → Steps p.tables e below (s₁.setTop (entryFrame m #[(.int x0)] maxLocals)) t := fun t k => p89 t (by
      show Steps p.tables e below (T88.setTop (mkF m 27 #[.val (.int x0), .val (.int (13 : Int32))] [(.long (540000 : Int64))])) _
      refine XS.iloadN X88.here hx rfl (hb hby at_27) rfl ?_
      exact k)
    obtain ⟨_, _, ⟨T91, L91, k91, n91⟩, -, X91, ⟨Lc91, hQ91, l91, y91, z91⟩, st91⟩ := Jvm.LawKit.callS X88 hx (y := (⟨"com/example/ordo/ordo/store/DelayLevelsDelayMillisPinLaw", "expected", "(I)J"⟩ : MethodName)) hown (mvT hZ (hw _ (List.mem_of_getElem? (i := 7) rfl))) (mvT hZ (hw _ (List.mem_of_getElem? (i := 8) rfl))) (mvT hZ (hw _ (List.mem_of_getElem? (i := 9) rfl))) (mvT hZ (hw _ (List.mem_of_getElem? (i := 10) rfl))) (by decide) (backOf (W := 2) (rme13 l Z a0 hw []   h0 n0 Z0 ) hZ (hw _ (List.mem_of_getElem? (i := 10) rfl)) (hw _ (List.mem_of_getElem? (i := 9) rfl)) (by decide) (by decide)) (g := (mkF m 28 #[.val (.int x0), .val (.int (13 : Int32))] [(.int (13 : Int32)), (.long (540000 : Int64))])) rfl (by rw [hml]; rfl) (argsL := [(.int (13 : Int32))]) (rest := [(.long (540000 : Int64))]) (lenOf pd0_0 rfl) rfl (by show 2 * 0 + _ ≤ _; exact Nat.le_of_eq rfl) (hb hby at_28) (fun _ _ => ⟨rfl, e88, (by decide : 0 + 0 ≤ _), (by decide : 0 + 0 ≤ _)⟩)
    dsimp only [Pt.U, Pt.locs, Pt.cells, Pt.slots] at X91 l91 y91 z91 st91 hQ91
    subst l91 y91 z91
    obtain ⟨rfl, Nq91, e91⟩ := hQ91
    have N91 := Fr.app N88 Nq91
    have p92 : ∀ t, Steps p.tables e below (T91.setTop (mkF m 31 #[.val (.int x0), .val (.int (13 : Int32))] [(.long ((((13 : Int32) - (4 : Int32)).toInt64) * (60000 : Int64))), (.long (540000 : Int64))])) t → Steps p.tables e below (s₁.setTop (entryFrame m #[(.int x0)] maxLocals)) t := fun t k => p90 t (st91 _ k)
    have p93 : ∀ t, Steps p.tables e below (T91.setTop (mkF m 40 #[.val (.int x0), .val (.int (13 : Int32))] [(.int (1 : Int32))])) t → Steps p.tables e below (s₁.setTop (entryFrame m #[(.int x0)] maxLocals)) t := fun t k => p92 t (by
      show Steps p.tables e below (T91.setTop (mkF m 31 #[.val (.int x0), .val (.int (13 : Int32))] [(.long ((((13 : Int32) - (4 : Int32)).toInt64) * (60000 : Int64))), (.long (540000 : Int64))])) _
      refine XS.lcmp X91.here hx rfl (hb hby at_31) rfl ?_
      show Steps p.tables e below (T91.setTop (mkF m 32 #[.val (.int x0), .val (.int (13 : Int32))] [(.int (lcmpW (540000 : Int64) ((((13 : Int32) - (4 : Int32)).toInt64) * (60000 : Int64))))])) _
      refine XS.ifNo X91.here hx rfl (hb hby at_32) rfl ((if0 _ _).trans (teq (by decide)).2) ?_
      show Steps p.tables e below (T91.setTop (mkF m 35 #[.val (.int x0), .val (.int (13 : Int32))] [])) _
      refine XS.iconst X91.here hx rfl (hb hby at_35) ?_
      show Steps p.tables e below (T91.setTop (mkF m 36 #[.val (.int x0), .val (.int (13 : Int32))] [(.int (1 : Int32))])) _
      refine XS.goto X91.here hx rfl (pc0 := 36) (pc' := 40) rfl (hb hby at_36) (by decide) (by decide) ?_
      exact k)
    obtain ⟨fs, hr, hrun, hended, hW, hsame⟩ := X91.leave (v := some (.int (1 : Int32))) (fun h => by rw [Bd.returns] at h; cases h)
    refine ⟨_, _, p93 _ ?_, hrun, hended, _, _, rfl, ?_, ⟨_, rfl⟩, hW, hsame.mono (by decide) (by decide)⟩
    · show Steps p.tables e below (T91.setTop (mkF m 40 #[.val (.int x0), .val (.int (13 : Int32))] [(.int (1 : Int32))])) _
      exact retN X91 hx (t := .boolean) Bd.returns (by simp) (hb hby at_40) hr
    · show Q0 Z x0 a_D kk h0 n0 _ T91.heap _
      rw [e91]
      exact ⟨rfl, N91⟩
  · have p94 : ∀ t, Steps p.tables e below (s₁.setTop (mkF m 24 #[.val (.int x0), .val (.int (14 : Int32))] [(.int (14 : Int32))])) t → Steps p.tables e below (s₁.setTop (entryFrame m #[(.int x0)] maxLocals)) t := fun t k => p2 t (by
      show Steps p.tables e below (s₁.setTop (mkF m 10 #[.val (.int x0), .val (.int (14 : Int32))] [])) _
      refine XS.iloadN X0.here hx rfl (hb hby at_10) rfl ?_
      show Steps p.tables e below (s₁.setTop (mkF m 11 #[.val (.int x0), .val (.int (14 : Int32))] [(.int (14 : Int32))])) _
      refine XS.iconst X0.here hx rfl (hb hby at_11) ?_
      show Steps p.tables e below (s₁.setTop (mkF m 12 #[.val (.int x0), .val (.int (14 : Int32))] [(.int (1 : Int32)), (.int (14 : Int32))])) _
      refine XS.icmpNo X0.here hx rfl (hb hby at_12) rfl ((flt (by decide)).1) ?_
      show Steps p.tables e below (s₁.setTop (mkF m 15 #[.val (.int x0), .val (.int (14 : Int32))] [])) _
      refine XS.iloadN X0.here hx rfl (hb hby at_15) rfl ?_
      show Steps p.tables e below (s₁.setTop (mkF m 16 #[.val (.int x0), .val (.int (14 : Int32))] [(.int (14 : Int32))])) _
      refine XS.bipush X0.here hx rfl (hb hby at_16) ?_
      show Steps p.tables e below (s₁.setTop (mkF m 18 #[.val (.int x0), .val (.int (14 : Int32))] [(.int (18 : Int32)), (.int (14 : Int32))])) _
      refine XS.icmpYes X0.here hx rfl (pc0 := 18) (pc' := 23) rfl (hb hby at_18) rfl ((flt (by decide)).2.2.2) (by decide) (by decide) ?_
      show Steps p.tables e below (s₁.setTop (mkF m 23 #[.val (.int x0), .val (.int (14 : Int32))] [])) _
      refine XS.iloadN X0.here hx rfl (hb hby at_23) rfl ?_
      exact k)
    obtain ⟨_, _, ⟨T95, L95, k95, n95⟩, -, X95, ⟨Lc95, hQ95, l95, y95, z95⟩, st95⟩ := Jvm.LawKit.callS X0 hx (y := (⟨"com/example/ordo/ordo/store/DelayLevels", "delayMillis", "(I)J"⟩ : MethodName)) hown (mvT hZ (hw _ (List.mem_of_getElem? (i := 1) rfl))) (mvT hZ (hw _ (List.mem_of_getElem? (i := 2) rfl))) (mvT hZ (hw _ (List.mem_of_getElem? (i := 3) rfl))) (mvT hZ (hw _ (List.mem_of_getElem? (i := 4) rfl))) (by decide) (backOf (W := 0) (rmd14 l Z a0 hw []  a_D kk h0 n0 Z0 S_D V_D) hZ (hw _ (List.mem_of_getElem? (i := 4) rfl)) (hw _ (List.mem_of_getElem? (i := 3) rfl)) (by decide) (by decide)) (g := (mkF m 24 #[.val (.int x0), .val (.int (14 : Int32))] [(.int (14 : Int32))])) rfl (by rw [hml]; rfl) (argsL := [(.int (14 : Int32))]) (rest := []) (lenOf pd0_0 rfl) rfl (by show 2 * 0 + _ ≤ _; exact Nat.le_of_eq rfl) (hb hby at_24) (fun _ _ => ⟨rfl, e0, (by decide : 0 + 0 ≤ _), (by decide : 0 + 0 ≤ _)⟩)
    dsimp only [Pt.U, Pt.locs, Pt.cells, Pt.slots] at X95 l95 y95 z95 st95 hQ95
    subst l95 y95 z95
    obtain ⟨rfl, Nq95, e95⟩ := hQ95
    have N95 := Fr.app N0 Nq95
    have p96 : ∀ t, Steps p.tables e below (T95.setTop (mkF m 27 #[.val (.int x0), .val (.int (14 : Int32))] [(.long (600000 : Int64))])) t → Steps p.tables e below (s₁.setTop (entryFrame m #[(.int x0)] maxLocals)) t := fun t k => p94 t (st95 _ k)
    have p97 : ∀ t, Steps p.tables e below (T95.setTop (mkF m 28 #[.val (.int x0), .val (.int (14 : Int32))] [(.int (14 : Int32)), (.long (600000 : Int64))])) t → Steps p.tables e below (s₁.setTop (entryFrame m #[(.int x0)] maxLocals)) t := fun t k => p96 t (by
      show Steps p.tables e below (T95.setTop (mkF m 27 #[.val (.int x0), .val (.int (14 : Int32))] [(.long (600000 : Int64))])) _
      refine XS.iloadN X95.here hx rfl (hb hby at_27) rfl ?_
      exact k)
    obtain ⟨_, _, ⟨T98, L98, k98, n98⟩, -, X98, ⟨Lc98, hQ98, l98, y98, z98⟩, st98⟩ := Jvm.LawKit.callS X95 hx (y := (⟨"com/example/ordo/ordo/store/DelayLevelsDelayMillisPinLaw", "expected", "(I)J"⟩ : MethodName)) hown (mvT hZ (hw _ (List.mem_of_getElem? (i := 7) rfl))) (mvT hZ (hw _ (List.mem_of_getElem? (i := 8) rfl))) (mvT hZ (hw _ (List.mem_of_getElem? (i := 9) rfl))) (mvT hZ (hw _ (List.mem_of_getElem? (i := 10) rfl))) (by decide) (backOf (W := 2) (rme14 l Z a0 hw []   h0 n0 Z0 ) hZ (hw _ (List.mem_of_getElem? (i := 10) rfl)) (hw _ (List.mem_of_getElem? (i := 9) rfl)) (by decide) (by decide)) (g := (mkF m 28 #[.val (.int x0), .val (.int (14 : Int32))] [(.int (14 : Int32)), (.long (600000 : Int64))])) rfl (by rw [hml]; rfl) (argsL := [(.int (14 : Int32))]) (rest := [(.long (600000 : Int64))]) (lenOf pd0_0 rfl) rfl (by show 2 * 0 + _ ≤ _; exact Nat.le_of_eq rfl) (hb hby at_28) (fun _ _ => ⟨rfl, e95, (by decide : 0 + 0 ≤ _), (by decide : 0 + 0 ≤ _)⟩)
    dsimp only [Pt.U, Pt.locs, Pt.cells, Pt.slots] at X98 l98 y98 z98 st98 hQ98
    subst l98 y98 z98
    obtain ⟨rfl, Nq98, e98⟩ := hQ98
    have N98 := Fr.app N95 Nq98
    have p99 : ∀ t, Steps p.tables e below (T98.setTop (mkF m 31 #[.val (.int x0), .val (.int (14 : Int32))] [(.long ((((14 : Int32) - (4 : Int32)).toInt64) * (60000 : Int64))), (.long (600000 : Int64))])) t → Steps p.tables e below (s₁.setTop (entryFrame m #[(.int x0)] maxLocals)) t := fun t k => p97 t (st98 _ k)
    have p100 : ∀ t, Steps p.tables e below (T98.setTop (mkF m 40 #[.val (.int x0), .val (.int (14 : Int32))] [(.int (1 : Int32))])) t → Steps p.tables e below (s₁.setTop (entryFrame m #[(.int x0)] maxLocals)) t := fun t k => p99 t (by
      show Steps p.tables e below (T98.setTop (mkF m 31 #[.val (.int x0), .val (.int (14 : Int32))] [(.long ((((14 : Int32) - (4 : Int32)).toInt64) * (60000 : Int64))), (.long (600000 : Int64))])) _
      refine XS.lcmp X98.here hx rfl (hb hby at_31) rfl ?_
      show Steps p.tables e below (T98.setTop (mkF m 32 #[.val (.int x0), .val (.int (14 : Int32))] [(.int (lcmpW (600000 : Int64) ((((14 : Int32) - (4 : Int32)).toInt64) * (60000 : Int64))))])) _
      refine XS.ifNo X98.here hx rfl (hb hby at_32) rfl ((if0 _ _).trans (teq (by decide)).2) ?_
      show Steps p.tables e below (T98.setTop (mkF m 35 #[.val (.int x0), .val (.int (14 : Int32))] [])) _
      refine XS.iconst X98.here hx rfl (hb hby at_35) ?_
      show Steps p.tables e below (T98.setTop (mkF m 36 #[.val (.int x0), .val (.int (14 : Int32))] [(.int (1 : Int32))])) _
      refine XS.goto X98.here hx rfl (pc0 := 36) (pc' := 40) rfl (hb hby at_36) (by decide) (by decide) ?_
      exact k)
    obtain ⟨fs, hr, hrun, hended, hW, hsame⟩ := X98.leave (v := some (.int (1 : Int32))) (fun h => by rw [Bd.returns] at h; cases h)
    refine ⟨_, _, p100 _ ?_, hrun, hended, _, _, rfl, ?_, ⟨_, rfl⟩, hW, hsame.mono (by decide) (by decide)⟩
    · show Steps p.tables e below (T98.setTop (mkF m 40 #[.val (.int x0), .val (.int (14 : Int32))] [(.int (1 : Int32))])) _
      exact retN X98 hx (t := .boolean) Bd.returns (by simp) (hb hby at_40) hr
    · show Q0 Z x0 a_D kk h0 n0 _ T98.heap _
      rw [e98]
      exact ⟨rfl, N98⟩
  · have p101 : ∀ t, Steps p.tables e below (s₁.setTop (mkF m 24 #[.val (.int x0), .val (.int (15 : Int32))] [(.int (15 : Int32))])) t → Steps p.tables e below (s₁.setTop (entryFrame m #[(.int x0)] maxLocals)) t := fun t k => p2 t (by
      show Steps p.tables e below (s₁.setTop (mkF m 10 #[.val (.int x0), .val (.int (15 : Int32))] [])) _
      refine XS.iloadN X0.here hx rfl (hb hby at_10) rfl ?_
      show Steps p.tables e below (s₁.setTop (mkF m 11 #[.val (.int x0), .val (.int (15 : Int32))] [(.int (15 : Int32))])) _
      refine XS.iconst X0.here hx rfl (hb hby at_11) ?_
      show Steps p.tables e below (s₁.setTop (mkF m 12 #[.val (.int x0), .val (.int (15 : Int32))] [(.int (1 : Int32)), (.int (15 : Int32))])) _
      refine XS.icmpNo X0.here hx rfl (hb hby at_12) rfl ((flt (by decide)).1) ?_
      show Steps p.tables e below (s₁.setTop (mkF m 15 #[.val (.int x0), .val (.int (15 : Int32))] [])) _
      refine XS.iloadN X0.here hx rfl (hb hby at_15) rfl ?_
      show Steps p.tables e below (s₁.setTop (mkF m 16 #[.val (.int x0), .val (.int (15 : Int32))] [(.int (15 : Int32))])) _
      refine XS.bipush X0.here hx rfl (hb hby at_16) ?_
      show Steps p.tables e below (s₁.setTop (mkF m 18 #[.val (.int x0), .val (.int (15 : Int32))] [(.int (18 : Int32)), (.int (15 : Int32))])) _
      refine XS.icmpYes X0.here hx rfl (pc0 := 18) (pc' := 23) rfl (hb hby at_18) rfl ((flt (by decide)).2.2.2) (by decide) (by decide) ?_
      show Steps p.tables e below (s₁.setTop (mkF m 23 #[.val (.int x0), .val (.int (15 : Int32))] [])) _
      refine XS.iloadN X0.here hx rfl (hb hby at_23) rfl ?_
      exact k)
    obtain ⟨_, _, ⟨T102, L102, k102, n102⟩, -, X102, ⟨Lc102, hQ102, l102, y102, z102⟩, st102⟩ := Jvm.LawKit.callS X0 hx (y := (⟨"com/example/ordo/ordo/store/DelayLevels", "delayMillis", "(I)J"⟩ : MethodName)) hown (mvT hZ (hw _ (List.mem_of_getElem? (i := 1) rfl))) (mvT hZ (hw _ (List.mem_of_getElem? (i := 2) rfl))) (mvT hZ (hw _ (List.mem_of_getElem? (i := 3) rfl))) (mvT hZ (hw _ (List.mem_of_getElem? (i := 4) rfl))) (by decide) (backOf (W := 0) (rmd15 l Z a0 hw []  a_D kk h0 n0 Z0 S_D V_D) hZ (hw _ (List.mem_of_getElem? (i := 4) rfl)) (hw _ (List.mem_of_getElem? (i := 3) rfl)) (by decide) (by decide)) (g := (mkF m 24 #[.val (.int x0), .val (.int (15 : Int32))] [(.int (15 : Int32))])) rfl (by rw [hml]; rfl) (argsL := [(.int (15 : Int32))]) (rest := []) (lenOf pd0_0 rfl) rfl (by show 2 * 0 + _ ≤ _; exact Nat.le_of_eq rfl) (hb hby at_24) (fun _ _ => ⟨rfl, e0, (by decide : 0 + 0 ≤ _), (by decide : 0 + 0 ≤ _)⟩)
    dsimp only [Pt.U, Pt.locs, Pt.cells, Pt.slots] at X102 l102 y102 z102 st102 hQ102
    subst l102 y102 z102
    obtain ⟨rfl, Nq102, e102⟩ := hQ102
    have N102 := Fr.app N0 Nq102
    have p103 : ∀ t, Steps p.tables e below (T102.setTop (mkF m 27 #[.val (.int x0), .val (.int (15 : Int32))] [(.long (1200000 : Int64))])) t → Steps p.tables e below (s₁.setTop (entryFrame m #[(.int x0)] maxLocals)) t := fun t k => p101 t (st102 _ k)
    have p104 : ∀ t, Steps p.tables e below (T102.setTop (mkF m 28 #[.val (.int x0), .val (.int (15 : Int32))] [(.int (15 : Int32)), (.long (1200000 : Int64))])) t → Steps p.tables e below (s₁.setTop (entryFrame m #[(.int x0)] maxLocals)) t := fun t k => p103 t (by
      show Steps p.tables e below (T102.setTop (mkF m 27 #[.val (.int x0), .val (.int (15 : Int32))] [(.long (1200000 : Int64))])) _
      refine XS.iloadN X102.here hx rfl (hb hby at_27) rfl ?_
      exact k)
    obtain ⟨_, _, ⟨T105, L105, k105, n105⟩, -, X105, ⟨Lc105, hQ105, l105, y105, z105⟩, st105⟩ := Jvm.LawKit.callS X102 hx (y := (⟨"com/example/ordo/ordo/store/DelayLevelsDelayMillisPinLaw", "expected", "(I)J"⟩ : MethodName)) hown (mvT hZ (hw _ (List.mem_of_getElem? (i := 7) rfl))) (mvT hZ (hw _ (List.mem_of_getElem? (i := 8) rfl))) (mvT hZ (hw _ (List.mem_of_getElem? (i := 9) rfl))) (mvT hZ (hw _ (List.mem_of_getElem? (i := 10) rfl))) (by decide) (backOf (W := 2) (rme15 l Z a0 hw []   h0 n0 Z0 ) hZ (hw _ (List.mem_of_getElem? (i := 10) rfl)) (hw _ (List.mem_of_getElem? (i := 9) rfl)) (by decide) (by decide)) (g := (mkF m 28 #[.val (.int x0), .val (.int (15 : Int32))] [(.int (15 : Int32)), (.long (1200000 : Int64))])) rfl (by rw [hml]; rfl) (argsL := [(.int (15 : Int32))]) (rest := [(.long (1200000 : Int64))]) (lenOf pd0_0 rfl) rfl (by show 2 * 0 + _ ≤ _; exact Nat.le_of_eq rfl) (hb hby at_28) (fun _ _ => ⟨rfl, e102, (by decide : 0 + 0 ≤ _), (by decide : 0 + 0 ≤ _)⟩)
    dsimp only [Pt.U, Pt.locs, Pt.cells, Pt.slots] at X105 l105 y105 z105 st105 hQ105
    subst l105 y105 z105
    obtain ⟨rfl, Nq105, e105⟩ := hQ105
    have N105 := Fr.app N102 Nq105
    have p106 : ∀ t, Steps p.tables e below (T105.setTop (mkF m 31 #[.val (.int x0), .val (.int (15 : Int32))] [(.long (1200000 : Int64)), (.long (1200000 : Int64))])) t → Steps p.tables e below (s₁.setTop (entryFrame m #[(.int x0)] maxLocals)) t := fun t k => p104 t (st105 _ k)
    have p107 : ∀ t, Steps p.tables e below (T105.setTop (mkF m 40 #[.val (.int x0), .val (.int (15 : Int32))] [(.int (1 : Int32))])) t → Steps p.tables e below (s₁.setTop (entryFrame m #[(.int x0)] maxLocals)) t := fun t k => p106 t (by
      show Steps p.tables e below (T105.setTop (mkF m 31 #[.val (.int x0), .val (.int (15 : Int32))] [(.long (1200000 : Int64)), (.long (1200000 : Int64))])) _
      refine XS.lcmp X105.here hx rfl (hb hby at_31) rfl ?_
      show Steps p.tables e below (T105.setTop (mkF m 32 #[.val (.int x0), .val (.int (15 : Int32))] [(.int (lcmpW (1200000 : Int64) (1200000 : Int64)))])) _
      refine XS.ifNo X105.here hx rfl (hb hby at_32) rfl ((if0 _ _).trans (teq (by decide)).2) ?_
      show Steps p.tables e below (T105.setTop (mkF m 35 #[.val (.int x0), .val (.int (15 : Int32))] [])) _
      refine XS.iconst X105.here hx rfl (hb hby at_35) ?_
      show Steps p.tables e below (T105.setTop (mkF m 36 #[.val (.int x0), .val (.int (15 : Int32))] [(.int (1 : Int32))])) _
      refine XS.goto X105.here hx rfl (pc0 := 36) (pc' := 40) rfl (hb hby at_36) (by decide) (by decide) ?_
      exact k)
    obtain ⟨fs, hr, hrun, hended, hW, hsame⟩ := X105.leave (v := some (.int (1 : Int32))) (fun h => by rw [Bd.returns] at h; cases h)
    refine ⟨_, _, p107 _ ?_, hrun, hended, _, _, rfl, ?_, ⟨_, rfl⟩, hW, hsame.mono (by decide) (by decide)⟩
    · show Steps p.tables e below (T105.setTop (mkF m 40 #[.val (.int x0), .val (.int (15 : Int32))] [(.int (1 : Int32))])) _
      exact retN X105 hx (t := .boolean) Bd.returns (by simp) (hb hby at_40) hr
    · show Q0 Z x0 a_D kk h0 n0 _ T105.heap _
      rw [e105]
      exact ⟨rfl, N105⟩
  · have p108 : ∀ t, Steps p.tables e below (s₁.setTop (mkF m 24 #[.val (.int x0), .val (.int (16 : Int32))] [(.int (16 : Int32))])) t → Steps p.tables e below (s₁.setTop (entryFrame m #[(.int x0)] maxLocals)) t := fun t k => p2 t (by
      show Steps p.tables e below (s₁.setTop (mkF m 10 #[.val (.int x0), .val (.int (16 : Int32))] [])) _
      refine XS.iloadN X0.here hx rfl (hb hby at_10) rfl ?_
      show Steps p.tables e below (s₁.setTop (mkF m 11 #[.val (.int x0), .val (.int (16 : Int32))] [(.int (16 : Int32))])) _
      refine XS.iconst X0.here hx rfl (hb hby at_11) ?_
      show Steps p.tables e below (s₁.setTop (mkF m 12 #[.val (.int x0), .val (.int (16 : Int32))] [(.int (1 : Int32)), (.int (16 : Int32))])) _
      refine XS.icmpNo X0.here hx rfl (hb hby at_12) rfl ((flt (by decide)).1) ?_
      show Steps p.tables e below (s₁.setTop (mkF m 15 #[.val (.int x0), .val (.int (16 : Int32))] [])) _
      refine XS.iloadN X0.here hx rfl (hb hby at_15) rfl ?_
      show Steps p.tables e below (s₁.setTop (mkF m 16 #[.val (.int x0), .val (.int (16 : Int32))] [(.int (16 : Int32))])) _
      refine XS.bipush X0.here hx rfl (hb hby at_16) ?_
      show Steps p.tables e below (s₁.setTop (mkF m 18 #[.val (.int x0), .val (.int (16 : Int32))] [(.int (18 : Int32)), (.int (16 : Int32))])) _
      refine XS.icmpYes X0.here hx rfl (pc0 := 18) (pc' := 23) rfl (hb hby at_18) rfl ((flt (by decide)).2.2.2) (by decide) (by decide) ?_
      show Steps p.tables e below (s₁.setTop (mkF m 23 #[.val (.int x0), .val (.int (16 : Int32))] [])) _
      refine XS.iloadN X0.here hx rfl (hb hby at_23) rfl ?_
      exact k)
    obtain ⟨_, _, ⟨T109, L109, k109, n109⟩, -, X109, ⟨Lc109, hQ109, l109, y109, z109⟩, st109⟩ := Jvm.LawKit.callS X0 hx (y := (⟨"com/example/ordo/ordo/store/DelayLevels", "delayMillis", "(I)J"⟩ : MethodName)) hown (mvT hZ (hw _ (List.mem_of_getElem? (i := 1) rfl))) (mvT hZ (hw _ (List.mem_of_getElem? (i := 2) rfl))) (mvT hZ (hw _ (List.mem_of_getElem? (i := 3) rfl))) (mvT hZ (hw _ (List.mem_of_getElem? (i := 4) rfl))) (by decide) (backOf (W := 0) (rmd16 l Z a0 hw []  a_D kk h0 n0 Z0 S_D V_D) hZ (hw _ (List.mem_of_getElem? (i := 4) rfl)) (hw _ (List.mem_of_getElem? (i := 3) rfl)) (by decide) (by decide)) (g := (mkF m 24 #[.val (.int x0), .val (.int (16 : Int32))] [(.int (16 : Int32))])) rfl (by rw [hml]; rfl) (argsL := [(.int (16 : Int32))]) (rest := []) (lenOf pd0_0 rfl) rfl (by show 2 * 0 + _ ≤ _; exact Nat.le_of_eq rfl) (hb hby at_24) (fun _ _ => ⟨rfl, e0, (by decide : 0 + 0 ≤ _), (by decide : 0 + 0 ≤ _)⟩)
    dsimp only [Pt.U, Pt.locs, Pt.cells, Pt.slots] at X109 l109 y109 z109 st109 hQ109
    subst l109 y109 z109
    obtain ⟨rfl, Nq109, e109⟩ := hQ109
    have N109 := Fr.app N0 Nq109
    have p110 : ∀ t, Steps p.tables e below (T109.setTop (mkF m 27 #[.val (.int x0), .val (.int (16 : Int32))] [(.long (1800000 : Int64))])) t → Steps p.tables e below (s₁.setTop (entryFrame m #[(.int x0)] maxLocals)) t := fun t k => p108 t (st109 _ k)
    have p111 : ∀ t, Steps p.tables e below (T109.setTop (mkF m 28 #[.val (.int x0), .val (.int (16 : Int32))] [(.int (16 : Int32)), (.long (1800000 : Int64))])) t → Steps p.tables e below (s₁.setTop (entryFrame m #[(.int x0)] maxLocals)) t := fun t k => p110 t (by
      show Steps p.tables e below (T109.setTop (mkF m 27 #[.val (.int x0), .val (.int (16 : Int32))] [(.long (1800000 : Int64))])) _
      refine XS.iloadN X109.here hx rfl (hb hby at_27) rfl ?_
      exact k)
    obtain ⟨_, _, ⟨T112, L112, k112, n112⟩, -, X112, ⟨Lc112, hQ112, l112, y112, z112⟩, st112⟩ := Jvm.LawKit.callS X109 hx (y := (⟨"com/example/ordo/ordo/store/DelayLevelsDelayMillisPinLaw", "expected", "(I)J"⟩ : MethodName)) hown (mvT hZ (hw _ (List.mem_of_getElem? (i := 7) rfl))) (mvT hZ (hw _ (List.mem_of_getElem? (i := 8) rfl))) (mvT hZ (hw _ (List.mem_of_getElem? (i := 9) rfl))) (mvT hZ (hw _ (List.mem_of_getElem? (i := 10) rfl))) (by decide) (backOf (W := 2) (rme16 l Z a0 hw []   h0 n0 Z0 ) hZ (hw _ (List.mem_of_getElem? (i := 10) rfl)) (hw _ (List.mem_of_getElem? (i := 9) rfl)) (by decide) (by decide)) (g := (mkF m 28 #[.val (.int x0), .val (.int (16 : Int32))] [(.int (16 : Int32)), (.long (1800000 : Int64))])) rfl (by rw [hml]; rfl) (argsL := [(.int (16 : Int32))]) (rest := [(.long (1800000 : Int64))]) (lenOf pd0_0 rfl) rfl (by show 2 * 0 + _ ≤ _; exact Nat.le_of_eq rfl) (hb hby at_28) (fun _ _ => ⟨rfl, e109, (by decide : 0 + 0 ≤ _), (by decide : 0 + 0 ≤ _)⟩)
    dsimp only [Pt.U, Pt.locs, Pt.cells, Pt.slots] at X112 l112 y112 z112 st112 hQ112
    subst l112 y112 z112
    obtain ⟨rfl, Nq112, e112⟩ := hQ112
    have N112 := Fr.app N109 Nq112
    have p113 : ∀ t, Steps p.tables e below (T112.setTop (mkF m 31 #[.val (.int x0), .val (.int (16 : Int32))] [(.long (1800000 : Int64)), (.long (1800000 : Int64))])) t → Steps p.tables e below (s₁.setTop (entryFrame m #[(.int x0)] maxLocals)) t := fun t k => p111 t (st112 _ k)
    have p114 : ∀ t, Steps p.tables e below (T112.setTop (mkF m 40 #[.val (.int x0), .val (.int (16 : Int32))] [(.int (1 : Int32))])) t → Steps p.tables e below (s₁.setTop (entryFrame m #[(.int x0)] maxLocals)) t := fun t k => p113 t (by
      show Steps p.tables e below (T112.setTop (mkF m 31 #[.val (.int x0), .val (.int (16 : Int32))] [(.long (1800000 : Int64)), (.long (1800000 : Int64))])) _
      refine XS.lcmp X112.here hx rfl (hb hby at_31) rfl ?_
      show Steps p.tables e below (T112.setTop (mkF m 32 #[.val (.int x0), .val (.int (16 : Int32))] [(.int (lcmpW (1800000 : Int64) (1800000 : Int64)))])) _
      refine XS.ifNo X112.here hx rfl (hb hby at_32) rfl ((if0 _ _).trans (teq (by decide)).2) ?_
      show Steps p.tables e below (T112.setTop (mkF m 35 #[.val (.int x0), .val (.int (16 : Int32))] [])) _
      refine XS.iconst X112.here hx rfl (hb hby at_35) ?_
      show Steps p.tables e below (T112.setTop (mkF m 36 #[.val (.int x0), .val (.int (16 : Int32))] [(.int (1 : Int32))])) _
      refine XS.goto X112.here hx rfl (pc0 := 36) (pc' := 40) rfl (hb hby at_36) (by decide) (by decide) ?_
      exact k)
    obtain ⟨fs, hr, hrun, hended, hW, hsame⟩ := X112.leave (v := some (.int (1 : Int32))) (fun h => by rw [Bd.returns] at h; cases h)
    refine ⟨_, _, p114 _ ?_, hrun, hended, _, _, rfl, ?_, ⟨_, rfl⟩, hW, hsame.mono (by decide) (by decide)⟩
    · show Steps p.tables e below (T112.setTop (mkF m 40 #[.val (.int x0), .val (.int (16 : Int32))] [(.int (1 : Int32))])) _
      exact retN X112 hx (t := .boolean) Bd.returns (by simp) (hb hby at_40) hr
    · show Q0 Z x0 a_D kk h0 n0 _ T112.heap _
      rw [e112]
      exact ⟨rfl, N112⟩
  · have p115 : ∀ t, Steps p.tables e below (s₁.setTop (mkF m 24 #[.val (.int x0), .val (.int (17 : Int32))] [(.int (17 : Int32))])) t → Steps p.tables e below (s₁.setTop (entryFrame m #[(.int x0)] maxLocals)) t := fun t k => p2 t (by
      show Steps p.tables e below (s₁.setTop (mkF m 10 #[.val (.int x0), .val (.int (17 : Int32))] [])) _
      refine XS.iloadN X0.here hx rfl (hb hby at_10) rfl ?_
      show Steps p.tables e below (s₁.setTop (mkF m 11 #[.val (.int x0), .val (.int (17 : Int32))] [(.int (17 : Int32))])) _
      refine XS.iconst X0.here hx rfl (hb hby at_11) ?_
      show Steps p.tables e below (s₁.setTop (mkF m 12 #[.val (.int x0), .val (.int (17 : Int32))] [(.int (1 : Int32)), (.int (17 : Int32))])) _
      refine XS.icmpNo X0.here hx rfl (hb hby at_12) rfl ((flt (by decide)).1) ?_
      show Steps p.tables e below (s₁.setTop (mkF m 15 #[.val (.int x0), .val (.int (17 : Int32))] [])) _
      refine XS.iloadN X0.here hx rfl (hb hby at_15) rfl ?_
      show Steps p.tables e below (s₁.setTop (mkF m 16 #[.val (.int x0), .val (.int (17 : Int32))] [(.int (17 : Int32))])) _
      refine XS.bipush X0.here hx rfl (hb hby at_16) ?_
      show Steps p.tables e below (s₁.setTop (mkF m 18 #[.val (.int x0), .val (.int (17 : Int32))] [(.int (18 : Int32)), (.int (17 : Int32))])) _
      refine XS.icmpYes X0.here hx rfl (pc0 := 18) (pc' := 23) rfl (hb hby at_18) rfl ((flt (by decide)).2.2.2) (by decide) (by decide) ?_
      show Steps p.tables e below (s₁.setTop (mkF m 23 #[.val (.int x0), .val (.int (17 : Int32))] [])) _
      refine XS.iloadN X0.here hx rfl (hb hby at_23) rfl ?_
      exact k)
    obtain ⟨_, _, ⟨T116, L116, k116, n116⟩, -, X116, ⟨Lc116, hQ116, l116, y116, z116⟩, st116⟩ := Jvm.LawKit.callS X0 hx (y := (⟨"com/example/ordo/ordo/store/DelayLevels", "delayMillis", "(I)J"⟩ : MethodName)) hown (mvT hZ (hw _ (List.mem_of_getElem? (i := 1) rfl))) (mvT hZ (hw _ (List.mem_of_getElem? (i := 2) rfl))) (mvT hZ (hw _ (List.mem_of_getElem? (i := 3) rfl))) (mvT hZ (hw _ (List.mem_of_getElem? (i := 4) rfl))) (by decide) (backOf (W := 0) (rmd17 l Z a0 hw []  a_D kk h0 n0 Z0 S_D V_D) hZ (hw _ (List.mem_of_getElem? (i := 4) rfl)) (hw _ (List.mem_of_getElem? (i := 3) rfl)) (by decide) (by decide)) (g := (mkF m 24 #[.val (.int x0), .val (.int (17 : Int32))] [(.int (17 : Int32))])) rfl (by rw [hml]; rfl) (argsL := [(.int (17 : Int32))]) (rest := []) (lenOf pd0_0 rfl) rfl (by show 2 * 0 + _ ≤ _; exact Nat.le_of_eq rfl) (hb hby at_24) (fun _ _ => ⟨rfl, e0, (by decide : 0 + 0 ≤ _), (by decide : 0 + 0 ≤ _)⟩)
    dsimp only [Pt.U, Pt.locs, Pt.cells, Pt.slots] at X116 l116 y116 z116 st116 hQ116
    subst l116 y116 z116
    obtain ⟨rfl, Nq116, e116⟩ := hQ116
    have N116 := Fr.app N0 Nq116
    have p117 : ∀ t, Steps p.tables e below (T116.setTop (mkF m 27 #[.val (.int x0), .val (.int (17 : Int32))] [(.long (3600000 : Int64))])) t → Steps p.tables e below (s₁.setTop (entryFrame m #[(.int x0)] maxLocals)) t := fun t k => p115 t (st116 _ k)
    have p118 : ∀ t, Steps p.tables e below (T116.setTop (mkF m 28 #[.val (.int x0), .val (.int (17 : Int32))] [(.int (17 : Int32)), (.long (3600000 : Int64))])) t → Steps p.tables e below (s₁.setTop (entryFrame m #[(.int x0)] maxLocals)) t := fun t k => p117 t (by
      show Steps p.tables e below (T116.setTop (mkF m 27 #[.val (.int x0), .val (.int (17 : Int32))] [(.long (3600000 : Int64))])) _
      refine XS.iloadN X116.here hx rfl (hb hby at_27) rfl ?_
      exact k)
    obtain ⟨_, _, ⟨T119, L119, k119, n119⟩, -, X119, ⟨Lc119, hQ119, l119, y119, z119⟩, st119⟩ := Jvm.LawKit.callS X116 hx (y := (⟨"com/example/ordo/ordo/store/DelayLevelsDelayMillisPinLaw", "expected", "(I)J"⟩ : MethodName)) hown (mvT hZ (hw _ (List.mem_of_getElem? (i := 7) rfl))) (mvT hZ (hw _ (List.mem_of_getElem? (i := 8) rfl))) (mvT hZ (hw _ (List.mem_of_getElem? (i := 9) rfl))) (mvT hZ (hw _ (List.mem_of_getElem? (i := 10) rfl))) (by decide) (backOf (W := 2) (rme17 l Z a0 hw []   h0 n0 Z0 ) hZ (hw _ (List.mem_of_getElem? (i := 10) rfl)) (hw _ (List.mem_of_getElem? (i := 9) rfl)) (by decide) (by decide)) (g := (mkF m 28 #[.val (.int x0), .val (.int (17 : Int32))] [(.int (17 : Int32)), (.long (3600000 : Int64))])) rfl (by rw [hml]; rfl) (argsL := [(.int (17 : Int32))]) (rest := [(.long (3600000 : Int64))]) (lenOf pd0_0 rfl) rfl (by show 2 * 0 + _ ≤ _; exact Nat.le_of_eq rfl) (hb hby at_28) (fun _ _ => ⟨rfl, e116, (by decide : 0 + 0 ≤ _), (by decide : 0 + 0 ≤ _)⟩)
    dsimp only [Pt.U, Pt.locs, Pt.cells, Pt.slots] at X119 l119 y119 z119 st119 hQ119
    subst l119 y119 z119
    obtain ⟨rfl, Nq119, e119⟩ := hQ119
    have N119 := Fr.app N116 Nq119
    have p120 : ∀ t, Steps p.tables e below (T119.setTop (mkF m 31 #[.val (.int x0), .val (.int (17 : Int32))] [(.long (3600000 : Int64)), (.long (3600000 : Int64))])) t → Steps p.tables e below (s₁.setTop (entryFrame m #[(.int x0)] maxLocals)) t := fun t k => p118 t (st119 _ k)
    have p121 : ∀ t, Steps p.tables e below (T119.setTop (mkF m 40 #[.val (.int x0), .val (.int (17 : Int32))] [(.int (1 : Int32))])) t → Steps p.tables e below (s₁.setTop (entryFrame m #[(.int x0)] maxLocals)) t := fun t k => p120 t (by
      show Steps p.tables e below (T119.setTop (mkF m 31 #[.val (.int x0), .val (.int (17 : Int32))] [(.long (3600000 : Int64)), (.long (3600000 : Int64))])) _
      refine XS.lcmp X119.here hx rfl (hb hby at_31) rfl ?_
      show Steps p.tables e below (T119.setTop (mkF m 32 #[.val (.int x0), .val (.int (17 : Int32))] [(.int (lcmpW (3600000 : Int64) (3600000 : Int64)))])) _
      refine XS.ifNo X119.here hx rfl (hb hby at_32) rfl ((if0 _ _).trans (teq (by decide)).2) ?_
      show Steps p.tables e below (T119.setTop (mkF m 35 #[.val (.int x0), .val (.int (17 : Int32))] [])) _
      refine XS.iconst X119.here hx rfl (hb hby at_35) ?_
      show Steps p.tables e below (T119.setTop (mkF m 36 #[.val (.int x0), .val (.int (17 : Int32))] [(.int (1 : Int32))])) _
      refine XS.goto X119.here hx rfl (pc0 := 36) (pc' := 40) rfl (hb hby at_36) (by decide) (by decide) ?_
      exact k)
    obtain ⟨fs, hr, hrun, hended, hW, hsame⟩ := X119.leave (v := some (.int (1 : Int32))) (fun h => by rw [Bd.returns] at h; cases h)
    refine ⟨_, _, p121 _ ?_, hrun, hended, _, _, rfl, ?_, ⟨_, rfl⟩, hW, hsame.mono (by decide) (by decide)⟩
    · show Steps p.tables e below (T119.setTop (mkF m 40 #[.val (.int x0), .val (.int (17 : Int32))] [(.int (1 : Int32))])) _
      exact retN X119 hx (t := .boolean) Bd.returns (by simp) (hb hby at_40) hr
    · show Q0 Z x0 a_D kk h0 n0 _ T119.heap _
      rw [e119]
      exact ⟨rfl, N119⟩
  · have p122 : ∀ t, Steps p.tables e below (s₁.setTop (mkF m 24 #[.val (.int x0), .val (.int (18 : Int32))] [(.int (18 : Int32))])) t → Steps p.tables e below (s₁.setTop (entryFrame m #[(.int x0)] maxLocals)) t := fun t k => p2 t (by
      show Steps p.tables e below (s₁.setTop (mkF m 10 #[.val (.int x0), .val (.int (18 : Int32))] [])) _
      refine XS.iloadN X0.here hx rfl (hb hby at_10) rfl ?_
      show Steps p.tables e below (s₁.setTop (mkF m 11 #[.val (.int x0), .val (.int (18 : Int32))] [(.int (18 : Int32))])) _
      refine XS.iconst X0.here hx rfl (hb hby at_11) ?_
      show Steps p.tables e below (s₁.setTop (mkF m 12 #[.val (.int x0), .val (.int (18 : Int32))] [(.int (1 : Int32)), (.int (18 : Int32))])) _
      refine XS.icmpNo X0.here hx rfl (hb hby at_12) rfl ((flt (by decide)).1) ?_
      show Steps p.tables e below (s₁.setTop (mkF m 15 #[.val (.int x0), .val (.int (18 : Int32))] [])) _
      refine XS.iloadN X0.here hx rfl (hb hby at_15) rfl ?_
      show Steps p.tables e below (s₁.setTop (mkF m 16 #[.val (.int x0), .val (.int (18 : Int32))] [(.int (18 : Int32))])) _
      refine XS.bipush X0.here hx rfl (hb hby at_16) ?_
      show Steps p.tables e below (s₁.setTop (mkF m 18 #[.val (.int x0), .val (.int (18 : Int32))] [(.int (18 : Int32)), (.int (18 : Int32))])) _
      refine XS.icmpYes X0.here hx rfl (pc0 := 18) (pc' := 23) rfl (hb hby at_18) rfl ((flt (by decide)).2.2.2) (by decide) (by decide) ?_
      show Steps p.tables e below (s₁.setTop (mkF m 23 #[.val (.int x0), .val (.int (18 : Int32))] [])) _
      refine XS.iloadN X0.here hx rfl (hb hby at_23) rfl ?_
      exact k)
    obtain ⟨_, _, ⟨T123, L123, k123, n123⟩, -, X123, ⟨Lc123, hQ123, l123, y123, z123⟩, st123⟩ := Jvm.LawKit.callS X0 hx (y := (⟨"com/example/ordo/ordo/store/DelayLevels", "delayMillis", "(I)J"⟩ : MethodName)) hown (mvT hZ (hw _ (List.mem_of_getElem? (i := 1) rfl))) (mvT hZ (hw _ (List.mem_of_getElem? (i := 2) rfl))) (mvT hZ (hw _ (List.mem_of_getElem? (i := 3) rfl))) (mvT hZ (hw _ (List.mem_of_getElem? (i := 4) rfl))) (by decide) (backOf (W := 0) (rmd18 l Z a0 hw []  a_D kk h0 n0 Z0 S_D V_D) hZ (hw _ (List.mem_of_getElem? (i := 4) rfl)) (hw _ (List.mem_of_getElem? (i := 3) rfl)) (by decide) (by decide)) (g := (mkF m 24 #[.val (.int x0), .val (.int (18 : Int32))] [(.int (18 : Int32))])) rfl (by rw [hml]; rfl) (argsL := [(.int (18 : Int32))]) (rest := []) (lenOf pd0_0 rfl) rfl (by show 2 * 0 + _ ≤ _; exact Nat.le_of_eq rfl) (hb hby at_24) (fun _ _ => ⟨rfl, e0, (by decide : 0 + 0 ≤ _), (by decide : 0 + 0 ≤ _)⟩)
    dsimp only [Pt.U, Pt.locs, Pt.cells, Pt.slots] at X123 l123 y123 z123 st123 hQ123
    subst l123 y123 z123
    obtain ⟨rfl, Nq123, e123⟩ := hQ123
    have N123 := Fr.app N0 Nq123
    have p124 : ∀ t, Steps p.tables e below (T123.setTop (mkF m 27 #[.val (.int x0), .val (.int (18 : Int32))] [(.long (7200000 : Int64))])) t → Steps p.tables e below (s₁.setTop (entryFrame m #[(.int x0)] maxLocals)) t := fun t k => p122 t (st123 _ k)
    have p125 : ∀ t, Steps p.tables e below (T123.setTop (mkF m 28 #[.val (.int x0), .val (.int (18 : Int32))] [(.int (18 : Int32)), (.long (7200000 : Int64))])) t → Steps p.tables e below (s₁.setTop (entryFrame m #[(.int x0)] maxLocals)) t := fun t k => p124 t (by
      show Steps p.tables e below (T123.setTop (mkF m 27 #[.val (.int x0), .val (.int (18 : Int32))] [(.long (7200000 : Int64))])) _
      refine XS.iloadN X123.here hx rfl (hb hby at_27) rfl ?_
      exact k)
    obtain ⟨_, _, ⟨T126, L126, k126, n126⟩, -, X126, ⟨Lc126, hQ126, l126, y126, z126⟩, st126⟩ := Jvm.LawKit.callS X123 hx (y := (⟨"com/example/ordo/ordo/store/DelayLevelsDelayMillisPinLaw", "expected", "(I)J"⟩ : MethodName)) hown (mvT hZ (hw _ (List.mem_of_getElem? (i := 7) rfl))) (mvT hZ (hw _ (List.mem_of_getElem? (i := 8) rfl))) (mvT hZ (hw _ (List.mem_of_getElem? (i := 9) rfl))) (mvT hZ (hw _ (List.mem_of_getElem? (i := 10) rfl))) (by decide) (backOf (W := 2) (rme18 l Z a0 hw []   h0 n0 Z0 ) hZ (hw _ (List.mem_of_getElem? (i := 10) rfl)) (hw _ (List.mem_of_getElem? (i := 9) rfl)) (by decide) (by decide)) (g := (mkF m 28 #[.val (.int x0), .val (.int (18 : Int32))] [(.int (18 : Int32)), (.long (7200000 : Int64))])) rfl (by rw [hml]; rfl) (argsL := [(.int (18 : Int32))]) (rest := [(.long (7200000 : Int64))]) (lenOf pd0_0 rfl) rfl (by show 2 * 0 + _ ≤ _; exact Nat.le_of_eq rfl) (hb hby at_28) (fun _ _ => ⟨rfl, e123, (by decide : 0 + 0 ≤ _), (by decide : 0 + 0 ≤ _)⟩)
    dsimp only [Pt.U, Pt.locs, Pt.cells, Pt.slots] at X126 l126 y126 z126 st126 hQ126
    subst l126 y126 z126
    obtain ⟨rfl, Nq126, e126⟩ := hQ126
    have N126 := Fr.app N123 Nq126
    have p127 : ∀ t, Steps p.tables e below (T126.setTop (mkF m 31 #[.val (.int x0), .val (.int (18 : Int32))] [(.long (7200000 : Int64)), (.long (7200000 : Int64))])) t → Steps p.tables e below (s₁.setTop (entryFrame m #[(.int x0)] maxLocals)) t := fun t k => p125 t (st126 _ k)
    have p128 : ∀ t, Steps p.tables e below (T126.setTop (mkF m 40 #[.val (.int x0), .val (.int (18 : Int32))] [(.int (1 : Int32))])) t → Steps p.tables e below (s₁.setTop (entryFrame m #[(.int x0)] maxLocals)) t := fun t k => p127 t (by
      show Steps p.tables e below (T126.setTop (mkF m 31 #[.val (.int x0), .val (.int (18 : Int32))] [(.long (7200000 : Int64)), (.long (7200000 : Int64))])) _
      refine XS.lcmp X126.here hx rfl (hb hby at_31) rfl ?_
      show Steps p.tables e below (T126.setTop (mkF m 32 #[.val (.int x0), .val (.int (18 : Int32))] [(.int (lcmpW (7200000 : Int64) (7200000 : Int64)))])) _
      refine XS.ifNo X126.here hx rfl (hb hby at_32) rfl ((if0 _ _).trans (teq (by decide)).2) ?_
      show Steps p.tables e below (T126.setTop (mkF m 35 #[.val (.int x0), .val (.int (18 : Int32))] [])) _
      refine XS.iconst X126.here hx rfl (hb hby at_35) ?_
      show Steps p.tables e below (T126.setTop (mkF m 36 #[.val (.int x0), .val (.int (18 : Int32))] [(.int (1 : Int32))])) _
      refine XS.goto X126.here hx rfl (pc0 := 36) (pc' := 40) rfl (hb hby at_36) (by decide) (by decide) ?_
      exact k)
    obtain ⟨fs, hr, hrun, hended, hW, hsame⟩ := X126.leave (v := some (.int (1 : Int32))) (fun h => by rw [Bd.returns] at h; cases h)
    refine ⟨_, _, p128 _ ?_, hrun, hended, _, _, rfl, ?_, ⟨_, rfl⟩, hW, hsame.mono (by decide) (by decide)⟩
    · show Steps p.tables e below (T126.setTop (mkF m 40 #[.val (.int x0), .val (.int (18 : Int32))] [(.int (1 : Int32))])) _
      exact retN X126 hx (t := .boolean) Bd.returns (by simp) (hb hby at_40) hr
    · show Q0 Z x0 a_D kk h0 n0 _ T126.heap _
      rw [e126]
      exact ⟨rfl, N126⟩
set_option maxRecDepth 65536 in
set_option maxHeartbeats 40000000 in
theorem comes_1 {Post : Tables → Env → Array Value → State → Outcome → State → Prop} (hpost : ∀ tb e args s v u, (limb_1_1.after args s (.returned v) u = true ∧ limb_1_2.after args s (.returned v) u = true ∧ True) → FrameEnd s (.returned v) u (Jvm.fieldLocs frame_1_writes args s ++ Jvm.arrayLocs frame_1_arrays args s ++ Jvm.staticLocs frame_1_statics s) 0 0 → Post tb e args s (.returned v) u) :
    ArmFor flags0 classFile x code maxLocals ret World_1 tables_1 room_1 Calls_1 rest_1 Pre_1 Post := by
  intro l hfl _ _ p e ha hc hk s m args below hf hA hF happ hP
  obtain ⟨hcalls, hrest, hpre⟩ := hP
  obtain ⟨-, -, -, hnamed, -, -, -, hat⟩ := (Spec.applies_iff hf).mp happ
  obtain ⟨hg, hn⟩ := and_e (Cond.before_iff.mp (show (Jvm.Cond.and given_1 narrow_1).before args s = true from hpre))
  obtain ⟨hcount, ga0⟩ := and_e hg
  obtain ⟨w0, rfl⟩ : ∃ w0 : Value, args = #[w0] := by
    have hs : args.size = 1 := by simpa [Cond.value, given_1] using hcount
    obtain ⟨L⟩ := args
    match L, hs with
    | [w0], _ => exact ⟨w0, rfl⟩
  have hw := fun d (hd : d ∈ tables_1) => atoms_spec (ws := Jvm.Cond.code x code maxLocals ret :: tables_1) hat d (List.mem_cons_of_mem _ hd)
  have hfit : Fit s := fun {y c} hc i hi => by
    obtain ⟨ha, rfl⟩ := Array.getElem?_eq_some_iff.mp hc
    have q := List.all_eq_true.mp ((Array.all_eq_true_iff_forall_mem.mp hF) _ (Array.getElem_mem ha)) i (List.mem_range.mpr hi)
    simpa [Array.getElem?_eq_getElem hi] using q
  obtain ⟨i0, ei0⟩ := is_v ga0
  obtain rfl : w0 = (.int i0) := Option.some.inj ei0
  obtain ⟨nn0, nr0⟩ := and_e hn
  obtain ⟨nn1, nr1⟩ := and_e nr0
  obtain ⟨nn2, nr2⟩ := and_e nr1
  obtain ⟨nn3, nr3⟩ := and_e nr2
  obtain ⟨nn4, nr4⟩ := and_e nr3
  obtain ⟨nn5, nr5⟩ := and_e nr4
  obtain ⟨nn6, nr6⟩ := and_e nr5
  obtain ⟨nn7, nr7⟩ := and_e nr6
  obtain ⟨nn8, nr8⟩ := and_e nr7
  obtain ⟨nn9, nr9⟩ := and_e nr8
  obtain ⟨nn10, nr10⟩ := and_e nr9
  obtain ⟨nn11, nr11⟩ := and_e nr10
  obtain ⟨nn12, nr12⟩ := and_e nr11
  obtain ⟨nn13, nr13⟩ := and_e nr12
  obtain ⟨nn14, nr14⟩ := and_e nr13
  obtain ⟨nn15, nr15⟩ := and_e nr14
  obtain ⟨nn16, nr16⟩ := and_e nr15
  obtain ⟨nn17, nr17⟩ := and_e nr16
  obtain ⟨nn18, nr18⟩ := and_e nr17
  obtain ⟨a_D, ev_D⟩ := arr_v nn0
  obtain ⟨cl_D, A_D⟩ := Arr.start ev_D nn0
  have S_D : Sta s s.heap "com/example/ordo/ordo/store/DelayLevels" "DELAYS" "[J" (.ref a_D) := Sta.start ev_D (Or.inr ⟨(hw _ (List.mem_of_getElem? (i := 3) rfl)), (hw _ (List.mem_of_getElem? (i := 6) rfl))⟩)
  obtain ⟨hsz, hlen⟩ := own_len ev_D (A_D.fin (Vm.Alike.refl _)) (eqv_i (Term.int_eval (18)) nn1)
  have q0 : cl_D.slots[(0 : Nat)]? = some (.long (1000 : Int64)) := (elem_in (eqv_l (long_at _) nn2) ev_D (Term.int_eval (0)) A_D.1).2
  have q1 : cl_D.slots[(1 : Nat)]? = some (.long (5000 : Int64)) := (elem_in (eqv_l (long_at _) nn3) ev_D (Term.int_eval (1)) A_D.1).2
  have q2 : cl_D.slots[(2 : Nat)]? = some (.long (10000 : Int64)) := (elem_in (eqv_l (long_at _) nn4) ev_D (Term.int_eval (2)) A_D.1).2
  have q3 : cl_D.slots[(3 : Nat)]? = some (.long (30000 : Int64)) := (elem_in (eqv_l (long_at _) nn5) ev_D (Term.int_eval (3)) A_D.1).2
  have q4 : cl_D.slots[(4 : Nat)]? = some (.long (60000 : Int64)) := (elem_in (eqv_l (long_at _) nn6) ev_D (Term.int_eval (4)) A_D.1).2
  have q5 : cl_D.slots[(5 : Nat)]? = some (.long (120000 : Int64)) := (elem_in (eqv_l (long_at _) nn7) ev_D (Term.int_eval (5)) A_D.1).2
  have q6 : cl_D.slots[(6 : Nat)]? = some (.long (180000 : Int64)) := (elem_in (eqv_l (long_at _) nn8) ev_D (Term.int_eval (6)) A_D.1).2
  have q7 : cl_D.slots[(7 : Nat)]? = some (.long (240000 : Int64)) := (elem_in (eqv_l (long_at _) nn9) ev_D (Term.int_eval (7)) A_D.1).2
  have q8 : cl_D.slots[(8 : Nat)]? = some (.long (300000 : Int64)) := (elem_in (eqv_l (long_at _) nn10) ev_D (Term.int_eval (8)) A_D.1).2
  have q9 : cl_D.slots[(9 : Nat)]? = some (.long (360000 : Int64)) := (elem_in (eqv_l (long_at _) nn11) ev_D (Term.int_eval (9)) A_D.1).2
  have q10 : cl_D.slots[(10 : Nat)]? = some (.long (420000 : Int64)) := (elem_in (eqv_l (long_at _) nn12) ev_D (Term.int_eval (10)) A_D.1).2
  have q11 : cl_D.slots[(11 : Nat)]? = some (.long (480000 : Int64)) := (elem_in (eqv_l (long_at _) nn13) ev_D (Term.int_eval (11)) A_D.1).2
  have q12 : cl_D.slots[(12 : Nat)]? = some (.long (540000 : Int64)) := (elem_in (eqv_l (long_at _) nn14) ev_D (Term.int_eval (12)) A_D.1).2
  have q13 : cl_D.slots[(13 : Nat)]? = some (.long (600000 : Int64)) := (elem_in (eqv_l (long_at _) nn15) ev_D (Term.int_eval (13)) A_D.1).2
  have q14 : cl_D.slots[(14 : Nat)]? = some (.long (1200000 : Int64)) := (elem_in (eqv_l (long_at _) nn16) ev_D (Term.int_eval (14)) A_D.1).2
  have q15 : cl_D.slots[(15 : Nat)]? = some (.long (1800000 : Int64)) := (elem_in (eqv_l (long_at _) nn17) ev_D (Term.int_eval (15)) A_D.1).2
  have q16 : cl_D.slots[(16 : Nat)]? = some (.long (3600000 : Int64)) := (elem_in (eqv_l (long_at _) nn18) ev_D (Term.int_eval (16)) A_D.1).2
  have q17 : cl_D.slots[(17 : Nat)]? = some (.long (7200000 : Int64)) := (elem_in (eqv_l (long_at _) nr18) ev_D (Term.int_eval (17)) A_D.1).2
  have V_D : Arv s s.heap a_D cl_D.cls .long (18 : Int32) own_ds (.long (0 : Int64)) := Arv.start hfit A_D hsz hlen (by decide) rfl ⟨q0, q1, q2, q3, q4, q5, q6, q7, q8, q9, q10, q11, q12, q13, q14, q15, q16, q17, trivial⟩
  obtain ⟨n, o, h1, h2, h3, _, L, rfl, ⟨rfl, N⟩, hq⟩ := rm0 l s _ hw tables_1 i0 a_D cl_D.cls s.heap s.heap.size (Nat.le_refl _) S_D V_D p e ha hc hk s m _ below hf ((Spec.applies_iff_loose hf).mp happ).1 ⟨rfl, State.Warmed39.refl s, rfl⟩ trivial
  refine ⟨n, _, h1, h2, h3, hpost _ _ _ _ _ _ ⟨Cond.after_iff.mpr rfl, Cond.after_iff.mpr (eq_i res_at (Term.int_eval (1)) rfl), trivial⟩ ⟨hq.1, hq.2.1, (hq.2.2.sift fun y hy => Or.inr (N y hy)).mono (by decide) (by decide)⟩⟩
theorem main_1_1 : Claimed_1_1 := comes_1 fun _ _ _ _ _ _ h hF => ⟨h.1, hF⟩
theorem main_1_2 : Claimed_1_2 := comes_1 fun _ _ _ _ _ _ h hF => ⟨h.2.1, hF⟩
end Jvm.Pilot.@@N@@
namespace Jvm.Pilot.@@N@@
open Jvm Jvm.ClassFile Sem Op Lib Jvm.Free Jvm.Stand Jvm.Pilot.@@N@@.Jvm.D
/-! MADE BY PROGRAM (witnessworld.py) out of the Statement's table words and the real class files: 9 classes; the members and pool entries that the words name. The judged class is class 1, her method 2. -/
namespace start1
open Jvm.ClassFile
def u (s : String) : CpInfo := .utf8 (stringToUtf16 s)
/-- a pool by its gaps: so many unusable entries, then the entry; so many at the end -/
def gap : Nat → List CpInfo → List CpInfo
  | 0, r => r
  | n + 1, r => .unusable :: gap n r
def poolList (es : List (Nat × CpInfo)) (last : Nat) : List CpInfo := es.foldr (fun e r => gap e.1 (e.2 :: r)) (gap last [])
def pool (es : List (Nat × CpInfo)) (last : Nat) : Array CpInfo := ⟨poolList es last⟩
def fileOf (pool : Array CpInfo) (this : Nat) (attrs : Array Attribute := #[]) (ms : Array MethodInfo := #[]) (fl : Nat := 33) (sup : Nat := 0) (ifs : Array Nat := #[]) (fds : Array FieldInfo := #[]) : ClassFile where
  minorVersion := 0
  majorVersion := 65
  constantPool := pool
  accessFlags := fl
  thisClass := this
  superClass := sup
  interfaces := ifs
  fields := fds
  methods := ms
  attributes := attrs
def plain (name : String) (sup : Option ClassId) : Class where
  name := name
  kind := .ordinary
  loader := none
  accessFlags := 33
  super := sup
  interfaces := #[]
  cf := none
  fields := #[]
  methods := #[]
  instanceTypes := #[]
  staticTypes := #[]
  resolved := #[]
  callSites := []
  init := .initialized
  statics := none
  mirror := none

def pool0 : Array CpInfo := pool [(5, u "<init>"), (0, u "()V"), (1, .class_ 10), (1, u "java/lang/Object")] 113

def k0m0 : Method := { name := "<init>", desc := "()V", sig := { parameters := [], returnType := none }, accessFlags := 1, code := none }
/-- java/lang/Object -/
def k0 : Class := { plain "java/lang/Object" none with
  accessFlags := 33
  interfaces := #[]
  cf := some (fileOf pool0 8 #[] #[{ accessFlags := 1, nameIndex := 5, descriptorIndex := 6, attributes := #[] }] 33 0 #[] #[])
  fields := #[]
  methods := #[k0m0]
  instanceTypes := #[]
  staticTypes := #[]
  resolved := Array.replicate 124 none
  statics := none }

def pool1 : Array CpInfo := pool [(2, .class_ 4), (1, u "java/lang/Object"), (0, u "<init>"), (0, u "()V"), (0, .long 1000), (1, .long 5000), (1, .long 10000), (1, .long 30000), (1, .long 60000), (1, .long 1200000), (1, .long 1800000), (1, .long 3600000), (1, .long 7200000), (1, .integer 2147483647), (0, .class_ 27), (0, u "com/example/ordo/ordo/store/DelayLevels"), (0, .methodref 26 29), (0, .nameAndType 30 31), (0, u "delayMillis"), (0, u "(I)J"), (0, .methodref 33 34), (0, .class_ 35), (0, .nameAndType 36 31), (0, u "com/example/ordo/ordo/store/DelayLevelsDelayMillisPinLaw"), (0, u "expected"), (3, u "law"), (0, u "(I)Z")] 2

def k1m0 : Method := { name := "<init>", desc := "()V", sig := { parameters := [], returnType := none }, accessFlags := 2, code := none }
def k1c1 : Code := { maxStack := 4, maxLocals := 1, code := method_2_code, exceptionTable := #[], attributes := #[] }
def k1m1 : Method := { name := "expected", desc := "(I)J", sig := { parameters := [.int], returnType := some .long }, accessFlags := 10, code := some k1c1 }
def k1c2 : Code := { maxStack := 4, maxLocals := 2, code := code, exceptionTable := #[], attributes := #[] }
def k1m2 : Method := { name := "law", desc := "(I)Z", sig := { parameters := [.int], returnType := some .boolean }, accessFlags := 9, code := some k1c2 }
/-- com/example/ordo/ordo/store/DelayLevelsDelayMillisPinLaw -/
def k1 : Class := { plain "com/example/ordo/ordo/store/DelayLevelsDelayMillisPinLaw" (some 0) with
  accessFlags := 49
  interfaces := #[]
  cf := some (fileOf pool1 33 #[] #[{ accessFlags := 2, nameIndex := 5, descriptorIndex := 6, attributes := #[] }, { accessFlags := 10, nameIndex := 36, descriptorIndex := 31, attributes := #[] }, { accessFlags := 9, nameIndex := 40, descriptorIndex := 41, attributes := #[] }] 49 2 #[] #[])
  fields := #[]
  methods := #[k1m0, k1m1, k1m2]
  instanceTypes := #[]
  staticTypes := #[]
  resolved := Array.replicate 44 none
  statics := none }

def pool2 : Array CpInfo := pool [(2, .class_ 4), (1, u "java/lang/Object"), (0, u "<init>"), (0, u "()V"), (0, .class_ 8), (0, u "com/example/ordo/ordo/store/DelayLevels"), (9, .fieldref 7 19), (0, .nameAndType 20 21), (0, u "DELAYS"), (0, u "[J"), (18, u "delayMillis"), (0, u "(I)J"), (111, u "SCHEDULE_TOPIC"), (0, u "Ljava/lang/String;"), (1, u "LEVELS"), (0, u "I")] 31

def k2m0 : Method := { name := "<init>", desc := "()V", sig := { parameters := [], returnType := none }, accessFlags := 2, code := none }
def k2c1 : Code := { maxStack := 3, maxLocals := 1, code := prog_25_method_2_code, exceptionTable := #[], attributes := #[] }
def k2m1 : Method := { name := "delayMillis", desc := "(I)J", sig := { parameters := [.int], returnType := some .long }, accessFlags := 9, code := some k2c1 }
/-- com/example/ordo/ordo/store/DelayLevels -/
def k2 : Class := { plain "com/example/ordo/ordo/store/DelayLevels" (some 0) with
  accessFlags := 33
  interfaces := #[]
  cf := some (fileOf pool2 7 #[] #[{ accessFlags := 2, nameIndex := 5, descriptorIndex := 6, attributes := #[] }, { accessFlags := 9, nameIndex := 40, descriptorIndex := 41, attributes := #[] }] 33 2 #[] #[{ accessFlags := 25, nameIndex := 153, descriptorIndex := 154, attributes := #[] }, { accessFlags := 25, nameIndex := 156, descriptorIndex := 157, attributes := #[] }, { accessFlags := 26, nameIndex := 20, descriptorIndex := 21, attributes := #[] }])
  fields := #[{ name := "SCHEDULE_TOPIC", type := (.object "java/lang/String"), accessFlags := 25, slot := 0, constantValue := 0 }, { name := "LEVELS", type := .int, accessFlags := 25, slot := 1, constantValue := 0 }, { name := "DELAYS", type := (.array .long), accessFlags := 26, slot := 2, constantValue := 0 }]
  methods := #[k2m0, k2m1]
  instanceTypes := #[]
  staticTypes := #[(.object "java/lang/String"), .int, (.array .long)]
  resolved := Array.replicate 189 none
  statics := some 0 }

def pool3 : Array CpInfo := pool [(1, u "java/lang/Cloneable"), (0, .class_ 1), (0, u "java/lang/Object"), (0, .class_ 3)] 3

/-- java/lang/Cloneable -/
def k3 : Class := { plain "java/lang/Cloneable" (some 0) with
  accessFlags := 1537
  interfaces := #[]
  cf := some (fileOf pool3 2 #[] #[] 1537 4 #[] #[])
  fields := #[]
  methods := #[]
  instanceTypes := #[]
  staticTypes := #[]
  resolved := Array.replicate 8 none
  statics := none }

def pool4 : Array CpInfo := pool [(1, u "java/io/Serializable"), (0, .class_ 1), (0, u "java/lang/Object"), (0, .class_ 3)] 3

/-- java/io/Serializable -/
def k4 : Class := { plain "java/io/Serializable" (some 0) with
  accessFlags := 1537
  interfaces := #[]
  cf := some (fileOf pool4 2 #[] #[] 1537 4 #[] #[])
  fields := #[]
  methods := #[]
  instanceTypes := #[]
  staticTypes := #[]
  resolved := Array.replicate 8 none
  statics := none }

/-- the primitive byte -/
def k5 : Class := { plain "byte" none with kind := .primitive 'B', accessFlags := 0x411 }
/-- [B -/
def k6 : Class := { plain "[B" (some 0) with kind := .array 5 .byte, interfaces := #[3, 4], accessFlags := 1041 }

/-- the primitive long -/
def k7 : Class := { plain "long" none with kind := .primitive 'J', accessFlags := 0x411 }
/-- [J -/
def k8 : Class := { plain "[J" (some 0) with kind := .array 7 .long, interfaces := #[3, 4], accessFlags := 1041 }

def heap : Heap := #[{ cls := 2, slots := #[.null, .int 0, .ref 1], vm := .statics 2 },
  { cls := 8, slots := #[.long 1000, .long 5000, .long 10000, .long 30000, .long 60000, .long 120000, .long 180000, .long 240000, .long 300000, .long 360000, .long 420000, .long 480000, .long 540000, .long 600000, .long 1200000, .long 1800000, .long 3600000, .long 7200000], vm := .none }]
def classes : Array Class := #[k0, k1, k2, k3, k4, k5, k6, k7, k8]
def interned : List (Array UInt16 × Addr) := []
def slotsUsed : Nat := 21
def theMethod : MethodId := ⟨1, 2⟩
def args0 : Array Value := #[.int 3]
def aboutOver (below : List Frame) : State where
  vm := { classes := classes, interned := interned.toArray }
  heap := heap
  slotsUsed := slotsUsed
  threads := #[{ frames := .invoking theMethod args0 :: below }]
def below0 : List Frame := [.native { method := ⟨0, 0⟩, args := #[] }]
def about1 : State := aboutOver below0
def p0 : Program := .bare "" "" ""
def e0 : Env := launch0.env 0 0 0
theorem w_frames : about1.frames = Frame.invoking theMethod args0 :: below0 := rfl
set_option maxRecDepth 65536 in
theorem w_args : argsFit about1.vm theMethod args0 = true := by decide +kernel
set_option maxRecDepth 65536 in
theorem w_heap : heapFits about1 = true := by decide +kernel
set_option maxRecDepth 65536 in
theorem w_runnable : about1.curStatus? = some .runnable := by decide +kernel
set_option maxRecDepth 65536 in
theorem w_alone : about1.alone = true := by decide +kernel
set_option maxRecDepth 65536 in
theorem w_named : about1.methodNamed? x = some theMethod := by decide +kernel
set_option maxRecDepth 65536 in
theorem w_hears : about1.hears theMethod below0 = true := by decide +kernel
set_option maxRecDepth 65536 in
theorem w_ripe : about1.ripe theMethod args0 below0 = true := by decide +kernel
theorem w_running : about1.status = .running := rfl
set_option maxRecDepth 65536 in
theorem w_room : about1.hasRoom e0.platform room_1 = true :=
  launch0.hasRoom_least _ room_1 (by decide +kernel) (by decide +kernel) (by decide +kernel) (by decide +kernel) (by decide +kernel) (by decide +kernel)
theorem allAtoms_all (ts : List Jvm.Cond) (a : Array Jvm.Value) (st : Jvm.State) : (allAtoms ts).before a st = ts.all (fun c => c.before a st) := by
  induction ts with
  | nil => rfl
  | cons c t ih =>
    show (Jvm.Cond.and c (allAtoms t)).before a st = _
    rw [Jvm.Cond.before_and, ih, List.all_cons]
def words1 : List Jvm.Cond := Jvm.Cond.code x code maxLocals ret :: tables_1
/-- a 'code' word, met by the world's own term for the bytes: nothing is compared byte by byte -/
theorem code_word {y : MethodName} {bytes : ByteArray} {mx : Nat} {rt : Option FieldType} {a : Array Value} {s : State} {m : MethodId} {meth : Method} {c : Code} (h1 : s.methodNamed? y = some m) (h2 : s.vm.method? m = some meth) (h3 : meth.code = some c) (h4 : c.code = bytes)
    (h5 : (c.maxLocals == mx && c.exceptionTable.isEmpty && decide (c.maxStack ≤ mostOperands) && decide (meth.sig.returnType = rt) && !meth.locks && decide (parseMethodDescriptor y.desc = some meth.sig)) = true) : (Jvm.Cond.code y bytes mx rt).before a s = true := by
  simp only [Bool.and_eq_true, beq_iff_eq, Bool.not_eq_true', decide_eq_true_eq] at h5
  obtain ⟨⟨⟨⟨⟨g1, g2⟩, g3⟩, g4⟩, g5⟩, g6⟩ := h5
  simp [Cond.before, Cond.holds, Cond.value, h1, h2, h3, h4, g1, g2, g3, g4, g5, g6]
def isCode : Jvm.Cond → Bool
  | .code _ _ _ _ => true
  | _ => false
theorem all_split {L : List Jvm.Cond} {P : Jvm.Cond → Bool} (h1 : L.all (fun c => isCode c || P c) = true) (h2 : ∀ c ∈ L.filter isCode, P c = true) : L.all P = true := by
  refine List.all_eq_true.mpr fun c hc => ?_
  have h := List.all_eq_true.mp h1 c hc
  rcases Bool.eq_false_or_eq_true (isCode c) with hi | hi
  · exact h2 c (List.mem_filter.mpr ⟨hc, hi⟩)
  · simpa [hi] using h
set_option maxRecDepth 65536 in
theorem w_c0 : (Jvm.Cond.code x code maxLocals ret).before args0 about1 = true := code_word (m := ⟨1, 2⟩) (meth := k1m2) (c := k1c2) (by decide +kernel) rfl rfl rfl (by decide +kernel)
set_option maxRecDepth 65536 in
theorem w_c1 : (Jvm.Cond.code ({ cls := "com/example/ordo/ordo/store/DelayLevels", name := "delayMillis", desc := "(I)J" } : Jvm.MethodName) prog_25_method_2_code (1 : Nat) (Option.some Jvm.ClassFile.FieldType.long)).before args0 about1 = true := code_word (m := ⟨2, 1⟩) (meth := k2m1) (c := k2c1) (by decide +kernel) rfl rfl rfl (by decide +kernel)
set_option maxRecDepth 65536 in
theorem w_c2 : (Jvm.Cond.code ({ cls := "com/example/ordo/ordo/store/DelayLevelsDelayMillisPinLaw", name := "expected", desc := "(I)J" } : Jvm.MethodName) method_2_code (1 : Nat) (Option.some Jvm.ClassFile.FieldType.long)).before args0 about1 = true := code_word (m := ⟨1, 1⟩) (meth := k1m1) (c := k1c1) (by decide +kernel) rfl rfl rfl (by decide +kernel)
def codes1 : List Jvm.Cond := [Jvm.Cond.code x code maxLocals ret, Jvm.Cond.code ({ cls := "com/example/ordo/ordo/store/DelayLevels", name := "delayMillis", desc := "(I)J" } : Jvm.MethodName) prog_25_method_2_code (1 : Nat) (Option.some Jvm.ClassFile.FieldType.long), Jvm.Cond.code ({ cls := "com/example/ordo/ordo/store/DelayLevelsDelayMillisPinLaw", name := "expected", desc := "(I)J" } : Jvm.MethodName) method_2_code (1 : Nat) (Option.some Jvm.ClassFile.FieldType.long)]
set_option maxRecDepth 65536 in
theorem codes_eq : words1.filter isCode = codes1 := rfl
theorem w_codes : ∀ c ∈ words1.filter isCode, c.before args0 about1 = true := by
  rw [codes_eq]
  intro c hc
  simp only [codes1, List.mem_cons, List.not_mem_nil, or_false] at hc
  rcases hc with rfl | rfl | rfl
  · exact w_c0
  · exact w_c1
  · exact w_c2
set_option maxRecDepth 65536 in
theorem w_t1 : words1.all (fun c => isCode c || c.before args0 about1) = true := by decide +kernel
theorem w_tables : (allAtoms (Jvm.Cond.code x code maxLocals ret :: tables_1)).before args0 about1 = true := by
  rw [allAtoms_all]
  show words1.all (fun c => c.before args0 about1) = true
  refine all_split ?_ w_codes
  rw [w_t1]
set_option maxRecDepth 65536 in
theorem w_case : (Jvm.Cond.and given_1 narrow_1).before args0 about1 = true := by decide +kernel
theorem w_applies : (headSpec (Jvm.Cond.code x code maxLocals ret :: tables_1) room_1).applies x e0.platform about1 = true :=
  (Spec.applies_iff w_frames).mpr ⟨w_running, w_runnable, w_alone, w_named, w_hears, w_ripe, w_room, w_tables⟩
theorem atStart : AtStart classFile x code maxLocals ret World_1 tables_1 room_1 Calls_1 rest_1 Pre_1 launch0 p0 e0 about1 theMethod args0 below0 :=
  ⟨lists_1, trivial, launch0.admits_env _ _ _, launch0.least_env, fairChoices_fair.cas, fairChoices_fair.clock, w_frames, w_args, w_heap, w_applies, trivial, trivial, w_case⟩
end start1
theorem witness_1 : WitnessClaimed_1 := ⟨start1.p0, start1.e0, start1.about1, start1.theMethod, start1.args0, start1.below0, start1.atStart⟩
end Jvm.Pilot.@@N@@
