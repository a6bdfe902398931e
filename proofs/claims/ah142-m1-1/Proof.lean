import JvmDerived
import JvmDerived.Pilot.@@N@@Statement
import JvmDerived.Pilot.@@N@@Code
set_option linter.unusedVariables false
set_option linter.unusedSimpArgs false
namespace Jvm.Pilot.@@N@@
open Jvm Jvm.ClassFile Sem Op Lib Jvm.Free Jvm.Stand Jvm.LawKit Jvm.RoadKit Bundle Jvm.Pilot.@@N@@.Jvm.D

theorem own_root {Z : State} {a0 : Array Value} {O K : String} {n : Nat} (w : (Cond.noSuperclass O).before a0 Z = true) (wk : (Cond.instantiable K n).before a0 Z = true) (hn : O ≠ K) : NS Z O K := by
  obtain ⟨c, k, h1, h2, h3, -⟩ := Cond.noSuperclass_spec w
  obtain ⟨t, k', g1, -⟩ := Cond.instantiable_spec wk
  have ne := ids_ne h1 g1 hn
  refine ⟨c, t, h1, g1, fun fuel => ?_⟩
  cases fuel with
  | zero => rfl
  | succ f => simp [Vm.isSubclassAux, ne, h2, h3]
theorem own_noins {Z : State} {a0 : Array Value} {C S K : String} {n : Nat} (w : (Cond.superclass C S).before a0 Z = true) (wk : (Cond.instantiable K n).before a0 Z = true) (nn : NS Z C K) (hn : C ≠ K) : ∃ c t, Z.vm.findClass C = some c ∧ Z.vm.findClass K = some t ∧ Z.vm.assignable c t = false := by
  obtain ⟨c, t, h0, g0, n3⟩ := nn
  obtain ⟨p, k, kp, h1, h2, h3, h4, h5, -, h7⟩ := Cond.superclass_spec h0 w
  obtain ⟨t', k', g1, g2, g5, g7, -⟩ := Cond.instantiable_spec wk
  cases g0.symm.trans g1
  have g8 : k'.isInterface = false := by revert g7; cases k'.isInterface <;> simp
  have ne := ids_ne h0 g0 hn
  refine ⟨c, t, h0, g0, ?_⟩
  show Z.vm.assignableAux (255 + 1) c t = false
  simp [Vm.assignableAux, ne, h2, g2, h5, g5, g8, Vm.isSubclass, n3]
theorem own_len {t : Term} {args : Array Value} {s : State} {x : Addr} {cl : Cell} {n : Int32} (ht : t.eval args s none [] s = some (.ref x)) (ha : s.arrayAt? x = some cl) (h : (Term.length t).eval args s none [] s = some (.int n)) : cl.slots.size < 2 ^ 31 ∧ cl.slots.size.toInt32 = n := by
  by_cases q : cl.slots.size < 2 ^ 31
  · rw [len_f ht ha q] at h; cases h; exact ⟨q, rfl⟩
  · exfalso; simp [Term.eval, ht, ha] at h; omega

def own_eqq (a : Int64) (l : Addr) (b : Int64) (k : Addr) : Int32 := if (lcmpW b a) = (0 : Int32) then (if k = l then 1 else 0) else 0
theorem own_swap {a b : Int64} : (lcmpW a b) = (0 : Int32) ↔ (lcmpW b a) = (0 : Int32) := by rw [lw_eq, lw_eq]; exact eq_comm
theorem own_refl (a : Int64) (l : Addr) : own_eqq a l a l = (1 : Int32) := by unfold own_eqq; rw [if_pos ((lw_eq _ _).mpr rfl), if_pos rfl]
theorem own_in {x : Int64} {c : Cell} (h1 : ¬ (lcmpW x (-128 : Int64)) < (0 : Int32)) (h2 : ¬ (0 : Int32) < (lcmpW x (127 : Int64))) (S : c.slots.size = (256 : Int32).toNatClampNeg) : ¬ (((x.toInt32) + (128 : Int32)) < 0 ∨ c.slots.size ≤ ((x.toInt32) + (128 : Int32)).toNatClampNeg) := by
  refine inb_of S ?_
  rw [lw_lt, Int64.lt_iff_toInt_lt] at h1; rw [lw_gt, Int64.lt_iff_toInt_lt] at h2
  rw [Int32.lt_iff_toInt_lt, Int32.lt_iff_toInt_lt]
  have e := c_iadd (x.toInt32) (128 : Int32); have e2 := c_l2i x
  have l1 : (127 : Int64).toInt = 127 := by decide
  have l2 : (-128 : Int64).toInt = -128 := by decide
  have l5 : (128 : Int32).toInt = 128 := by decide
  have l3 : (0 : Int32).toInt = 0 := by decide
  have l4 : (256 : Int32).toInt = 256 := by decide
  have := rng32 ((x.toInt32) + (128 : Int32)); have := rng32 (x.toInt32)
  omega
theorem dL_0 : decode method_2_code 0 = .ok (.iload_n 0, 1) := by decide +kernel
theorem dL_1 : decode method_2_code 1 = .ok (.bipush 7, 2) := by decide +kernel
theorem dL_3 : decode method_2_code 3 = .ok (.iand, 1) := by decide +kernel
theorem dL_4 : decode method_2_code 4 = .ok (.istore_n 1, 1) := by decide +kernel
theorem dL_5 : decode method_2_code 5 = .ok (.iload_n 1, 1) := by decide +kernel
theorem dL_6 : decode method_2_code 6 = .ok (.ifCond .ne 7, 3) := by decide +kernel
theorem dL_9 : decode method_2_code 9 = .ok (.getstatic 7, 3) := by decide +kernel
theorem dL_12 : decode method_2_code 12 = .ok (.areturn, 1) := by decide +kernel
theorem dL_13 : decode method_2_code 13 = .ok (.iload_n 1, 1) := by decide +kernel
theorem dL_14 : decode method_2_code 14 = .ok (.iconst 1, 1) := by decide +kernel
theorem dL_15 : decode method_2_code 15 = .ok (.if_icmp .ne 7, 3) := by decide +kernel
theorem dL_18 : decode method_2_code 18 = .ok (.getstatic 13, 3) := by decide +kernel
theorem dL_21 : decode method_2_code 21 = .ok (.areturn, 1) := by decide +kernel
theorem dL_22 : decode method_2_code 22 = .ok (.iload_n 1, 1) := by decide +kernel
theorem dL_23 : decode method_2_code 23 = .ok (.iconst 2, 1) := by decide +kernel
theorem dL_24 : decode method_2_code 24 = .ok (.if_icmp .ne 7, 3) := by decide +kernel
theorem dL_27 : decode method_2_code 27 = .ok (.getstatic 16, 3) := by decide +kernel
theorem dL_30 : decode method_2_code 30 = .ok (.areturn, 1) := by decide +kernel
theorem dL_31 : decode method_2_code 31 = .ok (.iload_n 1, 1) := by decide +kernel
theorem dL_32 : decode method_2_code 32 = .ok (.iconst 3, 1) := by decide +kernel
theorem dL_33 : decode method_2_code 33 = .ok (.if_icmp .ne 7, 3) := by decide +kernel
theorem dL_36 : decode method_2_code 36 = .ok (.getstatic 19, 3) := by decide +kernel
theorem dL_39 : decode method_2_code 39 = .ok (.areturn, 1) := by decide +kernel
theorem dL_40 : decode method_2_code 40 = .ok (.iload_n 1, 1) := by decide +kernel
theorem dL_41 : decode method_2_code 41 = .ok (.iconst 4, 1) := by decide +kernel
theorem dL_42 : decode method_2_code 42 = .ok (.if_icmp .ne 7, 3) := by decide +kernel
theorem dL_45 : decode method_2_code 45 = .ok (.getstatic 22, 3) := by decide +kernel
theorem dL_48 : decode method_2_code 48 = .ok (.areturn, 1) := by decide +kernel
theorem dL_49 : decode method_2_code 49 = .ok (.iload_n 1, 1) := by decide +kernel
theorem dL_50 : decode method_2_code 50 = .ok (.iconst 5, 1) := by decide +kernel
theorem dL_51 : decode method_2_code 51 = .ok (.if_icmp .ne 7, 3) := by decide +kernel
theorem dL_54 : decode method_2_code 54 = .ok (.getstatic 25, 3) := by decide +kernel
theorem dL_57 : decode method_2_code 57 = .ok (.areturn, 1) := by decide +kernel
theorem dL_58 : decode method_2_code 58 = .ok (.iload_n 1, 1) := by decide +kernel
theorem dL_59 : decode method_2_code 59 = .ok (.bipush 6, 2) := by decide +kernel
theorem dL_61 : decode method_2_code 61 = .ok (.if_icmp .ne 7, 3) := by decide +kernel
theorem dL_64 : decode method_2_code 64 = .ok (.getstatic 28, 3) := by decide +kernel
theorem dL_67 : decode method_2_code 67 = .ok (.areturn, 1) := by decide +kernel
theorem dL_68 : decode method_2_code 68 = .ok (.getstatic 31, 3) := by decide +kernel
theorem dL_71 : decode method_2_code 71 = .ok (.areturn, 1) := by decide +kernel
theorem pnL : plainName "com/example/kvota/kvota/ResolvedQuotaEqualsPinLaw" = true := by first | (simp [plainName, overriddenIn]; done) | decide +kernel
theorem efL (m : MethodId) (x0 : Int32) : entryFrame m #[(.int x0)] 2 = mkF m 0 #[.val (.int x0), .unset] [] := by first | (simp [entryFrame, mkF, argsToLocals, Value.category]; done) | rfl
def QL (Z : State) (x0 : Int32) (a_USER_CLIENT : Addr) (a_DEFAULT_USER_CLIENT : Addr) (a_USER : Addr) (a_DEFAULT_USER : Addr) (a_USER_DEFAULT_CLIENT : Addr) (a_CLIENT : Addr) (a_DEFAULT_USER_DEFAULT_CLIENT : Addr) (a_DEFAULT_CLIENT : Addr) (h0 : Heap) (n0 : Nat) (v : Option Value) (h : Heap) (L : List Loc) : Prop := ∃ r : Addr, v = some (.ref r) ∧ Fr n0 L ∧ h = h0
set_option maxRecDepth 65536 in
set_option maxHeartbeats 40000000 in
theorem rmL (l : Launch) (Z : State) (a0 : Array Value) (hw : ∀ d ∈ tables_1, d.before a0 Z = true) (ws : List Jvm.Cond) (x0 : Int32) (a_USER_CLIENT : Addr) (a_DEFAULT_USER_CLIENT : Addr) (a_USER : Addr) (a_DEFAULT_USER : Addr) (a_USER_DEFAULT_CLIENT : Addr) (a_CLIENT : Addr) (a_DEFAULT_USER_DEFAULT_CLIENT : Addr) (a_DEFAULT_CLIENT : Addr) (h0 : Heap) (n0 : Nat) (Z0 : n0 ≤ h0.size) (S_USER_CLIENT : Sta Z h0 "com/example/kvota/kvota/PrecedenceLevel" "USER_CLIENT" "Lcom/example/kvota/kvota/PrecedenceLevel;" (.ref a_USER_CLIENT)) (S_DEFAULT_USER_CLIENT : Sta Z h0 "com/example/kvota/kvota/PrecedenceLevel" "DEFAULT_USER_CLIENT" "Lcom/example/kvota/kvota/PrecedenceLevel;" (.ref a_DEFAULT_USER_CLIENT)) (S_USER : Sta Z h0 "com/example/kvota/kvota/PrecedenceLevel" "USER" "Lcom/example/kvota/kvota/PrecedenceLevel;" (.ref a_USER)) (S_DEFAULT_USER : Sta Z h0 "com/example/kvota/kvota/PrecedenceLevel" "DEFAULT_USER" "Lcom/example/kvota/kvota/PrecedenceLevel;" (.ref a_DEFAULT_USER)) (S_USER_DEFAULT_CLIENT : Sta Z h0 "com/example/kvota/kvota/PrecedenceLevel" "USER_DEFAULT_CLIENT" "Lcom/example/kvota/kvota/PrecedenceLevel;" (.ref a_USER_DEFAULT_CLIENT)) (S_CLIENT : Sta Z h0 "com/example/kvota/kvota/PrecedenceLevel" "CLIENT" "Lcom/example/kvota/kvota/PrecedenceLevel;" (.ref a_CLIENT)) (S_DEFAULT_USER_DEFAULT_CLIENT : Sta Z h0 "com/example/kvota/kvota/PrecedenceLevel" "DEFAULT_USER_DEFAULT_CLIENT" "Lcom/example/kvota/kvota/PrecedenceLevel;" (.ref a_DEFAULT_USER_DEFAULT_CLIENT)) (S_DEFAULT_CLIENT : Sta Z h0 "com/example/kvota/kvota/PrecedenceLevel" "DEFAULT_CLIENT" "Lcom/example/kvota/kvota/PrecedenceLevel;" (.ref a_DEFAULT_CLIENT)) :
    MetFree l (⟨"com/example/kvota/kvota/ResolvedQuotaEqualsPinLaw", "level", "(I)Lcom/example/kvota/kvota/PrecedenceLevel;"⟩ : MethodName) (head1 (Jvm.Cond.code (⟨"com/example/kvota/kvota/ResolvedQuotaEqualsPinLaw", "level", "(I)Lcom/example/kvota/kvota/PrecedenceLevel;"⟩ : MethodName) method_2_code 2 (some (.object "com/example/kvota/kvota/PrecedenceLevel")) :: ws) ({ frames := 0, cells := 0, slots := 0, locals := 0 } : Room)) (fun a U => a = #[(.int x0)] ∧ Z.Warmed39 U.vm ∧ U.heap = h0) (fun _ _ _ _ _ => True) (fun _ U o U' => ∃ v L, o = .returned v ∧ QL Z x0 a_USER_CLIENT a_DEFAULT_USER_CLIENT a_USER a_DEFAULT_USER a_USER_DEFAULT_CLIENT a_CLIENT a_DEFAULT_USER_DEFAULT_CLIENT a_DEFAULT_CLIENT h0 n0 v U'.heap L ∧ FrameEnd U o U' L ({ frames := 0, cells := 0, slots := 0, locals := 0 } : Room).cells ({ frames := 0, cells := 0, slots := 0, locals := 0 } : Room).slots) := by
  refine MetFree.of_bodySF (plainFor_of_name pnL) hisR ?_
  intro p e s m args below meth c s₁ Bd hml0 hP hK
  obtain ⟨rfl, hZ, hh⟩ := hP
  have hx := Bd.exec
  have hby := Bd.bytes
  have hml : c.maxLocals = 2 := hml0
  have hown : s.vm.findClass "com/example/kvota/kvota/ResolvedQuotaEqualsPinLaw" = some m.cls := findClass_of_methodNamed Bd.named
  have hnm := (name_of_methodNamed Bd.named Bd.method).1
  have X0 : Stand p l e ({ frames := 0, cells := 0, slots := 0, locals := 0 } : Room) s m #[(.int x0)] below meth c s₁ [] 0 0 := Stand.of_body Bd
  have e0 : s₁.heap = h0 := by rw [← hh, Bd.state]; rfl
  have N0 := Fr.nil n0
  have pre0 : ∀ t, Steps p.tables e below (s₁.setTop (mkF m 0 #[.val (.int x0), .unset] [])) t → Steps p.tables e below (s₁.setTop (entryFrame m #[(.int x0)] 2)) t := fun t k => castTop (efL m x0) k
  have p1 : ∀ t, Steps p.tables e below (s₁.setTop (mkF m 5 #[.val (.int x0), .val (.int (x0 &&& (7 : Int32)))] [])) t → Steps p.tables e below (s₁.setTop (entryFrame m #[(.int x0)] 2)) t := fun t k => pre0 t (by
    show Steps p.tables e below (s₁.setTop (mkF m 0 #[.val (.int x0), .unset] [])) _
    refine XS.iloadN X0.here hx rfl (hb hby dL_0) rfl ?_
    show Steps p.tables e below (s₁.setTop (mkF m 1 #[.val (.int x0), .unset] [(.int x0)])) _
    refine XS.bipush X0.here hx rfl (hb hby dL_1) ?_
    show Steps p.tables e below (s₁.setTop (mkF m 3 #[.val (.int x0), .unset] [(.int (7 : Int32)), (.int x0)])) _
    refine XS.iand X0.here hx rfl (hb hby dL_3) rfl ?_
    show Steps p.tables e below (s₁.setTop (mkF m 4 #[.val (.int x0), .unset] [(.int (x0 &&& (7 : Int32)))])) _
    refine XS.istoreN X0.here hx rfl (hb hby dL_4) rfl (l' := #[.val (.int x0), .val (.int (x0 &&& (7 : Int32)))]) rfl ?_
    exact k)
  obtain ⟨vc, hvc⟩ : ∃ z : Int32, z = (x0 &&& (7 : Int32)) := ⟨_, rfl⟩
  have p2 : ∀ t, Steps p.tables e below (s₁.setTop (mkF m 5 #[.val (.int x0), .val (.int vc)] [])) t → Steps p.tables e below (s₁.setTop (entryFrame m #[(.int x0)] 2)) t := by
    intro t k; subst hvc; exact p1 t k
  have p3 : ∀ t, Steps p.tables e below (s₁.setTop (mkF m 6 #[.val (.int x0), .val (.int vc)] [(.int vc)])) t → Steps p.tables e below (s₁.setTop (entryFrame m #[(.int x0)] 2)) t := fun t k => p2 t (by
    show Steps p.tables e below (s₁.setTop (mkF m 5 #[.val (.int x0), .val (.int vc)] [])) _
    refine XS.iloadN X0.here hx rfl (hb hby dL_5) rfl ?_
    exact k)
  by_cases hc6 : vc = (0 : Int32)
  · have p4 : ∀ t, Steps p.tables e below (s₁.setTop (mkF m 9 #[.val (.int x0), .val (.int vc)] [])) t → Steps p.tables e below (s₁.setTop (entryFrame m #[(.int x0)] 2)) t := fun t k => p3 t (by
      show Steps p.tables e below (s₁.setTop (mkF m 6 #[.val (.int x0), .val (.int vc)] [(.int vc)])) _
      refine XS.ifNo X0.here hx rfl (hb hby dL_6) rfl ((if0 _ _).trans (teq (hc6)).2) ?_
      exact k)
    obtain ⟨T5, X5, e5, st5⟩ := getS2 X0 hx hZ hown (host := "") (Or.inl (hw _ (List.mem_of_getElem? (i := 4) rfl))) Via.refl e0 S_USER_CLIENT (g := (mkF m 9 #[.val (.int x0), .val (.int vc)] [])) rfl (hb hby dL_9)
    have p6 : ∀ t, Steps p.tables e below (T5.setTop (mkF m 12 #[.val (.int x0), .val (.int vc)] [(.ref a_USER_CLIENT)])) t → Steps p.tables e below (s₁.setTop (entryFrame m #[(.int x0)] 2)) t := fun t k => p4 t (st5 t k)
    obtain ⟨fs, hr, hrun, hended, hW, hsame⟩ := X5.leave (v := some (.ref a_USER_CLIENT)) (fun h => by rw [Bd.returns] at h; cases h)
    refine ⟨_, _, p6 _ ?_, hrun, hended, _, _, rfl, ?_, ⟨_, rfl⟩, hW, hsame.mono (by decide) (by decide)⟩
    · show Steps p.tables e below (T5.setTop (mkF m 12 #[.val (.int x0), .val (.int vc)] [(.ref a_USER_CLIENT)])) _
      exact retOut X5 hx Bd.returns rfl (Or.inr (Or.inr (Or.inr (Or.inr ⟨rfl, rfl, rfl⟩)))) (hb hby dL_12) hr
    · show QL Z x0 a_USER_CLIENT a_DEFAULT_USER_CLIENT a_USER a_DEFAULT_USER a_USER_DEFAULT_CLIENT a_CLIENT a_DEFAULT_USER_DEFAULT_CLIENT a_DEFAULT_CLIENT h0 n0 _ T5.heap _
      rw [e5]
      exact ⟨_, rfl, N0, rfl⟩
  · have p7 : ∀ t, Steps p.tables e below (s₁.setTop (mkF m 15 #[.val (.int x0), .val (.int vc)] [(.int (1 : Int32)), (.int vc)])) t → Steps p.tables e below (s₁.setTop (entryFrame m #[(.int x0)] 2)) t := fun t k => p3 t (by
      show Steps p.tables e below (s₁.setTop (mkF m 6 #[.val (.int x0), .val (.int vc)] [(.int vc)])) _
      refine XS.ifYes X0.here hx rfl (pc0 := 6) (pc' := 13) rfl (hb hby dL_6) rfl ((if0 _ _).trans (feq (hc6)).2) (by decide) (by decide) ?_
      show Steps p.tables e below (s₁.setTop (mkF m 13 #[.val (.int x0), .val (.int vc)] [])) _
      refine XS.iloadN X0.here hx rfl (hb hby dL_13) rfl ?_
      show Steps p.tables e below (s₁.setTop (mkF m 14 #[.val (.int x0), .val (.int vc)] [(.int vc)])) _
      refine XS.iconst X0.here hx rfl (hb hby dL_14) ?_
      exact k)
    by_cases hc15 : vc = (1 : Int32)
    · have p8 : ∀ t, Steps p.tables e below (s₁.setTop (mkF m 18 #[.val (.int x0), .val (.int vc)] [])) t → Steps p.tables e below (s₁.setTop (entryFrame m #[(.int x0)] 2)) t := fun t k => p7 t (by
        show Steps p.tables e below (s₁.setTop (mkF m 15 #[.val (.int x0), .val (.int vc)] [(.int (1 : Int32)), (.int vc)])) _
        refine XS.icmpNo X0.here hx rfl (hb hby dL_15) rfl ((teq (hc15)).2) ?_
        exact k)
      obtain ⟨T9, X9, e9, st9⟩ := getS2 X0 hx hZ hown (host := "") (Or.inl (hw _ (List.mem_of_getElem? (i := 59) rfl))) Via.refl e0 S_USER_DEFAULT_CLIENT (g := (mkF m 18 #[.val (.int x0), .val (.int vc)] [])) rfl (hb hby dL_18)
      have p10 : ∀ t, Steps p.tables e below (T9.setTop (mkF m 21 #[.val (.int x0), .val (.int vc)] [(.ref a_USER_DEFAULT_CLIENT)])) t → Steps p.tables e below (s₁.setTop (entryFrame m #[(.int x0)] 2)) t := fun t k => p8 t (st9 t k)
      obtain ⟨fs, hr, hrun, hended, hW, hsame⟩ := X9.leave (v := some (.ref a_USER_DEFAULT_CLIENT)) (fun h => by rw [Bd.returns] at h; cases h)
      refine ⟨_, _, p10 _ ?_, hrun, hended, _, _, rfl, ?_, ⟨_, rfl⟩, hW, hsame.mono (by decide) (by decide)⟩
      · show Steps p.tables e below (T9.setTop (mkF m 21 #[.val (.int x0), .val (.int vc)] [(.ref a_USER_DEFAULT_CLIENT)])) _
        exact retOut X9 hx Bd.returns rfl (Or.inr (Or.inr (Or.inr (Or.inr ⟨rfl, rfl, rfl⟩)))) (hb hby dL_21) hr
      · show QL Z x0 a_USER_CLIENT a_DEFAULT_USER_CLIENT a_USER a_DEFAULT_USER a_USER_DEFAULT_CLIENT a_CLIENT a_DEFAULT_USER_DEFAULT_CLIENT a_DEFAULT_CLIENT h0 n0 _ T9.heap _
        rw [e9]
        exact ⟨_, rfl, N0, rfl⟩
    · have p11 : ∀ t, Steps p.tables e below (s₁.setTop (mkF m 24 #[.val (.int x0), .val (.int vc)] [(.int (2 : Int32)), (.int vc)])) t → Steps p.tables e below (s₁.setTop (entryFrame m #[(.int x0)] 2)) t := fun t k => p7 t (by
        show Steps p.tables e below (s₁.setTop (mkF m 15 #[.val (.int x0), .val (.int vc)] [(.int (1 : Int32)), (.int vc)])) _
        refine XS.icmpYes X0.here hx rfl (pc0 := 15) (pc' := 22) rfl (hb hby dL_15) rfl ((feq (hc15)).2) (by decide) (by decide) ?_
        show Steps p.tables e below (s₁.setTop (mkF m 22 #[.val (.int x0), .val (.int vc)] [])) _
        refine XS.iloadN X0.here hx rfl (hb hby dL_22) rfl ?_
        show Steps p.tables e below (s₁.setTop (mkF m 23 #[.val (.int x0), .val (.int vc)] [(.int vc)])) _
        refine XS.iconst X0.here hx rfl (hb hby dL_23) ?_
        exact k)
      by_cases hc24 : vc = (2 : Int32)
      · have p12 : ∀ t, Steps p.tables e below (s₁.setTop (mkF m 27 #[.val (.int x0), .val (.int vc)] [])) t → Steps p.tables e below (s₁.setTop (entryFrame m #[(.int x0)] 2)) t := fun t k => p11 t (by
          show Steps p.tables e below (s₁.setTop (mkF m 24 #[.val (.int x0), .val (.int vc)] [(.int (2 : Int32)), (.int vc)])) _
          refine XS.icmpNo X0.here hx rfl (hb hby dL_24) rfl ((teq (hc24)).2) ?_
          exact k)
        obtain ⟨T13, X13, e13, st13⟩ := getS2 X0 hx hZ hown (host := "") (Or.inl (hw _ (List.mem_of_getElem? (i := 40) rfl))) Via.refl e0 S_USER (g := (mkF m 27 #[.val (.int x0), .val (.int vc)] [])) rfl (hb hby dL_27)
        have p14 : ∀ t, Steps p.tables e below (T13.setTop (mkF m 30 #[.val (.int x0), .val (.int vc)] [(.ref a_USER)])) t → Steps p.tables e below (s₁.setTop (entryFrame m #[(.int x0)] 2)) t := fun t k => p12 t (st13 t k)
        obtain ⟨fs, hr, hrun, hended, hW, hsame⟩ := X13.leave (v := some (.ref a_USER)) (fun h => by rw [Bd.returns] at h; cases h)
        refine ⟨_, _, p14 _ ?_, hrun, hended, _, _, rfl, ?_, ⟨_, rfl⟩, hW, hsame.mono (by decide) (by decide)⟩
        · show Steps p.tables e below (T13.setTop (mkF m 30 #[.val (.int x0), .val (.int vc)] [(.ref a_USER)])) _
          exact retOut X13 hx Bd.returns rfl (Or.inr (Or.inr (Or.inr (Or.inr ⟨rfl, rfl, rfl⟩)))) (hb hby dL_30) hr
        · show QL Z x0 a_USER_CLIENT a_DEFAULT_USER_CLIENT a_USER a_DEFAULT_USER a_USER_DEFAULT_CLIENT a_CLIENT a_DEFAULT_USER_DEFAULT_CLIENT a_DEFAULT_CLIENT h0 n0 _ T13.heap _
          rw [e13]
          exact ⟨_, rfl, N0, rfl⟩
      · have p15 : ∀ t, Steps p.tables e below (s₁.setTop (mkF m 33 #[.val (.int x0), .val (.int vc)] [(.int (3 : Int32)), (.int vc)])) t → Steps p.tables e below (s₁.setTop (entryFrame m #[(.int x0)] 2)) t := fun t k => p11 t (by
          show Steps p.tables e below (s₁.setTop (mkF m 24 #[.val (.int x0), .val (.int vc)] [(.int (2 : Int32)), (.int vc)])) _
          refine XS.icmpYes X0.here hx rfl (pc0 := 24) (pc' := 31) rfl (hb hby dL_24) rfl ((feq (hc24)).2) (by decide) (by decide) ?_
          show Steps p.tables e below (s₁.setTop (mkF m 31 #[.val (.int x0), .val (.int vc)] [])) _
          refine XS.iloadN X0.here hx rfl (hb hby dL_31) rfl ?_
          show Steps p.tables e below (s₁.setTop (mkF m 32 #[.val (.int x0), .val (.int vc)] [(.int vc)])) _
          refine XS.iconst X0.here hx rfl (hb hby dL_32) ?_
          exact k)
        by_cases hc33 : vc = (3 : Int32)
        · have p16 : ∀ t, Steps p.tables e below (s₁.setTop (mkF m 36 #[.val (.int x0), .val (.int vc)] [])) t → Steps p.tables e below (s₁.setTop (entryFrame m #[(.int x0)] 2)) t := fun t k => p15 t (by
            show Steps p.tables e below (s₁.setTop (mkF m 33 #[.val (.int x0), .val (.int vc)] [(.int (3 : Int32)), (.int vc)])) _
            refine XS.icmpNo X0.here hx rfl (hb hby dL_33) rfl ((teq (hc33)).2) ?_
            exact k)
          obtain ⟨T17, X17, e17, st17⟩ := getS2 X0 hx hZ hown (host := "") (Or.inl (hw _ (List.mem_of_getElem? (i := 7) rfl))) Via.refl e0 S_DEFAULT_USER_CLIENT (g := (mkF m 36 #[.val (.int x0), .val (.int vc)] [])) rfl (hb hby dL_36)
          have p18 : ∀ t, Steps p.tables e below (T17.setTop (mkF m 39 #[.val (.int x0), .val (.int vc)] [(.ref a_DEFAULT_USER_CLIENT)])) t → Steps p.tables e below (s₁.setTop (entryFrame m #[(.int x0)] 2)) t := fun t k => p16 t (st17 t k)
          obtain ⟨fs, hr, hrun, hended, hW, hsame⟩ := X17.leave (v := some (.ref a_DEFAULT_USER_CLIENT)) (fun h => by rw [Bd.returns] at h; cases h)
          refine ⟨_, _, p18 _ ?_, hrun, hended, _, _, rfl, ?_, ⟨_, rfl⟩, hW, hsame.mono (by decide) (by decide)⟩
          · show Steps p.tables e below (T17.setTop (mkF m 39 #[.val (.int x0), .val (.int vc)] [(.ref a_DEFAULT_USER_CLIENT)])) _
            exact retOut X17 hx Bd.returns rfl (Or.inr (Or.inr (Or.inr (Or.inr ⟨rfl, rfl, rfl⟩)))) (hb hby dL_39) hr
          · show QL Z x0 a_USER_CLIENT a_DEFAULT_USER_CLIENT a_USER a_DEFAULT_USER a_USER_DEFAULT_CLIENT a_CLIENT a_DEFAULT_USER_DEFAULT_CLIENT a_DEFAULT_CLIENT h0 n0 _ T17.heap _
            rw [e17]
            exact ⟨_, rfl, N0, rfl⟩
        · have p19 : ∀ t, Steps p.tables e below (s₁.setTop (mkF m 42 #[.val (.int x0), .val (.int vc)] [(.int (4 : Int32)), (.int vc)])) t → Steps p.tables e below (s₁.setTop (entryFrame m #[(.int x0)] 2)) t := fun t k => p15 t (by
            show Steps p.tables e below (s₁.setTop (mkF m 33 #[.val (.int x0), .val (.int vc)] [(.int (3 : Int32)), (.int vc)])) _
            refine XS.icmpYes X0.here hx rfl (pc0 := 33) (pc' := 40) rfl (hb hby dL_33) rfl ((feq (hc33)).2) (by decide) (by decide) ?_
            show Steps p.tables e below (s₁.setTop (mkF m 40 #[.val (.int x0), .val (.int vc)] [])) _
            refine XS.iloadN X0.here hx rfl (hb hby dL_40) rfl ?_
            show Steps p.tables e below (s₁.setTop (mkF m 41 #[.val (.int x0), .val (.int vc)] [(.int vc)])) _
            refine XS.iconst X0.here hx rfl (hb hby dL_41) ?_
            exact k)
          by_cases hc42 : vc = (4 : Int32)
          · have p20 : ∀ t, Steps p.tables e below (s₁.setTop (mkF m 45 #[.val (.int x0), .val (.int vc)] [])) t → Steps p.tables e below (s₁.setTop (entryFrame m #[(.int x0)] 2)) t := fun t k => p19 t (by
              show Steps p.tables e below (s₁.setTop (mkF m 42 #[.val (.int x0), .val (.int vc)] [(.int (4 : Int32)), (.int vc)])) _
              refine XS.icmpNo X0.here hx rfl (hb hby dL_42) rfl ((teq (hc42)).2) ?_
              exact k)
            obtain ⟨T21, X21, e21, st21⟩ := getS2 X0 hx hZ hown (host := "") (Or.inl (hw _ (List.mem_of_getElem? (i := 63) rfl))) Via.refl e0 S_DEFAULT_USER_DEFAULT_CLIENT (g := (mkF m 45 #[.val (.int x0), .val (.int vc)] [])) rfl (hb hby dL_45)
            have p22 : ∀ t, Steps p.tables e below (T21.setTop (mkF m 48 #[.val (.int x0), .val (.int vc)] [(.ref a_DEFAULT_USER_DEFAULT_CLIENT)])) t → Steps p.tables e below (s₁.setTop (entryFrame m #[(.int x0)] 2)) t := fun t k => p20 t (st21 t k)
            obtain ⟨fs, hr, hrun, hended, hW, hsame⟩ := X21.leave (v := some (.ref a_DEFAULT_USER_DEFAULT_CLIENT)) (fun h => by rw [Bd.returns] at h; cases h)
            refine ⟨_, _, p22 _ ?_, hrun, hended, _, _, rfl, ?_, ⟨_, rfl⟩, hW, hsame.mono (by decide) (by decide)⟩
            · show Steps p.tables e below (T21.setTop (mkF m 48 #[.val (.int x0), .val (.int vc)] [(.ref a_DEFAULT_USER_DEFAULT_CLIENT)])) _
              exact retOut X21 hx Bd.returns rfl (Or.inr (Or.inr (Or.inr (Or.inr ⟨rfl, rfl, rfl⟩)))) (hb hby dL_48) hr
            · show QL Z x0 a_USER_CLIENT a_DEFAULT_USER_CLIENT a_USER a_DEFAULT_USER a_USER_DEFAULT_CLIENT a_CLIENT a_DEFAULT_USER_DEFAULT_CLIENT a_DEFAULT_CLIENT h0 n0 _ T21.heap _
              rw [e21]
              exact ⟨_, rfl, N0, rfl⟩
          · have p23 : ∀ t, Steps p.tables e below (s₁.setTop (mkF m 51 #[.val (.int x0), .val (.int vc)] [(.int (5 : Int32)), (.int vc)])) t → Steps p.tables e below (s₁.setTop (entryFrame m #[(.int x0)] 2)) t := fun t k => p19 t (by
              show Steps p.tables e below (s₁.setTop (mkF m 42 #[.val (.int x0), .val (.int vc)] [(.int (4 : Int32)), (.int vc)])) _
              refine XS.icmpYes X0.here hx rfl (pc0 := 42) (pc' := 49) rfl (hb hby dL_42) rfl ((feq (hc42)).2) (by decide) (by decide) ?_
              show Steps p.tables e below (s₁.setTop (mkF m 49 #[.val (.int x0), .val (.int vc)] [])) _
              refine XS.iloadN X0.here hx rfl (hb hby dL_49) rfl ?_
              show Steps p.tables e below (s₁.setTop (mkF m 50 #[.val (.int x0), .val (.int vc)] [(.int vc)])) _
              refine XS.iconst X0.here hx rfl (hb hby dL_50) ?_
              exact k)
            by_cases hc51 : vc = (5 : Int32)
            · have p24 : ∀ t, Steps p.tables e below (s₁.setTop (mkF m 54 #[.val (.int x0), .val (.int vc)] [])) t → Steps p.tables e below (s₁.setTop (entryFrame m #[(.int x0)] 2)) t := fun t k => p23 t (by
                show Steps p.tables e below (s₁.setTop (mkF m 51 #[.val (.int x0), .val (.int vc)] [(.int (5 : Int32)), (.int vc)])) _
                refine XS.icmpNo X0.here hx rfl (hb hby dL_51) rfl ((teq (hc51)).2) ?_
                exact k)
              obtain ⟨T25, X25, e25, st25⟩ := getS2 X0 hx hZ hown (host := "") (Or.inl (hw _ (List.mem_of_getElem? (i := 42) rfl))) Via.refl e0 S_DEFAULT_USER (g := (mkF m 54 #[.val (.int x0), .val (.int vc)] [])) rfl (hb hby dL_54)
              have p26 : ∀ t, Steps p.tables e below (T25.setTop (mkF m 57 #[.val (.int x0), .val (.int vc)] [(.ref a_DEFAULT_USER)])) t → Steps p.tables e below (s₁.setTop (entryFrame m #[(.int x0)] 2)) t := fun t k => p24 t (st25 t k)
              obtain ⟨fs, hr, hrun, hended, hW, hsame⟩ := X25.leave (v := some (.ref a_DEFAULT_USER)) (fun h => by rw [Bd.returns] at h; cases h)
              refine ⟨_, _, p26 _ ?_, hrun, hended, _, _, rfl, ?_, ⟨_, rfl⟩, hW, hsame.mono (by decide) (by decide)⟩
              · show Steps p.tables e below (T25.setTop (mkF m 57 #[.val (.int x0), .val (.int vc)] [(.ref a_DEFAULT_USER)])) _
                exact retOut X25 hx Bd.returns rfl (Or.inr (Or.inr (Or.inr (Or.inr ⟨rfl, rfl, rfl⟩)))) (hb hby dL_57) hr
              · show QL Z x0 a_USER_CLIENT a_DEFAULT_USER_CLIENT a_USER a_DEFAULT_USER a_USER_DEFAULT_CLIENT a_CLIENT a_DEFAULT_USER_DEFAULT_CLIENT a_DEFAULT_CLIENT h0 n0 _ T25.heap _
                rw [e25]
                exact ⟨_, rfl, N0, rfl⟩
            · have p27 : ∀ t, Steps p.tables e below (s₁.setTop (mkF m 61 #[.val (.int x0), .val (.int vc)] [(.int (6 : Int32)), (.int vc)])) t → Steps p.tables e below (s₁.setTop (entryFrame m #[(.int x0)] 2)) t := fun t k => p23 t (by
                show Steps p.tables e below (s₁.setTop (mkF m 51 #[.val (.int x0), .val (.int vc)] [(.int (5 : Int32)), (.int vc)])) _
                refine XS.icmpYes X0.here hx rfl (pc0 := 51) (pc' := 58) rfl (hb hby dL_51) rfl ((feq (hc51)).2) (by decide) (by decide) ?_
                show Steps p.tables e below (s₁.setTop (mkF m 58 #[.val (.int x0), .val (.int vc)] [])) _
                refine XS.iloadN X0.here hx rfl (hb hby dL_58) rfl ?_
                show Steps p.tables e below (s₁.setTop (mkF m 59 #[.val (.int x0), .val (.int vc)] [(.int vc)])) _
                refine XS.bipush X0.here hx rfl (hb hby dL_59) ?_
                exact k)
              by_cases hc61 : vc = (6 : Int32)
              · have p28 : ∀ t, Steps p.tables e below (s₁.setTop (mkF m 64 #[.val (.int x0), .val (.int vc)] [])) t → Steps p.tables e below (s₁.setTop (entryFrame m #[(.int x0)] 2)) t := fun t k => p27 t (by
                  show Steps p.tables e below (s₁.setTop (mkF m 61 #[.val (.int x0), .val (.int vc)] [(.int (6 : Int32)), (.int vc)])) _
                  refine XS.icmpNo X0.here hx rfl (hb hby dL_61) rfl ((teq (hc61)).2) ?_
                  exact k)
                obtain ⟨T29, X29, e29, st29⟩ := getS2 X0 hx hZ hown (host := "") (Or.inl (hw _ (List.mem_of_getElem? (i := 61) rfl))) Via.refl e0 S_CLIENT (g := (mkF m 64 #[.val (.int x0), .val (.int vc)] [])) rfl (hb hby dL_64)
                have p30 : ∀ t, Steps p.tables e below (T29.setTop (mkF m 67 #[.val (.int x0), .val (.int vc)] [(.ref a_CLIENT)])) t → Steps p.tables e below (s₁.setTop (entryFrame m #[(.int x0)] 2)) t := fun t k => p28 t (st29 t k)
                obtain ⟨fs, hr, hrun, hended, hW, hsame⟩ := X29.leave (v := some (.ref a_CLIENT)) (fun h => by rw [Bd.returns] at h; cases h)
                refine ⟨_, _, p30 _ ?_, hrun, hended, _, _, rfl, ?_, ⟨_, rfl⟩, hW, hsame.mono (by decide) (by decide)⟩
                · show Steps p.tables e below (T29.setTop (mkF m 67 #[.val (.int x0), .val (.int vc)] [(.ref a_CLIENT)])) _
                  exact retOut X29 hx Bd.returns rfl (Or.inr (Or.inr (Or.inr (Or.inr ⟨rfl, rfl, rfl⟩)))) (hb hby dL_67) hr
                · show QL Z x0 a_USER_CLIENT a_DEFAULT_USER_CLIENT a_USER a_DEFAULT_USER a_USER_DEFAULT_CLIENT a_CLIENT a_DEFAULT_USER_DEFAULT_CLIENT a_DEFAULT_CLIENT h0 n0 _ T29.heap _
                  rw [e29]
                  exact ⟨_, rfl, N0, rfl⟩
              · have p31 : ∀ t, Steps p.tables e below (s₁.setTop (mkF m 68 #[.val (.int x0), .val (.int vc)] [])) t → Steps p.tables e below (s₁.setTop (entryFrame m #[(.int x0)] 2)) t := fun t k => p27 t (by
                  show Steps p.tables e below (s₁.setTop (mkF m 61 #[.val (.int x0), .val (.int vc)] [(.int (6 : Int32)), (.int vc)])) _
                  refine XS.icmpYes X0.here hx rfl (pc0 := 61) (pc' := 68) rfl (hb hby dL_61) rfl ((feq (hc61)).2) (by decide) (by decide) ?_
                  exact k)
                obtain ⟨T32, X32, e32, st32⟩ := getS2 X0 hx hZ hown (host := "") (Or.inl (hw _ (List.mem_of_getElem? (i := 65) rfl))) Via.refl e0 S_DEFAULT_CLIENT (g := (mkF m 68 #[.val (.int x0), .val (.int vc)] [])) rfl (hb hby dL_68)
                have p33 : ∀ t, Steps p.tables e below (T32.setTop (mkF m 71 #[.val (.int x0), .val (.int vc)] [(.ref a_DEFAULT_CLIENT)])) t → Steps p.tables e below (s₁.setTop (entryFrame m #[(.int x0)] 2)) t := fun t k => p31 t (st32 t k)
                obtain ⟨fs, hr, hrun, hended, hW, hsame⟩ := X32.leave (v := some (.ref a_DEFAULT_CLIENT)) (fun h => by rw [Bd.returns] at h; cases h)
                refine ⟨_, _, p33 _ ?_, hrun, hended, _, _, rfl, ?_, ⟨_, rfl⟩, hW, hsame.mono (by decide) (by decide)⟩
                · show Steps p.tables e below (T32.setTop (mkF m 71 #[.val (.int x0), .val (.int vc)] [(.ref a_DEFAULT_CLIENT)])) _
                  exact retOut X32 hx Bd.returns rfl (Or.inr (Or.inr (Or.inr (Or.inr ⟨rfl, rfl, rfl⟩)))) (hb hby dL_71) hr
                · show QL Z x0 a_USER_CLIENT a_DEFAULT_USER_CLIENT a_USER a_DEFAULT_USER a_USER_DEFAULT_CLIENT a_CLIENT a_DEFAULT_USER_DEFAULT_CLIENT a_DEFAULT_CLIENT h0 n0 _ T32.heap _
                  rw [e32]
                  exact ⟨_, rfl, N0, rfl⟩
theorem dI_0 : decode prog_36_method_1_code 0 = .ok (.aload_n 0, 1) := by decide +kernel
theorem dI_1 : decode prog_36_method_1_code 1 = .ok (.invokespecial 1, 3) := by decide +kernel
theorem dI_4 : decode prog_36_method_1_code 4 = .ok (.aload_n 0, 1) := by decide +kernel
theorem dI_5 : decode prog_36_method_1_code 5 = .ok (.lload_n 1, 1) := by decide +kernel
theorem dI_6 : decode prog_36_method_1_code 6 = .ok (.putfield 7, 3) := by decide +kernel
theorem dI_9 : decode prog_36_method_1_code 9 = .ok (.aload_n 0, 1) := by decide +kernel
theorem dI_10 : decode prog_36_method_1_code 10 = .ok (.aload_n 3, 1) := by decide +kernel
theorem dI_11 : decode prog_36_method_1_code 11 = .ok (.putfield 13, 3) := by decide +kernel
theorem dI_14 : decode prog_36_method_1_code 14 = .ok (.return_, 1) := by decide +kernel
theorem pnI : plainName "com/example/kvota/kvota/ResolvedQuota" = true := by first | (simp [plainName, overriddenIn]; done) | decide +kernel
theorem efI (m : MethodId) (x0 : Addr) (x1 : Int64) (x2 : Addr) : entryFrame m #[(.ref x0), (.long x1), (.ref x2)] 4 = mkF m 0 #[.val (.ref x0), .val (.long x1), .second, .val (.ref x2)] [] := by first | (simp [entryFrame, mkF, argsToLocals, Value.category]; done) | rfl
def QI (Z : State) (x0 : Addr) (x1 : Int64) (x2 : Addr) (h0 : Heap) (n0 : Nat) (v : Option Value) (h : Heap) (L : List Loc) : Prop := v = none ∧ Fr n0 L ∧ Keep h0 h [x0] ∧ Fld Z h x0 "com/example/kvota/kvota/ResolvedQuota" "value" "J" (.long x1) ∧ Fld Z h x0 "com/example/kvota/kvota/ResolvedQuota" "level" "Lcom/example/kvota/kvota/PrecedenceLevel;" (.ref x2)
set_option maxRecDepth 65536 in
set_option maxHeartbeats 40000000 in
theorem rmI (l : Launch) (Z : State) (a0 : Array Value) (hw : ∀ d ∈ tables_1, d.before a0 Z = true) (ws : List Jvm.Cond) (x0 : Addr) (x1 : Int64) (x2 : Addr) (h0 : Heap) (n0 : Nat) (Z0 : n0 ≤ h0.size) (E0 : Exa Z h0 x0 "com/example/kvota/kvota/ResolvedQuota") (F1 : Fld Z h0 x0 "com/example/kvota/kvota/ResolvedQuota" "value" "J" (.long (0 : Int64))) (F2 : Fld Z h0 x0 "com/example/kvota/kvota/ResolvedQuota" "level" "Lcom/example/kvota/kvota/PrecedenceLevel;" .null) (g0 : n0 ≤ x0) :
    MetFree l (⟨"com/example/kvota/kvota/ResolvedQuota", "<init>", "(JLcom/example/kvota/kvota/PrecedenceLevel;)V"⟩ : MethodName) (head1 (Jvm.Cond.code (⟨"com/example/kvota/kvota/ResolvedQuota", "<init>", "(JLcom/example/kvota/kvota/PrecedenceLevel;)V"⟩ : MethodName) prog_36_method_1_code 4 none :: ws) ({ frames := 1, cells := 0, slots := 0, locals := 12 } : Room)) (fun a U => a = #[(.ref x0), (.long x1), (.ref x2)] ∧ Z.Warmed39 U.vm ∧ U.heap = h0) (fun _ _ _ _ _ => True) (fun _ U o U' => ∃ v L, o = .returned v ∧ QI Z x0 x1 x2 h0 n0 v U'.heap L ∧ FrameEnd U o U' L ({ frames := 1, cells := 0, slots := 0, locals := 12 } : Room).cells ({ frames := 1, cells := 0, slots := 0, locals := 12 } : Room).slots) := by
  refine MetFree.of_bodySF (plainFor_of_name pnI) hisR ?_
  intro p e s m args below meth c s₁ Bd hml0 hP hK
  obtain ⟨rfl, hZ, hh⟩ := hP
  have hx := Bd.exec
  have hby := Bd.bytes
  have hml : c.maxLocals = 4 := hml0
  have hown : s.vm.findClass "com/example/kvota/kvota/ResolvedQuota" = some m.cls := findClass_of_methodNamed Bd.named
  have hnm := (name_of_methodNamed Bd.named Bd.method).1
  have X0 : Stand p l e ({ frames := 1, cells := 0, slots := 0, locals := 12 } : Room) s m #[(.ref x0), (.long x1), (.ref x2)] below meth c s₁ [] 0 0 := Stand.of_body Bd
  have e0 : s₁.heap = h0 := by rw [← hh, Bd.state]; rfl
  have N0 := Fr.nil n0
  have pre0 : ∀ t, Steps p.tables e below (s₁.setTop (mkF m 0 #[.val (.ref x0), .val (.long x1), .second, .val (.ref x2)] [])) t → Steps p.tables e below (s₁.setTop (entryFrame m #[(.ref x0), (.long x1), (.ref x2)] 4)) t := fun t k => castTop (efI m x0 x1 x2) k
  have K0 := Keep.refl h0 [x0]
  have p1 : ∀ t, Steps p.tables e below (s₁.setTop (mkF m 1 #[.val (.ref x0), .val (.long x1), .second, .val (.ref x2)] [(.ref x0)])) t → Steps p.tables e below (s₁.setTop (entryFrame m #[(.ref x0), (.long x1), (.ref x2)] 4)) t := fun t k => pre0 t (by
    show Steps p.tables e below (s₁.setTop (mkF m 0 #[.val (.ref x0), .val (.long x1), .second, .val (.ref x2)] [])) _
    refine XS.aloadN X0.here hx rfl (hb hby dI_0) rfl rfl ?_
    exact k)
  obtain ⟨T2, X2, e2, st2⟩ := initO X0 hx hZ hown (hw _ (List.mem_of_getElem? (i := 15) rfl)) (hw _ (List.mem_of_getElem? (i := 16) rfl)) (hw _ (List.mem_of_getElem? (i := 17) rfl)) e0 (g := (mkF m 1 #[.val (.ref x0), .val (.long x1), .second, .val (.ref x2)] [(.ref x0)])) rfl (by rw [hml]; rfl) rfl (hb hby dI_1) (by decide) (W := 0) (by show 2 * 0 + _ ≤ _; exact Nat.le_of_eq rfl) (by decide)
  have p3 : ∀ t, Steps p.tables e below (T2.setTop (mkF m 4 #[.val (.ref x0), .val (.long x1), .second, .val (.ref x2)] [])) t → Steps p.tables e below (s₁.setTop (entryFrame m #[(.ref x0), (.long x1), (.ref x2)] 4)) t := fun t k => p1 t (st2 t k)
  have p4 : ∀ t, Steps p.tables e below (T2.setTop (mkF m 6 #[.val (.ref x0), .val (.long x1), .second, .val (.ref x2)] [(.long x1), (.ref x0)])) t → Steps p.tables e below (s₁.setTop (entryFrame m #[(.ref x0), (.long x1), (.ref x2)] 4)) t := fun t k => p3 t (by
    show Steps p.tables e below (T2.setTop (mkF m 4 #[.val (.ref x0), .val (.long x1), .second, .val (.ref x2)] [])) _
    refine XS.aloadN X2.here hx rfl (hb hby dI_4) rfl rfl ?_
    show Steps p.tables e below (T2.setTop (mkF m 5 #[.val (.ref x0), .val (.long x1), .second, .val (.ref x2)] [(.ref x0)])) _
    refine XS.lloadN X2.here hx rfl (hb hby dI_5) rfl ?_
    exact k)
  obtain ⟨T5, h5, X5, e5, W5, st5⟩ := putF X2 hx hZ hown (host := "") (Or.inl (hw _ (List.mem_of_getElem? (i := 18) rfl))) Via.refl e2 F1 E0 (Or.inr ⟨(hw _ (List.mem_of_getElem? (i := 19) rfl)), rfl, hnm⟩) (hw _ (List.mem_of_getElem? (i := 10) rfl)) (ty := .long) (by decide) rfl rfl (g := (mkF m 6 #[.val (.ref x0), .val (.long x1), .second, .val (.ref x2)] [(.long x1), (.ref x0)])) rfl rfl (hb hby dI_6)
  have f6 := F1.same W5
  have f7 := E0.wr W5
  have f8 := F2.other W5 (Or.inr (slot_ne (Or.inr (hw _ (List.mem_of_getElem? (i := 21) rfl))) (Or.inr (hw _ (List.mem_of_getElem? (i := 19) rfl))) (by decide) (t := (.object "com/example/kvota/kvota/PrecedenceLevel")) (t' := .long) (by decide) (by decide)))
  have Z5 := Nat.le_trans Z0 (Keep.of_wr W5).1
  have N5 := Fr.snoc X5 N0 g0
  have KK5 := K0.wr W5 (Or.inl (List.mem_singleton.mpr rfl))
  have p9 : ∀ t, Steps p.tables e below (T5.setTop (mkF m 9 #[.val (.ref x0), .val (.long x1), .second, .val (.ref x2)] [])) t → Steps p.tables e below (s₁.setTop (entryFrame m #[(.ref x0), (.long x1), (.ref x2)] 4)) t := fun t k => p4 t (st5 t k)
  have p10 : ∀ t, Steps p.tables e below (T5.setTop (mkF m 11 #[.val (.ref x0), .val (.long x1), .second, .val (.ref x2)] [(.ref x2), (.ref x0)])) t → Steps p.tables e below (s₁.setTop (entryFrame m #[(.ref x0), (.long x1), (.ref x2)] 4)) t := fun t k => p9 t (by
    show Steps p.tables e below (T5.setTop (mkF m 9 #[.val (.ref x0), .val (.long x1), .second, .val (.ref x2)] [])) _
    refine XS.aloadN X5.here hx rfl (hb hby dI_9) rfl rfl ?_
    show Steps p.tables e below (T5.setTop (mkF m 10 #[.val (.ref x0), .val (.long x1), .second, .val (.ref x2)] [(.ref x0)])) _
    refine XS.aloadN X5.here hx rfl (hb hby dI_10) rfl rfl ?_
    exact k)
  obtain ⟨T11, h11, X11, e11, W11, st11⟩ := putF X5 hx hZ hown (host := "") (Or.inl (hw _ (List.mem_of_getElem? (i := 20) rfl))) Via.refl e5 f8 f7 (Or.inr ⟨(hw _ (List.mem_of_getElem? (i := 21) rfl)), rfl, hnm⟩) (hw _ (List.mem_of_getElem? (i := 10) rfl)) (ty := (.object "com/example/kvota/kvota/PrecedenceLevel")) (by decide) rfl rfl (g := (mkF m 11 #[.val (.ref x0), .val (.long x1), .second, .val (.ref x2)] [(.ref x2), (.ref x0)])) rfl rfl (hb hby dI_11)
  have f12 := f8.same W11
  have f13 := f7.wr W11
  have f14 := f6.other W11 (Or.inr (slot_ne (Or.inr (hw _ (List.mem_of_getElem? (i := 19) rfl))) (Or.inr (hw _ (List.mem_of_getElem? (i := 21) rfl))) (by decide) (t := .long) (t' := (.object "com/example/kvota/kvota/PrecedenceLevel")) (by decide) (by decide)))
  have Z11 := Nat.le_trans Z5 (Keep.of_wr W11).1
  have N11 := Fr.snoc X11 N5 g0
  have KK11 := KK5.wr W11 (Or.inl (List.mem_singleton.mpr rfl))
  have p15 : ∀ t, Steps p.tables e below (T11.setTop (mkF m 14 #[.val (.ref x0), .val (.long x1), .second, .val (.ref x2)] [])) t → Steps p.tables e below (s₁.setTop (entryFrame m #[(.ref x0), (.long x1), (.ref x2)] 4)) t := fun t k => p10 t (st11 t k)
  obtain ⟨fs, hr, hrun, hended, hW, hsame⟩ := X11.leave (v := none) (fun _ => rfl)
  refine ⟨_, _, p15 _ ?_, hrun, hended, _, _, rfl, ?_, ⟨_, rfl⟩, hW, hsame.mono (by decide) (by decide)⟩
  · show Steps p.tables e below (T11.setTop (mkF m 14 #[.val (.ref x0), .val (.long x1), .second, .val (.ref x2)] [])) _
    exact X11.returnOut hx Bd.returns (hb hby dI_14) hr
  · show QI Z x0 x1 x2 h0 n0 _ T11.heap _
    rw [e11]
    exact ⟨rfl, N11, KK11, f14, f12⟩
theorem dA_0 : decode prog_36_method_4_code 0 = .ok (.aload_n 1, 1) := by decide +kernel
theorem dA_1 : decode prog_36_method_4_code 1 = .ok (.instanceof 8, 3) := by decide +kernel
theorem dA_4 : decode prog_36_method_4_code 4 = .ok (.ifCond .eq 36, 3) := by decide +kernel
theorem dA_7 : decode prog_36_method_4_code 7 = .ok (.aload_n 1, 1) := by decide +kernel
theorem dA_8 : decode prog_36_method_4_code 8 = .ok (.checkcast 8, 3) := by decide +kernel
theorem dA_11 : decode prog_36_method_4_code 11 = .ok (.getfield 7, 3) := by decide +kernel
theorem dA_14 : decode prog_36_method_4_code 14 = .ok (.aload_n 0, 1) := by decide +kernel
theorem dA_15 : decode prog_36_method_4_code 15 = .ok (.getfield 7, 3) := by decide +kernel
theorem dA_18 : decode prog_36_method_4_code 18 = .ok (.lcmp, 1) := by decide +kernel
theorem dA_19 : decode prog_36_method_4_code 19 = .ok (.ifCond .ne 21, 3) := by decide +kernel
theorem dA_22 : decode prog_36_method_4_code 22 = .ok (.aload_n 1, 1) := by decide +kernel
theorem dA_23 : decode prog_36_method_4_code 23 = .ok (.checkcast 8, 3) := by decide +kernel
theorem dA_26 : decode prog_36_method_4_code 26 = .ok (.getfield 13, 3) := by decide +kernel
theorem dA_29 : decode prog_36_method_4_code 29 = .ok (.aload_n 0, 1) := by decide +kernel
theorem dA_30 : decode prog_36_method_4_code 30 = .ok (.getfield 13, 3) := by decide +kernel
theorem dA_33 : decode prog_36_method_4_code 33 = .ok (.if_acmp .ne 7, 3) := by decide +kernel
theorem dA_36 : decode prog_36_method_4_code 36 = .ok (.iconst 1, 1) := by decide +kernel
theorem dA_37 : decode prog_36_method_4_code 37 = .ok (.goto 4, 3) := by decide +kernel
theorem dA_40 : decode prog_36_method_4_code 40 = .ok (.iconst 0, 1) := by decide +kernel
theorem dA_41 : decode prog_36_method_4_code 41 = .ok (.ireturn, 1) := by decide +kernel
theorem pnA : plainName "com/example/kvota/kvota/ResolvedQuota" = true := by first | (simp [plainName, overriddenIn]; done) | decide +kernel
theorem efA (m : MethodId) (x0 : Addr) (x1 : Addr) : entryFrame m #[(.ref x0), (.ref x1)] 2 = mkF m 0 #[.val (.ref x0), .val (.ref x1)] [] := by first | (simp [entryFrame, mkF, argsToLocals, Value.category]; done) | rfl
def QA (Z : State) (x0 : Addr) (x1 : Addr) (kp : Int64) (kr : Addr) (ku : Int64) (kw : Addr) (h0 : Heap) (n0 : Nat) (v : Option Value) (h : Heap) (L : List Loc) : Prop := v = some (.int (own_eqq kp kr ku kw)) ∧ Fr n0 L ∧ h = h0
set_option maxRecDepth 65536 in
set_option maxHeartbeats 40000000 in
theorem rmA (l : Launch) (Z : State) (a0 : Array Value) (hw : ∀ d ∈ tables_1, d.before a0 Z = true) (ws : List Jvm.Cond) (x0 : Addr) (x1 : Addr) (kp : Int64) (kr : Addr) (ku : Int64) (kw : Addr) (h0 : Heap) (n0 : Nat) (Z0 : n0 ≤ h0.size) (E1 : Exa Z h0 x1 "com/example/kvota/kvota/ResolvedQuota") (F0 : Fld Z h0 x0 "com/example/kvota/kvota/ResolvedQuota" "value" "J" (.long kp)) (G0 : Fld Z h0 x0 "com/example/kvota/kvota/ResolvedQuota" "level" "Lcom/example/kvota/kvota/PrecedenceLevel;" (.ref kr)) (F1 : Fld Z h0 x1 "com/example/kvota/kvota/ResolvedQuota" "value" "J" (.long ku)) (G1 : Fld Z h0 x1 "com/example/kvota/kvota/ResolvedQuota" "level" "Lcom/example/kvota/kvota/PrecedenceLevel;" (.ref kw)) :
    MetFree l (⟨"com/example/kvota/kvota/ResolvedQuota", "equals", "(Ljava/lang/Object;)Z"⟩ : MethodName) (head1 (Jvm.Cond.code (⟨"com/example/kvota/kvota/ResolvedQuota", "equals", "(Ljava/lang/Object;)Z"⟩ : MethodName) prog_36_method_4_code 2 (some .boolean) :: ws) ({ frames := 0, cells := 0, slots := 0, locals := 0 } : Room)) (fun a U => a = #[(.ref x0), (.ref x1)] ∧ Z.Warmed39 U.vm ∧ U.heap = h0) (fun _ _ _ _ _ => True) (fun _ U o U' => ∃ v L, o = .returned v ∧ QA Z x0 x1 kp kr ku kw h0 n0 v U'.heap L ∧ FrameEnd U o U' L ({ frames := 0, cells := 0, slots := 0, locals := 0 } : Room).cells ({ frames := 0, cells := 0, slots := 0, locals := 0 } : Room).slots) := by
  refine MetFree.of_bodySF (plainFor_of_name pnA) hisR ?_
  intro p e s m args below meth c s₁ Bd hml0 hP hK
  obtain ⟨rfl, hZ, hh⟩ := hP
  have hx := Bd.exec
  have hby := Bd.bytes
  have hml : c.maxLocals = 2 := hml0
  have hown : s.vm.findClass "com/example/kvota/kvota/ResolvedQuota" = some m.cls := findClass_of_methodNamed Bd.named
  have hnm := (name_of_methodNamed Bd.named Bd.method).1
  have X0 : Stand p l e ({ frames := 0, cells := 0, slots := 0, locals := 0 } : Room) s m #[(.ref x0), (.ref x1)] below meth c s₁ [] 0 0 := Stand.of_body Bd
  have e0 : s₁.heap = h0 := by rw [← hh, Bd.state]; rfl
  have N0 := Fr.nil n0
  have pre0 : ∀ t, Steps p.tables e below (s₁.setTop (mkF m 0 #[.val (.ref x0), .val (.ref x1)] [])) t → Steps p.tables e below (s₁.setTop (entryFrame m #[(.ref x0), (.ref x1)] 2)) t := fun t k => castTop (efA m x0 x1) k
  have p1 : ∀ t, Steps p.tables e below (s₁.setTop (mkF m 1 #[.val (.ref x0), .val (.ref x1)] [(.ref x1)])) t → Steps p.tables e below (s₁.setTop (entryFrame m #[(.ref x0), (.ref x1)] 2)) t := fun t k => pre0 t (by
    show Steps p.tables e below (s₁.setTop (mkF m 0 #[.val (.ref x0), .val (.ref x1)] [])) _
    refine XS.aloadN X0.here hx rfl (hb hby dA_0) rfl rfl ?_
    exact k)
  obtain ⟨T2, X2, e2, st2⟩ := instY X0 hx hZ hown (hw _ (List.mem_of_getElem? (i := 27) rfl)) e0 (Ins.self E1) (g := (mkF m 1 #[.val (.ref x0), .val (.ref x1)] [(.ref x1)])) rfl rfl (hb hby dA_1)
  have p3 : ∀ t, Steps p.tables e below (T2.setTop (mkF m 4 #[.val (.ref x0), .val (.ref x1)] [(.int (1 : Int32))])) t → Steps p.tables e below (s₁.setTop (entryFrame m #[(.ref x0), (.ref x1)] 2)) t := fun t k => p1 t (st2 t k)
  have p4 : ∀ t, Steps p.tables e below (T2.setTop (mkF m 8 #[.val (.ref x0), .val (.ref x1)] [(.ref x1)])) t → Steps p.tables e below (s₁.setTop (entryFrame m #[(.ref x0), (.ref x1)] 2)) t := fun t k => p3 t (by
    show Steps p.tables e below (T2.setTop (mkF m 4 #[.val (.ref x0), .val (.ref x1)] [(.int (1 : Int32))])) _
    refine XS.ifNo X2.here hx rfl (hb hby dA_4) rfl ((if0 _ _).trans (feq (by decide)).1) ?_
    show Steps p.tables e below (T2.setTop (mkF m 7 #[.val (.ref x0), .val (.ref x1)] [])) _
    refine XS.aloadN X2.here hx rfl (hb hby dA_7) rfl rfl ?_
    exact k)
  obtain ⟨T5, X5, e5, st5⟩ := castY X2 hx hZ hown (hw _ (List.mem_of_getElem? (i := 27) rfl)) e2 (Ins.self E1) (g := (mkF m 8 #[.val (.ref x0), .val (.ref x1)] [(.ref x1)])) rfl rfl (hb hby dA_8)
  have p6 : ∀ t, Steps p.tables e below (T5.setTop (mkF m 11 #[.val (.ref x0), .val (.ref x1)] [(.ref x1)])) t → Steps p.tables e below (s₁.setTop (entryFrame m #[(.ref x0), (.ref x1)] 2)) t := fun t k => p4 t (st5 t k)
  obtain ⟨T7, X7, e7, st7⟩ := getF X5 hx hZ hown (host := "") (Or.inl (hw _ (List.mem_of_getElem? (i := 18) rfl))) Via.refl e5 F1 (g := (mkF m 11 #[.val (.ref x0), .val (.ref x1)] [(.ref x1)])) rfl rfl (hb hby dA_11)
  have p8 : ∀ t, Steps p.tables e below (T7.setTop (mkF m 14 #[.val (.ref x0), .val (.ref x1)] [(.long ku)])) t → Steps p.tables e below (s₁.setTop (entryFrame m #[(.ref x0), (.ref x1)] 2)) t := fun t k => p6 t (st7 t k)
  have p9 : ∀ t, Steps p.tables e below (T7.setTop (mkF m 15 #[.val (.ref x0), .val (.ref x1)] [(.ref x0), (.long ku)])) t → Steps p.tables e below (s₁.setTop (entryFrame m #[(.ref x0), (.ref x1)] 2)) t := fun t k => p8 t (by
    show Steps p.tables e below (T7.setTop (mkF m 14 #[.val (.ref x0), .val (.ref x1)] [(.long ku)])) _
    refine XS.aloadN X7.here hx rfl (hb hby dA_14) rfl rfl ?_
    exact k)
  obtain ⟨T10, X10, e10, st10⟩ := getF X7 hx hZ hown (host := "") (Or.inl (hw _ (List.mem_of_getElem? (i := 18) rfl))) Via.refl e7 F0 (g := (mkF m 15 #[.val (.ref x0), .val (.ref x1)] [(.ref x0), (.long ku)])) rfl rfl (hb hby dA_15)
  have p11 : ∀ t, Steps p.tables e below (T10.setTop (mkF m 18 #[.val (.ref x0), .val (.ref x1)] [(.long kp), (.long ku)])) t → Steps p.tables e below (s₁.setTop (entryFrame m #[(.ref x0), (.ref x1)] 2)) t := fun t k => p9 t (st10 t k)
  have p12 : ∀ t, Steps p.tables e below (T10.setTop (mkF m 19 #[.val (.ref x0), .val (.ref x1)] [(.int (lcmpW ku kp))])) t → Steps p.tables e below (s₁.setTop (entryFrame m #[(.ref x0), (.ref x1)] 2)) t := fun t k => p11 t (by
    show Steps p.tables e below (T10.setTop (mkF m 18 #[.val (.ref x0), .val (.ref x1)] [(.long kp), (.long ku)])) _
    refine XS.lcmp X10.here hx rfl (hb hby dA_18) rfl ?_
    exact k)
  by_cases hc19 : (lcmpW ku kp) = (0 : Int32)
  · have p13 : ∀ t, Steps p.tables e below (T10.setTop (mkF m 23 #[.val (.ref x0), .val (.ref x1)] [(.ref x1)])) t → Steps p.tables e below (s₁.setTop (entryFrame m #[(.ref x0), (.ref x1)] 2)) t := fun t k => p12 t (by
      show Steps p.tables e below (T10.setTop (mkF m 19 #[.val (.ref x0), .val (.ref x1)] [(.int (lcmpW ku kp))])) _
      refine XS.ifNo X10.here hx rfl (hb hby dA_19) rfl ((if0 _ _).trans (teq (hc19)).2) ?_
      show Steps p.tables e below (T10.setTop (mkF m 22 #[.val (.ref x0), .val (.ref x1)] [])) _
      refine XS.aloadN X10.here hx rfl (hb hby dA_22) rfl rfl ?_
      exact k)
    obtain ⟨T14, X14, e14, st14⟩ := castY X10 hx hZ hown (hw _ (List.mem_of_getElem? (i := 27) rfl)) e10 (Ins.self E1) (g := (mkF m 23 #[.val (.ref x0), .val (.ref x1)] [(.ref x1)])) rfl rfl (hb hby dA_23)
    have p15 : ∀ t, Steps p.tables e below (T14.setTop (mkF m 26 #[.val (.ref x0), .val (.ref x1)] [(.ref x1)])) t → Steps p.tables e below (s₁.setTop (entryFrame m #[(.ref x0), (.ref x1)] 2)) t := fun t k => p13 t (st14 t k)
    obtain ⟨T16, X16, e16, st16⟩ := getF X14 hx hZ hown (host := "") (Or.inl (hw _ (List.mem_of_getElem? (i := 20) rfl))) Via.refl e14 G1 (g := (mkF m 26 #[.val (.ref x0), .val (.ref x1)] [(.ref x1)])) rfl rfl (hb hby dA_26)
    have p17 : ∀ t, Steps p.tables e below (T16.setTop (mkF m 29 #[.val (.ref x0), .val (.ref x1)] [(.ref kw)])) t → Steps p.tables e below (s₁.setTop (entryFrame m #[(.ref x0), (.ref x1)] 2)) t := fun t k => p15 t (st16 t k)
    have p18 : ∀ t, Steps p.tables e below (T16.setTop (mkF m 30 #[.val (.ref x0), .val (.ref x1)] [(.ref x0), (.ref kw)])) t → Steps p.tables e below (s₁.setTop (entryFrame m #[(.ref x0), (.ref x1)] 2)) t := fun t k => p17 t (by
      show Steps p.tables e below (T16.setTop (mkF m 29 #[.val (.ref x0), .val (.ref x1)] [(.ref kw)])) _
      refine XS.aloadN X16.here hx rfl (hb hby dA_29) rfl rfl ?_
      exact k)
    obtain ⟨T19, X19, e19, st19⟩ := getF X16 hx hZ hown (host := "") (Or.inl (hw _ (List.mem_of_getElem? (i := 20) rfl))) Via.refl e16 G0 (g := (mkF m 30 #[.val (.ref x0), .val (.ref x1)] [(.ref x0), (.ref kw)])) rfl rfl (hb hby dA_30)
    have p20 : ∀ t, Steps p.tables e below (T19.setTop (mkF m 33 #[.val (.ref x0), .val (.ref x1)] [(.ref kr), (.ref kw)])) t → Steps p.tables e below (s₁.setTop (entryFrame m #[(.ref x0), (.ref x1)] 2)) t := fun t k => p18 t (st19 t k)
    by_cases hc33 : kw = kr
    · have p21 : ∀ t, Steps p.tables e below (T19.setTop (mkF m 41 #[.val (.ref x0), .val (.ref x1)] [(.int (1 : Int32))])) t → Steps p.tables e below (s₁.setTop (entryFrame m #[(.ref x0), (.ref x1)] 2)) t := fun t k => p20 t (by
        show Steps p.tables e below (T19.setTop (mkF m 33 #[.val (.ref x0), .val (.ref x1)] [(.ref kr), (.ref kw)])) _
        refine Jvm.RoadKit.acmp (g := (mkF m 33 #[.val (.ref x0), .val (.ref x1)] [(.ref kr), (.ref kw)])) X19 hx rfl rfl rfl (pc0 := 33) (pc' := 36) (same := true) rfl (hb hby dA_33) rfl (decide_eq_true (congrArg Value.ref hc33)) (by decide) (by decide) ?_
        show Steps p.tables e below (T19.setTop (mkF m 36 #[.val (.ref x0), .val (.ref x1)] [])) _
        refine XS.iconst X19.here hx rfl (hb hby dA_36) ?_
        show Steps p.tables e below (T19.setTop (mkF m 37 #[.val (.ref x0), .val (.ref x1)] [(.int (1 : Int32))])) _
        refine XS.goto X19.here hx rfl (pc0 := 37) (pc' := 41) rfl (hb hby dA_37) (by decide) (by decide) ?_
        exact k)
      obtain ⟨fs, hr, hrun, hended, hW, hsame⟩ := X19.leave (v := some (.int (1 : Int32))) (fun h => by rw [Bd.returns] at h; cases h)
      refine ⟨_, _, p21 _ ?_, hrun, hended, _, _, rfl, ?_, ⟨_, rfl⟩, hW, hsame.mono (by decide) (by decide)⟩
      · show Steps p.tables e below (T19.setTop (mkF m 41 #[.val (.ref x0), .val (.ref x1)] [(.int (1 : Int32))])) _
        exact retN X19 hx (t := .boolean) Bd.returns (by simp) (hb hby dA_41) hr
      · show QA Z x0 x1 kp kr ku kw h0 n0 _ T19.heap _
        rw [e19]
        exact ⟨by unfold own_eqq; rw [if_pos hc19, if_pos hc33], N0, rfl⟩
    · have p22 : ∀ t, Steps p.tables e below (T19.setTop (mkF m 41 #[.val (.ref x0), .val (.ref x1)] [(.int (0 : Int32))])) t → Steps p.tables e below (s₁.setTop (entryFrame m #[(.ref x0), (.ref x1)] 2)) t := fun t k => p20 t (by
        show Steps p.tables e below (T19.setTop (mkF m 33 #[.val (.ref x0), .val (.ref x1)] [(.ref kr), (.ref kw)])) _
        refine Jvm.RoadKit.acmp (g := (mkF m 33 #[.val (.ref x0), .val (.ref x1)] [(.ref kr), (.ref kw)])) X19 hx rfl rfl rfl (pc0 := 33) (pc' := 40) (same := false) rfl (hb hby dA_33) rfl (decide_eq_false fun q => hc33 (Value.ref.inj q)) (by decide) (by decide) ?_
        show Steps p.tables e below (T19.setTop (mkF m 40 #[.val (.ref x0), .val (.ref x1)] [])) _
        refine XS.iconst X19.here hx rfl (hb hby dA_40) ?_
        exact k)
      obtain ⟨fs, hr, hrun, hended, hW, hsame⟩ := X19.leave (v := some (.int (0 : Int32))) (fun h => by rw [Bd.returns] at h; cases h)
      refine ⟨_, _, p22 _ ?_, hrun, hended, _, _, rfl, ?_, ⟨_, rfl⟩, hW, hsame.mono (by decide) (by decide)⟩
      · show Steps p.tables e below (T19.setTop (mkF m 41 #[.val (.ref x0), .val (.ref x1)] [(.int (0 : Int32))])) _
        exact retN X19 hx (t := .boolean) Bd.returns (by simp) (hb hby dA_41) hr
      · show QA Z x0 x1 kp kr ku kw h0 n0 _ T19.heap _
        rw [e19]
        exact ⟨by unfold own_eqq; rw [if_pos hc19, if_neg hc33], N0, rfl⟩
  · have p23 : ∀ t, Steps p.tables e below (T10.setTop (mkF m 41 #[.val (.ref x0), .val (.ref x1)] [(.int (0 : Int32))])) t → Steps p.tables e below (s₁.setTop (entryFrame m #[(.ref x0), (.ref x1)] 2)) t := fun t k => p12 t (by
      show Steps p.tables e below (T10.setTop (mkF m 19 #[.val (.ref x0), .val (.ref x1)] [(.int (lcmpW ku kp))])) _
      refine XS.ifYes X10.here hx rfl (pc0 := 19) (pc' := 40) rfl (hb hby dA_19) rfl ((if0 _ _).trans (feq (hc19)).2) (by decide) (by decide) ?_
      show Steps p.tables e below (T10.setTop (mkF m 40 #[.val (.ref x0), .val (.ref x1)] [])) _
      refine XS.iconst X10.here hx rfl (hb hby dA_40) ?_
      exact k)
    obtain ⟨fs, hr, hrun, hended, hW, hsame⟩ := X10.leave (v := some (.int (0 : Int32))) (fun h => by rw [Bd.returns] at h; cases h)
    refine ⟨_, _, p23 _ ?_, hrun, hended, _, _, rfl, ?_, ⟨_, rfl⟩, hW, hsame.mono (by decide) (by decide)⟩
    · show Steps p.tables e below (T10.setTop (mkF m 41 #[.val (.ref x0), .val (.ref x1)] [(.int (0 : Int32))])) _
      exact retN X10 hx (t := .boolean) Bd.returns (by simp) (hb hby dA_41) hr
    · show QA Z x0 x1 kp kr ku kw h0 n0 _ T10.heap _
      rw [e10]
      exact ⟨by unfold own_eqq; rw [if_neg hc19], N0, rfl⟩
theorem dS_0 : decode prog_36_method_4_code 0 = .ok (.aload_n 1, 1) := by decide +kernel
theorem dS_1 : decode prog_36_method_4_code 1 = .ok (.instanceof 8, 3) := by decide +kernel
theorem dS_4 : decode prog_36_method_4_code 4 = .ok (.ifCond .eq 36, 3) := by decide +kernel
theorem dS_7 : decode prog_36_method_4_code 7 = .ok (.aload_n 1, 1) := by decide +kernel
theorem dS_8 : decode prog_36_method_4_code 8 = .ok (.checkcast 8, 3) := by decide +kernel
theorem dS_11 : decode prog_36_method_4_code 11 = .ok (.getfield 7, 3) := by decide +kernel
theorem dS_14 : decode prog_36_method_4_code 14 = .ok (.aload_n 0, 1) := by decide +kernel
theorem dS_15 : decode prog_36_method_4_code 15 = .ok (.getfield 7, 3) := by decide +kernel
theorem dS_18 : decode prog_36_method_4_code 18 = .ok (.lcmp, 1) := by decide +kernel
theorem dS_19 : decode prog_36_method_4_code 19 = .ok (.ifCond .ne 21, 3) := by decide +kernel
theorem dS_22 : decode prog_36_method_4_code 22 = .ok (.aload_n 1, 1) := by decide +kernel
theorem dS_23 : decode prog_36_method_4_code 23 = .ok (.checkcast 8, 3) := by decide +kernel
theorem dS_26 : decode prog_36_method_4_code 26 = .ok (.getfield 13, 3) := by decide +kernel
theorem dS_29 : decode prog_36_method_4_code 29 = .ok (.aload_n 0, 1) := by decide +kernel
theorem dS_30 : decode prog_36_method_4_code 30 = .ok (.getfield 13, 3) := by decide +kernel
theorem dS_33 : decode prog_36_method_4_code 33 = .ok (.if_acmp .ne 7, 3) := by decide +kernel
theorem dS_36 : decode prog_36_method_4_code 36 = .ok (.iconst 1, 1) := by decide +kernel
theorem dS_37 : decode prog_36_method_4_code 37 = .ok (.goto 4, 3) := by decide +kernel
theorem dS_41 : decode prog_36_method_4_code 41 = .ok (.ireturn, 1) := by decide +kernel
theorem pnS : plainName "com/example/kvota/kvota/ResolvedQuota" = true := by first | (simp [plainName, overriddenIn]; done) | decide +kernel
theorem efS (m : MethodId) (x0 : Addr) : entryFrame m #[(.ref x0), (.ref x0)] 2 = mkF m 0 #[.val (.ref x0), .val (.ref x0)] [] := by first | (simp [entryFrame, mkF, argsToLocals, Value.category]; done) | rfl
def QS (Z : State) (x0 : Addr) (kp : Int64) (kr : Addr) (h0 : Heap) (n0 : Nat) (v : Option Value) (h : Heap) (L : List Loc) : Prop := v = some (.int (1 : Int32)) ∧ Fr n0 L ∧ h = h0
set_option maxRecDepth 65536 in
set_option maxHeartbeats 40000000 in
theorem rmS (l : Launch) (Z : State) (a0 : Array Value) (hw : ∀ d ∈ tables_1, d.before a0 Z = true) (ws : List Jvm.Cond) (x0 : Addr) (kp : Int64) (kr : Addr) (h0 : Heap) (n0 : Nat) (Z0 : n0 ≤ h0.size) (E0 : Exa Z h0 x0 "com/example/kvota/kvota/ResolvedQuota") (F0 : Fld Z h0 x0 "com/example/kvota/kvota/ResolvedQuota" "value" "J" (.long kp)) (G0 : Fld Z h0 x0 "com/example/kvota/kvota/ResolvedQuota" "level" "Lcom/example/kvota/kvota/PrecedenceLevel;" (.ref kr)) :
    MetFree l (⟨"com/example/kvota/kvota/ResolvedQuota", "equals", "(Ljava/lang/Object;)Z"⟩ : MethodName) (head1 (Jvm.Cond.code (⟨"com/example/kvota/kvota/ResolvedQuota", "equals", "(Ljava/lang/Object;)Z"⟩ : MethodName) prog_36_method_4_code 2 (some .boolean) :: ws) ({ frames := 0, cells := 0, slots := 0, locals := 0 } : Room)) (fun a U => a = #[(.ref x0), (.ref x0)] ∧ Z.Warmed39 U.vm ∧ U.heap = h0) (fun _ _ _ _ _ => True) (fun _ U o U' => ∃ v L, o = .returned v ∧ QS Z x0 kp kr h0 n0 v U'.heap L ∧ FrameEnd U o U' L ({ frames := 0, cells := 0, slots := 0, locals := 0 } : Room).cells ({ frames := 0, cells := 0, slots := 0, locals := 0 } : Room).slots) := by
  refine MetFree.of_bodySF (plainFor_of_name pnS) hisR ?_
  intro p e s m args below meth c s₁ Bd hml0 hP hK
  obtain ⟨rfl, hZ, hh⟩ := hP
  have hx := Bd.exec
  have hby := Bd.bytes
  have hml : c.maxLocals = 2 := hml0
  have hown : s.vm.findClass "com/example/kvota/kvota/ResolvedQuota" = some m.cls := findClass_of_methodNamed Bd.named
  have hnm := (name_of_methodNamed Bd.named Bd.method).1
  have X0 : Stand p l e ({ frames := 0, cells := 0, slots := 0, locals := 0 } : Room) s m #[(.ref x0), (.ref x0)] below meth c s₁ [] 0 0 := Stand.of_body Bd
  have e0 : s₁.heap = h0 := by rw [← hh, Bd.state]; rfl
  have N0 := Fr.nil n0
  have pre0 : ∀ t, Steps p.tables e below (s₁.setTop (mkF m 0 #[.val (.ref x0), .val (.ref x0)] [])) t → Steps p.tables e below (s₁.setTop (entryFrame m #[(.ref x0), (.ref x0)] 2)) t := fun t k => castTop (efS m x0) k
  have p1 : ∀ t, Steps p.tables e below (s₁.setTop (mkF m 1 #[.val (.ref x0), .val (.ref x0)] [(.ref x0)])) t → Steps p.tables e below (s₁.setTop (entryFrame m #[(.ref x0), (.ref x0)] 2)) t := fun t k => pre0 t (by
    show Steps p.tables e below (s₁.setTop (mkF m 0 #[.val (.ref x0), .val (.ref x0)] [])) _
    refine XS.aloadN X0.here hx rfl (hb hby dS_0) rfl rfl ?_
    exact k)
  obtain ⟨T2, X2, e2, st2⟩ := instY X0 hx hZ hown (hw _ (List.mem_of_getElem? (i := 27) rfl)) e0 (Ins.self E0) (g := (mkF m 1 #[.val (.ref x0), .val (.ref x0)] [(.ref x0)])) rfl rfl (hb hby dS_1)
  have p3 : ∀ t, Steps p.tables e below (T2.setTop (mkF m 4 #[.val (.ref x0), .val (.ref x0)] [(.int (1 : Int32))])) t → Steps p.tables e below (s₁.setTop (entryFrame m #[(.ref x0), (.ref x0)] 2)) t := fun t k => p1 t (st2 t k)
  have p4 : ∀ t, Steps p.tables e below (T2.setTop (mkF m 8 #[.val (.ref x0), .val (.ref x0)] [(.ref x0)])) t → Steps p.tables e below (s₁.setTop (entryFrame m #[(.ref x0), (.ref x0)] 2)) t := fun t k => p3 t (by
    show Steps p.tables e below (T2.setTop (mkF m 4 #[.val (.ref x0), .val (.ref x0)] [(.int (1 : Int32))])) _
    refine XS.ifNo X2.here hx rfl (hb hby dS_4) rfl ((if0 _ _).trans (feq (by decide)).1) ?_
    show Steps p.tables e below (T2.setTop (mkF m 7 #[.val (.ref x0), .val (.ref x0)] [])) _
    refine XS.aloadN X2.here hx rfl (hb hby dS_7) rfl rfl ?_
    exact k)
  obtain ⟨T5, X5, e5, st5⟩ := castY X2 hx hZ hown (hw _ (List.mem_of_getElem? (i := 27) rfl)) e2 (Ins.self E0) (g := (mkF m 8 #[.val (.ref x0), .val (.ref x0)] [(.ref x0)])) rfl rfl (hb hby dS_8)
  have p6 : ∀ t, Steps p.tables e below (T5.setTop (mkF m 11 #[.val (.ref x0), .val (.ref x0)] [(.ref x0)])) t → Steps p.tables e below (s₁.setTop (entryFrame m #[(.ref x0), (.ref x0)] 2)) t := fun t k => p4 t (st5 t k)
  obtain ⟨T7, X7, e7, st7⟩ := getF X5 hx hZ hown (host := "") (Or.inl (hw _ (List.mem_of_getElem? (i := 18) rfl))) Via.refl e5 F0 (g := (mkF m 11 #[.val (.ref x0), .val (.ref x0)] [(.ref x0)])) rfl rfl (hb hby dS_11)
  have p8 : ∀ t, Steps p.tables e below (T7.setTop (mkF m 14 #[.val (.ref x0), .val (.ref x0)] [(.long kp)])) t → Steps p.tables e below (s₁.setTop (entryFrame m #[(.ref x0), (.ref x0)] 2)) t := fun t k => p6 t (st7 t k)
  have p9 : ∀ t, Steps p.tables e below (T7.setTop (mkF m 15 #[.val (.ref x0), .val (.ref x0)] [(.ref x0), (.long kp)])) t → Steps p.tables e below (s₁.setTop (entryFrame m #[(.ref x0), (.ref x0)] 2)) t := fun t k => p8 t (by
    show Steps p.tables e below (T7.setTop (mkF m 14 #[.val (.ref x0), .val (.ref x0)] [(.long kp)])) _
    refine XS.aloadN X7.here hx rfl (hb hby dS_14) rfl rfl ?_
    exact k)
  obtain ⟨T10, X10, e10, st10⟩ := getF X7 hx hZ hown (host := "") (Or.inl (hw _ (List.mem_of_getElem? (i := 18) rfl))) Via.refl e7 F0 (g := (mkF m 15 #[.val (.ref x0), .val (.ref x0)] [(.ref x0), (.long kp)])) rfl rfl (hb hby dS_15)
  have p11 : ∀ t, Steps p.tables e below (T10.setTop (mkF m 18 #[.val (.ref x0), .val (.ref x0)] [(.long kp), (.long kp)])) t → Steps p.tables e below (s₁.setTop (entryFrame m #[(.ref x0), (.ref x0)] 2)) t := fun t k => p9 t (st10 t k)
  have p12 : ∀ t, Steps p.tables e below (T10.setTop (mkF m 23 #[.val (.ref x0), .val (.ref x0)] [(.ref x0)])) t → Steps p.tables e below (s₁.setTop (entryFrame m #[(.ref x0), (.ref x0)] 2)) t := fun t k => p11 t (by
    show Steps p.tables e below (T10.setTop (mkF m 18 #[.val (.ref x0), .val (.ref x0)] [(.long kp), (.long kp)])) _
    refine XS.lcmp X10.here hx rfl (hb hby dS_18) rfl ?_
    show Steps p.tables e below (T10.setTop (mkF m 19 #[.val (.ref x0), .val (.ref x0)] [(.int (lcmpW kp kp))])) _
    refine XS.ifNo X10.here hx rfl (hb hby dS_19) rfl ((if0 _ _).trans (teq ((lw_eq _ _).mpr rfl)).2) ?_
    show Steps p.tables e below (T10.setTop (mkF m 22 #[.val (.ref x0), .val (.ref x0)] [])) _
    refine XS.aloadN X10.here hx rfl (hb hby dS_22) rfl rfl ?_
    exact k)
  obtain ⟨T13, X13, e13, st13⟩ := castY X10 hx hZ hown (hw _ (List.mem_of_getElem? (i := 27) rfl)) e10 (Ins.self E0) (g := (mkF m 23 #[.val (.ref x0), .val (.ref x0)] [(.ref x0)])) rfl rfl (hb hby dS_23)
  have p14 : ∀ t, Steps p.tables e below (T13.setTop (mkF m 26 #[.val (.ref x0), .val (.ref x0)] [(.ref x0)])) t → Steps p.tables e below (s₁.setTop (entryFrame m #[(.ref x0), (.ref x0)] 2)) t := fun t k => p12 t (st13 t k)
  obtain ⟨T15, X15, e15, st15⟩ := getF X13 hx hZ hown (host := "") (Or.inl (hw _ (List.mem_of_getElem? (i := 20) rfl))) Via.refl e13 G0 (g := (mkF m 26 #[.val (.ref x0), .val (.ref x0)] [(.ref x0)])) rfl rfl (hb hby dS_26)
  have p16 : ∀ t, Steps p.tables e below (T15.setTop (mkF m 29 #[.val (.ref x0), .val (.ref x0)] [(.ref kr)])) t → Steps p.tables e below (s₁.setTop (entryFrame m #[(.ref x0), (.ref x0)] 2)) t := fun t k => p14 t (st15 t k)
  have p17 : ∀ t, Steps p.tables e below (T15.setTop (mkF m 30 #[.val (.ref x0), .val (.ref x0)] [(.ref x0), (.ref kr)])) t → Steps p.tables e below (s₁.setTop (entryFrame m #[(.ref x0), (.ref x0)] 2)) t := fun t k => p16 t (by
    show Steps p.tables e below (T15.setTop (mkF m 29 #[.val (.ref x0), .val (.ref x0)] [(.ref kr)])) _
    refine XS.aloadN X15.here hx rfl (hb hby dS_29) rfl rfl ?_
    exact k)
  obtain ⟨T18, X18, e18, st18⟩ := getF X15 hx hZ hown (host := "") (Or.inl (hw _ (List.mem_of_getElem? (i := 20) rfl))) Via.refl e15 G0 (g := (mkF m 30 #[.val (.ref x0), .val (.ref x0)] [(.ref x0), (.ref kr)])) rfl rfl (hb hby dS_30)
  have p19 : ∀ t, Steps p.tables e below (T18.setTop (mkF m 33 #[.val (.ref x0), .val (.ref x0)] [(.ref kr), (.ref kr)])) t → Steps p.tables e below (s₁.setTop (entryFrame m #[(.ref x0), (.ref x0)] 2)) t := fun t k => p17 t (st18 t k)
  have p20 : ∀ t, Steps p.tables e below (T18.setTop (mkF m 41 #[.val (.ref x0), .val (.ref x0)] [(.int (1 : Int32))])) t → Steps p.tables e below (s₁.setTop (entryFrame m #[(.ref x0), (.ref x0)] 2)) t := fun t k => p19 t (by
    show Steps p.tables e below (T18.setTop (mkF m 33 #[.val (.ref x0), .val (.ref x0)] [(.ref kr), (.ref kr)])) _
    refine Jvm.RoadKit.acmp (g := (mkF m 33 #[.val (.ref x0), .val (.ref x0)] [(.ref kr), (.ref kr)])) X18 hx rfl rfl rfl (pc0 := 33) (pc' := 36) (same := true) rfl (hb hby dS_33) rfl (decide_eq_true rfl) (by decide) (by decide) ?_
    show Steps p.tables e below (T18.setTop (mkF m 36 #[.val (.ref x0), .val (.ref x0)] [])) _
    refine XS.iconst X18.here hx rfl (hb hby dS_36) ?_
    show Steps p.tables e below (T18.setTop (mkF m 37 #[.val (.ref x0), .val (.ref x0)] [(.int (1 : Int32))])) _
    refine XS.goto X18.here hx rfl (pc0 := 37) (pc' := 41) rfl (hb hby dS_37) (by decide) (by decide) ?_
    exact k)
  obtain ⟨fs, hr, hrun, hended, hW, hsame⟩ := X18.leave (v := some (.int (1 : Int32))) (fun h => by rw [Bd.returns] at h; cases h)
  refine ⟨_, _, p20 _ ?_, hrun, hended, _, _, rfl, ?_, ⟨_, rfl⟩, hW, hsame.mono (by decide) (by decide)⟩
  · show Steps p.tables e below (T18.setTop (mkF m 41 #[.val (.ref x0), .val (.ref x0)] [(.int (1 : Int32))])) _
    exact retN X18 hx (t := .boolean) Bd.returns (by simp) (hb hby dS_41) hr
  · show QS Z x0 kp kr h0 n0 _ T18.heap _
    rw [e18]
    exact ⟨rfl, N0, rfl⟩
theorem dN_0 : decode prog_36_method_4_code 0 = .ok (.aload_n 1, 1) := by decide +kernel
theorem dN_1 : decode prog_36_method_4_code 1 = .ok (.instanceof 8, 3) := by decide +kernel
theorem dN_4 : decode prog_36_method_4_code 4 = .ok (.ifCond .eq 36, 3) := by decide +kernel
theorem dN_40 : decode prog_36_method_4_code 40 = .ok (.iconst 0, 1) := by decide +kernel
theorem dN_41 : decode prog_36_method_4_code 41 = .ok (.ireturn, 1) := by decide +kernel
theorem pnN : plainName "com/example/kvota/kvota/ResolvedQuota" = true := by first | (simp [plainName, overriddenIn]; done) | decide +kernel
theorem efN (m : MethodId) (x0 : Addr) : entryFrame m #[(.ref x0), .null] 2 = mkF m 0 #[.val (.ref x0), .val .null] [] := by first | (simp [entryFrame, mkF, argsToLocals, Value.category]; done) | rfl
def QN (Z : State) (x0 : Addr) (h0 : Heap) (n0 : Nat) (v : Option Value) (h : Heap) (L : List Loc) : Prop := v = some (.int (0 : Int32)) ∧ Fr n0 L ∧ h = h0
set_option maxRecDepth 65536 in
set_option maxHeartbeats 40000000 in
theorem rmN (l : Launch) (Z : State) (a0 : Array Value) (hw : ∀ d ∈ tables_1, d.before a0 Z = true) (ws : List Jvm.Cond) (x0 : Addr) (h0 : Heap) (n0 : Nat) (Z0 : n0 ≤ h0.size) :
    MetFree l (⟨"com/example/kvota/kvota/ResolvedQuota", "equals", "(Ljava/lang/Object;)Z"⟩ : MethodName) (head1 (Jvm.Cond.code (⟨"com/example/kvota/kvota/ResolvedQuota", "equals", "(Ljava/lang/Object;)Z"⟩ : MethodName) prog_36_method_4_code 2 (some .boolean) :: ws) ({ frames := 0, cells := 0, slots := 0, locals := 0 } : Room)) (fun a U => a = #[(.ref x0), .null] ∧ Z.Warmed39 U.vm ∧ U.heap = h0) (fun _ _ _ _ _ => True) (fun _ U o U' => ∃ v L, o = .returned v ∧ QN Z x0 h0 n0 v U'.heap L ∧ FrameEnd U o U' L ({ frames := 0, cells := 0, slots := 0, locals := 0 } : Room).cells ({ frames := 0, cells := 0, slots := 0, locals := 0 } : Room).slots) := by
  refine MetFree.of_bodySF (plainFor_of_name pnN) hisR ?_
  intro p e s m args below meth c s₁ Bd hml0 hP hK
  obtain ⟨rfl, hZ, hh⟩ := hP
  have hx := Bd.exec
  have hby := Bd.bytes
  have hml : c.maxLocals = 2 := hml0
  have hown : s.vm.findClass "com/example/kvota/kvota/ResolvedQuota" = some m.cls := findClass_of_methodNamed Bd.named
  have hnm := (name_of_methodNamed Bd.named Bd.method).1
  have X0 : Stand p l e ({ frames := 0, cells := 0, slots := 0, locals := 0 } : Room) s m #[(.ref x0), .null] below meth c s₁ [] 0 0 := Stand.of_body Bd
  have e0 : s₁.heap = h0 := by rw [← hh, Bd.state]; rfl
  have N0 := Fr.nil n0
  have pre0 : ∀ t, Steps p.tables e below (s₁.setTop (mkF m 0 #[.val (.ref x0), .val .null] [])) t → Steps p.tables e below (s₁.setTop (entryFrame m #[(.ref x0), .null] 2)) t := fun t k => castTop (efN m x0) k
  have p1 : ∀ t, Steps p.tables e below (s₁.setTop (mkF m 41 #[.val (.ref x0), .val .null] [(.int (0 : Int32))])) t → Steps p.tables e below (s₁.setTop (entryFrame m #[(.ref x0), .null] 2)) t := fun t k => pre0 t (by
    show Steps p.tables e below (s₁.setTop (mkF m 0 #[.val (.ref x0), .val .null] [])) _
    refine XS.aloadN X0.here hx rfl (hb hby dN_0) rfl rfl ?_
    show Steps p.tables e below (s₁.setTop (mkF m 1 #[.val (.ref x0), .val .null] [.null])) _
    refine X0.instanceofNull hx (g := (mkF m 1 #[.val (.ref x0), .val .null] [.null])) rfl rfl (hb hby dN_1) _ ?_
    show Steps p.tables e below (s₁.setTop (mkF m 4 #[.val (.ref x0), .val .null] [(.int (0 : Int32))])) _
    refine XS.ifYes X0.here hx rfl (pc0 := 4) (pc' := 40) rfl (hb hby dN_4) rfl ((if0 _ _).trans (teq (rfl)).1) (by decide) (by decide) ?_
    show Steps p.tables e below (s₁.setTop (mkF m 40 #[.val (.ref x0), .val .null] [])) _
    refine XS.iconst X0.here hx rfl (hb hby dN_40) ?_
    exact k)
  obtain ⟨fs, hr, hrun, hended, hW, hsame⟩ := X0.leave (v := some (.int (0 : Int32))) (fun h => by rw [Bd.returns] at h; cases h)
  refine ⟨_, _, p1 _ ?_, hrun, hended, _, _, rfl, ?_, ⟨_, rfl⟩, hW, hsame.mono (by decide) (by decide)⟩
  · show Steps p.tables e below (s₁.setTop (mkF m 41 #[.val (.ref x0), .val .null] [(.int (0 : Int32))])) _
    exact retN X0 hx (t := .boolean) Bd.returns (by simp) (hb hby dN_41) hr
  · show QN Z x0 h0 n0 _ s₁.heap _
    rw [e0]
    exact ⟨rfl, N0, rfl⟩
theorem dO_0 : decode prog_36_method_4_code 0 = .ok (.aload_n 1, 1) := by decide +kernel
theorem dO_1 : decode prog_36_method_4_code 1 = .ok (.instanceof 8, 3) := by decide +kernel
theorem dO_4 : decode prog_36_method_4_code 4 = .ok (.ifCond .eq 36, 3) := by decide +kernel
theorem dO_40 : decode prog_36_method_4_code 40 = .ok (.iconst 0, 1) := by decide +kernel
theorem dO_41 : decode prog_36_method_4_code 41 = .ok (.ireturn, 1) := by decide +kernel
theorem pnO : plainName "com/example/kvota/kvota/ResolvedQuota" = true := by first | (simp [plainName, overriddenIn]; done) | decide +kernel
theorem efO (m : MethodId) (x0 : Addr) (x1 : Addr) : entryFrame m #[(.ref x0), (.ref x1)] 2 = mkF m 0 #[.val (.ref x0), .val (.ref x1)] [] := by first | (simp [entryFrame, mkF, argsToLocals, Value.category]; done) | rfl
def QO (Z : State) (x0 : Addr) (x1 : Addr) (h0 : Heap) (n0 : Nat) (v : Option Value) (h : Heap) (L : List Loc) : Prop := v = some (.int (0 : Int32)) ∧ Fr n0 L ∧ h = h0
set_option maxRecDepth 65536 in
set_option maxHeartbeats 40000000 in
theorem rmO (l : Launch) (Z : State) (a0 : Array Value) (hw : ∀ d ∈ tables_1, d.before a0 Z = true) (ws : List Jvm.Cond) (x0 : Addr) (x1 : Addr) (h0 : Heap) (n0 : Nat) (Z0 : n0 ≤ h0.size) (E1 : Exa Z h0 x1 "java/lang/Long") (hno : ∃ c t, Z.vm.findClass "java/lang/Long" = some c ∧ Z.vm.findClass "com/example/kvota/kvota/ResolvedQuota" = some t ∧ Z.vm.assignable c t = false) :
    MetFree l (⟨"com/example/kvota/kvota/ResolvedQuota", "equals", "(Ljava/lang/Object;)Z"⟩ : MethodName) (head1 (Jvm.Cond.code (⟨"com/example/kvota/kvota/ResolvedQuota", "equals", "(Ljava/lang/Object;)Z"⟩ : MethodName) prog_36_method_4_code 2 (some .boolean) :: ws) ({ frames := 0, cells := 0, slots := 0, locals := 0 } : Room)) (fun a U => a = #[(.ref x0), (.ref x1)] ∧ Z.Warmed39 U.vm ∧ U.heap = h0) (fun _ _ _ _ _ => True) (fun _ U o U' => ∃ v L, o = .returned v ∧ QO Z x0 x1 h0 n0 v U'.heap L ∧ FrameEnd U o U' L ({ frames := 0, cells := 0, slots := 0, locals := 0 } : Room).cells ({ frames := 0, cells := 0, slots := 0, locals := 0 } : Room).slots) := by
  refine MetFree.of_bodySF (plainFor_of_name pnO) hisR ?_
  intro p e s m args below meth c s₁ Bd hml0 hP hK
  obtain ⟨rfl, hZ, hh⟩ := hP
  have hx := Bd.exec
  have hby := Bd.bytes
  have hml : c.maxLocals = 2 := hml0
  have hown : s.vm.findClass "com/example/kvota/kvota/ResolvedQuota" = some m.cls := findClass_of_methodNamed Bd.named
  have hnm := (name_of_methodNamed Bd.named Bd.method).1
  have X0 : Stand p l e ({ frames := 0, cells := 0, slots := 0, locals := 0 } : Room) s m #[(.ref x0), (.ref x1)] below meth c s₁ [] 0 0 := Stand.of_body Bd
  have e0 : s₁.heap = h0 := by rw [← hh, Bd.state]; rfl
  have N0 := Fr.nil n0
  have pre0 : ∀ t, Steps p.tables e below (s₁.setTop (mkF m 0 #[.val (.ref x0), .val (.ref x1)] [])) t → Steps p.tables e below (s₁.setTop (entryFrame m #[(.ref x0), (.ref x1)] 2)) t := fun t k => castTop (efO m x0 x1) k
  have p1 : ∀ t, Steps p.tables e below (s₁.setTop (mkF m 1 #[.val (.ref x0), .val (.ref x1)] [(.ref x1)])) t → Steps p.tables e below (s₁.setTop (entryFrame m #[(.ref x0), (.ref x1)] 2)) t := fun t k => pre0 t (by
    show Steps p.tables e below (s₁.setTop (mkF m 0 #[.val (.ref x0), .val (.ref x1)] [])) _
    refine XS.aloadN X0.here hx rfl (hb hby dO_0) rfl rfl ?_
    exact k)
  obtain ⟨T2, X2, e2, st2⟩ := instNo X0 hx hZ hown (hw _ (List.mem_of_getElem? (i := 27) rfl)) e0 E1 (hno) (g := (mkF m 1 #[.val (.ref x0), .val (.ref x1)] [(.ref x1)])) rfl rfl (hb hby dO_1)
  have p3 : ∀ t, Steps p.tables e below (T2.setTop (mkF m 4 #[.val (.ref x0), .val (.ref x1)] [(.int (0 : Int32))])) t → Steps p.tables e below (s₁.setTop (entryFrame m #[(.ref x0), (.ref x1)] 2)) t := fun t k => p1 t (st2 t k)
  have p4 : ∀ t, Steps p.tables e below (T2.setTop (mkF m 41 #[.val (.ref x0), .val (.ref x1)] [(.int (0 : Int32))])) t → Steps p.tables e below (s₁.setTop (entryFrame m #[(.ref x0), (.ref x1)] 2)) t := fun t k => p3 t (by
    show Steps p.tables e below (T2.setTop (mkF m 4 #[.val (.ref x0), .val (.ref x1)] [(.int (0 : Int32))])) _
    refine XS.ifYes X2.here hx rfl (pc0 := 4) (pc' := 40) rfl (hb hby dO_4) rfl ((if0 _ _).trans (teq (rfl)).1) (by decide) (by decide) ?_
    show Steps p.tables e below (T2.setTop (mkF m 40 #[.val (.ref x0), .val (.ref x1)] [])) _
    refine XS.iconst X2.here hx rfl (hb hby dO_40) ?_
    exact k)
  obtain ⟨fs, hr, hrun, hended, hW, hsame⟩ := X2.leave (v := some (.int (0 : Int32))) (fun h => by rw [Bd.returns] at h; cases h)
  refine ⟨_, _, p4 _ ?_, hrun, hended, _, _, rfl, ?_, ⟨_, rfl⟩, hW, hsame.mono (by decide) (by decide)⟩
  · show Steps p.tables e below (T2.setTop (mkF m 41 #[.val (.ref x0), .val (.ref x1)] [(.int (0 : Int32))])) _
    exact retN X2 hx (t := .boolean) Bd.returns (by simp) (hb hby dO_41) hr
  · show QO Z x0 x1 h0 n0 _ T2.heap _
    rw [e2]
    exact ⟨rfl, N0, rfl⟩
theorem dNu_0 : decode jdk_18_method_1_code 0 = .ok (.aload_n 0, 1) := by decide +kernel
theorem dNu_1 : decode jdk_18_method_1_code 1 = .ok (.invokespecial 1, 3) := by decide +kernel
theorem dNu_4 : decode jdk_18_method_1_code 4 = .ok (.return_, 1) := by decide +kernel
theorem pnNu : plainName "java/lang/Number" = true := by first | (simp [plainName, overriddenIn]; done) | decide +kernel
theorem efNu (m : MethodId) (x0 : Addr) : entryFrame m #[(.ref x0)] 1 = mkF m 0 #[.val (.ref x0)] [] := by first | (simp [entryFrame, mkF, argsToLocals, Value.category]; done) | rfl
def QNu (Z : State) (x0 : Addr) (h0 : Heap) (n0 : Nat) (v : Option Value) (h : Heap) (L : List Loc) : Prop := v = none ∧ Fr n0 L ∧ h = h0
set_option maxRecDepth 65536 in
set_option maxHeartbeats 40000000 in
theorem rmNu (l : Launch) (Z : State) (a0 : Array Value) (hw : ∀ d ∈ tables_1, d.before a0 Z = true) (ws : List Jvm.Cond) (x0 : Addr) (h0 : Heap) (n0 : Nat) (Z0 : n0 ≤ h0.size) :
    MetFree l (⟨"java/lang/Number", "<init>", "()V"⟩ : MethodName) (head1 (Jvm.Cond.code (⟨"java/lang/Number", "<init>", "()V"⟩ : MethodName) jdk_18_method_1_code 1 none :: ws) ({ frames := 1, cells := 0, slots := 0, locals := 12 } : Room)) (fun a U => a = #[(.ref x0)] ∧ Z.Warmed39 U.vm ∧ U.heap = h0) (fun _ _ _ _ _ => True) (fun _ U o U' => ∃ v L, o = .returned v ∧ QNu Z x0 h0 n0 v U'.heap L ∧ FrameEnd U o U' L ({ frames := 1, cells := 0, slots := 0, locals := 12 } : Room).cells ({ frames := 1, cells := 0, slots := 0, locals := 12 } : Room).slots) := by
  refine MetFree.of_bodySF (plainFor_of_name pnNu) hisR ?_
  intro p e s m args below meth c s₁ Bd hml0 hP hK
  obtain ⟨rfl, hZ, hh⟩ := hP
  have hx := Bd.exec
  have hby := Bd.bytes
  have hml : c.maxLocals = 1 := hml0
  have hown : s.vm.findClass "java/lang/Number" = some m.cls := findClass_of_methodNamed Bd.named
  have hnm := (name_of_methodNamed Bd.named Bd.method).1
  have X0 : Stand p l e ({ frames := 1, cells := 0, slots := 0, locals := 12 } : Room) s m #[(.ref x0)] below meth c s₁ [] 0 0 := Stand.of_body Bd
  have e0 : s₁.heap = h0 := by rw [← hh, Bd.state]; rfl
  have N0 := Fr.nil n0
  have pre0 : ∀ t, Steps p.tables e below (s₁.setTop (mkF m 0 #[.val (.ref x0)] [])) t → Steps p.tables e below (s₁.setTop (entryFrame m #[(.ref x0)] 1)) t := fun t k => castTop (efNu m x0) k
  have p1 : ∀ t, Steps p.tables e below (s₁.setTop (mkF m 1 #[.val (.ref x0)] [(.ref x0)])) t → Steps p.tables e below (s₁.setTop (entryFrame m #[(.ref x0)] 1)) t := fun t k => pre0 t (by
    show Steps p.tables e below (s₁.setTop (mkF m 0 #[.val (.ref x0)] [])) _
    refine XS.aloadN X0.here hx rfl (hb hby dNu_0) rfl rfl ?_
    exact k)
  obtain ⟨T2, X2, e2, st2⟩ := initO X0 hx hZ hown (hw _ (List.mem_of_getElem? (i := 56) rfl)) (hw _ (List.mem_of_getElem? (i := 16) rfl)) (hw _ (List.mem_of_getElem? (i := 17) rfl)) e0 (g := (mkF m 1 #[.val (.ref x0)] [(.ref x0)])) rfl (by rw [hml]; rfl) rfl (hb hby dNu_1) (by decide) (W := 0) (by show 2 * 0 + _ ≤ _; exact Nat.le_of_eq rfl) (by decide)
  have p3 : ∀ t, Steps p.tables e below (T2.setTop (mkF m 4 #[.val (.ref x0)] [])) t → Steps p.tables e below (s₁.setTop (entryFrame m #[(.ref x0)] 1)) t := fun t k => p1 t (st2 t k)
  obtain ⟨fs, hr, hrun, hended, hW, hsame⟩ := X2.leave (v := none) (fun _ => rfl)
  refine ⟨_, _, p3 _ ?_, hrun, hended, _, _, rfl, ?_, ⟨_, rfl⟩, hW, hsame.mono (by decide) (by decide)⟩
  · show Steps p.tables e below (T2.setTop (mkF m 4 #[.val (.ref x0)] [])) _
    exact X2.returnOut hx Bd.returns (hb hby dNu_4) hr
  · show QNu Z x0 h0 n0 _ T2.heap _
    rw [e2]
    exact ⟨rfl, N0, rfl⟩
theorem dIi_0 : decode jdk_35_method_26_code 0 = .ok (.aload_n 0, 1) := by decide +kernel
theorem dIi_1 : decode jdk_35_method_26_code 1 = .ok (.invokespecial 270, 3) := by decide +kernel
theorem dIi_4 : decode jdk_35_method_26_code 4 = .ok (.aload_n 0, 1) := by decide +kernel
theorem dIi_5 : decode jdk_35_method_26_code 5 = .ok (.lload_n 1, 1) := by decide +kernel
theorem dIi_6 : decode jdk_35_method_26_code 6 = .ok (.putfield 273, 3) := by decide +kernel
theorem dIi_9 : decode jdk_35_method_26_code 9 = .ok (.return_, 1) := by decide +kernel
theorem pnIi : plainName "java/lang/Long" = true := by first | (simp [plainName, overriddenIn]; done) | decide +kernel
theorem pdIi_0 : parseMethodDescriptor "()V" = some ⟨[], none⟩ := by decide +kernel
theorem efIi (m : MethodId) (x0 : Addr) (x1 : Int64) : entryFrame m #[(.ref x0), (.long x1)] 3 = mkF m 0 #[.val (.ref x0), .val (.long x1), .second] [] := by first | (simp [entryFrame, mkF, argsToLocals, Value.category]; done) | rfl
def QIi (Z : State) (x0 : Addr) (x1 : Int64) (h0 : Heap) (n0 : Nat) (v : Option Value) (h : Heap) (L : List Loc) : Prop := v = none ∧ Fr n0 L ∧ Keep h0 h [x0]
set_option maxRecDepth 65536 in
set_option maxHeartbeats 40000000 in
theorem rmIi (l : Launch) (Z : State) (a0 : Array Value) (hw : ∀ d ∈ tables_1, d.before a0 Z = true) (ws : List Jvm.Cond) (x0 : Addr) (x1 : Int64) (h0 : Heap) (n0 : Nat) (Z0 : n0 ≤ h0.size) (E0 : Exa Z h0 x0 "java/lang/Long") (F1 : Fld Z h0 x0 "java/lang/Long" "value" "J" (.long (0 : Int64))) (g0 : n0 ≤ x0) :
    MetFree l (⟨"java/lang/Long", "<init>", "(J)V"⟩ : MethodName) (head1 (Jvm.Cond.code (⟨"java/lang/Long", "<init>", "(J)V"⟩ : MethodName) jdk_35_method_26_code 3 none :: ws) ({ frames := 2, cells := 0, slots := 0, locals := 24 } : Room)) (fun a U => a = #[(.ref x0), (.long x1)] ∧ Z.Warmed39 U.vm ∧ U.heap = h0) (fun _ _ _ _ _ => True) (fun _ U o U' => ∃ v L, o = .returned v ∧ QIi Z x0 x1 h0 n0 v U'.heap L ∧ FrameEnd U o U' L ({ frames := 2, cells := 0, slots := 0, locals := 24 } : Room).cells ({ frames := 2, cells := 0, slots := 0, locals := 24 } : Room).slots) := by
  refine MetFree.of_bodySF (plainFor_of_name pnIi) hisR ?_
  intro p e s m args below meth c s₁ Bd hml0 hP hK
  obtain ⟨rfl, hZ, hh⟩ := hP
  have hx := Bd.exec
  have hby := Bd.bytes
  have hml : c.maxLocals = 3 := hml0
  have hown : s.vm.findClass "java/lang/Long" = some m.cls := findClass_of_methodNamed Bd.named
  have hnm := (name_of_methodNamed Bd.named Bd.method).1
  have X0 : Stand p l e ({ frames := 2, cells := 0, slots := 0, locals := 24 } : Room) s m #[(.ref x0), (.long x1)] below meth c s₁ [] 0 0 := Stand.of_body Bd
  have e0 : s₁.heap = h0 := by rw [← hh, Bd.state]; rfl
  have N0 := Fr.nil n0
  have pre0 : ∀ t, Steps p.tables e below (s₁.setTop (mkF m 0 #[.val (.ref x0), .val (.long x1), .second] [])) t → Steps p.tables e below (s₁.setTop (entryFrame m #[(.ref x0), (.long x1)] 3)) t := fun t k => castTop (efIi m x0 x1) k
  have K0 := Keep.refl h0 [x0]
  have p1 : ∀ t, Steps p.tables e below (s₁.setTop (mkF m 1 #[.val (.ref x0), .val (.long x1), .second] [(.ref x0)])) t → Steps p.tables e below (s₁.setTop (entryFrame m #[(.ref x0), (.long x1)] 3)) t := fun t k => pre0 t (by
    show Steps p.tables e below (s₁.setTop (mkF m 0 #[.val (.ref x0), .val (.long x1), .second] [])) _
    refine XS.aloadN X0.here hx rfl (hb hby dIi_0) rfl rfl ?_
    exact k)
  obtain ⟨_, _, ⟨T2, L2, k2, n2⟩, -, X2, ⟨Lc2, hQ2, l2, y2, z2⟩, st2⟩ := X0.specialBack hx (y := (⟨"java/lang/Number", "<init>", "()V"⟩ : MethodName)) rfl hown (mvT hZ (hw _ (List.mem_of_getElem? (i := 50) rfl))) (mvT hZ (hw _ (List.mem_of_getElem? (i := 51) rfl))) (mvT hZ (hw _ (List.mem_of_getElem? (i := 55) rfl))) (by decide) (backOf (W := 0) (rmNu l Z a0 hw [] x0  h0 n0 Z0 ) hZ (hw _ (List.mem_of_getElem? (i := 55) rfl)) (hw _ (List.mem_of_getElem? (i := 54) rfl)) (by decide) (by decide)) (g := (mkF m 1 #[.val (.ref x0), .val (.long x1), .second] [(.ref x0)])) rfl (by rw [hml]; rfl) (Steps.refl _) (a := x0) (argsL := []) (rest := []) (lenOf pdIi_0 rfl) rfl (by show 2 * 0 + _ ≤ _; exact Nat.le_of_eq rfl) (hb hby dIi_1) (fun _ _ => ⟨rfl, e0, (by decide : 0 + 0 ≤ _), (by decide : 0 + 0 ≤ _)⟩)
  dsimp only [Pt.U, Pt.locs, Pt.cells, Pt.slots] at X2 l2 y2 z2 st2 hQ2
  subst l2 y2 z2
  obtain ⟨rfl, Nq2, e2⟩ := hQ2
  have N2 := Fr.app N0 Nq2
  have p3 : ∀ t, Steps p.tables e below (T2.setTop (mkF m 4 #[.val (.ref x0), .val (.long x1), .second] [])) t → Steps p.tables e below (s₁.setTop (entryFrame m #[(.ref x0), (.long x1)] 3)) t := fun t k => p1 t (st2.trans k)
  have p4 : ∀ t, Steps p.tables e below (T2.setTop (mkF m 6 #[.val (.ref x0), .val (.long x1), .second] [(.long x1), (.ref x0)])) t → Steps p.tables e below (s₁.setTop (entryFrame m #[(.ref x0), (.long x1)] 3)) t := fun t k => p3 t (by
    show Steps p.tables e below (T2.setTop (mkF m 4 #[.val (.ref x0), .val (.long x1), .second] [])) _
    refine XS.aloadN X2.here hx rfl (hb hby dIi_4) rfl rfl ?_
    show Steps p.tables e below (T2.setTop (mkF m 5 #[.val (.ref x0), .val (.long x1), .second] [(.ref x0)])) _
    refine XS.lloadN X2.here hx rfl (hb hby dIi_5) rfl ?_
    exact k)
  obtain ⟨T5, h5, X5, e5, W5, st5⟩ := putF X2 hx hZ hown (host := "") (Or.inl (hw _ (List.mem_of_getElem? (i := 57) rfl))) Via.refl e2 F1 E0 (Or.inr ⟨(hw _ (List.mem_of_getElem? (i := 58) rfl)), rfl, hnm⟩) (hw _ (List.mem_of_getElem? (i := 45) rfl)) (ty := .long) (by decide) rfl rfl (g := (mkF m 6 #[.val (.ref x0), .val (.long x1), .second] [(.long x1), (.ref x0)])) rfl rfl (hb hby dIi_6)
  have f6 := F1.same W5
  have f7 := E0.wr W5
  have Z5 := Nat.le_trans Z0 (Keep.of_wr W5).1
  have N5 := Fr.snoc X5 N2 g0
  have KK5 := K0.wr W5 (Or.inl (List.mem_singleton.mpr rfl))
  have p8 : ∀ t, Steps p.tables e below (T5.setTop (mkF m 9 #[.val (.ref x0), .val (.long x1), .second] [])) t → Steps p.tables e below (s₁.setTop (entryFrame m #[(.ref x0), (.long x1)] 3)) t := fun t k => p4 t (st5 t k)
  obtain ⟨fs, hr, hrun, hended, hW, hsame⟩ := X5.leave (v := none) (fun _ => rfl)
  refine ⟨_, _, p8 _ ?_, hrun, hended, _, _, rfl, ?_, ⟨_, rfl⟩, hW, hsame.mono (by decide) (by decide)⟩
  · show Steps p.tables e below (T5.setTop (mkF m 9 #[.val (.ref x0), .val (.long x1), .second] [])) _
    exact X5.returnOut hx Bd.returns (hb hby dIi_9) hr
  · show QIi Z x0 x1 h0 n0 _ T5.heap _
    rw [e5]
    exact ⟨rfl, N5, KK5⟩
theorem dV_0 : decode jdk_35_method_24_code 0 = .ok (.sipush 128, 3) := by decide +kernel
theorem dV_3 : decode jdk_35_method_24_code 3 = .ok (.istore_n 2, 1) := by decide +kernel
theorem dV_4 : decode jdk_35_method_24_code 4 = .ok (.lload_n 0, 1) := by decide +kernel
theorem dV_5 : decode jdk_35_method_24_code 5 = .ok (.ldc2_w 230, 3) := by decide +kernel
theorem dV_8 : decode jdk_35_method_24_code 8 = .ok (.lcmp, 1) := by decide +kernel
theorem dV_9 : decode jdk_35_method_24_code 9 = .ok (.ifCond .lt 22, 3) := by decide +kernel
theorem dV_12 : decode jdk_35_method_24_code 12 = .ok (.lload_n 0, 1) := by decide +kernel
theorem dV_13 : decode jdk_35_method_24_code 13 = .ok (.ldc2_w 232, 3) := by decide +kernel
theorem dV_16 : decode jdk_35_method_24_code 16 = .ok (.lcmp, 1) := by decide +kernel
theorem dV_17 : decode jdk_35_method_24_code 17 = .ok (.ifCond .gt 14, 3) := by decide +kernel
theorem dV_20 : decode jdk_35_method_24_code 20 = .ok (.getstatic 234, 3) := by decide +kernel
theorem dV_23 : decode jdk_35_method_24_code 23 = .ok (.lload_n 0, 1) := by decide +kernel
theorem dV_24 : decode jdk_35_method_24_code 24 = .ok (.l2i, 1) := by decide +kernel
theorem dV_25 : decode jdk_35_method_24_code 25 = .ok (.sipush 128, 3) := by decide +kernel
theorem dV_28 : decode jdk_35_method_24_code 28 = .ok (.iadd, 1) := by decide +kernel
theorem dV_29 : decode jdk_35_method_24_code 29 = .ok (.aaload, 1) := by decide +kernel
theorem dV_30 : decode jdk_35_method_24_code 30 = .ok (.areturn, 1) := by decide +kernel
theorem dV_31 : decode jdk_35_method_24_code 31 = .ok (.new 1, 3) := by decide +kernel
theorem dV_34 : decode jdk_35_method_24_code 34 = .ok (.dup, 1) := by decide +kernel
theorem dV_35 : decode jdk_35_method_24_code 35 = .ok (.lload_n 0, 1) := by decide +kernel
theorem dV_36 : decode jdk_35_method_24_code 36 = .ok (.invokespecial 240, 3) := by decide +kernel
theorem dV_39 : decode jdk_35_method_24_code 39 = .ok (.areturn, 1) := by decide +kernel
theorem pnV : plainName "java/lang/Long" = true := by first | (simp [plainName, overriddenIn]; done) | decide +kernel
theorem pdV_0 : parseMethodDescriptor "(J)V" = some ⟨[.long], none⟩ := by decide +kernel
theorem efV (m : MethodId) (x0 : Int64) : entryFrame m #[(.long x0)] 3 = mkF m 0 #[.val (.long x0), .second, .unset] [] := by first | (simp [entryFrame, mkF, argsToLocals, Value.category]; done) | rfl
def QV (Z : State) (x0 : Int64) (a_C : Addr) (cc : Cell) (own_val : Int32 → Value) (h0 : Heap) (n0 : Nat) (v : Option Value) (h : Heap) (L : List Loc) : Prop := ∃ r : Addr, v = some (.ref r) ∧ Fr n0 L ∧ Keep h0 h [] ∧ Exa Z h r "java/lang/Long"
set_option maxRecDepth 65536 in
set_option maxHeartbeats 40000000 in
theorem rmV (l : Launch) (Z : State) (a0 : Array Value) (hw : ∀ d ∈ tables_1, d.before a0 Z = true) (ws : List Jvm.Cond) (x0 : Int64) (a_C : Addr) (cc : Cell) (own_val : Int32 → Value) (h0 : Heap) (n0 : Nat) (Z0 : n0 ≤ h0.size) (O0 : Old Z n0 h0) (S_c : Sta Z Z.heap "java/lang/Long$LongCache" "cache" "[Ljava/lang/Long;" (.ref a_C)) (B0 : Bxs Z a_C cc "java/lang/Long" "J" (256 : Int32) own_val) :
    MetFree l (⟨"java/lang/Long", "valueOf", "(J)Ljava/lang/Long;"⟩ : MethodName) (head1 (Jvm.Cond.code (⟨"java/lang/Long", "valueOf", "(J)Ljava/lang/Long;"⟩ : MethodName) jdk_35_method_24_code 3 (some (.object "java/lang/Long")) :: ws) ({ frames := 3, cells := 1, slots := 1, locals := 39 } : Room)) (fun a U => a = #[(.long x0)] ∧ Z.Warmed39 U.vm ∧ U.heap = h0) (fun _ _ _ _ _ => True) (fun _ U o U' => ∃ v L, o = .returned v ∧ QV Z x0 a_C cc own_val h0 n0 v U'.heap L ∧ FrameEnd U o U' L ({ frames := 3, cells := 1, slots := 1, locals := 39 } : Room).cells ({ frames := 3, cells := 1, slots := 1, locals := 39 } : Room).slots) := by
  refine MetFree.of_bodySF (plainFor_of_name pnV) hisR ?_
  intro p e s m args below meth c s₁ Bd hml0 hP hK
  obtain ⟨rfl, hZ, hh⟩ := hP
  have hx := Bd.exec
  have hby := Bd.bytes
  have hml : c.maxLocals = 3 := hml0
  have hown : s.vm.findClass "java/lang/Long" = some m.cls := findClass_of_methodNamed Bd.named
  have hnm := (name_of_methodNamed Bd.named Bd.method).1
  have X0 : Stand p l e ({ frames := 3, cells := 1, slots := 1, locals := 39 } : Room) s m #[(.long x0)] below meth c s₁ [] 0 0 := Stand.of_body Bd
  have e0 : s₁.heap = h0 := by rw [← hh, Bd.state]; rfl
  have N0 := Fr.nil n0
  have pre0 : ∀ t, Steps p.tables e below (s₁.setTop (mkF m 0 #[.val (.long x0), .second, .unset] [])) t → Steps p.tables e below (s₁.setTop (entryFrame m #[(.long x0)] 3)) t := fun t k => castTop (efV m x0) k
  have S2 := S_c.ext O0.2
  have K0 := Keep.refl h0 []
  have p1 : ∀ t, Steps p.tables e below (s₁.setTop (mkF m 9 #[.val (.long x0), .second, .val (.int (128 : Int32))] [(.int (lcmpW x0 (-128 : Int64)))])) t → Steps p.tables e below (s₁.setTop (entryFrame m #[(.long x0)] 3)) t := fun t k => pre0 t (by
    show Steps p.tables e below (s₁.setTop (mkF m 0 #[.val (.long x0), .second, .unset] [])) _
    refine XS.sipush X0.here hx rfl (hb hby dV_0) ?_
    show Steps p.tables e below (s₁.setTop (mkF m 3 #[.val (.long x0), .second, .unset] [(.int (128 : Int32))])) _
    refine XS.istoreN X0.here hx rfl (hb hby dV_3) rfl (l' := #[.val (.long x0), .second, .val (.int (128 : Int32))]) rfl ?_
    show Steps p.tables e below (s₁.setTop (mkF m 4 #[.val (.long x0), .second, .val (.int (128 : Int32))] [])) _
    refine XS.lloadN X0.here hx rfl (hb hby dV_4) rfl ?_
    show Steps p.tables e below (s₁.setTop (mkF m 5 #[.val (.long x0), .second, .val (.int (128 : Int32))] [(.long x0)])) _
    refine X0.ldc2Long hx hown (mvT hZ (hw _ (List.mem_of_getElem? (i := 33) rfl))) (g := (mkF m 5 #[.val (.long x0), .second, .val (.int (128 : Int32))] [(.long x0)])) rfl (hb hby dV_5) _ ?_
    show Steps p.tables e below (s₁.setTop (mkF m 8 #[.val (.long x0), .second, .val (.int (128 : Int32))] [(.long (-128 : Int64)), (.long x0)])) _
    refine XS.lcmp X0.here hx rfl (hb hby dV_8) rfl ?_
    exact k)
  by_cases hc9 : (lcmpW x0 (-128 : Int64)) < (0 : Int32)
  · have p2 : ∀ t, Steps p.tables e below (s₁.setTop (mkF m 31 #[.val (.long x0), .second, .val (.int (128 : Int32))] [])) t → Steps p.tables e below (s₁.setTop (entryFrame m #[(.long x0)] 3)) t := fun t k => p1 t (by
      show Steps p.tables e below (s₁.setTop (mkF m 9 #[.val (.long x0), .second, .val (.int (128 : Int32))] [(.int (lcmpW x0 (-128 : Int64)))])) _
      refine XS.ifYes X0.here hx rfl (pc0 := 9) (pc' := 31) rfl (hb hby dV_9) rfl ((if0 _ _).trans (tlt (hc9)).1) (by decide) (by decide) ?_
      exact k)
    obtain ⟨T3, h3, X3, e3, E3, A3, D3, -, st3⟩ := newO X0 hx hZ hown (hw _ (List.mem_of_getElem? (i := 44) rfl)) (hw _ (List.mem_of_getElem? (i := 45) rfl)) (hw _ (List.mem_of_getElem? (i := 31) rfl)) e0 (g := (mkF m 31 #[.val (.long x0), .second, .val (.int (128 : Int32))] [])) rfl (hb hby dV_31) (by decide) (by decide)
    obtain ⟨b3, g3⟩ : ∃ z, z = h0.size := ⟨_, rfl⟩
    rw [← g3] at A3 D3 st3
    have gn_b3 : n0 ≤ b3 := Nat.le_trans Z0 (Nat.le_of_eq g3.symm)
    have gk_b3 : h0.size ≤ b3 := Nat.le_trans K0.1 (Nat.le_of_eq g3.symm)
    have f4 := S2.ext E3
    have Z3 := Nat.le_trans Z0 E3.1
    have KK3 := K0.ext E3
    have f5 : Fld Z h3 b3 "java/lang/Long" "value" "J" (.long (0 : Int64)) := D3 (Or.inr (hw _ (List.mem_of_getElem? (i := 58) rfl))) (ty := .long) (by decide)
    have p6 : ∀ t, Steps p.tables e below (T3.setTop (mkF m 34 #[.val (.long x0), .second, .val (.int (128 : Int32))] [(.ref b3)])) t → Steps p.tables e below (s₁.setTop (entryFrame m #[(.long x0)] 3)) t := fun t k => p2 t (st3 t k)
    have p7 : ∀ t, Steps p.tables e below (T3.setTop (mkF m 36 #[.val (.long x0), .second, .val (.int (128 : Int32))] [(.long x0), (.ref b3), (.ref b3)])) t → Steps p.tables e below (s₁.setTop (entryFrame m #[(.long x0)] 3)) t := fun t k => p6 t (by
      show Steps p.tables e below (T3.setTop (mkF m 34 #[.val (.long x0), .second, .val (.int (128 : Int32))] [(.ref b3)])) _
      refine XS.dup X3.here hx rfl (hb hby dV_34) rfl rfl ?_
      show Steps p.tables e below (T3.setTop (mkF m 35 #[.val (.long x0), .second, .val (.int (128 : Int32))] [(.ref b3), (.ref b3)])) _
      refine XS.lloadN X3.here hx rfl (hb hby dV_35) rfl ?_
      exact k)
    obtain ⟨_, _, ⟨T8, L8, k8, n8⟩, -, X8, ⟨Lc8, hQ8, l8, y8, z8⟩, st8⟩ := X3.specialBack hx (y := (⟨"java/lang/Long", "<init>", "(J)V"⟩ : MethodName)) rfl hown (mvT hZ (hw _ (List.mem_of_getElem? (i := 46) rfl))) (mvT hZ (hw _ (List.mem_of_getElem? (i := 47) rfl))) (mvT hZ (hw _ (List.mem_of_getElem? (i := 49) rfl))) (by decide) (backOf (W := 1) (rmIi l Z a0 hw [] b3 x0  h3 n0 Z3 A3 f5 gn_b3) hZ (hw _ (List.mem_of_getElem? (i := 49) rfl)) (hw _ (List.mem_of_getElem? (i := 31) rfl)) (by decide) (by decide)) (g := (mkF m 36 #[.val (.long x0), .second, .val (.int (128 : Int32))] [(.long x0), (.ref b3), (.ref b3)])) rfl (by rw [hml]; rfl) (Steps.refl _) (a := b3) (argsL := [(.long x0)]) (rest := [(.ref b3)]) (lenOf pdV_0 rfl) rfl (by show 2 * 0 + _ ≤ _; exact Nat.le_of_eq rfl) (hb hby dV_36) (fun _ _ => ⟨rfl, e3, (by decide : 1 + 0 ≤ _), (by decide : 1 + 0 ≤ _)⟩)
    dsimp only [Pt.U, Pt.locs, Pt.cells, Pt.slots] at X8 l8 y8 z8 st8 hQ8
    subst l8 y8 z8
    obtain ⟨rfl, Nq8, K8⟩ := hQ8
    have N8 := Fr.app N0 Nq8
    have f9 := A3.keep K8
    have Z8 := Nat.le_trans Z3 K8.1
    have KK8 := KK3.trans K8 (allS (Or.inr gk_b3) all0)
    have p10 : ∀ t, Steps p.tables e below (T8.setTop (mkF m 39 #[.val (.long x0), .second, .val (.int (128 : Int32))] [(.ref b3)])) t → Steps p.tables e below (s₁.setTop (entryFrame m #[(.long x0)] 3)) t := fun t k => p7 t (st8.trans k)
    obtain ⟨fs, hr, hrun, hended, hW, hsame⟩ := X8.leave (v := some (.ref b3)) (fun h => by rw [Bd.returns] at h; cases h)
    refine ⟨_, _, p10 _ ?_, hrun, hended, _, _, rfl, ?_, ⟨_, rfl⟩, hW, hsame.mono (by decide) (by decide)⟩
    · show Steps p.tables e below (T8.setTop (mkF m 39 #[.val (.long x0), .second, .val (.int (128 : Int32))] [(.ref b3)])) _
      exact retOut X8 hx Bd.returns rfl (Or.inr (Or.inr (Or.inr (Or.inr ⟨rfl, rfl, rfl⟩)))) (hb hby dV_39) hr
    · show QV Z x0 a_C cc own_val h0 n0 _ T8.heap _
      skip
      exact ⟨_, rfl, N8, KK8, f9⟩
  · have p11 : ∀ t, Steps p.tables e below (s₁.setTop (mkF m 17 #[.val (.long x0), .second, .val (.int (128 : Int32))] [(.int (lcmpW x0 (127 : Int64)))])) t → Steps p.tables e below (s₁.setTop (entryFrame m #[(.long x0)] 3)) t := fun t k => p1 t (by
      show Steps p.tables e below (s₁.setTop (mkF m 9 #[.val (.long x0), .second, .val (.int (128 : Int32))] [(.int (lcmpW x0 (-128 : Int64)))])) _
      refine XS.ifNo X0.here hx rfl (hb hby dV_9) rfl ((if0 _ _).trans (flt (hc9)).1) ?_
      show Steps p.tables e below (s₁.setTop (mkF m 12 #[.val (.long x0), .second, .val (.int (128 : Int32))] [])) _
      refine XS.lloadN X0.here hx rfl (hb hby dV_12) rfl ?_
      show Steps p.tables e below (s₁.setTop (mkF m 13 #[.val (.long x0), .second, .val (.int (128 : Int32))] [(.long x0)])) _
      refine X0.ldc2Long hx hown (mvT hZ (hw _ (List.mem_of_getElem? (i := 34) rfl))) (g := (mkF m 13 #[.val (.long x0), .second, .val (.int (128 : Int32))] [(.long x0)])) rfl (hb hby dV_13) _ ?_
      show Steps p.tables e below (s₁.setTop (mkF m 16 #[.val (.long x0), .second, .val (.int (128 : Int32))] [(.long (127 : Int64)), (.long x0)])) _
      refine XS.lcmp X0.here hx rfl (hb hby dV_16) rfl ?_
      exact k)
    by_cases hc17 : (0 : Int32) < (lcmpW x0 (127 : Int64))
    · have p12 : ∀ t, Steps p.tables e below (s₁.setTop (mkF m 31 #[.val (.long x0), .second, .val (.int (128 : Int32))] [])) t → Steps p.tables e below (s₁.setTop (entryFrame m #[(.long x0)] 3)) t := fun t k => p11 t (by
        show Steps p.tables e below (s₁.setTop (mkF m 17 #[.val (.long x0), .second, .val (.int (128 : Int32))] [(.int (lcmpW x0 (127 : Int64)))])) _
        refine XS.ifYes X0.here hx rfl (pc0 := 17) (pc' := 31) rfl (hb hby dV_17) rfl ((if0 _ _).trans (tlt (hc17)).2.2.1) (by decide) (by decide) ?_
        exact k)
      obtain ⟨T13, h13, X13, e13, E13, A13, D13, -, st13⟩ := newO X0 hx hZ hown (hw _ (List.mem_of_getElem? (i := 44) rfl)) (hw _ (List.mem_of_getElem? (i := 45) rfl)) (hw _ (List.mem_of_getElem? (i := 31) rfl)) e0 (g := (mkF m 31 #[.val (.long x0), .second, .val (.int (128 : Int32))] [])) rfl (hb hby dV_31) (by decide) (by decide)
      obtain ⟨b13, g13⟩ : ∃ z, z = h0.size := ⟨_, rfl⟩
      rw [← g13] at A13 D13 st13
      have gn_b13 : n0 ≤ b13 := Nat.le_trans Z0 (Nat.le_of_eq g13.symm)
      have gk_b13 : h0.size ≤ b13 := Nat.le_trans K0.1 (Nat.le_of_eq g13.symm)
      have f14 := S2.ext E13
      have Z13 := Nat.le_trans Z0 E13.1
      have KK13 := K0.ext E13
      have f15 : Fld Z h13 b13 "java/lang/Long" "value" "J" (.long (0 : Int64)) := D13 (Or.inr (hw _ (List.mem_of_getElem? (i := 58) rfl))) (ty := .long) (by decide)
      have p16 : ∀ t, Steps p.tables e below (T13.setTop (mkF m 34 #[.val (.long x0), .second, .val (.int (128 : Int32))] [(.ref b13)])) t → Steps p.tables e below (s₁.setTop (entryFrame m #[(.long x0)] 3)) t := fun t k => p12 t (st13 t k)
      have p17 : ∀ t, Steps p.tables e below (T13.setTop (mkF m 36 #[.val (.long x0), .second, .val (.int (128 : Int32))] [(.long x0), (.ref b13), (.ref b13)])) t → Steps p.tables e below (s₁.setTop (entryFrame m #[(.long x0)] 3)) t := fun t k => p16 t (by
        show Steps p.tables e below (T13.setTop (mkF m 34 #[.val (.long x0), .second, .val (.int (128 : Int32))] [(.ref b13)])) _
        refine XS.dup X13.here hx rfl (hb hby dV_34) rfl rfl ?_
        show Steps p.tables e below (T13.setTop (mkF m 35 #[.val (.long x0), .second, .val (.int (128 : Int32))] [(.ref b13), (.ref b13)])) _
        refine XS.lloadN X13.here hx rfl (hb hby dV_35) rfl ?_
        exact k)
      obtain ⟨_, _, ⟨T18, L18, k18, n18⟩, -, X18, ⟨Lc18, hQ18, l18, y18, z18⟩, st18⟩ := X13.specialBack hx (y := (⟨"java/lang/Long", "<init>", "(J)V"⟩ : MethodName)) rfl hown (mvT hZ (hw _ (List.mem_of_getElem? (i := 46) rfl))) (mvT hZ (hw _ (List.mem_of_getElem? (i := 47) rfl))) (mvT hZ (hw _ (List.mem_of_getElem? (i := 49) rfl))) (by decide) (backOf (W := 1) (rmIi l Z a0 hw [] b13 x0  h13 n0 Z13 A13 f15 gn_b13) hZ (hw _ (List.mem_of_getElem? (i := 49) rfl)) (hw _ (List.mem_of_getElem? (i := 31) rfl)) (by decide) (by decide)) (g := (mkF m 36 #[.val (.long x0), .second, .val (.int (128 : Int32))] [(.long x0), (.ref b13), (.ref b13)])) rfl (by rw [hml]; rfl) (Steps.refl _) (a := b13) (argsL := [(.long x0)]) (rest := [(.ref b13)]) (lenOf pdV_0 rfl) rfl (by show 2 * 0 + _ ≤ _; exact Nat.le_of_eq rfl) (hb hby dV_36) (fun _ _ => ⟨rfl, e13, (by decide : 1 + 0 ≤ _), (by decide : 1 + 0 ≤ _)⟩)
      dsimp only [Pt.U, Pt.locs, Pt.cells, Pt.slots] at X18 l18 y18 z18 st18 hQ18
      subst l18 y18 z18
      obtain ⟨rfl, Nq18, K18⟩ := hQ18
      have N18 := Fr.app N0 Nq18
      have f19 := A13.keep K18
      have Z18 := Nat.le_trans Z13 K18.1
      have KK18 := KK13.trans K18 (allS (Or.inr gk_b13) all0)
      have p20 : ∀ t, Steps p.tables e below (T18.setTop (mkF m 39 #[.val (.long x0), .second, .val (.int (128 : Int32))] [(.ref b13)])) t → Steps p.tables e below (s₁.setTop (entryFrame m #[(.long x0)] 3)) t := fun t k => p17 t (st18.trans k)
      obtain ⟨fs, hr, hrun, hended, hW, hsame⟩ := X18.leave (v := some (.ref b13)) (fun h => by rw [Bd.returns] at h; cases h)
      refine ⟨_, _, p20 _ ?_, hrun, hended, _, _, rfl, ?_, ⟨_, rfl⟩, hW, hsame.mono (by decide) (by decide)⟩
      · show Steps p.tables e below (T18.setTop (mkF m 39 #[.val (.long x0), .second, .val (.int (128 : Int32))] [(.ref b13)])) _
        exact retOut X18 hx Bd.returns rfl (Or.inr (Or.inr (Or.inr (Or.inr ⟨rfl, rfl, rfl⟩)))) (hb hby dV_39) hr
      · show QV Z x0 a_C cc own_val h0 n0 _ T18.heap _
        skip
        exact ⟨_, rfl, N18, KK18, f19⟩
    · have p21 : ∀ t, Steps p.tables e below (s₁.setTop (mkF m 20 #[.val (.long x0), .second, .val (.int (128 : Int32))] [])) t → Steps p.tables e below (s₁.setTop (entryFrame m #[(.long x0)] 3)) t := fun t k => p11 t (by
        show Steps p.tables e below (s₁.setTop (mkF m 17 #[.val (.long x0), .second, .val (.int (128 : Int32))] [(.int (lcmpW x0 (127 : Int64)))])) _
        refine XS.ifNo X0.here hx rfl (hb hby dV_17) rfl ((if0 _ _).trans (flt (hc17)).2.2.1) ?_
        exact k)
      obtain ⟨T22, X22, e22, st22⟩ := getS2 X0 hx hZ hown (host := "") (Or.inl (hw _ (List.mem_of_getElem? (i := 35) rfl))) Via.refl e0 S2 (g := (mkF m 20 #[.val (.long x0), .second, .val (.int (128 : Int32))] [])) rfl (hb hby dV_20)
      have p23 : ∀ t, Steps p.tables e below (T22.setTop (mkF m 23 #[.val (.long x0), .second, .val (.int (128 : Int32))] [(.ref a_C)])) t → Steps p.tables e below (s₁.setTop (entryFrame m #[(.long x0)] 3)) t := fun t k => p21 t (st22 t k)
      have p24 : ∀ t, Steps p.tables e below (T22.setTop (mkF m 29 #[.val (.long x0), .second, .val (.int (128 : Int32))] [(.int ((x0.toInt32) + (128 : Int32))), (.ref a_C)])) t → Steps p.tables e below (s₁.setTop (entryFrame m #[(.long x0)] 3)) t := fun t k => p23 t (by
        show Steps p.tables e below (T22.setTop (mkF m 23 #[.val (.long x0), .second, .val (.int (128 : Int32))] [(.ref a_C)])) _
        refine XS.lloadN X22.here hx rfl (hb hby dV_23) rfl ?_
        show Steps p.tables e below (T22.setTop (mkF m 24 #[.val (.long x0), .second, .val (.int (128 : Int32))] [(.long x0), (.ref a_C)])) _
        refine XS.l2i X22.here hx rfl (hb hby dV_24) rfl ?_
        show Steps p.tables e below (T22.setTop (mkF m 25 #[.val (.long x0), .second, .val (.int (128 : Int32))] [(.int (x0.toInt32)), (.ref a_C)])) _
        refine XS.sipush X22.here hx rfl (hb hby dV_25) ?_
        show Steps p.tables e below (T22.setTop (mkF m 28 #[.val (.long x0), .second, .val (.int (128 : Int32))] [(.int (128 : Int32)), (.int (x0.toInt32)), (.ref a_C)])) _
        refine XS.iadd X22.here hx rfl (hb hby dV_28) rfl ?_
        exact k)
      obtain ⟨Ar, Sz, Ng⟩ := B0.ext O0.2
      have hin := own_in hc9 hc17 Sz
      obtain ⟨bb, hat, EB, -⟩ := B0.2.2.2 _ hin
      have p25 : ∀ t, Steps p.tables e below (T22.setTop (mkF m 30 #[.val (.long x0), .second, .val (.int (128 : Int32))] [(.ref bb)])) t → Steps p.tables e below (s₁.setTop (entryFrame m #[(.long x0)] 3)) t := fun t k => p24 t (by
        show Steps p.tables e below (T22.setTop (mkF m 29 #[.val (.long x0), .second, .val (.int (128 : Int32))] [(.int ((x0.toInt32) + (128 : Int32))), (.ref a_C)])) _
        refine X22.aaload hx (j := ((x0.toInt32) + (128 : Int32))) (v := (.ref bb)) (by rw [e22]; exact Ar.1) (State.isArrayOf_alike hZ.alike Ar.2.1) rfl Ar.2.2 hin hat (g := (mkF m 29 #[.val (.long x0), .second, .val (.int (128 : Int32))] [(.int ((x0.toInt32) + (128 : Int32))), (.ref a_C)])) rfl rfl (hb hby dV_29) _ ?_
        exact k)
      obtain ⟨fs, hr, hrun, hended, hW, hsame⟩ := X22.leave (v := some (.ref bb)) (fun h => by rw [Bd.returns] at h; cases h)
      refine ⟨_, _, p25 _ ?_, hrun, hended, _, _, rfl, ?_, ⟨_, rfl⟩, hW, hsame.mono (by decide) (by decide)⟩
      · show Steps p.tables e below (T22.setTop (mkF m 30 #[.val (.long x0), .second, .val (.int (128 : Int32))] [(.ref bb)])) _
        exact retOut X22 hx Bd.returns rfl (Or.inr (Or.inr (Or.inr (Or.inr ⟨rfl, rfl, rfl⟩)))) (hb hby dV_30) hr
      · show QV Z x0 a_C cc own_val h0 n0 _ T22.heap _
        rw [e22]
        exact ⟨_, rfl, N0, K0, EB.ext O0.2⟩
theorem pn0 : plainName "com/example/kvota/kvota/ResolvedQuotaEqualsPinLaw" = true := by first | (simp [plainName, overriddenIn]; done) | decide +kernel
theorem pd0_0 : parseMethodDescriptor "(I)Lcom/example/kvota/kvota/PrecedenceLevel;" = some ⟨[.int], some (.object "com/example/kvota/kvota/PrecedenceLevel")⟩ := by decide +kernel
theorem pd0_1 : parseMethodDescriptor "(JLcom/example/kvota/kvota/PrecedenceLevel;)V" = some ⟨[.long, (.object "com/example/kvota/kvota/PrecedenceLevel")], none⟩ := by decide +kernel
theorem pd0_2 : parseMethodDescriptor "(Ljava/lang/Object;)Z" = some ⟨[(.object "java/lang/Object")], some .boolean⟩ := by decide +kernel
theorem pd0_3 : parseMethodDescriptor "(J)Ljava/lang/Long;" = some ⟨[.long], some (.object "java/lang/Long")⟩ := by decide +kernel
theorem ef0 (m : MethodId) (x0 : Int64) (x1 : Int64) (x2 : Int32) (x3 : Int32) (x4 : Int32) : entryFrame m #[(.long x0), (.long x1), (.int x2), (.int x3), (.int x4)] maxLocals = mkF m 0 #[.val (.long x0), .second, .val (.long x1), .second, .val (.int x2), .val (.int x3), .val (.int x4), .unset, .unset, .unset, .unset, .unset, .unset, .unset, .unset, .unset, .unset, .unset, .unset] [] := by first | (simp [entryFrame, mkF, argsToLocals, Value.category, maxLocals]; done) | rfl
def Q0 (Z : State) (x0 : Int64) (x1 : Int64) (x2 : Int32) (x3 : Int32) (x4 : Int32) (a_USER_CLIENT : Addr) (a_DEFAULT_USER_CLIENT : Addr) (a_USER : Addr) (a_DEFAULT_USER : Addr) (a_USER_DEFAULT_CLIENT : Addr) (a_CLIENT : Addr) (a_DEFAULT_USER_DEFAULT_CLIENT : Addr) (a_DEFAULT_CLIENT : Addr) (a_C : Addr) (cc : Cell) (own_val : Int32 → Value) (h0 : Heap) (n0 : Nat) (v : Option Value) (h : Heap) (L : List Loc) : Prop := v = some (.int (1 : Int32)) ∧ Fr n0 L
set_option maxRecDepth 65536 in
set_option maxHeartbeats 40000000 in
theorem rm0 (l : Launch) (Z : State) (a0 : Array Value) (hw : ∀ d ∈ tables_1, d.before a0 Z = true) (ws : List Jvm.Cond) (x0 : Int64) (x1 : Int64) (x2 : Int32) (x3 : Int32) (x4 : Int32) (a_USER_CLIENT : Addr) (a_DEFAULT_USER_CLIENT : Addr) (a_USER : Addr) (a_DEFAULT_USER : Addr) (a_USER_DEFAULT_CLIENT : Addr) (a_CLIENT : Addr) (a_DEFAULT_USER_DEFAULT_CLIENT : Addr) (a_DEFAULT_CLIENT : Addr) (a_C : Addr) (cc : Cell) (own_val : Int32 → Value) (h0 : Heap) (n0 : Nat) (Z0 : n0 ≤ h0.size) (S_USER_CLIENT : Sta Z h0 "com/example/kvota/kvota/PrecedenceLevel" "USER_CLIENT" "Lcom/example/kvota/kvota/PrecedenceLevel;" (.ref a_USER_CLIENT)) (S_DEFAULT_USER_CLIENT : Sta Z h0 "com/example/kvota/kvota/PrecedenceLevel" "DEFAULT_USER_CLIENT" "Lcom/example/kvota/kvota/PrecedenceLevel;" (.ref a_DEFAULT_USER_CLIENT)) (S_USER : Sta Z h0 "com/example/kvota/kvota/PrecedenceLevel" "USER" "Lcom/example/kvota/kvota/PrecedenceLevel;" (.ref a_USER)) (S_DEFAULT_USER : Sta Z h0 "com/example/kvota/kvota/PrecedenceLevel" "DEFAULT_USER" "Lcom/example/kvota/kvota/PrecedenceLevel;" (.ref a_DEFAULT_USER)) (S_USER_DEFAULT_CLIENT : Sta Z h0 "com/example/kvota/kvota/PrecedenceLevel" "USER_DEFAULT_CLIENT" "Lcom/example/kvota/kvota/PrecedenceLevel;" (.ref a_USER_DEFAULT_CLIENT)) (S_CLIENT : Sta Z h0 "com/example/kvota/kvota/PrecedenceLevel" "CLIENT" "Lcom/example/kvota/kvota/PrecedenceLevel;" (.ref a_CLIENT)) (S_DEFAULT_USER_DEFAULT_CLIENT : Sta Z h0 "com/example/kvota/kvota/PrecedenceLevel" "DEFAULT_USER_DEFAULT_CLIENT" "Lcom/example/kvota/kvota/PrecedenceLevel;" (.ref a_DEFAULT_USER_DEFAULT_CLIENT)) (S_DEFAULT_CLIENT : Sta Z h0 "com/example/kvota/kvota/PrecedenceLevel" "DEFAULT_CLIENT" "Lcom/example/kvota/kvota/PrecedenceLevel;" (.ref a_DEFAULT_CLIENT)) (O0 : Old Z n0 h0) (S_c : Sta Z Z.heap "java/lang/Long$LongCache" "cache" "[Ljava/lang/Long;" (.ref a_C)) (B0 : Bxs Z a_C cc "java/lang/Long" "J" (256 : Int32) own_val) :
    MetFree l x (head1 (Jvm.Cond.code x code maxLocals ret :: ws) room_1) (fun a U => a = #[(.long x0), (.long x1), (.int x2), (.int x3), (.int x4)] ∧ Z.Warmed39 U.vm ∧ U.heap = h0) (fun _ _ _ _ _ => True) (fun _ U o U' => ∃ v L, o = .returned v ∧ Q0 Z x0 x1 x2 x3 x4 a_USER_CLIENT a_DEFAULT_USER_CLIENT a_USER a_DEFAULT_USER a_USER_DEFAULT_CLIENT a_CLIENT a_DEFAULT_USER_DEFAULT_CLIENT a_DEFAULT_CLIENT a_C cc own_val h0 n0 v U'.heap L ∧ FrameEnd U o U' L room_1.cells room_1.slots) := by
  refine MetFree.of_bodySF (plainFor_of_name pn0) hisR ?_
  intro p e s m args below meth c s₁ Bd hml0 hP hK
  obtain ⟨rfl, hZ, hh⟩ := hP
  have hx := Bd.exec
  have hby := Bd.bytes
  have hml : c.maxLocals = 19 := hml0
  have hown : s.vm.findClass "com/example/kvota/kvota/ResolvedQuotaEqualsPinLaw" = some m.cls := findClass_of_methodNamed Bd.named
  have hnm := (name_of_methodNamed Bd.named Bd.method).1
  have X0 : Stand p l e room_1 s m #[(.long x0), (.long x1), (.int x2), (.int x3), (.int x4)] below meth c s₁ [] 0 0 := Stand.of_body Bd
  have e0 : s₁.heap = h0 := by rw [← hh, Bd.state]; rfl
  have N0 := Fr.nil n0
  have pre0 : ∀ t, Steps p.tables e below (s₁.setTop (mkF m 0 #[.val (.long x0), .second, .val (.long x1), .second, .val (.int x2), .val (.int x3), .val (.int x4), .unset, .unset, .unset, .unset, .unset, .unset, .unset, .unset, .unset, .unset, .unset, .unset] [])) t → Steps p.tables e below (s₁.setTop (entryFrame m #[(.long x0), (.long x1), (.int x2), (.int x3), (.int x4)] maxLocals)) t := fun t k => castTop (ef0 m x0 x1 x2 x3 x4) k
  have hno := own_noins (hw _ (List.mem_of_getElem? (i := 37) rfl)) (hw _ (List.mem_of_getElem? (i := 10) rfl)) (NS.step (hw _ (List.mem_of_getElem? (i := 37) rfl)) (NS.step (hw _ (List.mem_of_getElem? (i := 38) rfl)) (own_root (hw _ (List.mem_of_getElem? (i := 39) rfl)) (hw _ (List.mem_of_getElem? (i := 10) rfl)) (by decide)) (by decide)) (by decide)) (by decide)
  have p1 : ∀ t, Steps p.tables e below (s₁.setTop (mkF m 2 #[.val (.long x0), .second, .val (.long x1), .second, .val (.int x2), .val (.int x3), .val (.int x4), .unset, .unset, .unset, .unset, .unset, .unset, .unset, .unset, .unset, .unset, .unset, .unset] [(.int x2)])) t → Steps p.tables e below (s₁.setTop (entryFrame m #[(.long x0), (.long x1), (.int x2), (.int x3), (.int x4)] maxLocals)) t := fun t k => pre0 t (by
    show Steps p.tables e below (s₁.setTop (mkF m 0 #[.val (.long x0), .second, .val (.long x1), .second, .val (.int x2), .val (.int x3), .val (.int x4), .unset, .unset, .unset, .unset, .unset, .unset, .unset, .unset, .unset, .unset, .unset, .unset] [])) _
    refine XS.iload X0.here hx rfl (hb hby at_0) rfl ?_
    exact k)
  obtain ⟨_, _, ⟨T2, L2, k2, n2⟩, -, X2, ⟨Lc2, hQ2, l2, y2, z2⟩, st2⟩ := Jvm.LawKit.callS X0 hx (y := (⟨"com/example/kvota/kvota/ResolvedQuotaEqualsPinLaw", "level", "(I)Lcom/example/kvota/kvota/PrecedenceLevel;"⟩ : MethodName)) hown (mvT hZ (hw _ (List.mem_of_getElem? (i := 0) rfl))) (mvT hZ (hw _ (List.mem_of_getElem? (i := 1) rfl))) (mvT hZ (hw _ (List.mem_of_getElem? (i := 2) rfl))) (mvT hZ (hw _ (List.mem_of_getElem? (i := 3) rfl))) (by decide) (backOf (W := 0) (rmL l Z a0 hw [] x2 a_USER_CLIENT a_DEFAULT_USER_CLIENT a_USER a_DEFAULT_USER a_USER_DEFAULT_CLIENT a_CLIENT a_DEFAULT_USER_DEFAULT_CLIENT a_DEFAULT_CLIENT h0 n0 Z0 S_USER_CLIENT S_DEFAULT_USER_CLIENT S_USER S_DEFAULT_USER S_USER_DEFAULT_CLIENT S_CLIENT S_DEFAULT_USER_DEFAULT_CLIENT S_DEFAULT_CLIENT) hZ (hw _ (List.mem_of_getElem? (i := 3) rfl)) (hw _ (List.mem_of_getElem? (i := 2) rfl)) (by decide) (by decide)) (g := (mkF m 2 #[.val (.long x0), .second, .val (.long x1), .second, .val (.int x2), .val (.int x3), .val (.int x4), .unset, .unset, .unset, .unset, .unset, .unset, .unset, .unset, .unset, .unset, .unset, .unset] [(.int x2)])) rfl (by rw [hml]; rfl) (argsL := [(.int x2)]) (rest := []) (lenOf pd0_0 rfl) rfl (by show 2 * 0 + _ ≤ _; exact Nat.le_of_eq rfl) (hb hby at_2) (fun _ _ => ⟨rfl, e0, (by decide : 0 + 0 ≤ _), (by decide : 0 + 0 ≤ _)⟩)
  dsimp only [Pt.U, Pt.locs, Pt.cells, Pt.slots] at X2 l2 y2 z2 st2 hQ2
  subst l2 y2 z2
  obtain ⟨li, rfl, Nq2, e2⟩ := hQ2
  have N2 := Fr.app N0 Nq2
  have p3 : ∀ t, Steps p.tables e below (T2.setTop (mkF m 5 #[.val (.long x0), .second, .val (.long x1), .second, .val (.int x2), .val (.int x3), .val (.int x4), .unset, .unset, .unset, .unset, .unset, .unset, .unset, .unset, .unset, .unset, .unset, .unset] [(.ref li)])) t → Steps p.tables e below (s₁.setTop (entryFrame m #[(.long x0), (.long x1), (.int x2), (.int x3), (.int x4)] maxLocals)) t := fun t k => p1 t (st2 _ k)
  have p4 : ∀ t, Steps p.tables e below (T2.setTop (mkF m 7 #[.val (.long x0), .second, .val (.long x1), .second, .val (.int x2), .val (.int x3), .val (.int x4), .val (.ref li), .unset, .unset, .unset, .unset, .unset, .unset, .unset, .unset, .unset, .unset, .unset] [])) t → Steps p.tables e below (s₁.setTop (entryFrame m #[(.long x0), (.long x1), (.int x2), (.int x3), (.int x4)] maxLocals)) t := fun t k => p3 t (by
    show Steps p.tables e below (T2.setTop (mkF m 5 #[.val (.long x0), .second, .val (.long x1), .second, .val (.int x2), .val (.int x3), .val (.int x4), .unset, .unset, .unset, .unset, .unset, .unset, .unset, .unset, .unset, .unset, .unset, .unset] [(.ref li)])) _
    refine XS.astore X2.here hx rfl (hb hby at_5) rfl rfl (l' := #[.val (.long x0), .second, .val (.long x1), .second, .val (.int x2), .val (.int x3), .val (.int x4), .val (.ref li), .unset, .unset, .unset, .unset, .unset, .unset, .unset, .unset, .unset, .unset, .unset]) rfl ?_
    exact k)
  obtain ⟨lj, T5, Lj5, X5, e5, N5, hj5, p5⟩ : ∃ (lj : Addr) (T' : State) (Lj : List Loc), Stand p l e room_1 s m #[(.long x0), (.long x1), (.int x2), (.int x3), (.int x4)] below meth c T' Lj 0 0 ∧ T'.heap = h0 ∧ Fr n0 Lj ∧ (True) ∧ ∀ t, Steps p.tables e below (T'.setTop (mkF m 24 #[.val (.long x0), .second, .val (.long x1), .second, .val (.int x2), .val (.int x3), .val (.int x4), .val (.ref li), .unset, .unset, .unset, .unset, .unset, .unset, .unset, .unset, .unset, .unset, .unset] [(.ref lj)])) t → Steps p.tables e below (s₁.setTop (entryFrame m #[(.long x0), (.long x1), (.int x2), (.int x3), (.int x4)] maxLocals)) t := by
    have p6 : ∀ t, Steps p.tables e below (T2.setTop (mkF m 11 #[.val (.long x0), .second, .val (.long x1), .second, .val (.int x2), .val (.int x3), .val (.int x4), .val (.ref li), .unset, .unset, .unset, .unset, .unset, .unset, .unset, .unset, .unset, .unset, .unset] [(.int (x4 &&& (2 : Int32)))])) t → Steps p.tables e below (s₁.setTop (entryFrame m #[(.long x0), (.long x1), (.int x2), (.int x3), (.int x4)] maxLocals)) t := fun t k => p4 t (by
      show Steps p.tables e below (T2.setTop (mkF m 7 #[.val (.long x0), .second, .val (.long x1), .second, .val (.int x2), .val (.int x3), .val (.int x4), .val (.ref li), .unset, .unset, .unset, .unset, .unset, .unset, .unset, .unset, .unset, .unset, .unset] [])) _
      refine XS.iload X2.here hx rfl (hb hby at_7) rfl ?_
      show Steps p.tables e below (T2.setTop (mkF m 9 #[.val (.long x0), .second, .val (.long x1), .second, .val (.int x2), .val (.int x3), .val (.int x4), .val (.ref li), .unset, .unset, .unset, .unset, .unset, .unset, .unset, .unset, .unset, .unset, .unset] [(.int x4)])) _
      refine XS.iconst X2.here hx rfl (hb hby at_9) ?_
      show Steps p.tables e below (T2.setTop (mkF m 10 #[.val (.long x0), .second, .val (.long x1), .second, .val (.int x2), .val (.int x3), .val (.int x4), .val (.ref li), .unset, .unset, .unset, .unset, .unset, .unset, .unset, .unset, .unset, .unset, .unset] [(.int (2 : Int32)), (.int x4)])) _
      refine XS.iand X2.here hx rfl (hb hby at_10) rfl ?_
      exact k)
    by_cases hc11 : (x4 &&& (2 : Int32)) = (0 : Int32)
    · have p7 : ∀ t, Steps p.tables e below (T2.setTop (mkF m 21 #[.val (.long x0), .second, .val (.long x1), .second, .val (.int x2), .val (.int x3), .val (.int x4), .val (.ref li), .unset, .unset, .unset, .unset, .unset, .unset, .unset, .unset, .unset, .unset, .unset] [(.int x3)])) t → Steps p.tables e below (s₁.setTop (entryFrame m #[(.long x0), (.long x1), (.int x2), (.int x3), (.int x4)] maxLocals)) t := fun t k => p6 t (by
        show Steps p.tables e below (T2.setTop (mkF m 11 #[.val (.long x0), .second, .val (.long x1), .second, .val (.int x2), .val (.int x3), .val (.int x4), .val (.ref li), .unset, .unset, .unset, .unset, .unset, .unset, .unset, .unset, .unset, .unset, .unset] [(.int (x4 &&& (2 : Int32)))])) _
        refine XS.ifYes X2.here hx rfl (pc0 := 11) (pc' := 19) rfl (hb hby at_11) rfl ((if0 _ _).trans (teq (hc11)).1) (by decide) (by decide) ?_
        show Steps p.tables e below (T2.setTop (mkF m 19 #[.val (.long x0), .second, .val (.long x1), .second, .val (.int x2), .val (.int x3), .val (.int x4), .val (.ref li), .unset, .unset, .unset, .unset, .unset, .unset, .unset, .unset, .unset, .unset, .unset] [])) _
        refine XS.iload X2.here hx rfl (hb hby at_19) rfl ?_
        exact k)
      obtain ⟨_, _, ⟨T8, L8, k8, n8⟩, -, X8, ⟨Lc8, hQ8, l8, y8, z8⟩, st8⟩ := Jvm.LawKit.callS X2 hx (y := (⟨"com/example/kvota/kvota/ResolvedQuotaEqualsPinLaw", "level", "(I)Lcom/example/kvota/kvota/PrecedenceLevel;"⟩ : MethodName)) hown (mvT hZ (hw _ (List.mem_of_getElem? (i := 0) rfl))) (mvT hZ (hw _ (List.mem_of_getElem? (i := 1) rfl))) (mvT hZ (hw _ (List.mem_of_getElem? (i := 2) rfl))) (mvT hZ (hw _ (List.mem_of_getElem? (i := 3) rfl))) (by decide) (backOf (W := 0) (rmL l Z a0 hw [] x3 a_USER_CLIENT a_DEFAULT_USER_CLIENT a_USER a_DEFAULT_USER a_USER_DEFAULT_CLIENT a_CLIENT a_DEFAULT_USER_DEFAULT_CLIENT a_DEFAULT_CLIENT h0 n0 Z0 S_USER_CLIENT S_DEFAULT_USER_CLIENT S_USER S_DEFAULT_USER S_USER_DEFAULT_CLIENT S_CLIENT S_DEFAULT_USER_DEFAULT_CLIENT S_DEFAULT_CLIENT) hZ (hw _ (List.mem_of_getElem? (i := 3) rfl)) (hw _ (List.mem_of_getElem? (i := 2) rfl)) (by decide) (by decide)) (g := (mkF m 21 #[.val (.long x0), .second, .val (.long x1), .second, .val (.int x2), .val (.int x3), .val (.int x4), .val (.ref li), .unset, .unset, .unset, .unset, .unset, .unset, .unset, .unset, .unset, .unset, .unset] [(.int x3)])) rfl (by rw [hml]; rfl) (argsL := [(.int x3)]) (rest := []) (lenOf pd0_0 rfl) rfl (by show 2 * 0 + _ ≤ _; exact Nat.le_of_eq rfl) (hb hby at_21) (fun _ _ => ⟨rfl, e2, (by decide : 0 + 0 ≤ _), (by decide : 0 + 0 ≤ _)⟩)
      dsimp only [Pt.U, Pt.locs, Pt.cells, Pt.slots] at X8 l8 y8 z8 st8 hQ8
      subst l8 y8 z8
      obtain ⟨lj0, rfl, Nq8, e8⟩ := hQ8
      have N8 := Fr.app N2 Nq8
      have p9 : ∀ t, Steps p.tables e below (T8.setTop (mkF m 24 #[.val (.long x0), .second, .val (.long x1), .second, .val (.int x2), .val (.int x3), .val (.int x4), .val (.ref li), .unset, .unset, .unset, .unset, .unset, .unset, .unset, .unset, .unset, .unset, .unset] [(.ref lj0)])) t → Steps p.tables e below (s₁.setTop (entryFrame m #[(.long x0), (.long x1), (.int x2), (.int x3), (.int x4)] maxLocals)) t := fun t k => p7 t (st8 _ k)
      exact ⟨lj0, T8, _, X8, e8, N8, trivial, p9⟩
    · have p10 : ∀ t, Steps p.tables e below (T2.setTop (mkF m 24 #[.val (.long x0), .second, .val (.long x1), .second, .val (.int x2), .val (.int x3), .val (.int x4), .val (.ref li), .unset, .unset, .unset, .unset, .unset, .unset, .unset, .unset, .unset, .unset, .unset] [(.ref li)])) t → Steps p.tables e below (s₁.setTop (entryFrame m #[(.long x0), (.long x1), (.int x2), (.int x3), (.int x4)] maxLocals)) t := fun t k => p6 t (by
        show Steps p.tables e below (T2.setTop (mkF m 11 #[.val (.long x0), .second, .val (.long x1), .second, .val (.int x2), .val (.int x3), .val (.int x4), .val (.ref li), .unset, .unset, .unset, .unset, .unset, .unset, .unset, .unset, .unset, .unset, .unset] [(.int (x4 &&& (2 : Int32)))])) _
        refine XS.ifNo X2.here hx rfl (hb hby at_11) rfl ((if0 _ _).trans (feq (hc11)).1) ?_
        show Steps p.tables e below (T2.setTop (mkF m 14 #[.val (.long x0), .second, .val (.long x1), .second, .val (.int x2), .val (.int x3), .val (.int x4), .val (.ref li), .unset, .unset, .unset, .unset, .unset, .unset, .unset, .unset, .unset, .unset, .unset] [])) _
        refine XS.aload X2.here hx rfl (hb hby at_14) rfl rfl ?_
        show Steps p.tables e below (T2.setTop (mkF m 16 #[.val (.long x0), .second, .val (.long x1), .second, .val (.int x2), .val (.int x3), .val (.int x4), .val (.ref li), .unset, .unset, .unset, .unset, .unset, .unset, .unset, .unset, .unset, .unset, .unset] [(.ref li)])) _
        refine XS.goto X2.here hx rfl (pc0 := 16) (pc' := 24) rfl (hb hby at_16) (by decide) (by decide) ?_
        exact k)
      exact ⟨li, T2, _, X2, e2, N2, trivial, p10⟩
  have p11 : ∀ t, Steps p.tables e below (T5.setTop (mkF m 26 #[.val (.long x0), .second, .val (.long x1), .second, .val (.int x2), .val (.int x3), .val (.int x4), .val (.ref li), .val (.ref lj), .unset, .unset, .unset, .unset, .unset, .unset, .unset, .unset, .unset, .unset] [])) t → Steps p.tables e below (s₁.setTop (entryFrame m #[(.long x0), (.long x1), (.int x2), (.int x3), (.int x4)] maxLocals)) t := fun t k => p5 t (by
    show Steps p.tables e below (T5.setTop (mkF m 24 #[.val (.long x0), .second, .val (.long x1), .second, .val (.int x2), .val (.int x3), .val (.int x4), .val (.ref li), .unset, .unset, .unset, .unset, .unset, .unset, .unset, .unset, .unset, .unset, .unset] [(.ref lj)])) _
    refine XS.astore X5.here hx rfl (hb hby at_24) rfl rfl (l' := #[.val (.long x0), .second, .val (.long x1), .second, .val (.int x2), .val (.int x3), .val (.int x4), .val (.ref li), .val (.ref lj), .unset, .unset, .unset, .unset, .unset, .unset, .unset, .unset, .unset, .unset]) rfl ?_
    exact k)
  obtain ⟨vbb, hvbb, p12⟩ : ∃ (vbb : Int64), (True) ∧ ∀ t, Steps p.tables e below (T5.setTop (mkF m 38 #[.val (.long x0), .second, .val (.long x1), .second, .val (.int x2), .val (.int x3), .val (.int x4), .val (.ref li), .val (.ref lj), .unset, .unset, .unset, .unset, .unset, .unset, .unset, .unset, .unset, .unset] [(.long vbb)])) t → Steps p.tables e below (s₁.setTop (entryFrame m #[(.long x0), (.long x1), (.int x2), (.int x3), (.int x4)] maxLocals)) t := by
    have p13 : ∀ t, Steps p.tables e below (T5.setTop (mkF m 30 #[.val (.long x0), .second, .val (.long x1), .second, .val (.int x2), .val (.int x3), .val (.int x4), .val (.ref li), .val (.ref lj), .unset, .unset, .unset, .unset, .unset, .unset, .unset, .unset, .unset, .unset] [(.int (x4 &&& (1 : Int32)))])) t → Steps p.tables e below (s₁.setTop (entryFrame m #[(.long x0), (.long x1), (.int x2), (.int x3), (.int x4)] maxLocals)) t := fun t k => p11 t (by
      show Steps p.tables e below (T5.setTop (mkF m 26 #[.val (.long x0), .second, .val (.long x1), .second, .val (.int x2), .val (.int x3), .val (.int x4), .val (.ref li), .val (.ref lj), .unset, .unset, .unset, .unset, .unset, .unset, .unset, .unset, .unset, .unset] [])) _
      refine XS.iload X5.here hx rfl (hb hby at_26) rfl ?_
      show Steps p.tables e below (T5.setTop (mkF m 28 #[.val (.long x0), .second, .val (.long x1), .second, .val (.int x2), .val (.int x3), .val (.int x4), .val (.ref li), .val (.ref lj), .unset, .unset, .unset, .unset, .unset, .unset, .unset, .unset, .unset, .unset] [(.int x4)])) _
      refine XS.iconst X5.here hx rfl (hb hby at_28) ?_
      show Steps p.tables e below (T5.setTop (mkF m 29 #[.val (.long x0), .second, .val (.long x1), .second, .val (.int x2), .val (.int x3), .val (.int x4), .val (.ref li), .val (.ref lj), .unset, .unset, .unset, .unset, .unset, .unset, .unset, .unset, .unset, .unset] [(.int (1 : Int32)), (.int x4)])) _
      refine XS.iand X5.here hx rfl (hb hby at_29) rfl ?_
      exact k)
    by_cases hc30 : (x4 &&& (1 : Int32)) = (0 : Int32)
    · have p14 : ∀ t, Steps p.tables e below (T5.setTop (mkF m 38 #[.val (.long x0), .second, .val (.long x1), .second, .val (.int x2), .val (.int x3), .val (.int x4), .val (.ref li), .val (.ref lj), .unset, .unset, .unset, .unset, .unset, .unset, .unset, .unset, .unset, .unset] [(.long x1)])) t → Steps p.tables e below (s₁.setTop (entryFrame m #[(.long x0), (.long x1), (.int x2), (.int x3), (.int x4)] maxLocals)) t := fun t k => p13 t (by
        show Steps p.tables e below (T5.setTop (mkF m 30 #[.val (.long x0), .second, .val (.long x1), .second, .val (.int x2), .val (.int x3), .val (.int x4), .val (.ref li), .val (.ref lj), .unset, .unset, .unset, .unset, .unset, .unset, .unset, .unset, .unset, .unset] [(.int (x4 &&& (1 : Int32)))])) _
        refine XS.ifYes X5.here hx rfl (pc0 := 30) (pc' := 37) rfl (hb hby at_30) rfl ((if0 _ _).trans (teq (hc30)).1) (by decide) (by decide) ?_
        show Steps p.tables e below (T5.setTop (mkF m 37 #[.val (.long x0), .second, .val (.long x1), .second, .val (.int x2), .val (.int x3), .val (.int x4), .val (.ref li), .val (.ref lj), .unset, .unset, .unset, .unset, .unset, .unset, .unset, .unset, .unset, .unset] [])) _
        refine XS.lloadN X5.here hx rfl (hb hby at_37) rfl ?_
        exact k)
      exact ⟨x1, trivial, p14⟩
    · have p15 : ∀ t, Steps p.tables e below (T5.setTop (mkF m 38 #[.val (.long x0), .second, .val (.long x1), .second, .val (.int x2), .val (.int x3), .val (.int x4), .val (.ref li), .val (.ref lj), .unset, .unset, .unset, .unset, .unset, .unset, .unset, .unset, .unset, .unset] [(.long x0)])) t → Steps p.tables e below (s₁.setTop (entryFrame m #[(.long x0), (.long x1), (.int x2), (.int x3), (.int x4)] maxLocals)) t := fun t k => p13 t (by
        show Steps p.tables e below (T5.setTop (mkF m 30 #[.val (.long x0), .second, .val (.long x1), .second, .val (.int x2), .val (.int x3), .val (.int x4), .val (.ref li), .val (.ref lj), .unset, .unset, .unset, .unset, .unset, .unset, .unset, .unset, .unset, .unset] [(.int (x4 &&& (1 : Int32)))])) _
        refine XS.ifNo X5.here hx rfl (hb hby at_30) rfl ((if0 _ _).trans (feq (hc30)).1) ?_
        show Steps p.tables e below (T5.setTop (mkF m 33 #[.val (.long x0), .second, .val (.long x1), .second, .val (.int x2), .val (.int x3), .val (.int x4), .val (.ref li), .val (.ref lj), .unset, .unset, .unset, .unset, .unset, .unset, .unset, .unset, .unset, .unset] [])) _
        refine XS.lloadN X5.here hx rfl (hb hby at_33) rfl ?_
        show Steps p.tables e below (T5.setTop (mkF m 34 #[.val (.long x0), .second, .val (.long x1), .second, .val (.int x2), .val (.int x3), .val (.int x4), .val (.ref li), .val (.ref lj), .unset, .unset, .unset, .unset, .unset, .unset, .unset, .unset, .unset, .unset] [(.long x0)])) _
        refine XS.goto X5.here hx rfl (pc0 := 34) (pc' := 38) rfl (hb hby at_34) (by decide) (by decide) ?_
        exact k)
      exact ⟨x0, trivial, p15⟩
  have p16 : ∀ t, Steps p.tables e below (T5.setTop (mkF m 40 #[.val (.long x0), .second, .val (.long x1), .second, .val (.int x2), .val (.int x3), .val (.int x4), .val (.ref li), .val (.ref lj), .val (.long vbb), .second, .unset, .unset, .unset, .unset, .unset, .unset, .unset, .unset] [])) t → Steps p.tables e below (s₁.setTop (entryFrame m #[(.long x0), (.long x1), (.int x2), (.int x3), (.int x4)] maxLocals)) t := fun t k => p12 t (by
    show Steps p.tables e below (T5.setTop (mkF m 38 #[.val (.long x0), .second, .val (.long x1), .second, .val (.int x2), .val (.int x3), .val (.int x4), .val (.ref li), .val (.ref lj), .unset, .unset, .unset, .unset, .unset, .unset, .unset, .unset, .unset, .unset] [(.long vbb)])) _
    refine XS.lstore X5.here hx rfl (hb hby at_38) rfl (l' := #[.val (.long x0), .second, .val (.long x1), .second, .val (.int x2), .val (.int x3), .val (.int x4), .val (.ref li), .val (.ref lj), .val (.long vbb), .second, .unset, .unset, .unset, .unset, .unset, .unset, .unset, .unset]) rfl ?_
    exact k)
  obtain ⟨T17, h17, X17, e17, E17, A17, D17, -, st17⟩ := newO X5 hx hZ hown (hw _ (List.mem_of_getElem? (i := 9) rfl)) (hw _ (List.mem_of_getElem? (i := 10) rfl)) (hw _ (List.mem_of_getElem? (i := 11) rfl)) e5 (g := (mkF m 40 #[.val (.long x0), .second, .val (.long x1), .second, .val (.int x2), .val (.int x3), .val (.int x4), .val (.ref li), .val (.ref lj), .val (.long vbb), .second, .unset, .unset, .unset, .unset, .unset, .unset, .unset, .unset] [])) rfl (hb hby at_40) (by decide) (by decide)
  obtain ⟨b17, g17⟩ : ∃ z, z = h0.size := ⟨_, rfl⟩
  rw [← g17] at A17 D17 st17
  have gn_b17 : n0 ≤ b17 := Nat.le_trans Z0 (Nat.le_of_eq g17.symm)
  have f18 := O0.ext E17
  have Z17 := Nat.le_trans Z0 E17.1
  have f19 : Fld Z h17 b17 "com/example/kvota/kvota/ResolvedQuota" "value" "J" (.long (0 : Int64)) := D17 (Or.inr (hw _ (List.mem_of_getElem? (i := 19) rfl))) (ty := .long) (by decide)
  have f20 : Fld Z h17 b17 "com/example/kvota/kvota/ResolvedQuota" "level" "Lcom/example/kvota/kvota/PrecedenceLevel;" .null := D17 (Or.inr (hw _ (List.mem_of_getElem? (i := 21) rfl))) (ty := (.object "com/example/kvota/kvota/PrecedenceLevel")) (by decide)
  have p21 : ∀ t, Steps p.tables e below (T17.setTop (mkF m 43 #[.val (.long x0), .second, .val (.long x1), .second, .val (.int x2), .val (.int x3), .val (.int x4), .val (.ref li), .val (.ref lj), .val (.long vbb), .second, .unset, .unset, .unset, .unset, .unset, .unset, .unset, .unset] [(.ref b17)])) t → Steps p.tables e below (s₁.setTop (entryFrame m #[(.long x0), (.long x1), (.int x2), (.int x3), (.int x4)] maxLocals)) t := fun t k => p16 t (st17 t k)
  have p22 : ∀ t, Steps p.tables e below (T17.setTop (mkF m 47 #[.val (.long x0), .second, .val (.long x1), .second, .val (.int x2), .val (.int x3), .val (.int x4), .val (.ref li), .val (.ref lj), .val (.long vbb), .second, .unset, .unset, .unset, .unset, .unset, .unset, .unset, .unset] [(.ref li), (.long x0), (.ref b17), (.ref b17)])) t → Steps p.tables e below (s₁.setTop (entryFrame m #[(.long x0), (.long x1), (.int x2), (.int x3), (.int x4)] maxLocals)) t := fun t k => p21 t (by
    show Steps p.tables e below (T17.setTop (mkF m 43 #[.val (.long x0), .second, .val (.long x1), .second, .val (.int x2), .val (.int x3), .val (.int x4), .val (.ref li), .val (.ref lj), .val (.long vbb), .second, .unset, .unset, .unset, .unset, .unset, .unset, .unset, .unset] [(.ref b17)])) _
    refine XS.dup X17.here hx rfl (hb hby at_43) rfl rfl ?_
    show Steps p.tables e below (T17.setTop (mkF m 44 #[.val (.long x0), .second, .val (.long x1), .second, .val (.int x2), .val (.int x3), .val (.int x4), .val (.ref li), .val (.ref lj), .val (.long vbb), .second, .unset, .unset, .unset, .unset, .unset, .unset, .unset, .unset] [(.ref b17), (.ref b17)])) _
    refine XS.lloadN X17.here hx rfl (hb hby at_44) rfl ?_
    show Steps p.tables e below (T17.setTop (mkF m 45 #[.val (.long x0), .second, .val (.long x1), .second, .val (.int x2), .val (.int x3), .val (.int x4), .val (.ref li), .val (.ref lj), .val (.long vbb), .second, .unset, .unset, .unset, .unset, .unset, .unset, .unset, .unset] [(.long x0), (.ref b17), (.ref b17)])) _
    refine XS.aload X17.here hx rfl (hb hby at_45) rfl rfl ?_
    exact k)
  obtain ⟨_, _, ⟨T23, L23, k23, n23⟩, -, X23, ⟨Lc23, hQ23, l23, y23, z23⟩, st23⟩ := X17.specialBack hx (y := (⟨"com/example/kvota/kvota/ResolvedQuota", "<init>", "(JLcom/example/kvota/kvota/PrecedenceLevel;)V"⟩ : MethodName)) rfl hown (mvT hZ (hw _ (List.mem_of_getElem? (i := 12) rfl))) (mvT hZ (hw _ (List.mem_of_getElem? (i := 13) rfl))) (mvT hZ (hw _ (List.mem_of_getElem? (i := 14) rfl))) (by decide) (backOf (W := 1) (rmI l Z a0 hw [] b17 x0 li  h17 n0 Z17 A17 f19 f20 gn_b17) hZ (hw _ (List.mem_of_getElem? (i := 14) rfl)) (hw _ (List.mem_of_getElem? (i := 11) rfl)) (by decide) (by decide)) (g := (mkF m 47 #[.val (.long x0), .second, .val (.long x1), .second, .val (.int x2), .val (.int x3), .val (.int x4), .val (.ref li), .val (.ref lj), .val (.long vbb), .second, .unset, .unset, .unset, .unset, .unset, .unset, .unset, .unset] [(.ref li), (.long x0), (.ref b17), (.ref b17)])) rfl (by rw [hml]; rfl) (Steps.refl _) (a := b17) (argsL := [(.long x0), (.ref li)]) (rest := [(.ref b17)]) (lenOf pd0_1 rfl) rfl (by show 2 * 0 + _ ≤ _; exact Nat.le_of_eq rfl) (hb hby at_47) (fun _ _ => ⟨rfl, e17, (by decide : 1 + 0 ≤ _), (by decide : 2 + 0 ≤ _)⟩)
  dsimp only [Pt.U, Pt.locs, Pt.cells, Pt.slots] at X23 l23 y23 z23 st23 hQ23
  subst l23 y23 z23
  obtain ⟨rfl, Nq23, K23, Fa23, Fb23⟩ := hQ23
  have N23 := Fr.app N5 Nq23
  have f24 := f18.keep K23 (allS gn_b17 (all0))
  have f25 := A17.keep K23
  have Z23 := Nat.le_trans Z17 K23.1
  have p26 : ∀ t, Steps p.tables e below (T23.setTop (mkF m 50 #[.val (.long x0), .second, .val (.long x1), .second, .val (.int x2), .val (.int x3), .val (.int x4), .val (.ref li), .val (.ref lj), .val (.long vbb), .second, .unset, .unset, .unset, .unset, .unset, .unset, .unset, .unset] [(.ref b17)])) t → Steps p.tables e below (s₁.setTop (entryFrame m #[(.long x0), (.long x1), (.int x2), (.int x3), (.int x4)] maxLocals)) t := fun t k => p22 t (st23.trans k)
  have p27 : ∀ t, Steps p.tables e below (T23.setTop (mkF m 52 #[.val (.long x0), .second, .val (.long x1), .second, .val (.int x2), .val (.int x3), .val (.int x4), .val (.ref li), .val (.ref lj), .val (.long vbb), .second, .val (.ref b17), .unset, .unset, .unset, .unset, .unset, .unset, .unset] [])) t → Steps p.tables e below (s₁.setTop (entryFrame m #[(.long x0), (.long x1), (.int x2), (.int x3), (.int x4)] maxLocals)) t := fun t k => p26 t (by
    show Steps p.tables e below (T23.setTop (mkF m 50 #[.val (.long x0), .second, .val (.long x1), .second, .val (.int x2), .val (.int x3), .val (.int x4), .val (.ref li), .val (.ref lj), .val (.long vbb), .second, .unset, .unset, .unset, .unset, .unset, .unset, .unset, .unset] [(.ref b17)])) _
    refine XS.astore X23.here hx rfl (hb hby at_50) rfl rfl (l' := #[.val (.long x0), .second, .val (.long x1), .second, .val (.int x2), .val (.int x3), .val (.int x4), .val (.ref li), .val (.ref lj), .val (.long vbb), .second, .val (.ref b17), .unset, .unset, .unset, .unset, .unset, .unset, .unset]) rfl ?_
    exact k)
  obtain ⟨T28, h28, X28, e28, E28, A28, D28, -, st28⟩ := newO X23 hx hZ hown (hw _ (List.mem_of_getElem? (i := 9) rfl)) (hw _ (List.mem_of_getElem? (i := 10) rfl)) (hw _ (List.mem_of_getElem? (i := 11) rfl)) rfl (g := (mkF m 52 #[.val (.long x0), .second, .val (.long x1), .second, .val (.int x2), .val (.int x3), .val (.int x4), .val (.ref li), .val (.ref lj), .val (.long vbb), .second, .val (.ref b17), .unset, .unset, .unset, .unset, .unset, .unset, .unset] [])) rfl (hb hby at_52) (by decide) (by decide)
  obtain ⟨b28, g28⟩ : ∃ z, z = T23.heap.size := ⟨_, rfl⟩
  rw [← g28] at A28 D28 st28
  have gn_b28 : n0 ≤ b28 := Nat.le_trans Z23 (Nat.le_of_eq g28.symm)
  have ne29 : b17 ≠ b28 := Nat.ne_of_lt (Nat.lt_of_lt_of_le f25.lt (Nat.le_of_eq g28.symm))
  have f30 := f24.ext E28
  have f31 := f25.ext E28
  have f32 := Fa23.ext E28
  have f33 := Fb23.ext E28
  have Z28 := Nat.le_trans Z23 E28.1
  have f34 : Fld Z h28 b28 "com/example/kvota/kvota/ResolvedQuota" "value" "J" (.long (0 : Int64)) := D28 (Or.inr (hw _ (List.mem_of_getElem? (i := 19) rfl))) (ty := .long) (by decide)
  have f35 : Fld Z h28 b28 "com/example/kvota/kvota/ResolvedQuota" "level" "Lcom/example/kvota/kvota/PrecedenceLevel;" .null := D28 (Or.inr (hw _ (List.mem_of_getElem? (i := 21) rfl))) (ty := (.object "com/example/kvota/kvota/PrecedenceLevel")) (by decide)
  have p36 : ∀ t, Steps p.tables e below (T28.setTop (mkF m 55 #[.val (.long x0), .second, .val (.long x1), .second, .val (.int x2), .val (.int x3), .val (.int x4), .val (.ref li), .val (.ref lj), .val (.long vbb), .second, .val (.ref b17), .unset, .unset, .unset, .unset, .unset, .unset, .unset] [(.ref b28)])) t → Steps p.tables e below (s₁.setTop (entryFrame m #[(.long x0), (.long x1), (.int x2), (.int x3), (.int x4)] maxLocals)) t := fun t k => p27 t (st28 t k)
  have p37 : ∀ t, Steps p.tables e below (T28.setTop (mkF m 60 #[.val (.long x0), .second, .val (.long x1), .second, .val (.int x2), .val (.int x3), .val (.int x4), .val (.ref li), .val (.ref lj), .val (.long vbb), .second, .val (.ref b17), .unset, .unset, .unset, .unset, .unset, .unset, .unset] [(.ref lj), (.long vbb), (.ref b28), (.ref b28)])) t → Steps p.tables e below (s₁.setTop (entryFrame m #[(.long x0), (.long x1), (.int x2), (.int x3), (.int x4)] maxLocals)) t := fun t k => p36 t (by
    show Steps p.tables e below (T28.setTop (mkF m 55 #[.val (.long x0), .second, .val (.long x1), .second, .val (.int x2), .val (.int x3), .val (.int x4), .val (.ref li), .val (.ref lj), .val (.long vbb), .second, .val (.ref b17), .unset, .unset, .unset, .unset, .unset, .unset, .unset] [(.ref b28)])) _
    refine XS.dup X28.here hx rfl (hb hby at_55) rfl rfl ?_
    show Steps p.tables e below (T28.setTop (mkF m 56 #[.val (.long x0), .second, .val (.long x1), .second, .val (.int x2), .val (.int x3), .val (.int x4), .val (.ref li), .val (.ref lj), .val (.long vbb), .second, .val (.ref b17), .unset, .unset, .unset, .unset, .unset, .unset, .unset] [(.ref b28), (.ref b28)])) _
    refine XS.lload X28.here hx rfl (hb hby at_56) rfl ?_
    show Steps p.tables e below (T28.setTop (mkF m 58 #[.val (.long x0), .second, .val (.long x1), .second, .val (.int x2), .val (.int x3), .val (.int x4), .val (.ref li), .val (.ref lj), .val (.long vbb), .second, .val (.ref b17), .unset, .unset, .unset, .unset, .unset, .unset, .unset] [(.long vbb), (.ref b28), (.ref b28)])) _
    refine XS.aload X28.here hx rfl (hb hby at_58) rfl rfl ?_
    exact k)
  obtain ⟨_, _, ⟨T38, L38, k38, n38⟩, -, X38, ⟨Lc38, hQ38, l38, y38, z38⟩, st38⟩ := X28.specialBack hx (y := (⟨"com/example/kvota/kvota/ResolvedQuota", "<init>", "(JLcom/example/kvota/kvota/PrecedenceLevel;)V"⟩ : MethodName)) rfl hown (mvT hZ (hw _ (List.mem_of_getElem? (i := 12) rfl))) (mvT hZ (hw _ (List.mem_of_getElem? (i := 13) rfl))) (mvT hZ (hw _ (List.mem_of_getElem? (i := 14) rfl))) (by decide) (backOf (W := 1) (rmI l Z a0 hw [] b28 vbb lj  h28 n0 Z28 A28 f34 f35 gn_b28) hZ (hw _ (List.mem_of_getElem? (i := 14) rfl)) (hw _ (List.mem_of_getElem? (i := 11) rfl)) (by decide) (by decide)) (g := (mkF m 60 #[.val (.long x0), .second, .val (.long x1), .second, .val (.int x2), .val (.int x3), .val (.int x4), .val (.ref li), .val (.ref lj), .val (.long vbb), .second, .val (.ref b17), .unset, .unset, .unset, .unset, .unset, .unset, .unset] [(.ref lj), (.long vbb), (.ref b28), (.ref b28)])) rfl (by rw [hml]; rfl) (Steps.refl _) (a := b28) (argsL := [(.long vbb), (.ref lj)]) (rest := [(.ref b28)]) (lenOf pd0_1 rfl) rfl (by show 2 * 0 + _ ≤ _; exact Nat.le_of_eq rfl) (hb hby at_60) (fun _ _ => ⟨rfl, e28, (by decide : 2 + 0 ≤ _), (by decide : 4 + 0 ≤ _)⟩)
  dsimp only [Pt.U, Pt.locs, Pt.cells, Pt.slots] at X38 l38 y38 z38 st38 hQ38
  subst l38 y38 z38
  obtain ⟨rfl, Nq38, K38, Fa38, Fb38⟩ := hQ38
  have N38 := Fr.app N23 Nq38
  have f39 := f30.keep K38 (allS gn_b28 (all0))
  have f40 := f31.keep K38
  have f41 := f32.keep K38 (ninS ne29 nin0)
  have f42 := f33.keep K38 (ninS ne29 nin0)
  have f43 := A28.keep K38
  have Z38 := Nat.le_trans Z28 K38.1
  have p44 : ∀ t, Steps p.tables e below (T38.setTop (mkF m 63 #[.val (.long x0), .second, .val (.long x1), .second, .val (.int x2), .val (.int x3), .val (.int x4), .val (.ref li), .val (.ref lj), .val (.long vbb), .second, .val (.ref b17), .unset, .unset, .unset, .unset, .unset, .unset, .unset] [(.ref b28)])) t → Steps p.tables e below (s₁.setTop (entryFrame m #[(.long x0), (.long x1), (.int x2), (.int x3), (.int x4)] maxLocals)) t := fun t k => p37 t (st38.trans k)
  have p45 : ∀ t, Steps p.tables e below (T38.setTop (mkF m 65 #[.val (.long x0), .second, .val (.long x1), .second, .val (.int x2), .val (.int x3), .val (.int x4), .val (.ref li), .val (.ref lj), .val (.long vbb), .second, .val (.ref b17), .val (.ref b28), .unset, .unset, .unset, .unset, .unset, .unset] [])) t → Steps p.tables e below (s₁.setTop (entryFrame m #[(.long x0), (.long x1), (.int x2), (.int x3), (.int x4)] maxLocals)) t := fun t k => p44 t (by
    show Steps p.tables e below (T38.setTop (mkF m 63 #[.val (.long x0), .second, .val (.long x1), .second, .val (.int x2), .val (.int x3), .val (.int x4), .val (.ref li), .val (.ref lj), .val (.long vbb), .second, .val (.ref b17), .unset, .unset, .unset, .unset, .unset, .unset, .unset] [(.ref b28)])) _
    refine XS.astore X38.here hx rfl (hb hby at_63) rfl rfl (l' := #[.val (.long x0), .second, .val (.long x1), .second, .val (.int x2), .val (.int x3), .val (.int x4), .val (.ref li), .val (.ref lj), .val (.long vbb), .second, .val (.ref b17), .val (.ref b28), .unset, .unset, .unset, .unset, .unset, .unset]) rfl ?_
    exact k)
  obtain ⟨T46, h46, X46, e46, E46, A46, D46, -, st46⟩ := newO X38 hx hZ hown (hw _ (List.mem_of_getElem? (i := 9) rfl)) (hw _ (List.mem_of_getElem? (i := 10) rfl)) (hw _ (List.mem_of_getElem? (i := 11) rfl)) rfl (g := (mkF m 65 #[.val (.long x0), .second, .val (.long x1), .second, .val (.int x2), .val (.int x3), .val (.int x4), .val (.ref li), .val (.ref lj), .val (.long vbb), .second, .val (.ref b17), .val (.ref b28), .unset, .unset, .unset, .unset, .unset, .unset] [])) rfl (hb hby at_65) (by decide) (by decide)
  obtain ⟨b46, g46⟩ : ∃ z, z = T38.heap.size := ⟨_, rfl⟩
  rw [← g46] at A46 D46 st46
  have gn_b46 : n0 ≤ b46 := Nat.le_trans Z38 (Nat.le_of_eq g46.symm)
  have ne47 : b17 ≠ b46 := Nat.ne_of_lt (Nat.lt_of_lt_of_le f40.lt (Nat.le_of_eq g46.symm))
  have ne48 : b28 ≠ b46 := Nat.ne_of_lt (Nat.lt_of_lt_of_le f43.lt (Nat.le_of_eq g46.symm))
  have f49 := f39.ext E46
  have f50 := f40.ext E46
  have f51 := f41.ext E46
  have f52 := f42.ext E46
  have f53 := f43.ext E46
  have f54 := Fa38.ext E46
  have f55 := Fb38.ext E46
  have Z46 := Nat.le_trans Z38 E46.1
  have f56 : Fld Z h46 b46 "com/example/kvota/kvota/ResolvedQuota" "value" "J" (.long (0 : Int64)) := D46 (Or.inr (hw _ (List.mem_of_getElem? (i := 19) rfl))) (ty := .long) (by decide)
  have f57 : Fld Z h46 b46 "com/example/kvota/kvota/ResolvedQuota" "level" "Lcom/example/kvota/kvota/PrecedenceLevel;" .null := D46 (Or.inr (hw _ (List.mem_of_getElem? (i := 21) rfl))) (ty := (.object "com/example/kvota/kvota/PrecedenceLevel")) (by decide)
  have p58 : ∀ t, Steps p.tables e below (T46.setTop (mkF m 68 #[.val (.long x0), .second, .val (.long x1), .second, .val (.int x2), .val (.int x3), .val (.int x4), .val (.ref li), .val (.ref lj), .val (.long vbb), .second, .val (.ref b17), .val (.ref b28), .unset, .unset, .unset, .unset, .unset, .unset] [(.ref b46)])) t → Steps p.tables e below (s₁.setTop (entryFrame m #[(.long x0), (.long x1), (.int x2), (.int x3), (.int x4)] maxLocals)) t := fun t k => p45 t (st46 t k)
  have p59 : ∀ t, Steps p.tables e below (T46.setTop (mkF m 72 #[.val (.long x0), .second, .val (.long x1), .second, .val (.int x2), .val (.int x3), .val (.int x4), .val (.ref li), .val (.ref lj), .val (.long vbb), .second, .val (.ref b17), .val (.ref b28), .unset, .unset, .unset, .unset, .unset, .unset] [(.ref li), (.long x0), (.ref b46), (.ref b46)])) t → Steps p.tables e below (s₁.setTop (entryFrame m #[(.long x0), (.long x1), (.int x2), (.int x3), (.int x4)] maxLocals)) t := fun t k => p58 t (by
    show Steps p.tables e below (T46.setTop (mkF m 68 #[.val (.long x0), .second, .val (.long x1), .second, .val (.int x2), .val (.int x3), .val (.int x4), .val (.ref li), .val (.ref lj), .val (.long vbb), .second, .val (.ref b17), .val (.ref b28), .unset, .unset, .unset, .unset, .unset, .unset] [(.ref b46)])) _
    refine XS.dup X46.here hx rfl (hb hby at_68) rfl rfl ?_
    show Steps p.tables e below (T46.setTop (mkF m 69 #[.val (.long x0), .second, .val (.long x1), .second, .val (.int x2), .val (.int x3), .val (.int x4), .val (.ref li), .val (.ref lj), .val (.long vbb), .second, .val (.ref b17), .val (.ref b28), .unset, .unset, .unset, .unset, .unset, .unset] [(.ref b46), (.ref b46)])) _
    refine XS.lloadN X46.here hx rfl (hb hby at_69) rfl ?_
    show Steps p.tables e below (T46.setTop (mkF m 70 #[.val (.long x0), .second, .val (.long x1), .second, .val (.int x2), .val (.int x3), .val (.int x4), .val (.ref li), .val (.ref lj), .val (.long vbb), .second, .val (.ref b17), .val (.ref b28), .unset, .unset, .unset, .unset, .unset, .unset] [(.long x0), (.ref b46), (.ref b46)])) _
    refine XS.aload X46.here hx rfl (hb hby at_70) rfl rfl ?_
    exact k)
  obtain ⟨_, _, ⟨T60, L60, k60, n60⟩, -, X60, ⟨Lc60, hQ60, l60, y60, z60⟩, st60⟩ := X46.specialBack hx (y := (⟨"com/example/kvota/kvota/ResolvedQuota", "<init>", "(JLcom/example/kvota/kvota/PrecedenceLevel;)V"⟩ : MethodName)) rfl hown (mvT hZ (hw _ (List.mem_of_getElem? (i := 12) rfl))) (mvT hZ (hw _ (List.mem_of_getElem? (i := 13) rfl))) (mvT hZ (hw _ (List.mem_of_getElem? (i := 14) rfl))) (by decide) (backOf (W := 1) (rmI l Z a0 hw [] b46 x0 li  h46 n0 Z46 A46 f56 f57 gn_b46) hZ (hw _ (List.mem_of_getElem? (i := 14) rfl)) (hw _ (List.mem_of_getElem? (i := 11) rfl)) (by decide) (by decide)) (g := (mkF m 72 #[.val (.long x0), .second, .val (.long x1), .second, .val (.int x2), .val (.int x3), .val (.int x4), .val (.ref li), .val (.ref lj), .val (.long vbb), .second, .val (.ref b17), .val (.ref b28), .unset, .unset, .unset, .unset, .unset, .unset] [(.ref li), (.long x0), (.ref b46), (.ref b46)])) rfl (by rw [hml]; rfl) (Steps.refl _) (a := b46) (argsL := [(.long x0), (.ref li)]) (rest := [(.ref b46)]) (lenOf pd0_1 rfl) rfl (by show 2 * 0 + _ ≤ _; exact Nat.le_of_eq rfl) (hb hby at_72) (fun _ _ => ⟨rfl, e46, (by decide : 3 + 0 ≤ _), (by decide : 6 + 0 ≤ _)⟩)
  dsimp only [Pt.U, Pt.locs, Pt.cells, Pt.slots] at X60 l60 y60 z60 st60 hQ60
  subst l60 y60 z60
  obtain ⟨rfl, Nq60, K60, Fa60, Fb60⟩ := hQ60
  have N60 := Fr.app N38 Nq60
  have f61 := f49.keep K60 (allS gn_b46 (all0))
  have f62 := f50.keep K60
  have f63 := f51.keep K60 (ninS ne47 nin0)
  have f64 := f52.keep K60 (ninS ne47 nin0)
  have f65 := f53.keep K60
  have f66 := f54.keep K60 (ninS ne48 nin0)
  have f67 := f55.keep K60 (ninS ne48 nin0)
  have f68 := A46.keep K60
  have Z60 := Nat.le_trans Z46 K60.1
  have p69 : ∀ t, Steps p.tables e below (T60.setTop (mkF m 75 #[.val (.long x0), .second, .val (.long x1), .second, .val (.int x2), .val (.int x3), .val (.int x4), .val (.ref li), .val (.ref lj), .val (.long vbb), .second, .val (.ref b17), .val (.ref b28), .unset, .unset, .unset, .unset, .unset, .unset] [(.ref b46)])) t → Steps p.tables e below (s₁.setTop (entryFrame m #[(.long x0), (.long x1), (.int x2), (.int x3), (.int x4)] maxLocals)) t := fun t k => p59 t (st60.trans k)
  have p70 : ∀ t, Steps p.tables e below (T60.setTop (mkF m 81 #[.val (.long x0), .second, .val (.long x1), .second, .val (.int x2), .val (.int x3), .val (.int x4), .val (.ref li), .val (.ref lj), .val (.long vbb), .second, .val (.ref b17), .val (.ref b28), .val (.ref b46), .unset, .unset, .unset, .unset, .unset] [(.int (lcmpW x0 vbb))])) t → Steps p.tables e below (s₁.setTop (entryFrame m #[(.long x0), (.long x1), (.int x2), (.int x3), (.int x4)] maxLocals)) t := fun t k => p69 t (by
    show Steps p.tables e below (T60.setTop (mkF m 75 #[.val (.long x0), .second, .val (.long x1), .second, .val (.int x2), .val (.int x3), .val (.int x4), .val (.ref li), .val (.ref lj), .val (.long vbb), .second, .val (.ref b17), .val (.ref b28), .unset, .unset, .unset, .unset, .unset, .unset] [(.ref b46)])) _
    refine XS.astore X60.here hx rfl (hb hby at_75) rfl rfl (l' := #[.val (.long x0), .second, .val (.long x1), .second, .val (.int x2), .val (.int x3), .val (.int x4), .val (.ref li), .val (.ref lj), .val (.long vbb), .second, .val (.ref b17), .val (.ref b28), .val (.ref b46), .unset, .unset, .unset, .unset, .unset]) rfl ?_
    show Steps p.tables e below (T60.setTop (mkF m 77 #[.val (.long x0), .second, .val (.long x1), .second, .val (.int x2), .val (.int x3), .val (.int x4), .val (.ref li), .val (.ref lj), .val (.long vbb), .second, .val (.ref b17), .val (.ref b28), .val (.ref b46), .unset, .unset, .unset, .unset, .unset] [])) _
    refine XS.lloadN X60.here hx rfl (hb hby at_77) rfl ?_
    show Steps p.tables e below (T60.setTop (mkF m 78 #[.val (.long x0), .second, .val (.long x1), .second, .val (.int x2), .val (.int x3), .val (.int x4), .val (.ref li), .val (.ref lj), .val (.long vbb), .second, .val (.ref b17), .val (.ref b28), .val (.ref b46), .unset, .unset, .unset, .unset, .unset] [(.long x0)])) _
    refine XS.lload X60.here hx rfl (hb hby at_78) rfl ?_
    show Steps p.tables e below (T60.setTop (mkF m 80 #[.val (.long x0), .second, .val (.long x1), .second, .val (.int x2), .val (.int x3), .val (.int x4), .val (.ref li), .val (.ref lj), .val (.long vbb), .second, .val (.ref b17), .val (.ref b28), .val (.ref b46), .unset, .unset, .unset, .unset, .unset] [(.long vbb), (.long x0)])) _
    refine XS.lcmp X60.here hx rfl (hb hby at_80) rfl ?_
    exact k)
  by_cases hc81 : (lcmpW x0 vbb) = (0 : Int32)
  · have p71 : ∀ t, Steps p.tables e below (T60.setTop (mkF m 88 #[.val (.long x0), .second, .val (.long x1), .second, .val (.int x2), .val (.int x3), .val (.int x4), .val (.ref li), .val (.ref lj), .val (.long vbb), .second, .val (.ref b17), .val (.ref b28), .val (.ref b46), .unset, .unset, .unset, .unset, .unset] [(.ref lj), (.ref li)])) t → Steps p.tables e below (s₁.setTop (entryFrame m #[(.long x0), (.long x1), (.int x2), (.int x3), (.int x4)] maxLocals)) t := fun t k => p70 t (by
      show Steps p.tables e below (T60.setTop (mkF m 81 #[.val (.long x0), .second, .val (.long x1), .second, .val (.int x2), .val (.int x3), .val (.int x4), .val (.ref li), .val (.ref lj), .val (.long vbb), .second, .val (.ref b17), .val (.ref b28), .val (.ref b46), .unset, .unset, .unset, .unset, .unset] [(.int (lcmpW x0 vbb))])) _
      refine XS.ifNo X60.here hx rfl (hb hby at_81) rfl ((if0 _ _).trans (teq (hc81)).2) ?_
      show Steps p.tables e below (T60.setTop (mkF m 84 #[.val (.long x0), .second, .val (.long x1), .second, .val (.int x2), .val (.int x3), .val (.int x4), .val (.ref li), .val (.ref lj), .val (.long vbb), .second, .val (.ref b17), .val (.ref b28), .val (.ref b46), .unset, .unset, .unset, .unset, .unset] [])) _
      refine XS.aload X60.here hx rfl (hb hby at_84) rfl rfl ?_
      show Steps p.tables e below (T60.setTop (mkF m 86 #[.val (.long x0), .second, .val (.long x1), .second, .val (.int x2), .val (.int x3), .val (.int x4), .val (.ref li), .val (.ref lj), .val (.long vbb), .second, .val (.ref b17), .val (.ref b28), .val (.ref b46), .unset, .unset, .unset, .unset, .unset] [(.ref li)])) _
      refine XS.aload X60.here hx rfl (hb hby at_86) rfl rfl ?_
      exact k)
    by_cases hc88 : li = lj
    · have p72 : ∀ t, Steps p.tables e below (T60.setTop (mkF m 102 #[.val (.long x0), .second, .val (.long x1), .second, .val (.int x2), .val (.int x3), .val (.int x4), .val (.ref li), .val (.ref lj), .val (.long vbb), .second, .val (.ref b17), .val (.ref b28), .val (.ref b46), .val (.int (1 : Int32)), .unset, .unset, .unset, .unset] [(.ref b28), (.ref b17)])) t → Steps p.tables e below (s₁.setTop (entryFrame m #[(.long x0), (.long x1), (.int x2), (.int x3), (.int x4)] maxLocals)) t := fun t k => p71 t (by
        show Steps p.tables e below (T60.setTop (mkF m 88 #[.val (.long x0), .second, .val (.long x1), .second, .val (.int x2), .val (.int x3), .val (.int x4), .val (.ref li), .val (.ref lj), .val (.long vbb), .second, .val (.ref b17), .val (.ref b28), .val (.ref b46), .unset, .unset, .unset, .unset, .unset] [(.ref lj), (.ref li)])) _
        refine Jvm.RoadKit.acmp (g := (mkF m 88 #[.val (.long x0), .second, .val (.long x1), .second, .val (.int x2), .val (.int x3), .val (.int x4), .val (.ref li), .val (.ref lj), .val (.long vbb), .second, .val (.ref b17), .val (.ref b28), .val (.ref b46), .unset, .unset, .unset, .unset, .unset] [(.ref lj), (.ref li)])) X60 hx rfl rfl rfl (pc0 := 88) (pc' := 91) (same := true) rfl (hb hby at_88) rfl (decide_eq_true (congrArg Value.ref hc88)) (by decide) (by decide) ?_
        show Steps p.tables e below (T60.setTop (mkF m 91 #[.val (.long x0), .second, .val (.long x1), .second, .val (.int x2), .val (.int x3), .val (.int x4), .val (.ref li), .val (.ref lj), .val (.long vbb), .second, .val (.ref b17), .val (.ref b28), .val (.ref b46), .unset, .unset, .unset, .unset, .unset] [])) _
        refine XS.iconst X60.here hx rfl (hb hby at_91) ?_
        show Steps p.tables e below (T60.setTop (mkF m 92 #[.val (.long x0), .second, .val (.long x1), .second, .val (.int x2), .val (.int x3), .val (.int x4), .val (.ref li), .val (.ref lj), .val (.long vbb), .second, .val (.ref b17), .val (.ref b28), .val (.ref b46), .unset, .unset, .unset, .unset, .unset] [(.int (1 : Int32))])) _
        refine XS.goto X60.here hx rfl (pc0 := 92) (pc' := 96) rfl (hb hby at_92) (by decide) (by decide) ?_
        show Steps p.tables e below (T60.setTop (mkF m 96 #[.val (.long x0), .second, .val (.long x1), .second, .val (.int x2), .val (.int x3), .val (.int x4), .val (.ref li), .val (.ref lj), .val (.long vbb), .second, .val (.ref b17), .val (.ref b28), .val (.ref b46), .unset, .unset, .unset, .unset, .unset] [(.int (1 : Int32))])) _
        refine XS.istore X60.here hx rfl (hb hby at_96) rfl (l' := #[.val (.long x0), .second, .val (.long x1), .second, .val (.int x2), .val (.int x3), .val (.int x4), .val (.ref li), .val (.ref lj), .val (.long vbb), .second, .val (.ref b17), .val (.ref b28), .val (.ref b46), .val (.int (1 : Int32)), .unset, .unset, .unset, .unset]) rfl ?_
        show Steps p.tables e below (T60.setTop (mkF m 98 #[.val (.long x0), .second, .val (.long x1), .second, .val (.int x2), .val (.int x3), .val (.int x4), .val (.ref li), .val (.ref lj), .val (.long vbb), .second, .val (.ref b17), .val (.ref b28), .val (.ref b46), .val (.int (1 : Int32)), .unset, .unset, .unset, .unset] [])) _
        refine XS.aload X60.here hx rfl (hb hby at_98) rfl rfl ?_
        show Steps p.tables e below (T60.setTop (mkF m 100 #[.val (.long x0), .second, .val (.long x1), .second, .val (.int x2), .val (.int x3), .val (.int x4), .val (.ref li), .val (.ref lj), .val (.long vbb), .second, .val (.ref b17), .val (.ref b28), .val (.ref b46), .val (.int (1 : Int32)), .unset, .unset, .unset, .unset] [(.ref b17)])) _
        refine XS.aload X60.here hx rfl (hb hby at_100) rfl rfl ?_
        exact k)
      obtain ⟨cq73, kq73, qa73, qb73, qc73⟩ := isOf hZ rfl f62
      obtain ⟨_, _, ⟨T73, L73, k73, n73⟩, -, X73, ⟨Lc73, hQ73, l73, y73, z73⟩, st73⟩ := X60.virtualBack hx (y := (⟨"com/example/kvota/kvota/ResolvedQuota", "equals", "(Ljava/lang/Object;)Z"⟩ : MethodName)) (z := (⟨"com/example/kvota/kvota/ResolvedQuota", "equals", "(Ljava/lang/Object;)Z"⟩ : MethodName)) hown (mvT hZ (hw _ (List.mem_of_getElem? (i := 22) rfl))) (mvT hZ (hw _ (List.mem_of_getElem? (i := 23) rfl))) (notFace_of_selects (args := #[]) (mvT hZ (hw _ (List.mem_of_getElem? (i := 25) rfl)))) (mvT hZ (hw _ (List.mem_of_getElem? (i := 25) rfl))) (mvT hZ (hw _ (List.mem_of_getElem? (i := 24) rfl))) (by decide) (backOf (W := 0) (rmA l Z a0 hw [] b17 b28 x0 li vbb lj T60.heap n0 Z60 f65 f63 f64 f66 f67) hZ (hw _ (List.mem_of_getElem? (i := 26) rfl)) (hw _ (List.mem_of_getElem? (i := 11) rfl)) (by decide) (by decide)) qa73 qc73 (g := (mkF m 102 #[.val (.long x0), .second, .val (.long x1), .second, .val (.int x2), .val (.int x3), .val (.int x4), .val (.ref li), .val (.ref lj), .val (.long vbb), .second, .val (.ref b17), .val (.ref b28), .val (.ref b46), .val (.int (1 : Int32)), .unset, .unset, .unset, .unset] [(.ref b28), (.ref b17)])) rfl (by rw [hml]; rfl) (Steps.refl _) (argsL := [(.ref b28)]) (rest := []) (lenOf pd0_2 rfl) rfl (by show 2 * 0 + _ ≤ _; exact Nat.le_of_eq rfl) (hb hby at_102) (fun _ _ => ⟨rfl, rfl, (by decide : 3 + 0 ≤ _), (by decide : 6 + 0 ≤ _)⟩)
      dsimp only [Pt.U, Pt.locs, Pt.cells, Pt.slots] at X73 l73 y73 z73 st73 hQ73
      subst l73 y73 z73
      obtain ⟨rfl, Nq73, e73⟩ := hQ73
      have N73 := Fr.app N60 Nq73
      have p74 : ∀ t, Steps p.tables e below (T73.setTop (mkF m 105 #[.val (.long x0), .second, .val (.long x1), .second, .val (.int x2), .val (.int x3), .val (.int x4), .val (.ref li), .val (.ref lj), .val (.long vbb), .second, .val (.ref b17), .val (.ref b28), .val (.ref b46), .val (.int (1 : Int32)), .unset, .unset, .unset, .unset] [(.int (own_eqq x0 li vbb lj))])) t → Steps p.tables e below (s₁.setTop (entryFrame m #[(.long x0), (.long x1), (.int x2), (.int x3), (.int x4)] maxLocals)) t := fun t k => p72 t (st73.trans k)
      have p75 : ∀ t, Steps p.tables e below (T73.setTop (mkF m 114 #[.val (.long x0), .second, .val (.long x1), .second, .val (.int x2), .val (.int x3), .val (.int x4), .val (.ref li), .val (.ref lj), .val (.long vbb), .second, .val (.ref b17), .val (.ref b28), .val (.ref b46), .val (.int (1 : Int32)), .unset, .unset, .unset, .unset] [(.ref b17), (.ref b28)])) t → Steps p.tables e below (s₁.setTop (entryFrame m #[(.long x0), (.long x1), (.int x2), (.int x3), (.int x4)] maxLocals)) t := fun t k => p74 t (by
        show Steps p.tables e below (T73.setTop (mkF m 105 #[.val (.long x0), .second, .val (.long x1), .second, .val (.int x2), .val (.int x3), .val (.int x4), .val (.ref li), .val (.ref lj), .val (.long vbb), .second, .val (.ref b17), .val (.ref b28), .val (.ref b46), .val (.int (1 : Int32)), .unset, .unset, .unset, .unset] [(.int (own_eqq x0 li vbb lj))])) _
        refine XS.iload X73.here hx rfl (hb hby at_105) rfl ?_
        show Steps p.tables e below (T73.setTop (mkF m 107 #[.val (.long x0), .second, .val (.long x1), .second, .val (.int x2), .val (.int x3), .val (.int x4), .val (.ref li), .val (.ref lj), .val (.long vbb), .second, .val (.ref b17), .val (.ref b28), .val (.ref b46), .val (.int (1 : Int32)), .unset, .unset, .unset, .unset] [(.int (1 : Int32)), (.int (own_eqq x0 li vbb lj))])) _
        refine XS.icmpNo X73.here hx rfl (hb hby at_107) rfl ((teq (by unfold own_eqq; rw [if_pos (own_swap.mp hc81), if_pos (Eq.symm hc88)])).2) ?_
        show Steps p.tables e below (T73.setTop (mkF m 110 #[.val (.long x0), .second, .val (.long x1), .second, .val (.int x2), .val (.int x3), .val (.int x4), .val (.ref li), .val (.ref lj), .val (.long vbb), .second, .val (.ref b17), .val (.ref b28), .val (.ref b46), .val (.int (1 : Int32)), .unset, .unset, .unset, .unset] [])) _
        refine XS.aload X73.here hx rfl (hb hby at_110) rfl rfl ?_
        show Steps p.tables e below (T73.setTop (mkF m 112 #[.val (.long x0), .second, .val (.long x1), .second, .val (.int x2), .val (.int x3), .val (.int x4), .val (.ref li), .val (.ref lj), .val (.long vbb), .second, .val (.ref b17), .val (.ref b28), .val (.ref b46), .val (.int (1 : Int32)), .unset, .unset, .unset, .unset] [(.ref b28)])) _
        refine XS.aload X73.here hx rfl (hb hby at_112) rfl rfl ?_
        exact k)
      obtain ⟨cq76, kq76, qa76, qb76, qc76⟩ := isOf hZ e73 f65
      obtain ⟨_, _, ⟨T76, L76, k76, n76⟩, -, X76, ⟨Lc76, hQ76, l76, y76, z76⟩, st76⟩ := X73.virtualBack hx (y := (⟨"com/example/kvota/kvota/ResolvedQuota", "equals", "(Ljava/lang/Object;)Z"⟩ : MethodName)) (z := (⟨"com/example/kvota/kvota/ResolvedQuota", "equals", "(Ljava/lang/Object;)Z"⟩ : MethodName)) hown (mvT hZ (hw _ (List.mem_of_getElem? (i := 22) rfl))) (mvT hZ (hw _ (List.mem_of_getElem? (i := 23) rfl))) (notFace_of_selects (args := #[]) (mvT hZ (hw _ (List.mem_of_getElem? (i := 25) rfl)))) (mvT hZ (hw _ (List.mem_of_getElem? (i := 25) rfl))) (mvT hZ (hw _ (List.mem_of_getElem? (i := 24) rfl))) (by decide) (backOf (W := 0) (rmA l Z a0 hw [] b28 b17 vbb lj x0 li T60.heap n0 Z60 f62 f66 f67 f63 f64) hZ (hw _ (List.mem_of_getElem? (i := 26) rfl)) (hw _ (List.mem_of_getElem? (i := 11) rfl)) (by decide) (by decide)) qa76 qc76 (g := (mkF m 114 #[.val (.long x0), .second, .val (.long x1), .second, .val (.int x2), .val (.int x3), .val (.int x4), .val (.ref li), .val (.ref lj), .val (.long vbb), .second, .val (.ref b17), .val (.ref b28), .val (.ref b46), .val (.int (1 : Int32)), .unset, .unset, .unset, .unset] [(.ref b17), (.ref b28)])) rfl (by rw [hml]; rfl) (Steps.refl _) (argsL := [(.ref b17)]) (rest := []) (lenOf pd0_2 rfl) rfl (by show 2 * 0 + _ ≤ _; exact Nat.le_of_eq rfl) (hb hby at_114) (fun _ _ => ⟨rfl, e73, (by decide : 3 + 0 ≤ _), (by decide : 6 + 0 ≤ _)⟩)
      dsimp only [Pt.U, Pt.locs, Pt.cells, Pt.slots] at X76 l76 y76 z76 st76 hQ76
      subst l76 y76 z76
      obtain ⟨rfl, Nq76, e76⟩ := hQ76
      have N76 := Fr.app N73 Nq76
      have p77 : ∀ t, Steps p.tables e below (T76.setTop (mkF m 117 #[.val (.long x0), .second, .val (.long x1), .second, .val (.int x2), .val (.int x3), .val (.int x4), .val (.ref li), .val (.ref lj), .val (.long vbb), .second, .val (.ref b17), .val (.ref b28), .val (.ref b46), .val (.int (1 : Int32)), .unset, .unset, .unset, .unset] [(.int (own_eqq vbb lj x0 li))])) t → Steps p.tables e below (s₁.setTop (entryFrame m #[(.long x0), (.long x1), (.int x2), (.int x3), (.int x4)] maxLocals)) t := fun t k => p75 t (st76.trans k)
      have p78 : ∀ t, Steps p.tables e below (T76.setTop (mkF m 133 #[.val (.long x0), .second, .val (.long x1), .second, .val (.int x2), .val (.int x3), .val (.int x4), .val (.ref li), .val (.ref lj), .val (.long vbb), .second, .val (.ref b17), .val (.ref b28), .val (.ref b46), .val (.int (1 : Int32)), .val (.int (1 : Int32)), .unset, .unset, .unset] [(.ref b17), (.ref b17)])) t → Steps p.tables e below (s₁.setTop (entryFrame m #[(.long x0), (.long x1), (.int x2), (.int x3), (.int x4)] maxLocals)) t := fun t k => p77 t (by
        show Steps p.tables e below (T76.setTop (mkF m 117 #[.val (.long x0), .second, .val (.long x1), .second, .val (.int x2), .val (.int x3), .val (.int x4), .val (.ref li), .val (.ref lj), .val (.long vbb), .second, .val (.ref b17), .val (.ref b28), .val (.ref b46), .val (.int (1 : Int32)), .unset, .unset, .unset, .unset] [(.int (own_eqq vbb lj x0 li))])) _
        refine XS.iload X76.here hx rfl (hb hby at_117) rfl ?_
        show Steps p.tables e below (T76.setTop (mkF m 119 #[.val (.long x0), .second, .val (.long x1), .second, .val (.int x2), .val (.int x3), .val (.int x4), .val (.ref li), .val (.ref lj), .val (.long vbb), .second, .val (.ref b17), .val (.ref b28), .val (.ref b46), .val (.int (1 : Int32)), .unset, .unset, .unset, .unset] [(.int (1 : Int32)), (.int (own_eqq vbb lj x0 li))])) _
        refine XS.icmpNo X76.here hx rfl (hb hby at_119) rfl ((teq (by unfold own_eqq; rw [if_pos hc81, if_pos hc88])).2) ?_
        show Steps p.tables e below (T76.setTop (mkF m 122 #[.val (.long x0), .second, .val (.long x1), .second, .val (.int x2), .val (.int x3), .val (.int x4), .val (.ref li), .val (.ref lj), .val (.long vbb), .second, .val (.ref b17), .val (.ref b28), .val (.ref b46), .val (.int (1 : Int32)), .unset, .unset, .unset, .unset] [])) _
        refine XS.iconst X76.here hx rfl (hb hby at_122) ?_
        show Steps p.tables e below (T76.setTop (mkF m 123 #[.val (.long x0), .second, .val (.long x1), .second, .val (.int x2), .val (.int x3), .val (.int x4), .val (.ref li), .val (.ref lj), .val (.long vbb), .second, .val (.ref b17), .val (.ref b28), .val (.ref b46), .val (.int (1 : Int32)), .unset, .unset, .unset, .unset] [(.int (1 : Int32))])) _
        refine XS.goto X76.here hx rfl (pc0 := 123) (pc' := 127) rfl (hb hby at_123) (by decide) (by decide) ?_
        show Steps p.tables e below (T76.setTop (mkF m 127 #[.val (.long x0), .second, .val (.long x1), .second, .val (.int x2), .val (.int x3), .val (.int x4), .val (.ref li), .val (.ref lj), .val (.long vbb), .second, .val (.ref b17), .val (.ref b28), .val (.ref b46), .val (.int (1 : Int32)), .unset, .unset, .unset, .unset] [(.int (1 : Int32))])) _
        refine XS.istore X76.here hx rfl (hb hby at_127) rfl (l' := #[.val (.long x0), .second, .val (.long x1), .second, .val (.int x2), .val (.int x3), .val (.int x4), .val (.ref li), .val (.ref lj), .val (.long vbb), .second, .val (.ref b17), .val (.ref b28), .val (.ref b46), .val (.int (1 : Int32)), .val (.int (1 : Int32)), .unset, .unset, .unset]) rfl ?_
        show Steps p.tables e below (T76.setTop (mkF m 129 #[.val (.long x0), .second, .val (.long x1), .second, .val (.int x2), .val (.int x3), .val (.int x4), .val (.ref li), .val (.ref lj), .val (.long vbb), .second, .val (.ref b17), .val (.ref b28), .val (.ref b46), .val (.int (1 : Int32)), .val (.int (1 : Int32)), .unset, .unset, .unset] [])) _
        refine XS.aload X76.here hx rfl (hb hby at_129) rfl rfl ?_
        show Steps p.tables e below (T76.setTop (mkF m 131 #[.val (.long x0), .second, .val (.long x1), .second, .val (.int x2), .val (.int x3), .val (.int x4), .val (.ref li), .val (.ref lj), .val (.long vbb), .second, .val (.ref b17), .val (.ref b28), .val (.ref b46), .val (.int (1 : Int32)), .val (.int (1 : Int32)), .unset, .unset, .unset] [(.ref b17)])) _
        refine XS.aload X76.here hx rfl (hb hby at_131) rfl rfl ?_
        exact k)
      obtain ⟨cq79, kq79, qa79, qb79, qc79⟩ := isOf hZ e76 f62
      obtain ⟨_, _, ⟨T79, L79, k79, n79⟩, -, X79, ⟨Lc79, hQ79, l79, y79, z79⟩, st79⟩ := X76.virtualBack hx (y := (⟨"com/example/kvota/kvota/ResolvedQuota", "equals", "(Ljava/lang/Object;)Z"⟩ : MethodName)) (z := (⟨"com/example/kvota/kvota/ResolvedQuota", "equals", "(Ljava/lang/Object;)Z"⟩ : MethodName)) hown (mvT hZ (hw _ (List.mem_of_getElem? (i := 22) rfl))) (mvT hZ (hw _ (List.mem_of_getElem? (i := 23) rfl))) (notFace_of_selects (args := #[]) (mvT hZ (hw _ (List.mem_of_getElem? (i := 25) rfl)))) (mvT hZ (hw _ (List.mem_of_getElem? (i := 25) rfl))) (mvT hZ (hw _ (List.mem_of_getElem? (i := 24) rfl))) (by decide) (backOf (W := 0) (rmS l Z a0 hw [] b17 x0 li T60.heap n0 Z60 f62 f63 f64) hZ (hw _ (List.mem_of_getElem? (i := 26) rfl)) (hw _ (List.mem_of_getElem? (i := 11) rfl)) (by decide) (by decide)) qa79 qc79 (g := (mkF m 133 #[.val (.long x0), .second, .val (.long x1), .second, .val (.int x2), .val (.int x3), .val (.int x4), .val (.ref li), .val (.ref lj), .val (.long vbb), .second, .val (.ref b17), .val (.ref b28), .val (.ref b46), .val (.int (1 : Int32)), .val (.int (1 : Int32)), .unset, .unset, .unset] [(.ref b17), (.ref b17)])) rfl (by rw [hml]; rfl) (Steps.refl _) (argsL := [(.ref b17)]) (rest := []) (lenOf pd0_2 rfl) rfl (by show 2 * 0 + _ ≤ _; exact Nat.le_of_eq rfl) (hb hby at_133) (fun _ _ => ⟨rfl, e76, (by decide : 3 + 0 ≤ _), (by decide : 6 + 0 ≤ _)⟩)
      dsimp only [Pt.U, Pt.locs, Pt.cells, Pt.slots] at X79 l79 y79 z79 st79 hQ79
      subst l79 y79 z79
      obtain ⟨rfl, Nq79, e79⟩ := hQ79
      have N79 := Fr.app N76 Nq79
      have p80 : ∀ t, Steps p.tables e below (T79.setTop (mkF m 136 #[.val (.long x0), .second, .val (.long x1), .second, .val (.int x2), .val (.int x3), .val (.int x4), .val (.ref li), .val (.ref lj), .val (.long vbb), .second, .val (.ref b17), .val (.ref b28), .val (.ref b46), .val (.int (1 : Int32)), .val (.int (1 : Int32)), .unset, .unset, .unset] [(.int (1 : Int32))])) t → Steps p.tables e below (s₁.setTop (entryFrame m #[(.long x0), (.long x1), (.int x2), (.int x3), (.int x4)] maxLocals)) t := fun t k => p78 t (st79.trans k)
      have p81 : ∀ t, Steps p.tables e below (T79.setTop (mkF m 143 #[.val (.long x0), .second, .val (.long x1), .second, .val (.int x2), .val (.int x3), .val (.int x4), .val (.ref li), .val (.ref lj), .val (.long vbb), .second, .val (.ref b17), .val (.ref b28), .val (.ref b46), .val (.int (1 : Int32)), .val (.int (1 : Int32)), .unset, .unset, .unset] [(.ref b46), (.ref b17)])) t → Steps p.tables e below (s₁.setTop (entryFrame m #[(.long x0), (.long x1), (.int x2), (.int x3), (.int x4)] maxLocals)) t := fun t k => p80 t (by
        show Steps p.tables e below (T79.setTop (mkF m 136 #[.val (.long x0), .second, .val (.long x1), .second, .val (.int x2), .val (.int x3), .val (.int x4), .val (.ref li), .val (.ref lj), .val (.long vbb), .second, .val (.ref b17), .val (.ref b28), .val (.ref b46), .val (.int (1 : Int32)), .val (.int (1 : Int32)), .unset, .unset, .unset] [(.int (1 : Int32))])) _
        refine XS.ifNo X79.here hx rfl (hb hby at_136) rfl ((if0 _ _).trans (feq (by decide)).1) ?_
        show Steps p.tables e below (T79.setTop (mkF m 139 #[.val (.long x0), .second, .val (.long x1), .second, .val (.int x2), .val (.int x3), .val (.int x4), .val (.ref li), .val (.ref lj), .val (.long vbb), .second, .val (.ref b17), .val (.ref b28), .val (.ref b46), .val (.int (1 : Int32)), .val (.int (1 : Int32)), .unset, .unset, .unset] [])) _
        refine XS.aload X79.here hx rfl (hb hby at_139) rfl rfl ?_
        show Steps p.tables e below (T79.setTop (mkF m 141 #[.val (.long x0), .second, .val (.long x1), .second, .val (.int x2), .val (.int x3), .val (.int x4), .val (.ref li), .val (.ref lj), .val (.long vbb), .second, .val (.ref b17), .val (.ref b28), .val (.ref b46), .val (.int (1 : Int32)), .val (.int (1 : Int32)), .unset, .unset, .unset] [(.ref b17)])) _
        refine XS.aload X79.here hx rfl (hb hby at_141) rfl rfl ?_
        exact k)
      obtain ⟨cq82, kq82, qa82, qb82, qc82⟩ := isOf hZ e79 f62
      obtain ⟨_, _, ⟨T82, L82, k82, n82⟩, -, X82, ⟨Lc82, hQ82, l82, y82, z82⟩, st82⟩ := X79.virtualBack hx (y := (⟨"com/example/kvota/kvota/ResolvedQuota", "equals", "(Ljava/lang/Object;)Z"⟩ : MethodName)) (z := (⟨"com/example/kvota/kvota/ResolvedQuota", "equals", "(Ljava/lang/Object;)Z"⟩ : MethodName)) hown (mvT hZ (hw _ (List.mem_of_getElem? (i := 22) rfl))) (mvT hZ (hw _ (List.mem_of_getElem? (i := 23) rfl))) (notFace_of_selects (args := #[]) (mvT hZ (hw _ (List.mem_of_getElem? (i := 25) rfl)))) (mvT hZ (hw _ (List.mem_of_getElem? (i := 25) rfl))) (mvT hZ (hw _ (List.mem_of_getElem? (i := 24) rfl))) (by decide) (backOf (W := 0) (rmA l Z a0 hw [] b17 b46 x0 li x0 li T60.heap n0 Z60 f68 f63 f64 Fa60 Fb60) hZ (hw _ (List.mem_of_getElem? (i := 26) rfl)) (hw _ (List.mem_of_getElem? (i := 11) rfl)) (by decide) (by decide)) qa82 qc82 (g := (mkF m 143 #[.val (.long x0), .second, .val (.long x1), .second, .val (.int x2), .val (.int x3), .val (.int x4), .val (.ref li), .val (.ref lj), .val (.long vbb), .second, .val (.ref b17), .val (.ref b28), .val (.ref b46), .val (.int (1 : Int32)), .val (.int (1 : Int32)), .unset, .unset, .unset] [(.ref b46), (.ref b17)])) rfl (by rw [hml]; rfl) (Steps.refl _) (argsL := [(.ref b46)]) (rest := []) (lenOf pd0_2 rfl) rfl (by show 2 * 0 + _ ≤ _; exact Nat.le_of_eq rfl) (hb hby at_143) (fun _ _ => ⟨rfl, e79, (by decide : 3 + 0 ≤ _), (by decide : 6 + 0 ≤ _)⟩)
      dsimp only [Pt.U, Pt.locs, Pt.cells, Pt.slots] at X82 l82 y82 z82 st82 hQ82
      subst l82 y82 z82
      obtain ⟨rfl, Nq82, e82⟩ := hQ82
      have N82 := Fr.app N79 Nq82
      have p83 : ∀ t, Steps p.tables e below (T82.setTop (mkF m 146 #[.val (.long x0), .second, .val (.long x1), .second, .val (.int x2), .val (.int x3), .val (.int x4), .val (.ref li), .val (.ref lj), .val (.long vbb), .second, .val (.ref b17), .val (.ref b28), .val (.ref b46), .val (.int (1 : Int32)), .val (.int (1 : Int32)), .unset, .unset, .unset] [(.int (own_eqq x0 li x0 li))])) t → Steps p.tables e below (s₁.setTop (entryFrame m #[(.long x0), (.long x1), (.int x2), (.int x3), (.int x4)] maxLocals)) t := fun t k => p81 t (st82.trans k)
      have p84 : ∀ t, Steps p.tables e below (T82.setTop (mkF m 153 #[.val (.long x0), .second, .val (.long x1), .second, .val (.int x2), .val (.int x3), .val (.int x4), .val (.ref li), .val (.ref lj), .val (.long vbb), .second, .val (.ref b17), .val (.ref b28), .val (.ref b46), .val (.int (1 : Int32)), .val (.int (1 : Int32)), .unset, .unset, .unset] [(.ref b17), (.ref b46)])) t → Steps p.tables e below (s₁.setTop (entryFrame m #[(.long x0), (.long x1), (.int x2), (.int x3), (.int x4)] maxLocals)) t := fun t k => p83 t (by
        show Steps p.tables e below (T82.setTop (mkF m 146 #[.val (.long x0), .second, .val (.long x1), .second, .val (.int x2), .val (.int x3), .val (.int x4), .val (.ref li), .val (.ref lj), .val (.long vbb), .second, .val (.ref b17), .val (.ref b28), .val (.ref b46), .val (.int (1 : Int32)), .val (.int (1 : Int32)), .unset, .unset, .unset] [(.int (own_eqq x0 li x0 li))])) _
        refine XS.ifNo X82.here hx rfl (hb hby at_146) rfl ((if0 _ _).trans (feq (by rw [own_refl]; decide)).1) ?_
        show Steps p.tables e below (T82.setTop (mkF m 149 #[.val (.long x0), .second, .val (.long x1), .second, .val (.int x2), .val (.int x3), .val (.int x4), .val (.ref li), .val (.ref lj), .val (.long vbb), .second, .val (.ref b17), .val (.ref b28), .val (.ref b46), .val (.int (1 : Int32)), .val (.int (1 : Int32)), .unset, .unset, .unset] [])) _
        refine XS.aload X82.here hx rfl (hb hby at_149) rfl rfl ?_
        show Steps p.tables e below (T82.setTop (mkF m 151 #[.val (.long x0), .second, .val (.long x1), .second, .val (.int x2), .val (.int x3), .val (.int x4), .val (.ref li), .val (.ref lj), .val (.long vbb), .second, .val (.ref b17), .val (.ref b28), .val (.ref b46), .val (.int (1 : Int32)), .val (.int (1 : Int32)), .unset, .unset, .unset] [(.ref b46)])) _
        refine XS.aload X82.here hx rfl (hb hby at_151) rfl rfl ?_
        exact k)
      obtain ⟨cq85, kq85, qa85, qb85, qc85⟩ := isOf hZ e82 f68
      obtain ⟨_, _, ⟨T85, L85, k85, n85⟩, -, X85, ⟨Lc85, hQ85, l85, y85, z85⟩, st85⟩ := X82.virtualBack hx (y := (⟨"com/example/kvota/kvota/ResolvedQuota", "equals", "(Ljava/lang/Object;)Z"⟩ : MethodName)) (z := (⟨"com/example/kvota/kvota/ResolvedQuota", "equals", "(Ljava/lang/Object;)Z"⟩ : MethodName)) hown (mvT hZ (hw _ (List.mem_of_getElem? (i := 22) rfl))) (mvT hZ (hw _ (List.mem_of_getElem? (i := 23) rfl))) (notFace_of_selects (args := #[]) (mvT hZ (hw _ (List.mem_of_getElem? (i := 25) rfl)))) (mvT hZ (hw _ (List.mem_of_getElem? (i := 25) rfl))) (mvT hZ (hw _ (List.mem_of_getElem? (i := 24) rfl))) (by decide) (backOf (W := 0) (rmA l Z a0 hw [] b46 b17 x0 li x0 li T60.heap n0 Z60 f62 Fa60 Fb60 f63 f64) hZ (hw _ (List.mem_of_getElem? (i := 26) rfl)) (hw _ (List.mem_of_getElem? (i := 11) rfl)) (by decide) (by decide)) qa85 qc85 (g := (mkF m 153 #[.val (.long x0), .second, .val (.long x1), .second, .val (.int x2), .val (.int x3), .val (.int x4), .val (.ref li), .val (.ref lj), .val (.long vbb), .second, .val (.ref b17), .val (.ref b28), .val (.ref b46), .val (.int (1 : Int32)), .val (.int (1 : Int32)), .unset, .unset, .unset] [(.ref b17), (.ref b46)])) rfl (by rw [hml]; rfl) (Steps.refl _) (argsL := [(.ref b17)]) (rest := []) (lenOf pd0_2 rfl) rfl (by show 2 * 0 + _ ≤ _; exact Nat.le_of_eq rfl) (hb hby at_153) (fun _ _ => ⟨rfl, e82, (by decide : 3 + 0 ≤ _), (by decide : 6 + 0 ≤ _)⟩)
      dsimp only [Pt.U, Pt.locs, Pt.cells, Pt.slots] at X85 l85 y85 z85 st85 hQ85
      subst l85 y85 z85
      obtain ⟨rfl, Nq85, e85⟩ := hQ85
      have N85 := Fr.app N82 Nq85
      have p86 : ∀ t, Steps p.tables e below (T85.setTop (mkF m 156 #[.val (.long x0), .second, .val (.long x1), .second, .val (.int x2), .val (.int x3), .val (.int x4), .val (.ref li), .val (.ref lj), .val (.long vbb), .second, .val (.ref b17), .val (.ref b28), .val (.ref b46), .val (.int (1 : Int32)), .val (.int (1 : Int32)), .unset, .unset, .unset] [(.int (own_eqq x0 li x0 li))])) t → Steps p.tables e below (s₁.setTop (entryFrame m #[(.long x0), (.long x1), (.int x2), (.int x3), (.int x4)] maxLocals)) t := fun t k => p84 t (st85.trans k)
      have p87 : ∀ t, Steps p.tables e below (T85.setTop (mkF m 169 #[.val (.long x0), .second, .val (.long x1), .second, .val (.int x2), .val (.int x3), .val (.int x4), .val (.ref li), .val (.ref lj), .val (.long vbb), .second, .val (.ref b17), .val (.ref b28), .val (.ref b46), .val (.int (1 : Int32)), .val (.int (1 : Int32)), .val (.int (1 : Int32)), .unset, .unset] [.null, (.ref b17)])) t → Steps p.tables e below (s₁.setTop (entryFrame m #[(.long x0), (.long x1), (.int x2), (.int x3), (.int x4)] maxLocals)) t := fun t k => p86 t (by
        show Steps p.tables e below (T85.setTop (mkF m 156 #[.val (.long x0), .second, .val (.long x1), .second, .val (.int x2), .val (.int x3), .val (.int x4), .val (.ref li), .val (.ref lj), .val (.long vbb), .second, .val (.ref b17), .val (.ref b28), .val (.ref b46), .val (.int (1 : Int32)), .val (.int (1 : Int32)), .unset, .unset, .unset] [(.int (own_eqq x0 li x0 li))])) _
        refine XS.ifNo X85.here hx rfl (hb hby at_156) rfl ((if0 _ _).trans (feq (by rw [own_refl]; decide)).1) ?_
        show Steps p.tables e below (T85.setTop (mkF m 159 #[.val (.long x0), .second, .val (.long x1), .second, .val (.int x2), .val (.int x3), .val (.int x4), .val (.ref li), .val (.ref lj), .val (.long vbb), .second, .val (.ref b17), .val (.ref b28), .val (.ref b46), .val (.int (1 : Int32)), .val (.int (1 : Int32)), .unset, .unset, .unset] [])) _
        refine XS.iconst X85.here hx rfl (hb hby at_159) ?_
        show Steps p.tables e below (T85.setTop (mkF m 160 #[.val (.long x0), .second, .val (.long x1), .second, .val (.int x2), .val (.int x3), .val (.int x4), .val (.ref li), .val (.ref lj), .val (.long vbb), .second, .val (.ref b17), .val (.ref b28), .val (.ref b46), .val (.int (1 : Int32)), .val (.int (1 : Int32)), .unset, .unset, .unset] [(.int (1 : Int32))])) _
        refine XS.goto X85.here hx rfl (pc0 := 160) (pc' := 164) rfl (hb hby at_160) (by decide) (by decide) ?_
        show Steps p.tables e below (T85.setTop (mkF m 164 #[.val (.long x0), .second, .val (.long x1), .second, .val (.int x2), .val (.int x3), .val (.int x4), .val (.ref li), .val (.ref lj), .val (.long vbb), .second, .val (.ref b17), .val (.ref b28), .val (.ref b46), .val (.int (1 : Int32)), .val (.int (1 : Int32)), .unset, .unset, .unset] [(.int (1 : Int32))])) _
        refine XS.istore X85.here hx rfl (hb hby at_164) rfl (l' := #[.val (.long x0), .second, .val (.long x1), .second, .val (.int x2), .val (.int x3), .val (.int x4), .val (.ref li), .val (.ref lj), .val (.long vbb), .second, .val (.ref b17), .val (.ref b28), .val (.ref b46), .val (.int (1 : Int32)), .val (.int (1 : Int32)), .val (.int (1 : Int32)), .unset, .unset]) rfl ?_
        show Steps p.tables e below (T85.setTop (mkF m 166 #[.val (.long x0), .second, .val (.long x1), .second, .val (.int x2), .val (.int x3), .val (.int x4), .val (.ref li), .val (.ref lj), .val (.long vbb), .second, .val (.ref b17), .val (.ref b28), .val (.ref b46), .val (.int (1 : Int32)), .val (.int (1 : Int32)), .val (.int (1 : Int32)), .unset, .unset] [])) _
        refine XS.aload X85.here hx rfl (hb hby at_166) rfl rfl ?_
        show Steps p.tables e below (T85.setTop (mkF m 168 #[.val (.long x0), .second, .val (.long x1), .second, .val (.int x2), .val (.int x3), .val (.int x4), .val (.ref li), .val (.ref lj), .val (.long vbb), .second, .val (.ref b17), .val (.ref b28), .val (.ref b46), .val (.int (1 : Int32)), .val (.int (1 : Int32)), .val (.int (1 : Int32)), .unset, .unset] [(.ref b17)])) _
        refine XS.aconstNull X85.here hx rfl (hb hby at_168) ?_
        exact k)
      obtain ⟨cq88, kq88, qa88, qb88, qc88⟩ := isOf hZ e85 f62
      obtain ⟨_, _, ⟨T88, L88, k88, n88⟩, -, X88, ⟨Lc88, hQ88, l88, y88, z88⟩, st88⟩ := X85.virtualBack hx (y := (⟨"com/example/kvota/kvota/ResolvedQuota", "equals", "(Ljava/lang/Object;)Z"⟩ : MethodName)) (z := (⟨"com/example/kvota/kvota/ResolvedQuota", "equals", "(Ljava/lang/Object;)Z"⟩ : MethodName)) hown (mvT hZ (hw _ (List.mem_of_getElem? (i := 22) rfl))) (mvT hZ (hw _ (List.mem_of_getElem? (i := 23) rfl))) (notFace_of_selects (args := #[]) (mvT hZ (hw _ (List.mem_of_getElem? (i := 25) rfl)))) (mvT hZ (hw _ (List.mem_of_getElem? (i := 25) rfl))) (mvT hZ (hw _ (List.mem_of_getElem? (i := 24) rfl))) (by decide) (backOf (W := 0) (rmN l Z a0 hw [] b17  T60.heap n0 Z60 ) hZ (hw _ (List.mem_of_getElem? (i := 26) rfl)) (hw _ (List.mem_of_getElem? (i := 11) rfl)) (by decide) (by decide)) qa88 qc88 (g := (mkF m 169 #[.val (.long x0), .second, .val (.long x1), .second, .val (.int x2), .val (.int x3), .val (.int x4), .val (.ref li), .val (.ref lj), .val (.long vbb), .second, .val (.ref b17), .val (.ref b28), .val (.ref b46), .val (.int (1 : Int32)), .val (.int (1 : Int32)), .val (.int (1 : Int32)), .unset, .unset] [.null, (.ref b17)])) rfl (by rw [hml]; rfl) (Steps.refl _) (argsL := [.null]) (rest := []) (lenOf pd0_2 rfl) rfl (by show 2 * 0 + _ ≤ _; exact Nat.le_of_eq rfl) (hb hby at_169) (fun _ _ => ⟨rfl, e85, (by decide : 3 + 0 ≤ _), (by decide : 6 + 0 ≤ _)⟩)
      dsimp only [Pt.U, Pt.locs, Pt.cells, Pt.slots] at X88 l88 y88 z88 st88 hQ88
      subst l88 y88 z88
      obtain ⟨rfl, Nq88, e88⟩ := hQ88
      have N88 := Fr.app N85 Nq88
      have p89 : ∀ t, Steps p.tables e below (T88.setTop (mkF m 172 #[.val (.long x0), .second, .val (.long x1), .second, .val (.int x2), .val (.int x3), .val (.int x4), .val (.ref li), .val (.ref lj), .val (.long vbb), .second, .val (.ref b17), .val (.ref b28), .val (.ref b46), .val (.int (1 : Int32)), .val (.int (1 : Int32)), .val (.int (1 : Int32)), .unset, .unset] [(.int (0 : Int32))])) t → Steps p.tables e below (s₁.setTop (entryFrame m #[(.long x0), (.long x1), (.int x2), (.int x3), (.int x4)] maxLocals)) t := fun t k => p87 t (st88.trans k)
      have p90 : ∀ t, Steps p.tables e below (T88.setTop (mkF m 185 #[.val (.long x0), .second, .val (.long x1), .second, .val (.int x2), .val (.int x3), .val (.int x4), .val (.ref li), .val (.ref lj), .val (.long vbb), .second, .val (.ref b17), .val (.ref b28), .val (.ref b46), .val (.int (1 : Int32)), .val (.int (1 : Int32)), .val (.int (1 : Int32)), .val (.int (1 : Int32)), .unset] [(.long x0), (.ref b17)])) t → Steps p.tables e below (s₁.setTop (entryFrame m #[(.long x0), (.long x1), (.int x2), (.int x3), (.int x4)] maxLocals)) t := fun t k => p89 t (by
        show Steps p.tables e below (T88.setTop (mkF m 172 #[.val (.long x0), .second, .val (.long x1), .second, .val (.int x2), .val (.int x3), .val (.int x4), .val (.ref li), .val (.ref lj), .val (.long vbb), .second, .val (.ref b17), .val (.ref b28), .val (.ref b46), .val (.int (1 : Int32)), .val (.int (1 : Int32)), .val (.int (1 : Int32)), .unset, .unset] [(.int (0 : Int32))])) _
        refine XS.ifNo X88.here hx rfl (hb hby at_172) rfl ((if0 _ _).trans (teq (rfl)).2) ?_
        show Steps p.tables e below (T88.setTop (mkF m 175 #[.val (.long x0), .second, .val (.long x1), .second, .val (.int x2), .val (.int x3), .val (.int x4), .val (.ref li), .val (.ref lj), .val (.long vbb), .second, .val (.ref b17), .val (.ref b28), .val (.ref b46), .val (.int (1 : Int32)), .val (.int (1 : Int32)), .val (.int (1 : Int32)), .unset, .unset] [])) _
        refine XS.iconst X88.here hx rfl (hb hby at_175) ?_
        show Steps p.tables e below (T88.setTop (mkF m 176 #[.val (.long x0), .second, .val (.long x1), .second, .val (.int x2), .val (.int x3), .val (.int x4), .val (.ref li), .val (.ref lj), .val (.long vbb), .second, .val (.ref b17), .val (.ref b28), .val (.ref b46), .val (.int (1 : Int32)), .val (.int (1 : Int32)), .val (.int (1 : Int32)), .unset, .unset] [(.int (1 : Int32))])) _
        refine XS.goto X88.here hx rfl (pc0 := 176) (pc' := 180) rfl (hb hby at_176) (by decide) (by decide) ?_
        show Steps p.tables e below (T88.setTop (mkF m 180 #[.val (.long x0), .second, .val (.long x1), .second, .val (.int x2), .val (.int x3), .val (.int x4), .val (.ref li), .val (.ref lj), .val (.long vbb), .second, .val (.ref b17), .val (.ref b28), .val (.ref b46), .val (.int (1 : Int32)), .val (.int (1 : Int32)), .val (.int (1 : Int32)), .unset, .unset] [(.int (1 : Int32))])) _
        refine XS.istore X88.here hx rfl (hb hby at_180) rfl (l' := #[.val (.long x0), .second, .val (.long x1), .second, .val (.int x2), .val (.int x3), .val (.int x4), .val (.ref li), .val (.ref lj), .val (.long vbb), .second, .val (.ref b17), .val (.ref b28), .val (.ref b46), .val (.int (1 : Int32)), .val (.int (1 : Int32)), .val (.int (1 : Int32)), .val (.int (1 : Int32)), .unset]) rfl ?_
        show Steps p.tables e below (T88.setTop (mkF m 182 #[.val (.long x0), .second, .val (.long x1), .second, .val (.int x2), .val (.int x3), .val (.int x4), .val (.ref li), .val (.ref lj), .val (.long vbb), .second, .val (.ref b17), .val (.ref b28), .val (.ref b46), .val (.int (1 : Int32)), .val (.int (1 : Int32)), .val (.int (1 : Int32)), .val (.int (1 : Int32)), .unset] [])) _
        refine XS.aload X88.here hx rfl (hb hby at_182) rfl rfl ?_
        show Steps p.tables e below (T88.setTop (mkF m 184 #[.val (.long x0), .second, .val (.long x1), .second, .val (.int x2), .val (.int x3), .val (.int x4), .val (.ref li), .val (.ref lj), .val (.long vbb), .second, .val (.ref b17), .val (.ref b28), .val (.ref b46), .val (.int (1 : Int32)), .val (.int (1 : Int32)), .val (.int (1 : Int32)), .val (.int (1 : Int32)), .unset] [(.ref b17)])) _
        refine XS.lloadN X88.here hx rfl (hb hby at_184) rfl ?_
        exact k)
      obtain ⟨_, _, ⟨T91, L91, k91, n91⟩, -, X91, ⟨Lc91, hQ91, l91, y91, z91⟩, st91⟩ := Jvm.LawKit.callS X88 hx (y := (⟨"java/lang/Long", "valueOf", "(J)Ljava/lang/Long;"⟩ : MethodName)) hown (mvT hZ (hw _ (List.mem_of_getElem? (i := 29) rfl))) (mvT hZ (hw _ (List.mem_of_getElem? (i := 30) rfl))) (mvT hZ (hw _ (List.mem_of_getElem? (i := 31) rfl))) (mvT hZ (hw _ (List.mem_of_getElem? (i := 32) rfl))) (by decide) (backOf (W := 1) (rmV l Z a0 hw [] x0 a_C cc own_val T60.heap n0 Z60 f61 S_c B0) hZ (hw _ (List.mem_of_getElem? (i := 32) rfl)) (hw _ (List.mem_of_getElem? (i := 31) rfl)) (by decide) (by decide)) (g := (mkF m 185 #[.val (.long x0), .second, .val (.long x1), .second, .val (.int x2), .val (.int x3), .val (.int x4), .val (.ref li), .val (.ref lj), .val (.long vbb), .second, .val (.ref b17), .val (.ref b28), .val (.ref b46), .val (.int (1 : Int32)), .val (.int (1 : Int32)), .val (.int (1 : Int32)), .val (.int (1 : Int32)), .unset] [(.long x0), (.ref b17)])) rfl (by rw [hml]; rfl) (argsL := [(.long x0)]) (rest := [(.ref b17)]) (lenOf pd0_3 rfl) rfl (by show 2 * 0 + _ ≤ _; exact Nat.le_of_eq rfl) (hb hby at_185) (fun _ _ => ⟨rfl, e88, (by decide : 3 + 1 ≤ _), (by decide : 6 + 1 ≤ _)⟩)
      dsimp only [Pt.U, Pt.locs, Pt.cells, Pt.slots] at X91 l91 y91 z91 st91 hQ91
      subst l91 y91 z91
      obtain ⟨r91, rfl, Nq91, K91, EI91⟩ := hQ91
      have N91 := Fr.app N88 Nq91
      have f92 := f61.keep K91 (all0)
      have f93 := f62.keep K91
      have f94 := f63.keep K91 nin0
      have f95 := f64.keep K91 nin0
      have f96 := f65.keep K91
      have f97 := f66.keep K91 nin0
      have f98 := f67.keep K91 nin0
      have f99 := f68.keep K91
      have f100 := Fa60.keep K91 nin0
      have f101 := Fb60.keep K91 nin0
      have Z91 := Nat.le_trans Z60 K91.1
      have p102 : ∀ t, Steps p.tables e below (T91.setTop (mkF m 188 #[.val (.long x0), .second, .val (.long x1), .second, .val (.int x2), .val (.int x3), .val (.int x4), .val (.ref li), .val (.ref lj), .val (.long vbb), .second, .val (.ref b17), .val (.ref b28), .val (.ref b46), .val (.int (1 : Int32)), .val (.int (1 : Int32)), .val (.int (1 : Int32)), .val (.int (1 : Int32)), .unset] [(.ref r91), (.ref b17)])) t → Steps p.tables e below (s₁.setTop (entryFrame m #[(.long x0), (.long x1), (.int x2), (.int x3), (.int x4)] maxLocals)) t := fun t k => p90 t (st91 _ k)
      obtain ⟨cq103, kq103, qa103, qb103, qc103⟩ := isOf hZ rfl f93
      obtain ⟨_, _, ⟨T103, L103, k103, n103⟩, -, X103, ⟨Lc103, hQ103, l103, y103, z103⟩, st103⟩ := X91.virtualBack hx (y := (⟨"com/example/kvota/kvota/ResolvedQuota", "equals", "(Ljava/lang/Object;)Z"⟩ : MethodName)) (z := (⟨"com/example/kvota/kvota/ResolvedQuota", "equals", "(Ljava/lang/Object;)Z"⟩ : MethodName)) hown (mvT hZ (hw _ (List.mem_of_getElem? (i := 22) rfl))) (mvT hZ (hw _ (List.mem_of_getElem? (i := 23) rfl))) (notFace_of_selects (args := #[]) (mvT hZ (hw _ (List.mem_of_getElem? (i := 25) rfl)))) (mvT hZ (hw _ (List.mem_of_getElem? (i := 25) rfl))) (mvT hZ (hw _ (List.mem_of_getElem? (i := 24) rfl))) (by decide) (backOf (W := 0) (rmO l Z a0 hw [] b17 r91  T91.heap n0 Z91 EI91 hno) hZ (hw _ (List.mem_of_getElem? (i := 26) rfl)) (hw _ (List.mem_of_getElem? (i := 11) rfl)) (by decide) (by decide)) qa103 qc103 (g := (mkF m 188 #[.val (.long x0), .second, .val (.long x1), .second, .val (.int x2), .val (.int x3), .val (.int x4), .val (.ref li), .val (.ref lj), .val (.long vbb), .second, .val (.ref b17), .val (.ref b28), .val (.ref b46), .val (.int (1 : Int32)), .val (.int (1 : Int32)), .val (.int (1 : Int32)), .val (.int (1 : Int32)), .unset] [(.ref r91), (.ref b17)])) rfl (by rw [hml]; rfl) (Steps.refl _) (argsL := [(.ref r91)]) (rest := []) (lenOf pd0_2 rfl) rfl (by show 2 * 0 + _ ≤ _; exact Nat.le_of_eq rfl) (hb hby at_188) (fun _ _ => ⟨rfl, rfl, (by decide : 4 + 0 ≤ _), (by decide : 7 + 0 ≤ _)⟩)
      dsimp only [Pt.U, Pt.locs, Pt.cells, Pt.slots] at X103 l103 y103 z103 st103 hQ103
      subst l103 y103 z103
      obtain ⟨rfl, Nq103, e103⟩ := hQ103
      have N103 := Fr.app N91 Nq103
      have p104 : ∀ t, Steps p.tables e below (T103.setTop (mkF m 191 #[.val (.long x0), .second, .val (.long x1), .second, .val (.int x2), .val (.int x3), .val (.int x4), .val (.ref li), .val (.ref lj), .val (.long vbb), .second, .val (.ref b17), .val (.ref b28), .val (.ref b46), .val (.int (1 : Int32)), .val (.int (1 : Int32)), .val (.int (1 : Int32)), .val (.int (1 : Int32)), .unset] [(.int (0 : Int32))])) t → Steps p.tables e below (s₁.setTop (entryFrame m #[(.long x0), (.long x1), (.int x2), (.int x3), (.int x4)] maxLocals)) t := fun t k => p102 t (st103.trans k)
      have p105 : ∀ t, Steps p.tables e below (T103.setTop (mkF m 226 #[.val (.long x0), .second, .val (.long x1), .second, .val (.int x2), .val (.int x3), .val (.int x4), .val (.ref li), .val (.ref lj), .val (.long vbb), .second, .val (.ref b17), .val (.ref b28), .val (.ref b46), .val (.int (1 : Int32)), .val (.int (1 : Int32)), .val (.int (1 : Int32)), .val (.int (1 : Int32)), .val (.int (1 : Int32))] [(.int (1 : Int32))])) t → Steps p.tables e below (s₁.setTop (entryFrame m #[(.long x0), (.long x1), (.int x2), (.int x3), (.int x4)] maxLocals)) t := fun t k => p104 t (by
        show Steps p.tables e below (T103.setTop (mkF m 191 #[.val (.long x0), .second, .val (.long x1), .second, .val (.int x2), .val (.int x3), .val (.int x4), .val (.ref li), .val (.ref lj), .val (.long vbb), .second, .val (.ref b17), .val (.ref b28), .val (.ref b46), .val (.int (1 : Int32)), .val (.int (1 : Int32)), .val (.int (1 : Int32)), .val (.int (1 : Int32)), .unset] [(.int (0 : Int32))])) _
        refine XS.ifNo X103.here hx rfl (hb hby at_191) rfl ((if0 _ _).trans (teq (rfl)).2) ?_
        show Steps p.tables e below (T103.setTop (mkF m 194 #[.val (.long x0), .second, .val (.long x1), .second, .val (.int x2), .val (.int x3), .val (.int x4), .val (.ref li), .val (.ref lj), .val (.long vbb), .second, .val (.ref b17), .val (.ref b28), .val (.ref b46), .val (.int (1 : Int32)), .val (.int (1 : Int32)), .val (.int (1 : Int32)), .val (.int (1 : Int32)), .unset] [])) _
        refine XS.iconst X103.here hx rfl (hb hby at_194) ?_
        show Steps p.tables e below (T103.setTop (mkF m 195 #[.val (.long x0), .second, .val (.long x1), .second, .val (.int x2), .val (.int x3), .val (.int x4), .val (.ref li), .val (.ref lj), .val (.long vbb), .second, .val (.ref b17), .val (.ref b28), .val (.ref b46), .val (.int (1 : Int32)), .val (.int (1 : Int32)), .val (.int (1 : Int32)), .val (.int (1 : Int32)), .unset] [(.int (1 : Int32))])) _
        refine XS.goto X103.here hx rfl (pc0 := 195) (pc' := 199) rfl (hb hby at_195) (by decide) (by decide) ?_
        show Steps p.tables e below (T103.setTop (mkF m 199 #[.val (.long x0), .second, .val (.long x1), .second, .val (.int x2), .val (.int x3), .val (.int x4), .val (.ref li), .val (.ref lj), .val (.long vbb), .second, .val (.ref b17), .val (.ref b28), .val (.ref b46), .val (.int (1 : Int32)), .val (.int (1 : Int32)), .val (.int (1 : Int32)), .val (.int (1 : Int32)), .unset] [(.int (1 : Int32))])) _
        refine XS.istore X103.here hx rfl (hb hby at_199) rfl (l' := #[.val (.long x0), .second, .val (.long x1), .second, .val (.int x2), .val (.int x3), .val (.int x4), .val (.ref li), .val (.ref lj), .val (.long vbb), .second, .val (.ref b17), .val (.ref b28), .val (.ref b46), .val (.int (1 : Int32)), .val (.int (1 : Int32)), .val (.int (1 : Int32)), .val (.int (1 : Int32)), .val (.int (1 : Int32))]) rfl ?_
        show Steps p.tables e below (T103.setTop (mkF m 201 #[.val (.long x0), .second, .val (.long x1), .second, .val (.int x2), .val (.int x3), .val (.int x4), .val (.ref li), .val (.ref lj), .val (.long vbb), .second, .val (.ref b17), .val (.ref b28), .val (.ref b46), .val (.int (1 : Int32)), .val (.int (1 : Int32)), .val (.int (1 : Int32)), .val (.int (1 : Int32)), .val (.int (1 : Int32))] [])) _
        refine XS.iload X103.here hx rfl (hb hby at_201) rfl ?_
        show Steps p.tables e below (T103.setTop (mkF m 203 #[.val (.long x0), .second, .val (.long x1), .second, .val (.int x2), .val (.int x3), .val (.int x4), .val (.ref li), .val (.ref lj), .val (.long vbb), .second, .val (.ref b17), .val (.ref b28), .val (.ref b46), .val (.int (1 : Int32)), .val (.int (1 : Int32)), .val (.int (1 : Int32)), .val (.int (1 : Int32)), .val (.int (1 : Int32))] [(.int (1 : Int32))])) _
        refine XS.ifNo X103.here hx rfl (hb hby at_203) rfl ((if0 _ _).trans (feq (by decide)).1) ?_
        show Steps p.tables e below (T103.setTop (mkF m 206 #[.val (.long x0), .second, .val (.long x1), .second, .val (.int x2), .val (.int x3), .val (.int x4), .val (.ref li), .val (.ref lj), .val (.long vbb), .second, .val (.ref b17), .val (.ref b28), .val (.ref b46), .val (.int (1 : Int32)), .val (.int (1 : Int32)), .val (.int (1 : Int32)), .val (.int (1 : Int32)), .val (.int (1 : Int32))] [])) _
        refine XS.iload X103.here hx rfl (hb hby at_206) rfl ?_
        show Steps p.tables e below (T103.setTop (mkF m 208 #[.val (.long x0), .second, .val (.long x1), .second, .val (.int x2), .val (.int x3), .val (.int x4), .val (.ref li), .val (.ref lj), .val (.long vbb), .second, .val (.ref b17), .val (.ref b28), .val (.ref b46), .val (.int (1 : Int32)), .val (.int (1 : Int32)), .val (.int (1 : Int32)), .val (.int (1 : Int32)), .val (.int (1 : Int32))] [(.int (1 : Int32))])) _
        refine XS.ifNo X103.here hx rfl (hb hby at_208) rfl ((if0 _ _).trans (feq (by decide)).1) ?_
        show Steps p.tables e below (T103.setTop (mkF m 211 #[.val (.long x0), .second, .val (.long x1), .second, .val (.int x2), .val (.int x3), .val (.int x4), .val (.ref li), .val (.ref lj), .val (.long vbb), .second, .val (.ref b17), .val (.ref b28), .val (.ref b46), .val (.int (1 : Int32)), .val (.int (1 : Int32)), .val (.int (1 : Int32)), .val (.int (1 : Int32)), .val (.int (1 : Int32))] [])) _
        refine XS.iload X103.here hx rfl (hb hby at_211) rfl ?_
        show Steps p.tables e below (T103.setTop (mkF m 213 #[.val (.long x0), .second, .val (.long x1), .second, .val (.int x2), .val (.int x3), .val (.int x4), .val (.ref li), .val (.ref lj), .val (.long vbb), .second, .val (.ref b17), .val (.ref b28), .val (.ref b46), .val (.int (1 : Int32)), .val (.int (1 : Int32)), .val (.int (1 : Int32)), .val (.int (1 : Int32)), .val (.int (1 : Int32))] [(.int (1 : Int32))])) _
        refine XS.ifNo X103.here hx rfl (hb hby at_213) rfl ((if0 _ _).trans (feq (by decide)).1) ?_
        show Steps p.tables e below (T103.setTop (mkF m 216 #[.val (.long x0), .second, .val (.long x1), .second, .val (.int x2), .val (.int x3), .val (.int x4), .val (.ref li), .val (.ref lj), .val (.long vbb), .second, .val (.ref b17), .val (.ref b28), .val (.ref b46), .val (.int (1 : Int32)), .val (.int (1 : Int32)), .val (.int (1 : Int32)), .val (.int (1 : Int32)), .val (.int (1 : Int32))] [])) _
        refine XS.iload X103.here hx rfl (hb hby at_216) rfl ?_
        show Steps p.tables e below (T103.setTop (mkF m 218 #[.val (.long x0), .second, .val (.long x1), .second, .val (.int x2), .val (.int x3), .val (.int x4), .val (.ref li), .val (.ref lj), .val (.long vbb), .second, .val (.ref b17), .val (.ref b28), .val (.ref b46), .val (.int (1 : Int32)), .val (.int (1 : Int32)), .val (.int (1 : Int32)), .val (.int (1 : Int32)), .val (.int (1 : Int32))] [(.int (1 : Int32))])) _
        refine XS.ifNo X103.here hx rfl (hb hby at_218) rfl ((if0 _ _).trans (feq (by decide)).1) ?_
        show Steps p.tables e below (T103.setTop (mkF m 221 #[.val (.long x0), .second, .val (.long x1), .second, .val (.int x2), .val (.int x3), .val (.int x4), .val (.ref li), .val (.ref lj), .val (.long vbb), .second, .val (.ref b17), .val (.ref b28), .val (.ref b46), .val (.int (1 : Int32)), .val (.int (1 : Int32)), .val (.int (1 : Int32)), .val (.int (1 : Int32)), .val (.int (1 : Int32))] [])) _
        refine XS.iconst X103.here hx rfl (hb hby at_221) ?_
        show Steps p.tables e below (T103.setTop (mkF m 222 #[.val (.long x0), .second, .val (.long x1), .second, .val (.int x2), .val (.int x3), .val (.int x4), .val (.ref li), .val (.ref lj), .val (.long vbb), .second, .val (.ref b17), .val (.ref b28), .val (.ref b46), .val (.int (1 : Int32)), .val (.int (1 : Int32)), .val (.int (1 : Int32)), .val (.int (1 : Int32)), .val (.int (1 : Int32))] [(.int (1 : Int32))])) _
        refine XS.goto X103.here hx rfl (pc0 := 222) (pc' := 226) rfl (hb hby at_222) (by decide) (by decide) ?_
        exact k)
      obtain ⟨fs, hr, hrun, hended, hW, hsame⟩ := X103.leave (v := some (.int (1 : Int32))) (fun h => by rw [Bd.returns] at h; cases h)
      refine ⟨_, _, p105 _ ?_, hrun, hended, _, _, rfl, ?_, ⟨_, rfl⟩, hW, hsame.mono (by decide) (by decide)⟩
      · show Steps p.tables e below (T103.setTop (mkF m 226 #[.val (.long x0), .second, .val (.long x1), .second, .val (.int x2), .val (.int x3), .val (.int x4), .val (.ref li), .val (.ref lj), .val (.long vbb), .second, .val (.ref b17), .val (.ref b28), .val (.ref b46), .val (.int (1 : Int32)), .val (.int (1 : Int32)), .val (.int (1 : Int32)), .val (.int (1 : Int32)), .val (.int (1 : Int32))] [(.int (1 : Int32))])) _
        exact retN X103 hx (t := .boolean) Bd.returns (by simp) (hb hby at_226) hr
      · show Q0 Z x0 x1 x2 x3 x4 a_USER_CLIENT a_DEFAULT_USER_CLIENT a_USER a_DEFAULT_USER a_USER_DEFAULT_CLIENT a_CLIENT a_DEFAULT_USER_DEFAULT_CLIENT a_DEFAULT_CLIENT a_C cc own_val h0 n0 _ T103.heap _
        rw [e103]
        exact ⟨rfl, N103⟩
    · have p106 : ∀ t, Steps p.tables e below (T60.setTop (mkF m 102 #[.val (.long x0), .second, .val (.long x1), .second, .val (.int x2), .val (.int x3), .val (.int x4), .val (.ref li), .val (.ref lj), .val (.long vbb), .second, .val (.ref b17), .val (.ref b28), .val (.ref b46), .val (.int (0 : Int32)), .unset, .unset, .unset, .unset] [(.ref b28), (.ref b17)])) t → Steps p.tables e below (s₁.setTop (entryFrame m #[(.long x0), (.long x1), (.int x2), (.int x3), (.int x4)] maxLocals)) t := fun t k => p71 t (by
        show Steps p.tables e below (T60.setTop (mkF m 88 #[.val (.long x0), .second, .val (.long x1), .second, .val (.int x2), .val (.int x3), .val (.int x4), .val (.ref li), .val (.ref lj), .val (.long vbb), .second, .val (.ref b17), .val (.ref b28), .val (.ref b46), .unset, .unset, .unset, .unset, .unset] [(.ref lj), (.ref li)])) _
        refine Jvm.RoadKit.acmp (g := (mkF m 88 #[.val (.long x0), .second, .val (.long x1), .second, .val (.int x2), .val (.int x3), .val (.int x4), .val (.ref li), .val (.ref lj), .val (.long vbb), .second, .val (.ref b17), .val (.ref b28), .val (.ref b46), .unset, .unset, .unset, .unset, .unset] [(.ref lj), (.ref li)])) X60 hx rfl rfl rfl (pc0 := 88) (pc' := 95) (same := false) rfl (hb hby at_88) rfl (decide_eq_false fun q => hc88 (Value.ref.inj q)) (by decide) (by decide) ?_
        show Steps p.tables e below (T60.setTop (mkF m 95 #[.val (.long x0), .second, .val (.long x1), .second, .val (.int x2), .val (.int x3), .val (.int x4), .val (.ref li), .val (.ref lj), .val (.long vbb), .second, .val (.ref b17), .val (.ref b28), .val (.ref b46), .unset, .unset, .unset, .unset, .unset] [])) _
        refine XS.iconst X60.here hx rfl (hb hby at_95) ?_
        show Steps p.tables e below (T60.setTop (mkF m 96 #[.val (.long x0), .second, .val (.long x1), .second, .val (.int x2), .val (.int x3), .val (.int x4), .val (.ref li), .val (.ref lj), .val (.long vbb), .second, .val (.ref b17), .val (.ref b28), .val (.ref b46), .unset, .unset, .unset, .unset, .unset] [(.int (0 : Int32))])) _
        refine XS.istore X60.here hx rfl (hb hby at_96) rfl (l' := #[.val (.long x0), .second, .val (.long x1), .second, .val (.int x2), .val (.int x3), .val (.int x4), .val (.ref li), .val (.ref lj), .val (.long vbb), .second, .val (.ref b17), .val (.ref b28), .val (.ref b46), .val (.int (0 : Int32)), .unset, .unset, .unset, .unset]) rfl ?_
        show Steps p.tables e below (T60.setTop (mkF m 98 #[.val (.long x0), .second, .val (.long x1), .second, .val (.int x2), .val (.int x3), .val (.int x4), .val (.ref li), .val (.ref lj), .val (.long vbb), .second, .val (.ref b17), .val (.ref b28), .val (.ref b46), .val (.int (0 : Int32)), .unset, .unset, .unset, .unset] [])) _
        refine XS.aload X60.here hx rfl (hb hby at_98) rfl rfl ?_
        show Steps p.tables e below (T60.setTop (mkF m 100 #[.val (.long x0), .second, .val (.long x1), .second, .val (.int x2), .val (.int x3), .val (.int x4), .val (.ref li), .val (.ref lj), .val (.long vbb), .second, .val (.ref b17), .val (.ref b28), .val (.ref b46), .val (.int (0 : Int32)), .unset, .unset, .unset, .unset] [(.ref b17)])) _
        refine XS.aload X60.here hx rfl (hb hby at_100) rfl rfl ?_
        exact k)
      obtain ⟨cq107, kq107, qa107, qb107, qc107⟩ := isOf hZ rfl f62
      obtain ⟨_, _, ⟨T107, L107, k107, n107⟩, -, X107, ⟨Lc107, hQ107, l107, y107, z107⟩, st107⟩ := X60.virtualBack hx (y := (⟨"com/example/kvota/kvota/ResolvedQuota", "equals", "(Ljava/lang/Object;)Z"⟩ : MethodName)) (z := (⟨"com/example/kvota/kvota/ResolvedQuota", "equals", "(Ljava/lang/Object;)Z"⟩ : MethodName)) hown (mvT hZ (hw _ (List.mem_of_getElem? (i := 22) rfl))) (mvT hZ (hw _ (List.mem_of_getElem? (i := 23) rfl))) (notFace_of_selects (args := #[]) (mvT hZ (hw _ (List.mem_of_getElem? (i := 25) rfl)))) (mvT hZ (hw _ (List.mem_of_getElem? (i := 25) rfl))) (mvT hZ (hw _ (List.mem_of_getElem? (i := 24) rfl))) (by decide) (backOf (W := 0) (rmA l Z a0 hw [] b17 b28 x0 li vbb lj T60.heap n0 Z60 f65 f63 f64 f66 f67) hZ (hw _ (List.mem_of_getElem? (i := 26) rfl)) (hw _ (List.mem_of_getElem? (i := 11) rfl)) (by decide) (by decide)) qa107 qc107 (g := (mkF m 102 #[.val (.long x0), .second, .val (.long x1), .second, .val (.int x2), .val (.int x3), .val (.int x4), .val (.ref li), .val (.ref lj), .val (.long vbb), .second, .val (.ref b17), .val (.ref b28), .val (.ref b46), .val (.int (0 : Int32)), .unset, .unset, .unset, .unset] [(.ref b28), (.ref b17)])) rfl (by rw [hml]; rfl) (Steps.refl _) (argsL := [(.ref b28)]) (rest := []) (lenOf pd0_2 rfl) rfl (by show 2 * 0 + _ ≤ _; exact Nat.le_of_eq rfl) (hb hby at_102) (fun _ _ => ⟨rfl, rfl, (by decide : 3 + 0 ≤ _), (by decide : 6 + 0 ≤ _)⟩)
      dsimp only [Pt.U, Pt.locs, Pt.cells, Pt.slots] at X107 l107 y107 z107 st107 hQ107
      subst l107 y107 z107
      obtain ⟨rfl, Nq107, e107⟩ := hQ107
      have N107 := Fr.app N60 Nq107
      have p108 : ∀ t, Steps p.tables e below (T107.setTop (mkF m 105 #[.val (.long x0), .second, .val (.long x1), .second, .val (.int x2), .val (.int x3), .val (.int x4), .val (.ref li), .val (.ref lj), .val (.long vbb), .second, .val (.ref b17), .val (.ref b28), .val (.ref b46), .val (.int (0 : Int32)), .unset, .unset, .unset, .unset] [(.int (own_eqq x0 li vbb lj))])) t → Steps p.tables e below (s₁.setTop (entryFrame m #[(.long x0), (.long x1), (.int x2), (.int x3), (.int x4)] maxLocals)) t := fun t k => p106 t (st107.trans k)
      have p109 : ∀ t, Steps p.tables e below (T107.setTop (mkF m 114 #[.val (.long x0), .second, .val (.long x1), .second, .val (.int x2), .val (.int x3), .val (.int x4), .val (.ref li), .val (.ref lj), .val (.long vbb), .second, .val (.ref b17), .val (.ref b28), .val (.ref b46), .val (.int (0 : Int32)), .unset, .unset, .unset, .unset] [(.ref b17), (.ref b28)])) t → Steps p.tables e below (s₁.setTop (entryFrame m #[(.long x0), (.long x1), (.int x2), (.int x3), (.int x4)] maxLocals)) t := fun t k => p108 t (by
        show Steps p.tables e below (T107.setTop (mkF m 105 #[.val (.long x0), .second, .val (.long x1), .second, .val (.int x2), .val (.int x3), .val (.int x4), .val (.ref li), .val (.ref lj), .val (.long vbb), .second, .val (.ref b17), .val (.ref b28), .val (.ref b46), .val (.int (0 : Int32)), .unset, .unset, .unset, .unset] [(.int (own_eqq x0 li vbb lj))])) _
        refine XS.iload X107.here hx rfl (hb hby at_105) rfl ?_
        show Steps p.tables e below (T107.setTop (mkF m 107 #[.val (.long x0), .second, .val (.long x1), .second, .val (.int x2), .val (.int x3), .val (.int x4), .val (.ref li), .val (.ref lj), .val (.long vbb), .second, .val (.ref b17), .val (.ref b28), .val (.ref b46), .val (.int (0 : Int32)), .unset, .unset, .unset, .unset] [(.int (0 : Int32)), (.int (own_eqq x0 li vbb lj))])) _
        refine XS.icmpNo X107.here hx rfl (hb hby at_107) rfl ((teq (by unfold own_eqq; rw [if_pos (own_swap.mp hc81), if_neg (fun q => hc88 (Eq.symm q))])).2) ?_
        show Steps p.tables e below (T107.setTop (mkF m 110 #[.val (.long x0), .second, .val (.long x1), .second, .val (.int x2), .val (.int x3), .val (.int x4), .val (.ref li), .val (.ref lj), .val (.long vbb), .second, .val (.ref b17), .val (.ref b28), .val (.ref b46), .val (.int (0 : Int32)), .unset, .unset, .unset, .unset] [])) _
        refine XS.aload X107.here hx rfl (hb hby at_110) rfl rfl ?_
        show Steps p.tables e below (T107.setTop (mkF m 112 #[.val (.long x0), .second, .val (.long x1), .second, .val (.int x2), .val (.int x3), .val (.int x4), .val (.ref li), .val (.ref lj), .val (.long vbb), .second, .val (.ref b17), .val (.ref b28), .val (.ref b46), .val (.int (0 : Int32)), .unset, .unset, .unset, .unset] [(.ref b28)])) _
        refine XS.aload X107.here hx rfl (hb hby at_112) rfl rfl ?_
        exact k)
      obtain ⟨cq110, kq110, qa110, qb110, qc110⟩ := isOf hZ e107 f65
      obtain ⟨_, _, ⟨T110, L110, k110, n110⟩, -, X110, ⟨Lc110, hQ110, l110, y110, z110⟩, st110⟩ := X107.virtualBack hx (y := (⟨"com/example/kvota/kvota/ResolvedQuota", "equals", "(Ljava/lang/Object;)Z"⟩ : MethodName)) (z := (⟨"com/example/kvota/kvota/ResolvedQuota", "equals", "(Ljava/lang/Object;)Z"⟩ : MethodName)) hown (mvT hZ (hw _ (List.mem_of_getElem? (i := 22) rfl))) (mvT hZ (hw _ (List.mem_of_getElem? (i := 23) rfl))) (notFace_of_selects (args := #[]) (mvT hZ (hw _ (List.mem_of_getElem? (i := 25) rfl)))) (mvT hZ (hw _ (List.mem_of_getElem? (i := 25) rfl))) (mvT hZ (hw _ (List.mem_of_getElem? (i := 24) rfl))) (by decide) (backOf (W := 0) (rmA l Z a0 hw [] b28 b17 vbb lj x0 li T60.heap n0 Z60 f62 f66 f67 f63 f64) hZ (hw _ (List.mem_of_getElem? (i := 26) rfl)) (hw _ (List.mem_of_getElem? (i := 11) rfl)) (by decide) (by decide)) qa110 qc110 (g := (mkF m 114 #[.val (.long x0), .second, .val (.long x1), .second, .val (.int x2), .val (.int x3), .val (.int x4), .val (.ref li), .val (.ref lj), .val (.long vbb), .second, .val (.ref b17), .val (.ref b28), .val (.ref b46), .val (.int (0 : Int32)), .unset, .unset, .unset, .unset] [(.ref b17), (.ref b28)])) rfl (by rw [hml]; rfl) (Steps.refl _) (argsL := [(.ref b17)]) (rest := []) (lenOf pd0_2 rfl) rfl (by show 2 * 0 + _ ≤ _; exact Nat.le_of_eq rfl) (hb hby at_114) (fun _ _ => ⟨rfl, e107, (by decide : 3 + 0 ≤ _), (by decide : 6 + 0 ≤ _)⟩)
      dsimp only [Pt.U, Pt.locs, Pt.cells, Pt.slots] at X110 l110 y110 z110 st110 hQ110
      subst l110 y110 z110
      obtain ⟨rfl, Nq110, e110⟩ := hQ110
      have N110 := Fr.app N107 Nq110
      have p111 : ∀ t, Steps p.tables e below (T110.setTop (mkF m 117 #[.val (.long x0), .second, .val (.long x1), .second, .val (.int x2), .val (.int x3), .val (.int x4), .val (.ref li), .val (.ref lj), .val (.long vbb), .second, .val (.ref b17), .val (.ref b28), .val (.ref b46), .val (.int (0 : Int32)), .unset, .unset, .unset, .unset] [(.int (own_eqq vbb lj x0 li))])) t → Steps p.tables e below (s₁.setTop (entryFrame m #[(.long x0), (.long x1), (.int x2), (.int x3), (.int x4)] maxLocals)) t := fun t k => p109 t (st110.trans k)
      have p112 : ∀ t, Steps p.tables e below (T110.setTop (mkF m 133 #[.val (.long x0), .second, .val (.long x1), .second, .val (.int x2), .val (.int x3), .val (.int x4), .val (.ref li), .val (.ref lj), .val (.long vbb), .second, .val (.ref b17), .val (.ref b28), .val (.ref b46), .val (.int (0 : Int32)), .val (.int (1 : Int32)), .unset, .unset, .unset] [(.ref b17), (.ref b17)])) t → Steps p.tables e below (s₁.setTop (entryFrame m #[(.long x0), (.long x1), (.int x2), (.int x3), (.int x4)] maxLocals)) t := fun t k => p111 t (by
        show Steps p.tables e below (T110.setTop (mkF m 117 #[.val (.long x0), .second, .val (.long x1), .second, .val (.int x2), .val (.int x3), .val (.int x4), .val (.ref li), .val (.ref lj), .val (.long vbb), .second, .val (.ref b17), .val (.ref b28), .val (.ref b46), .val (.int (0 : Int32)), .unset, .unset, .unset, .unset] [(.int (own_eqq vbb lj x0 li))])) _
        refine XS.iload X110.here hx rfl (hb hby at_117) rfl ?_
        show Steps p.tables e below (T110.setTop (mkF m 119 #[.val (.long x0), .second, .val (.long x1), .second, .val (.int x2), .val (.int x3), .val (.int x4), .val (.ref li), .val (.ref lj), .val (.long vbb), .second, .val (.ref b17), .val (.ref b28), .val (.ref b46), .val (.int (0 : Int32)), .unset, .unset, .unset, .unset] [(.int (0 : Int32)), (.int (own_eqq vbb lj x0 li))])) _
        refine XS.icmpNo X110.here hx rfl (hb hby at_119) rfl ((teq (by unfold own_eqq; rw [if_pos hc81, if_neg hc88])).2) ?_
        show Steps p.tables e below (T110.setTop (mkF m 122 #[.val (.long x0), .second, .val (.long x1), .second, .val (.int x2), .val (.int x3), .val (.int x4), .val (.ref li), .val (.ref lj), .val (.long vbb), .second, .val (.ref b17), .val (.ref b28), .val (.ref b46), .val (.int (0 : Int32)), .unset, .unset, .unset, .unset] [])) _
        refine XS.iconst X110.here hx rfl (hb hby at_122) ?_
        show Steps p.tables e below (T110.setTop (mkF m 123 #[.val (.long x0), .second, .val (.long x1), .second, .val (.int x2), .val (.int x3), .val (.int x4), .val (.ref li), .val (.ref lj), .val (.long vbb), .second, .val (.ref b17), .val (.ref b28), .val (.ref b46), .val (.int (0 : Int32)), .unset, .unset, .unset, .unset] [(.int (1 : Int32))])) _
        refine XS.goto X110.here hx rfl (pc0 := 123) (pc' := 127) rfl (hb hby at_123) (by decide) (by decide) ?_
        show Steps p.tables e below (T110.setTop (mkF m 127 #[.val (.long x0), .second, .val (.long x1), .second, .val (.int x2), .val (.int x3), .val (.int x4), .val (.ref li), .val (.ref lj), .val (.long vbb), .second, .val (.ref b17), .val (.ref b28), .val (.ref b46), .val (.int (0 : Int32)), .unset, .unset, .unset, .unset] [(.int (1 : Int32))])) _
        refine XS.istore X110.here hx rfl (hb hby at_127) rfl (l' := #[.val (.long x0), .second, .val (.long x1), .second, .val (.int x2), .val (.int x3), .val (.int x4), .val (.ref li), .val (.ref lj), .val (.long vbb), .second, .val (.ref b17), .val (.ref b28), .val (.ref b46), .val (.int (0 : Int32)), .val (.int (1 : Int32)), .unset, .unset, .unset]) rfl ?_
        show Steps p.tables e below (T110.setTop (mkF m 129 #[.val (.long x0), .second, .val (.long x1), .second, .val (.int x2), .val (.int x3), .val (.int x4), .val (.ref li), .val (.ref lj), .val (.long vbb), .second, .val (.ref b17), .val (.ref b28), .val (.ref b46), .val (.int (0 : Int32)), .val (.int (1 : Int32)), .unset, .unset, .unset] [])) _
        refine XS.aload X110.here hx rfl (hb hby at_129) rfl rfl ?_
        show Steps p.tables e below (T110.setTop (mkF m 131 #[.val (.long x0), .second, .val (.long x1), .second, .val (.int x2), .val (.int x3), .val (.int x4), .val (.ref li), .val (.ref lj), .val (.long vbb), .second, .val (.ref b17), .val (.ref b28), .val (.ref b46), .val (.int (0 : Int32)), .val (.int (1 : Int32)), .unset, .unset, .unset] [(.ref b17)])) _
        refine XS.aload X110.here hx rfl (hb hby at_131) rfl rfl ?_
        exact k)
      obtain ⟨cq113, kq113, qa113, qb113, qc113⟩ := isOf hZ e110 f62
      obtain ⟨_, _, ⟨T113, L113, k113, n113⟩, -, X113, ⟨Lc113, hQ113, l113, y113, z113⟩, st113⟩ := X110.virtualBack hx (y := (⟨"com/example/kvota/kvota/ResolvedQuota", "equals", "(Ljava/lang/Object;)Z"⟩ : MethodName)) (z := (⟨"com/example/kvota/kvota/ResolvedQuota", "equals", "(Ljava/lang/Object;)Z"⟩ : MethodName)) hown (mvT hZ (hw _ (List.mem_of_getElem? (i := 22) rfl))) (mvT hZ (hw _ (List.mem_of_getElem? (i := 23) rfl))) (notFace_of_selects (args := #[]) (mvT hZ (hw _ (List.mem_of_getElem? (i := 25) rfl)))) (mvT hZ (hw _ (List.mem_of_getElem? (i := 25) rfl))) (mvT hZ (hw _ (List.mem_of_getElem? (i := 24) rfl))) (by decide) (backOf (W := 0) (rmS l Z a0 hw [] b17 x0 li T60.heap n0 Z60 f62 f63 f64) hZ (hw _ (List.mem_of_getElem? (i := 26) rfl)) (hw _ (List.mem_of_getElem? (i := 11) rfl)) (by decide) (by decide)) qa113 qc113 (g := (mkF m 133 #[.val (.long x0), .second, .val (.long x1), .second, .val (.int x2), .val (.int x3), .val (.int x4), .val (.ref li), .val (.ref lj), .val (.long vbb), .second, .val (.ref b17), .val (.ref b28), .val (.ref b46), .val (.int (0 : Int32)), .val (.int (1 : Int32)), .unset, .unset, .unset] [(.ref b17), (.ref b17)])) rfl (by rw [hml]; rfl) (Steps.refl _) (argsL := [(.ref b17)]) (rest := []) (lenOf pd0_2 rfl) rfl (by show 2 * 0 + _ ≤ _; exact Nat.le_of_eq rfl) (hb hby at_133) (fun _ _ => ⟨rfl, e110, (by decide : 3 + 0 ≤ _), (by decide : 6 + 0 ≤ _)⟩)
      dsimp only [Pt.U, Pt.locs, Pt.cells, Pt.slots] at X113 l113 y113 z113 st113 hQ113
      subst l113 y113 z113
      obtain ⟨rfl, Nq113, e113⟩ := hQ113
      have N113 := Fr.app N110 Nq113
      have p114 : ∀ t, Steps p.tables e below (T113.setTop (mkF m 136 #[.val (.long x0), .second, .val (.long x1), .second, .val (.int x2), .val (.int x3), .val (.int x4), .val (.ref li), .val (.ref lj), .val (.long vbb), .second, .val (.ref b17), .val (.ref b28), .val (.ref b46), .val (.int (0 : Int32)), .val (.int (1 : Int32)), .unset, .unset, .unset] [(.int (1 : Int32))])) t → Steps p.tables e below (s₁.setTop (entryFrame m #[(.long x0), (.long x1), (.int x2), (.int x3), (.int x4)] maxLocals)) t := fun t k => p112 t (st113.trans k)
      have p115 : ∀ t, Steps p.tables e below (T113.setTop (mkF m 143 #[.val (.long x0), .second, .val (.long x1), .second, .val (.int x2), .val (.int x3), .val (.int x4), .val (.ref li), .val (.ref lj), .val (.long vbb), .second, .val (.ref b17), .val (.ref b28), .val (.ref b46), .val (.int (0 : Int32)), .val (.int (1 : Int32)), .unset, .unset, .unset] [(.ref b46), (.ref b17)])) t → Steps p.tables e below (s₁.setTop (entryFrame m #[(.long x0), (.long x1), (.int x2), (.int x3), (.int x4)] maxLocals)) t := fun t k => p114 t (by
        show Steps p.tables e below (T113.setTop (mkF m 136 #[.val (.long x0), .second, .val (.long x1), .second, .val (.int x2), .val (.int x3), .val (.int x4), .val (.ref li), .val (.ref lj), .val (.long vbb), .second, .val (.ref b17), .val (.ref b28), .val (.ref b46), .val (.int (0 : Int32)), .val (.int (1 : Int32)), .unset, .unset, .unset] [(.int (1 : Int32))])) _
        refine XS.ifNo X113.here hx rfl (hb hby at_136) rfl ((if0 _ _).trans (feq (by decide)).1) ?_
        show Steps p.tables e below (T113.setTop (mkF m 139 #[.val (.long x0), .second, .val (.long x1), .second, .val (.int x2), .val (.int x3), .val (.int x4), .val (.ref li), .val (.ref lj), .val (.long vbb), .second, .val (.ref b17), .val (.ref b28), .val (.ref b46), .val (.int (0 : Int32)), .val (.int (1 : Int32)), .unset, .unset, .unset] [])) _
        refine XS.aload X113.here hx rfl (hb hby at_139) rfl rfl ?_
        show Steps p.tables e below (T113.setTop (mkF m 141 #[.val (.long x0), .second, .val (.long x1), .second, .val (.int x2), .val (.int x3), .val (.int x4), .val (.ref li), .val (.ref lj), .val (.long vbb), .second, .val (.ref b17), .val (.ref b28), .val (.ref b46), .val (.int (0 : Int32)), .val (.int (1 : Int32)), .unset, .unset, .unset] [(.ref b17)])) _
        refine XS.aload X113.here hx rfl (hb hby at_141) rfl rfl ?_
        exact k)
      obtain ⟨cq116, kq116, qa116, qb116, qc116⟩ := isOf hZ e113 f62
      obtain ⟨_, _, ⟨T116, L116, k116, n116⟩, -, X116, ⟨Lc116, hQ116, l116, y116, z116⟩, st116⟩ := X113.virtualBack hx (y := (⟨"com/example/kvota/kvota/ResolvedQuota", "equals", "(Ljava/lang/Object;)Z"⟩ : MethodName)) (z := (⟨"com/example/kvota/kvota/ResolvedQuota", "equals", "(Ljava/lang/Object;)Z"⟩ : MethodName)) hown (mvT hZ (hw _ (List.mem_of_getElem? (i := 22) rfl))) (mvT hZ (hw _ (List.mem_of_getElem? (i := 23) rfl))) (notFace_of_selects (args := #[]) (mvT hZ (hw _ (List.mem_of_getElem? (i := 25) rfl)))) (mvT hZ (hw _ (List.mem_of_getElem? (i := 25) rfl))) (mvT hZ (hw _ (List.mem_of_getElem? (i := 24) rfl))) (by decide) (backOf (W := 0) (rmA l Z a0 hw [] b17 b46 x0 li x0 li T60.heap n0 Z60 f68 f63 f64 Fa60 Fb60) hZ (hw _ (List.mem_of_getElem? (i := 26) rfl)) (hw _ (List.mem_of_getElem? (i := 11) rfl)) (by decide) (by decide)) qa116 qc116 (g := (mkF m 143 #[.val (.long x0), .second, .val (.long x1), .second, .val (.int x2), .val (.int x3), .val (.int x4), .val (.ref li), .val (.ref lj), .val (.long vbb), .second, .val (.ref b17), .val (.ref b28), .val (.ref b46), .val (.int (0 : Int32)), .val (.int (1 : Int32)), .unset, .unset, .unset] [(.ref b46), (.ref b17)])) rfl (by rw [hml]; rfl) (Steps.refl _) (argsL := [(.ref b46)]) (rest := []) (lenOf pd0_2 rfl) rfl (by show 2 * 0 + _ ≤ _; exact Nat.le_of_eq rfl) (hb hby at_143) (fun _ _ => ⟨rfl, e113, (by decide : 3 + 0 ≤ _), (by decide : 6 + 0 ≤ _)⟩)
      dsimp only [Pt.U, Pt.locs, Pt.cells, Pt.slots] at X116 l116 y116 z116 st116 hQ116
      subst l116 y116 z116
      obtain ⟨rfl, Nq116, e116⟩ := hQ116
      have N116 := Fr.app N113 Nq116
      have p117 : ∀ t, Steps p.tables e below (T116.setTop (mkF m 146 #[.val (.long x0), .second, .val (.long x1), .second, .val (.int x2), .val (.int x3), .val (.int x4), .val (.ref li), .val (.ref lj), .val (.long vbb), .second, .val (.ref b17), .val (.ref b28), .val (.ref b46), .val (.int (0 : Int32)), .val (.int (1 : Int32)), .unset, .unset, .unset] [(.int (own_eqq x0 li x0 li))])) t → Steps p.tables e below (s₁.setTop (entryFrame m #[(.long x0), (.long x1), (.int x2), (.int x3), (.int x4)] maxLocals)) t := fun t k => p115 t (st116.trans k)
      have p118 : ∀ t, Steps p.tables e below (T116.setTop (mkF m 153 #[.val (.long x0), .second, .val (.long x1), .second, .val (.int x2), .val (.int x3), .val (.int x4), .val (.ref li), .val (.ref lj), .val (.long vbb), .second, .val (.ref b17), .val (.ref b28), .val (.ref b46), .val (.int (0 : Int32)), .val (.int (1 : Int32)), .unset, .unset, .unset] [(.ref b17), (.ref b46)])) t → Steps p.tables e below (s₁.setTop (entryFrame m #[(.long x0), (.long x1), (.int x2), (.int x3), (.int x4)] maxLocals)) t := fun t k => p117 t (by
        show Steps p.tables e below (T116.setTop (mkF m 146 #[.val (.long x0), .second, .val (.long x1), .second, .val (.int x2), .val (.int x3), .val (.int x4), .val (.ref li), .val (.ref lj), .val (.long vbb), .second, .val (.ref b17), .val (.ref b28), .val (.ref b46), .val (.int (0 : Int32)), .val (.int (1 : Int32)), .unset, .unset, .unset] [(.int (own_eqq x0 li x0 li))])) _
        refine XS.ifNo X116.here hx rfl (hb hby at_146) rfl ((if0 _ _).trans (feq (by rw [own_refl]; decide)).1) ?_
        show Steps p.tables e below (T116.setTop (mkF m 149 #[.val (.long x0), .second, .val (.long x1), .second, .val (.int x2), .val (.int x3), .val (.int x4), .val (.ref li), .val (.ref lj), .val (.long vbb), .second, .val (.ref b17), .val (.ref b28), .val (.ref b46), .val (.int (0 : Int32)), .val (.int (1 : Int32)), .unset, .unset, .unset] [])) _
        refine XS.aload X116.here hx rfl (hb hby at_149) rfl rfl ?_
        show Steps p.tables e below (T116.setTop (mkF m 151 #[.val (.long x0), .second, .val (.long x1), .second, .val (.int x2), .val (.int x3), .val (.int x4), .val (.ref li), .val (.ref lj), .val (.long vbb), .second, .val (.ref b17), .val (.ref b28), .val (.ref b46), .val (.int (0 : Int32)), .val (.int (1 : Int32)), .unset, .unset, .unset] [(.ref b46)])) _
        refine XS.aload X116.here hx rfl (hb hby at_151) rfl rfl ?_
        exact k)
      obtain ⟨cq119, kq119, qa119, qb119, qc119⟩ := isOf hZ e116 f68
      obtain ⟨_, _, ⟨T119, L119, k119, n119⟩, -, X119, ⟨Lc119, hQ119, l119, y119, z119⟩, st119⟩ := X116.virtualBack hx (y := (⟨"com/example/kvota/kvota/ResolvedQuota", "equals", "(Ljava/lang/Object;)Z"⟩ : MethodName)) (z := (⟨"com/example/kvota/kvota/ResolvedQuota", "equals", "(Ljava/lang/Object;)Z"⟩ : MethodName)) hown (mvT hZ (hw _ (List.mem_of_getElem? (i := 22) rfl))) (mvT hZ (hw _ (List.mem_of_getElem? (i := 23) rfl))) (notFace_of_selects (args := #[]) (mvT hZ (hw _ (List.mem_of_getElem? (i := 25) rfl)))) (mvT hZ (hw _ (List.mem_of_getElem? (i := 25) rfl))) (mvT hZ (hw _ (List.mem_of_getElem? (i := 24) rfl))) (by decide) (backOf (W := 0) (rmA l Z a0 hw [] b46 b17 x0 li x0 li T60.heap n0 Z60 f62 Fa60 Fb60 f63 f64) hZ (hw _ (List.mem_of_getElem? (i := 26) rfl)) (hw _ (List.mem_of_getElem? (i := 11) rfl)) (by decide) (by decide)) qa119 qc119 (g := (mkF m 153 #[.val (.long x0), .second, .val (.long x1), .second, .val (.int x2), .val (.int x3), .val (.int x4), .val (.ref li), .val (.ref lj), .val (.long vbb), .second, .val (.ref b17), .val (.ref b28), .val (.ref b46), .val (.int (0 : Int32)), .val (.int (1 : Int32)), .unset, .unset, .unset] [(.ref b17), (.ref b46)])) rfl (by rw [hml]; rfl) (Steps.refl _) (argsL := [(.ref b17)]) (rest := []) (lenOf pd0_2 rfl) rfl (by show 2 * 0 + _ ≤ _; exact Nat.le_of_eq rfl) (hb hby at_153) (fun _ _ => ⟨rfl, e116, (by decide : 3 + 0 ≤ _), (by decide : 6 + 0 ≤ _)⟩)
      dsimp only [Pt.U, Pt.locs, Pt.cells, Pt.slots] at X119 l119 y119 z119 st119 hQ119
      subst l119 y119 z119
      obtain ⟨rfl, Nq119, e119⟩ := hQ119
      have N119 := Fr.app N116 Nq119
      have p120 : ∀ t, Steps p.tables e below (T119.setTop (mkF m 156 #[.val (.long x0), .second, .val (.long x1), .second, .val (.int x2), .val (.int x3), .val (.int x4), .val (.ref li), .val (.ref lj), .val (.long vbb), .second, .val (.ref b17), .val (.ref b28), .val (.ref b46), .val (.int (0 : Int32)), .val (.int (1 : Int32)), .unset, .unset, .unset] [(.int (own_eqq x0 li x0 li))])) t → Steps p.tables e below (s₁.setTop (entryFrame m #[(.long x0), (.long x1), (.int x2), (.int x3), (.int x4)] maxLocals)) t := fun t k => p118 t (st119.trans k)
      have p121 : ∀ t, Steps p.tables e below (T119.setTop (mkF m 169 #[.val (.long x0), .second, .val (.long x1), .second, .val (.int x2), .val (.int x3), .val (.int x4), .val (.ref li), .val (.ref lj), .val (.long vbb), .second, .val (.ref b17), .val (.ref b28), .val (.ref b46), .val (.int (0 : Int32)), .val (.int (1 : Int32)), .val (.int (1 : Int32)), .unset, .unset] [.null, (.ref b17)])) t → Steps p.tables e below (s₁.setTop (entryFrame m #[(.long x0), (.long x1), (.int x2), (.int x3), (.int x4)] maxLocals)) t := fun t k => p120 t (by
        show Steps p.tables e below (T119.setTop (mkF m 156 #[.val (.long x0), .second, .val (.long x1), .second, .val (.int x2), .val (.int x3), .val (.int x4), .val (.ref li), .val (.ref lj), .val (.long vbb), .second, .val (.ref b17), .val (.ref b28), .val (.ref b46), .val (.int (0 : Int32)), .val (.int (1 : Int32)), .unset, .unset, .unset] [(.int (own_eqq x0 li x0 li))])) _
        refine XS.ifNo X119.here hx rfl (hb hby at_156) rfl ((if0 _ _).trans (feq (by rw [own_refl]; decide)).1) ?_
        show Steps p.tables e below (T119.setTop (mkF m 159 #[.val (.long x0), .second, .val (.long x1), .second, .val (.int x2), .val (.int x3), .val (.int x4), .val (.ref li), .val (.ref lj), .val (.long vbb), .second, .val (.ref b17), .val (.ref b28), .val (.ref b46), .val (.int (0 : Int32)), .val (.int (1 : Int32)), .unset, .unset, .unset] [])) _
        refine XS.iconst X119.here hx rfl (hb hby at_159) ?_
        show Steps p.tables e below (T119.setTop (mkF m 160 #[.val (.long x0), .second, .val (.long x1), .second, .val (.int x2), .val (.int x3), .val (.int x4), .val (.ref li), .val (.ref lj), .val (.long vbb), .second, .val (.ref b17), .val (.ref b28), .val (.ref b46), .val (.int (0 : Int32)), .val (.int (1 : Int32)), .unset, .unset, .unset] [(.int (1 : Int32))])) _
        refine XS.goto X119.here hx rfl (pc0 := 160) (pc' := 164) rfl (hb hby at_160) (by decide) (by decide) ?_
        show Steps p.tables e below (T119.setTop (mkF m 164 #[.val (.long x0), .second, .val (.long x1), .second, .val (.int x2), .val (.int x3), .val (.int x4), .val (.ref li), .val (.ref lj), .val (.long vbb), .second, .val (.ref b17), .val (.ref b28), .val (.ref b46), .val (.int (0 : Int32)), .val (.int (1 : Int32)), .unset, .unset, .unset] [(.int (1 : Int32))])) _
        refine XS.istore X119.here hx rfl (hb hby at_164) rfl (l' := #[.val (.long x0), .second, .val (.long x1), .second, .val (.int x2), .val (.int x3), .val (.int x4), .val (.ref li), .val (.ref lj), .val (.long vbb), .second, .val (.ref b17), .val (.ref b28), .val (.ref b46), .val (.int (0 : Int32)), .val (.int (1 : Int32)), .val (.int (1 : Int32)), .unset, .unset]) rfl ?_
        show Steps p.tables e below (T119.setTop (mkF m 166 #[.val (.long x0), .second, .val (.long x1), .second, .val (.int x2), .val (.int x3), .val (.int x4), .val (.ref li), .val (.ref lj), .val (.long vbb), .second, .val (.ref b17), .val (.ref b28), .val (.ref b46), .val (.int (0 : Int32)), .val (.int (1 : Int32)), .val (.int (1 : Int32)), .unset, .unset] [])) _
        refine XS.aload X119.here hx rfl (hb hby at_166) rfl rfl ?_
        show Steps p.tables e below (T119.setTop (mkF m 168 #[.val (.long x0), .second, .val (.long x1), .second, .val (.int x2), .val (.int x3), .val (.int x4), .val (.ref li), .val (.ref lj), .val (.long vbb), .second, .val (.ref b17), .val (.ref b28), .val (.ref b46), .val (.int (0 : Int32)), .val (.int (1 : Int32)), .val (.int (1 : Int32)), .unset, .unset] [(.ref b17)])) _
        refine XS.aconstNull X119.here hx rfl (hb hby at_168) ?_
        exact k)
      obtain ⟨cq122, kq122, qa122, qb122, qc122⟩ := isOf hZ e119 f62
      obtain ⟨_, _, ⟨T122, L122, k122, n122⟩, -, X122, ⟨Lc122, hQ122, l122, y122, z122⟩, st122⟩ := X119.virtualBack hx (y := (⟨"com/example/kvota/kvota/ResolvedQuota", "equals", "(Ljava/lang/Object;)Z"⟩ : MethodName)) (z := (⟨"com/example/kvota/kvota/ResolvedQuota", "equals", "(Ljava/lang/Object;)Z"⟩ : MethodName)) hown (mvT hZ (hw _ (List.mem_of_getElem? (i := 22) rfl))) (mvT hZ (hw _ (List.mem_of_getElem? (i := 23) rfl))) (notFace_of_selects (args := #[]) (mvT hZ (hw _ (List.mem_of_getElem? (i := 25) rfl)))) (mvT hZ (hw _ (List.mem_of_getElem? (i := 25) rfl))) (mvT hZ (hw _ (List.mem_of_getElem? (i := 24) rfl))) (by decide) (backOf (W := 0) (rmN l Z a0 hw [] b17  T60.heap n0 Z60 ) hZ (hw _ (List.mem_of_getElem? (i := 26) rfl)) (hw _ (List.mem_of_getElem? (i := 11) rfl)) (by decide) (by decide)) qa122 qc122 (g := (mkF m 169 #[.val (.long x0), .second, .val (.long x1), .second, .val (.int x2), .val (.int x3), .val (.int x4), .val (.ref li), .val (.ref lj), .val (.long vbb), .second, .val (.ref b17), .val (.ref b28), .val (.ref b46), .val (.int (0 : Int32)), .val (.int (1 : Int32)), .val (.int (1 : Int32)), .unset, .unset] [.null, (.ref b17)])) rfl (by rw [hml]; rfl) (Steps.refl _) (argsL := [.null]) (rest := []) (lenOf pd0_2 rfl) rfl (by show 2 * 0 + _ ≤ _; exact Nat.le_of_eq rfl) (hb hby at_169) (fun _ _ => ⟨rfl, e119, (by decide : 3 + 0 ≤ _), (by decide : 6 + 0 ≤ _)⟩)
      dsimp only [Pt.U, Pt.locs, Pt.cells, Pt.slots] at X122 l122 y122 z122 st122 hQ122
      subst l122 y122 z122
      obtain ⟨rfl, Nq122, e122⟩ := hQ122
      have N122 := Fr.app N119 Nq122
      have p123 : ∀ t, Steps p.tables e below (T122.setTop (mkF m 172 #[.val (.long x0), .second, .val (.long x1), .second, .val (.int x2), .val (.int x3), .val (.int x4), .val (.ref li), .val (.ref lj), .val (.long vbb), .second, .val (.ref b17), .val (.ref b28), .val (.ref b46), .val (.int (0 : Int32)), .val (.int (1 : Int32)), .val (.int (1 : Int32)), .unset, .unset] [(.int (0 : Int32))])) t → Steps p.tables e below (s₁.setTop (entryFrame m #[(.long x0), (.long x1), (.int x2), (.int x3), (.int x4)] maxLocals)) t := fun t k => p121 t (st122.trans k)
      have p124 : ∀ t, Steps p.tables e below (T122.setTop (mkF m 185 #[.val (.long x0), .second, .val (.long x1), .second, .val (.int x2), .val (.int x3), .val (.int x4), .val (.ref li), .val (.ref lj), .val (.long vbb), .second, .val (.ref b17), .val (.ref b28), .val (.ref b46), .val (.int (0 : Int32)), .val (.int (1 : Int32)), .val (.int (1 : Int32)), .val (.int (1 : Int32)), .unset] [(.long x0), (.ref b17)])) t → Steps p.tables e below (s₁.setTop (entryFrame m #[(.long x0), (.long x1), (.int x2), (.int x3), (.int x4)] maxLocals)) t := fun t k => p123 t (by
        show Steps p.tables e below (T122.setTop (mkF m 172 #[.val (.long x0), .second, .val (.long x1), .second, .val (.int x2), .val (.int x3), .val (.int x4), .val (.ref li), .val (.ref lj), .val (.long vbb), .second, .val (.ref b17), .val (.ref b28), .val (.ref b46), .val (.int (0 : Int32)), .val (.int (1 : Int32)), .val (.int (1 : Int32)), .unset, .unset] [(.int (0 : Int32))])) _
        refine XS.ifNo X122.here hx rfl (hb hby at_172) rfl ((if0 _ _).trans (teq (rfl)).2) ?_
        show Steps p.tables e below (T122.setTop (mkF m 175 #[.val (.long x0), .second, .val (.long x1), .second, .val (.int x2), .val (.int x3), .val (.int x4), .val (.ref li), .val (.ref lj), .val (.long vbb), .second, .val (.ref b17), .val (.ref b28), .val (.ref b46), .val (.int (0 : Int32)), .val (.int (1 : Int32)), .val (.int (1 : Int32)), .unset, .unset] [])) _
        refine XS.iconst X122.here hx rfl (hb hby at_175) ?_
        show Steps p.tables e below (T122.setTop (mkF m 176 #[.val (.long x0), .second, .val (.long x1), .second, .val (.int x2), .val (.int x3), .val (.int x4), .val (.ref li), .val (.ref lj), .val (.long vbb), .second, .val (.ref b17), .val (.ref b28), .val (.ref b46), .val (.int (0 : Int32)), .val (.int (1 : Int32)), .val (.int (1 : Int32)), .unset, .unset] [(.int (1 : Int32))])) _
        refine XS.goto X122.here hx rfl (pc0 := 176) (pc' := 180) rfl (hb hby at_176) (by decide) (by decide) ?_
        show Steps p.tables e below (T122.setTop (mkF m 180 #[.val (.long x0), .second, .val (.long x1), .second, .val (.int x2), .val (.int x3), .val (.int x4), .val (.ref li), .val (.ref lj), .val (.long vbb), .second, .val (.ref b17), .val (.ref b28), .val (.ref b46), .val (.int (0 : Int32)), .val (.int (1 : Int32)), .val (.int (1 : Int32)), .unset, .unset] [(.int (1 : Int32))])) _
        refine XS.istore X122.here hx rfl (hb hby at_180) rfl (l' := #[.val (.long x0), .second, .val (.long x1), .second, .val (.int x2), .val (.int x3), .val (.int x4), .val (.ref li), .val (.ref lj), .val (.long vbb), .second, .val (.ref b17), .val (.ref b28), .val (.ref b46), .val (.int (0 : Int32)), .val (.int (1 : Int32)), .val (.int (1 : Int32)), .val (.int (1 : Int32)), .unset]) rfl ?_
        show Steps p.tables e below (T122.setTop (mkF m 182 #[.val (.long x0), .second, .val (.long x1), .second, .val (.int x2), .val (.int x3), .val (.int x4), .val (.ref li), .val (.ref lj), .val (.long vbb), .second, .val (.ref b17), .val (.ref b28), .val (.ref b46), .val (.int (0 : Int32)), .val (.int (1 : Int32)), .val (.int (1 : Int32)), .val (.int (1 : Int32)), .unset] [])) _
        refine XS.aload X122.here hx rfl (hb hby at_182) rfl rfl ?_
        show Steps p.tables e below (T122.setTop (mkF m 184 #[.val (.long x0), .second, .val (.long x1), .second, .val (.int x2), .val (.int x3), .val (.int x4), .val (.ref li), .val (.ref lj), .val (.long vbb), .second, .val (.ref b17), .val (.ref b28), .val (.ref b46), .val (.int (0 : Int32)), .val (.int (1 : Int32)), .val (.int (1 : Int32)), .val (.int (1 : Int32)), .unset] [(.ref b17)])) _
        refine XS.lloadN X122.here hx rfl (hb hby at_184) rfl ?_
        exact k)
      obtain ⟨_, _, ⟨T125, L125, k125, n125⟩, -, X125, ⟨Lc125, hQ125, l125, y125, z125⟩, st125⟩ := Jvm.LawKit.callS X122 hx (y := (⟨"java/lang/Long", "valueOf", "(J)Ljava/lang/Long;"⟩ : MethodName)) hown (mvT hZ (hw _ (List.mem_of_getElem? (i := 29) rfl))) (mvT hZ (hw _ (List.mem_of_getElem? (i := 30) rfl))) (mvT hZ (hw _ (List.mem_of_getElem? (i := 31) rfl))) (mvT hZ (hw _ (List.mem_of_getElem? (i := 32) rfl))) (by decide) (backOf (W := 1) (rmV l Z a0 hw [] x0 a_C cc own_val T60.heap n0 Z60 f61 S_c B0) hZ (hw _ (List.mem_of_getElem? (i := 32) rfl)) (hw _ (List.mem_of_getElem? (i := 31) rfl)) (by decide) (by decide)) (g := (mkF m 185 #[.val (.long x0), .second, .val (.long x1), .second, .val (.int x2), .val (.int x3), .val (.int x4), .val (.ref li), .val (.ref lj), .val (.long vbb), .second, .val (.ref b17), .val (.ref b28), .val (.ref b46), .val (.int (0 : Int32)), .val (.int (1 : Int32)), .val (.int (1 : Int32)), .val (.int (1 : Int32)), .unset] [(.long x0), (.ref b17)])) rfl (by rw [hml]; rfl) (argsL := [(.long x0)]) (rest := [(.ref b17)]) (lenOf pd0_3 rfl) rfl (by show 2 * 0 + _ ≤ _; exact Nat.le_of_eq rfl) (hb hby at_185) (fun _ _ => ⟨rfl, e122, (by decide : 3 + 1 ≤ _), (by decide : 6 + 1 ≤ _)⟩)
      dsimp only [Pt.U, Pt.locs, Pt.cells, Pt.slots] at X125 l125 y125 z125 st125 hQ125
      subst l125 y125 z125
      obtain ⟨r125, rfl, Nq125, K125, EI125⟩ := hQ125
      have N125 := Fr.app N122 Nq125
      have f126 := f61.keep K125 (all0)
      have f127 := f62.keep K125
      have f128 := f63.keep K125 nin0
      have f129 := f64.keep K125 nin0
      have f130 := f65.keep K125
      have f131 := f66.keep K125 nin0
      have f132 := f67.keep K125 nin0
      have f133 := f68.keep K125
      have f134 := Fa60.keep K125 nin0
      have f135 := Fb60.keep K125 nin0
      have Z125 := Nat.le_trans Z60 K125.1
      have p136 : ∀ t, Steps p.tables e below (T125.setTop (mkF m 188 #[.val (.long x0), .second, .val (.long x1), .second, .val (.int x2), .val (.int x3), .val (.int x4), .val (.ref li), .val (.ref lj), .val (.long vbb), .second, .val (.ref b17), .val (.ref b28), .val (.ref b46), .val (.int (0 : Int32)), .val (.int (1 : Int32)), .val (.int (1 : Int32)), .val (.int (1 : Int32)), .unset] [(.ref r125), (.ref b17)])) t → Steps p.tables e below (s₁.setTop (entryFrame m #[(.long x0), (.long x1), (.int x2), (.int x3), (.int x4)] maxLocals)) t := fun t k => p124 t (st125 _ k)
      obtain ⟨cq137, kq137, qa137, qb137, qc137⟩ := isOf hZ rfl f127
      obtain ⟨_, _, ⟨T137, L137, k137, n137⟩, -, X137, ⟨Lc137, hQ137, l137, y137, z137⟩, st137⟩ := X125.virtualBack hx (y := (⟨"com/example/kvota/kvota/ResolvedQuota", "equals", "(Ljava/lang/Object;)Z"⟩ : MethodName)) (z := (⟨"com/example/kvota/kvota/ResolvedQuota", "equals", "(Ljava/lang/Object;)Z"⟩ : MethodName)) hown (mvT hZ (hw _ (List.mem_of_getElem? (i := 22) rfl))) (mvT hZ (hw _ (List.mem_of_getElem? (i := 23) rfl))) (notFace_of_selects (args := #[]) (mvT hZ (hw _ (List.mem_of_getElem? (i := 25) rfl)))) (mvT hZ (hw _ (List.mem_of_getElem? (i := 25) rfl))) (mvT hZ (hw _ (List.mem_of_getElem? (i := 24) rfl))) (by decide) (backOf (W := 0) (rmO l Z a0 hw [] b17 r125  T125.heap n0 Z125 EI125 hno) hZ (hw _ (List.mem_of_getElem? (i := 26) rfl)) (hw _ (List.mem_of_getElem? (i := 11) rfl)) (by decide) (by decide)) qa137 qc137 (g := (mkF m 188 #[.val (.long x0), .second, .val (.long x1), .second, .val (.int x2), .val (.int x3), .val (.int x4), .val (.ref li), .val (.ref lj), .val (.long vbb), .second, .val (.ref b17), .val (.ref b28), .val (.ref b46), .val (.int (0 : Int32)), .val (.int (1 : Int32)), .val (.int (1 : Int32)), .val (.int (1 : Int32)), .unset] [(.ref r125), (.ref b17)])) rfl (by rw [hml]; rfl) (Steps.refl _) (argsL := [(.ref r125)]) (rest := []) (lenOf pd0_2 rfl) rfl (by show 2 * 0 + _ ≤ _; exact Nat.le_of_eq rfl) (hb hby at_188) (fun _ _ => ⟨rfl, rfl, (by decide : 4 + 0 ≤ _), (by decide : 7 + 0 ≤ _)⟩)
      dsimp only [Pt.U, Pt.locs, Pt.cells, Pt.slots] at X137 l137 y137 z137 st137 hQ137
      subst l137 y137 z137
      obtain ⟨rfl, Nq137, e137⟩ := hQ137
      have N137 := Fr.app N125 Nq137
      have p138 : ∀ t, Steps p.tables e below (T137.setTop (mkF m 191 #[.val (.long x0), .second, .val (.long x1), .second, .val (.int x2), .val (.int x3), .val (.int x4), .val (.ref li), .val (.ref lj), .val (.long vbb), .second, .val (.ref b17), .val (.ref b28), .val (.ref b46), .val (.int (0 : Int32)), .val (.int (1 : Int32)), .val (.int (1 : Int32)), .val (.int (1 : Int32)), .unset] [(.int (0 : Int32))])) t → Steps p.tables e below (s₁.setTop (entryFrame m #[(.long x0), (.long x1), (.int x2), (.int x3), (.int x4)] maxLocals)) t := fun t k => p136 t (st137.trans k)
      have p139 : ∀ t, Steps p.tables e below (T137.setTop (mkF m 226 #[.val (.long x0), .second, .val (.long x1), .second, .val (.int x2), .val (.int x3), .val (.int x4), .val (.ref li), .val (.ref lj), .val (.long vbb), .second, .val (.ref b17), .val (.ref b28), .val (.ref b46), .val (.int (0 : Int32)), .val (.int (1 : Int32)), .val (.int (1 : Int32)), .val (.int (1 : Int32)), .val (.int (1 : Int32))] [(.int (1 : Int32))])) t → Steps p.tables e below (s₁.setTop (entryFrame m #[(.long x0), (.long x1), (.int x2), (.int x3), (.int x4)] maxLocals)) t := fun t k => p138 t (by
        show Steps p.tables e below (T137.setTop (mkF m 191 #[.val (.long x0), .second, .val (.long x1), .second, .val (.int x2), .val (.int x3), .val (.int x4), .val (.ref li), .val (.ref lj), .val (.long vbb), .second, .val (.ref b17), .val (.ref b28), .val (.ref b46), .val (.int (0 : Int32)), .val (.int (1 : Int32)), .val (.int (1 : Int32)), .val (.int (1 : Int32)), .unset] [(.int (0 : Int32))])) _
        refine XS.ifNo X137.here hx rfl (hb hby at_191) rfl ((if0 _ _).trans (teq (rfl)).2) ?_
        show Steps p.tables e below (T137.setTop (mkF m 194 #[.val (.long x0), .second, .val (.long x1), .second, .val (.int x2), .val (.int x3), .val (.int x4), .val (.ref li), .val (.ref lj), .val (.long vbb), .second, .val (.ref b17), .val (.ref b28), .val (.ref b46), .val (.int (0 : Int32)), .val (.int (1 : Int32)), .val (.int (1 : Int32)), .val (.int (1 : Int32)), .unset] [])) _
        refine XS.iconst X137.here hx rfl (hb hby at_194) ?_
        show Steps p.tables e below (T137.setTop (mkF m 195 #[.val (.long x0), .second, .val (.long x1), .second, .val (.int x2), .val (.int x3), .val (.int x4), .val (.ref li), .val (.ref lj), .val (.long vbb), .second, .val (.ref b17), .val (.ref b28), .val (.ref b46), .val (.int (0 : Int32)), .val (.int (1 : Int32)), .val (.int (1 : Int32)), .val (.int (1 : Int32)), .unset] [(.int (1 : Int32))])) _
        refine XS.goto X137.here hx rfl (pc0 := 195) (pc' := 199) rfl (hb hby at_195) (by decide) (by decide) ?_
        show Steps p.tables e below (T137.setTop (mkF m 199 #[.val (.long x0), .second, .val (.long x1), .second, .val (.int x2), .val (.int x3), .val (.int x4), .val (.ref li), .val (.ref lj), .val (.long vbb), .second, .val (.ref b17), .val (.ref b28), .val (.ref b46), .val (.int (0 : Int32)), .val (.int (1 : Int32)), .val (.int (1 : Int32)), .val (.int (1 : Int32)), .unset] [(.int (1 : Int32))])) _
        refine XS.istore X137.here hx rfl (hb hby at_199) rfl (l' := #[.val (.long x0), .second, .val (.long x1), .second, .val (.int x2), .val (.int x3), .val (.int x4), .val (.ref li), .val (.ref lj), .val (.long vbb), .second, .val (.ref b17), .val (.ref b28), .val (.ref b46), .val (.int (0 : Int32)), .val (.int (1 : Int32)), .val (.int (1 : Int32)), .val (.int (1 : Int32)), .val (.int (1 : Int32))]) rfl ?_
        show Steps p.tables e below (T137.setTop (mkF m 201 #[.val (.long x0), .second, .val (.long x1), .second, .val (.int x2), .val (.int x3), .val (.int x4), .val (.ref li), .val (.ref lj), .val (.long vbb), .second, .val (.ref b17), .val (.ref b28), .val (.ref b46), .val (.int (0 : Int32)), .val (.int (1 : Int32)), .val (.int (1 : Int32)), .val (.int (1 : Int32)), .val (.int (1 : Int32))] [])) _
        refine XS.iload X137.here hx rfl (hb hby at_201) rfl ?_
        show Steps p.tables e below (T137.setTop (mkF m 203 #[.val (.long x0), .second, .val (.long x1), .second, .val (.int x2), .val (.int x3), .val (.int x4), .val (.ref li), .val (.ref lj), .val (.long vbb), .second, .val (.ref b17), .val (.ref b28), .val (.ref b46), .val (.int (0 : Int32)), .val (.int (1 : Int32)), .val (.int (1 : Int32)), .val (.int (1 : Int32)), .val (.int (1 : Int32))] [(.int (1 : Int32))])) _
        refine XS.ifNo X137.here hx rfl (hb hby at_203) rfl ((if0 _ _).trans (feq (by decide)).1) ?_
        show Steps p.tables e below (T137.setTop (mkF m 206 #[.val (.long x0), .second, .val (.long x1), .second, .val (.int x2), .val (.int x3), .val (.int x4), .val (.ref li), .val (.ref lj), .val (.long vbb), .second, .val (.ref b17), .val (.ref b28), .val (.ref b46), .val (.int (0 : Int32)), .val (.int (1 : Int32)), .val (.int (1 : Int32)), .val (.int (1 : Int32)), .val (.int (1 : Int32))] [])) _
        refine XS.iload X137.here hx rfl (hb hby at_206) rfl ?_
        show Steps p.tables e below (T137.setTop (mkF m 208 #[.val (.long x0), .second, .val (.long x1), .second, .val (.int x2), .val (.int x3), .val (.int x4), .val (.ref li), .val (.ref lj), .val (.long vbb), .second, .val (.ref b17), .val (.ref b28), .val (.ref b46), .val (.int (0 : Int32)), .val (.int (1 : Int32)), .val (.int (1 : Int32)), .val (.int (1 : Int32)), .val (.int (1 : Int32))] [(.int (1 : Int32))])) _
        refine XS.ifNo X137.here hx rfl (hb hby at_208) rfl ((if0 _ _).trans (feq (by decide)).1) ?_
        show Steps p.tables e below (T137.setTop (mkF m 211 #[.val (.long x0), .second, .val (.long x1), .second, .val (.int x2), .val (.int x3), .val (.int x4), .val (.ref li), .val (.ref lj), .val (.long vbb), .second, .val (.ref b17), .val (.ref b28), .val (.ref b46), .val (.int (0 : Int32)), .val (.int (1 : Int32)), .val (.int (1 : Int32)), .val (.int (1 : Int32)), .val (.int (1 : Int32))] [])) _
        refine XS.iload X137.here hx rfl (hb hby at_211) rfl ?_
        show Steps p.tables e below (T137.setTop (mkF m 213 #[.val (.long x0), .second, .val (.long x1), .second, .val (.int x2), .val (.int x3), .val (.int x4), .val (.ref li), .val (.ref lj), .val (.long vbb), .second, .val (.ref b17), .val (.ref b28), .val (.ref b46), .val (.int (0 : Int32)), .val (.int (1 : Int32)), .val (.int (1 : Int32)), .val (.int (1 : Int32)), .val (.int (1 : Int32))] [(.int (1 : Int32))])) _
        refine XS.ifNo X137.here hx rfl (hb hby at_213) rfl ((if0 _ _).trans (feq (by decide)).1) ?_
        show Steps p.tables e below (T137.setTop (mkF m 216 #[.val (.long x0), .second, .val (.long x1), .second, .val (.int x2), .val (.int x3), .val (.int x4), .val (.ref li), .val (.ref lj), .val (.long vbb), .second, .val (.ref b17), .val (.ref b28), .val (.ref b46), .val (.int (0 : Int32)), .val (.int (1 : Int32)), .val (.int (1 : Int32)), .val (.int (1 : Int32)), .val (.int (1 : Int32))] [])) _
        refine XS.iload X137.here hx rfl (hb hby at_216) rfl ?_
        show Steps p.tables e below (T137.setTop (mkF m 218 #[.val (.long x0), .second, .val (.long x1), .second, .val (.int x2), .val (.int x3), .val (.int x4), .val (.ref li), .val (.ref lj), .val (.long vbb), .second, .val (.ref b17), .val (.ref b28), .val (.ref b46), .val (.int (0 : Int32)), .val (.int (1 : Int32)), .val (.int (1 : Int32)), .val (.int (1 : Int32)), .val (.int (1 : Int32))] [(.int (1 : Int32))])) _
        refine XS.ifNo X137.here hx rfl (hb hby at_218) rfl ((if0 _ _).trans (feq (by decide)).1) ?_
        show Steps p.tables e below (T137.setTop (mkF m 221 #[.val (.long x0), .second, .val (.long x1), .second, .val (.int x2), .val (.int x3), .val (.int x4), .val (.ref li), .val (.ref lj), .val (.long vbb), .second, .val (.ref b17), .val (.ref b28), .val (.ref b46), .val (.int (0 : Int32)), .val (.int (1 : Int32)), .val (.int (1 : Int32)), .val (.int (1 : Int32)), .val (.int (1 : Int32))] [])) _
        refine XS.iconst X137.here hx rfl (hb hby at_221) ?_
        show Steps p.tables e below (T137.setTop (mkF m 222 #[.val (.long x0), .second, .val (.long x1), .second, .val (.int x2), .val (.int x3), .val (.int x4), .val (.ref li), .val (.ref lj), .val (.long vbb), .second, .val (.ref b17), .val (.ref b28), .val (.ref b46), .val (.int (0 : Int32)), .val (.int (1 : Int32)), .val (.int (1 : Int32)), .val (.int (1 : Int32)), .val (.int (1 : Int32))] [(.int (1 : Int32))])) _
        refine XS.goto X137.here hx rfl (pc0 := 222) (pc' := 226) rfl (hb hby at_222) (by decide) (by decide) ?_
        exact k)
      obtain ⟨fs, hr, hrun, hended, hW, hsame⟩ := X137.leave (v := some (.int (1 : Int32))) (fun h => by rw [Bd.returns] at h; cases h)
      refine ⟨_, _, p139 _ ?_, hrun, hended, _, _, rfl, ?_, ⟨_, rfl⟩, hW, hsame.mono (by decide) (by decide)⟩
      · show Steps p.tables e below (T137.setTop (mkF m 226 #[.val (.long x0), .second, .val (.long x1), .second, .val (.int x2), .val (.int x3), .val (.int x4), .val (.ref li), .val (.ref lj), .val (.long vbb), .second, .val (.ref b17), .val (.ref b28), .val (.ref b46), .val (.int (0 : Int32)), .val (.int (1 : Int32)), .val (.int (1 : Int32)), .val (.int (1 : Int32)), .val (.int (1 : Int32))] [(.int (1 : Int32))])) _
        exact retN X137 hx (t := .boolean) Bd.returns (by simp) (hb hby at_226) hr
      · show Q0 Z x0 x1 x2 x3 x4 a_USER_CLIENT a_DEFAULT_USER_CLIENT a_USER a_DEFAULT_USER a_USER_DEFAULT_CLIENT a_CLIENT a_DEFAULT_USER_DEFAULT_CLIENT a_DEFAULT_CLIENT a_C cc own_val h0 n0 _ T137.heap _
        rw [e137]
        exact ⟨rfl, N137⟩
  · have p140 : ∀ t, Steps p.tables e below (T60.setTop (mkF m 102 #[.val (.long x0), .second, .val (.long x1), .second, .val (.int x2), .val (.int x3), .val (.int x4), .val (.ref li), .val (.ref lj), .val (.long vbb), .second, .val (.ref b17), .val (.ref b28), .val (.ref b46), .val (.int (0 : Int32)), .unset, .unset, .unset, .unset] [(.ref b28), (.ref b17)])) t → Steps p.tables e below (s₁.setTop (entryFrame m #[(.long x0), (.long x1), (.int x2), (.int x3), (.int x4)] maxLocals)) t := fun t k => p70 t (by
      show Steps p.tables e below (T60.setTop (mkF m 81 #[.val (.long x0), .second, .val (.long x1), .second, .val (.int x2), .val (.int x3), .val (.int x4), .val (.ref li), .val (.ref lj), .val (.long vbb), .second, .val (.ref b17), .val (.ref b28), .val (.ref b46), .unset, .unset, .unset, .unset, .unset] [(.int (lcmpW x0 vbb))])) _
      refine XS.ifYes X60.here hx rfl (pc0 := 81) (pc' := 95) rfl (hb hby at_81) rfl ((if0 _ _).trans (feq (hc81)).2) (by decide) (by decide) ?_
      show Steps p.tables e below (T60.setTop (mkF m 95 #[.val (.long x0), .second, .val (.long x1), .second, .val (.int x2), .val (.int x3), .val (.int x4), .val (.ref li), .val (.ref lj), .val (.long vbb), .second, .val (.ref b17), .val (.ref b28), .val (.ref b46), .unset, .unset, .unset, .unset, .unset] [])) _
      refine XS.iconst X60.here hx rfl (hb hby at_95) ?_
      show Steps p.tables e below (T60.setTop (mkF m 96 #[.val (.long x0), .second, .val (.long x1), .second, .val (.int x2), .val (.int x3), .val (.int x4), .val (.ref li), .val (.ref lj), .val (.long vbb), .second, .val (.ref b17), .val (.ref b28), .val (.ref b46), .unset, .unset, .unset, .unset, .unset] [(.int (0 : Int32))])) _
      refine XS.istore X60.here hx rfl (hb hby at_96) rfl (l' := #[.val (.long x0), .second, .val (.long x1), .second, .val (.int x2), .val (.int x3), .val (.int x4), .val (.ref li), .val (.ref lj), .val (.long vbb), .second, .val (.ref b17), .val (.ref b28), .val (.ref b46), .val (.int (0 : Int32)), .unset, .unset, .unset, .unset]) rfl ?_
      show Steps p.tables e below (T60.setTop (mkF m 98 #[.val (.long x0), .second, .val (.long x1), .second, .val (.int x2), .val (.int x3), .val (.int x4), .val (.ref li), .val (.ref lj), .val (.long vbb), .second, .val (.ref b17), .val (.ref b28), .val (.ref b46), .val (.int (0 : Int32)), .unset, .unset, .unset, .unset] [])) _
      refine XS.aload X60.here hx rfl (hb hby at_98) rfl rfl ?_
      show Steps p.tables e below (T60.setTop (mkF m 100 #[.val (.long x0), .second, .val (.long x1), .second, .val (.int x2), .val (.int x3), .val (.int x4), .val (.ref li), .val (.ref lj), .val (.long vbb), .second, .val (.ref b17), .val (.ref b28), .val (.ref b46), .val (.int (0 : Int32)), .unset, .unset, .unset, .unset] [(.ref b17)])) _
      refine XS.aload X60.here hx rfl (hb hby at_100) rfl rfl ?_
      exact k)
    obtain ⟨cq141, kq141, qa141, qb141, qc141⟩ := isOf hZ rfl f62
    obtain ⟨_, _, ⟨T141, L141, k141, n141⟩, -, X141, ⟨Lc141, hQ141, l141, y141, z141⟩, st141⟩ := X60.virtualBack hx (y := (⟨"com/example/kvota/kvota/ResolvedQuota", "equals", "(Ljava/lang/Object;)Z"⟩ : MethodName)) (z := (⟨"com/example/kvota/kvota/ResolvedQuota", "equals", "(Ljava/lang/Object;)Z"⟩ : MethodName)) hown (mvT hZ (hw _ (List.mem_of_getElem? (i := 22) rfl))) (mvT hZ (hw _ (List.mem_of_getElem? (i := 23) rfl))) (notFace_of_selects (args := #[]) (mvT hZ (hw _ (List.mem_of_getElem? (i := 25) rfl)))) (mvT hZ (hw _ (List.mem_of_getElem? (i := 25) rfl))) (mvT hZ (hw _ (List.mem_of_getElem? (i := 24) rfl))) (by decide) (backOf (W := 0) (rmA l Z a0 hw [] b17 b28 x0 li vbb lj T60.heap n0 Z60 f65 f63 f64 f66 f67) hZ (hw _ (List.mem_of_getElem? (i := 26) rfl)) (hw _ (List.mem_of_getElem? (i := 11) rfl)) (by decide) (by decide)) qa141 qc141 (g := (mkF m 102 #[.val (.long x0), .second, .val (.long x1), .second, .val (.int x2), .val (.int x3), .val (.int x4), .val (.ref li), .val (.ref lj), .val (.long vbb), .second, .val (.ref b17), .val (.ref b28), .val (.ref b46), .val (.int (0 : Int32)), .unset, .unset, .unset, .unset] [(.ref b28), (.ref b17)])) rfl (by rw [hml]; rfl) (Steps.refl _) (argsL := [(.ref b28)]) (rest := []) (lenOf pd0_2 rfl) rfl (by show 2 * 0 + _ ≤ _; exact Nat.le_of_eq rfl) (hb hby at_102) (fun _ _ => ⟨rfl, rfl, (by decide : 3 + 0 ≤ _), (by decide : 6 + 0 ≤ _)⟩)
    dsimp only [Pt.U, Pt.locs, Pt.cells, Pt.slots] at X141 l141 y141 z141 st141 hQ141
    subst l141 y141 z141
    obtain ⟨rfl, Nq141, e141⟩ := hQ141
    have N141 := Fr.app N60 Nq141
    have p142 : ∀ t, Steps p.tables e below (T141.setTop (mkF m 105 #[.val (.long x0), .second, .val (.long x1), .second, .val (.int x2), .val (.int x3), .val (.int x4), .val (.ref li), .val (.ref lj), .val (.long vbb), .second, .val (.ref b17), .val (.ref b28), .val (.ref b46), .val (.int (0 : Int32)), .unset, .unset, .unset, .unset] [(.int (own_eqq x0 li vbb lj))])) t → Steps p.tables e below (s₁.setTop (entryFrame m #[(.long x0), (.long x1), (.int x2), (.int x3), (.int x4)] maxLocals)) t := fun t k => p140 t (st141.trans k)
    have p143 : ∀ t, Steps p.tables e below (T141.setTop (mkF m 114 #[.val (.long x0), .second, .val (.long x1), .second, .val (.int x2), .val (.int x3), .val (.int x4), .val (.ref li), .val (.ref lj), .val (.long vbb), .second, .val (.ref b17), .val (.ref b28), .val (.ref b46), .val (.int (0 : Int32)), .unset, .unset, .unset, .unset] [(.ref b17), (.ref b28)])) t → Steps p.tables e below (s₁.setTop (entryFrame m #[(.long x0), (.long x1), (.int x2), (.int x3), (.int x4)] maxLocals)) t := fun t k => p142 t (by
      show Steps p.tables e below (T141.setTop (mkF m 105 #[.val (.long x0), .second, .val (.long x1), .second, .val (.int x2), .val (.int x3), .val (.int x4), .val (.ref li), .val (.ref lj), .val (.long vbb), .second, .val (.ref b17), .val (.ref b28), .val (.ref b46), .val (.int (0 : Int32)), .unset, .unset, .unset, .unset] [(.int (own_eqq x0 li vbb lj))])) _
      refine XS.iload X141.here hx rfl (hb hby at_105) rfl ?_
      show Steps p.tables e below (T141.setTop (mkF m 107 #[.val (.long x0), .second, .val (.long x1), .second, .val (.int x2), .val (.int x3), .val (.int x4), .val (.ref li), .val (.ref lj), .val (.long vbb), .second, .val (.ref b17), .val (.ref b28), .val (.ref b46), .val (.int (0 : Int32)), .unset, .unset, .unset, .unset] [(.int (0 : Int32)), (.int (own_eqq x0 li vbb lj))])) _
      refine XS.icmpNo X141.here hx rfl (hb hby at_107) rfl ((teq (by unfold own_eqq; rw [if_neg (fun q => hc81 (own_swap.mp q))])).2) ?_
      show Steps p.tables e below (T141.setTop (mkF m 110 #[.val (.long x0), .second, .val (.long x1), .second, .val (.int x2), .val (.int x3), .val (.int x4), .val (.ref li), .val (.ref lj), .val (.long vbb), .second, .val (.ref b17), .val (.ref b28), .val (.ref b46), .val (.int (0 : Int32)), .unset, .unset, .unset, .unset] [])) _
      refine XS.aload X141.here hx rfl (hb hby at_110) rfl rfl ?_
      show Steps p.tables e below (T141.setTop (mkF m 112 #[.val (.long x0), .second, .val (.long x1), .second, .val (.int x2), .val (.int x3), .val (.int x4), .val (.ref li), .val (.ref lj), .val (.long vbb), .second, .val (.ref b17), .val (.ref b28), .val (.ref b46), .val (.int (0 : Int32)), .unset, .unset, .unset, .unset] [(.ref b28)])) _
      refine XS.aload X141.here hx rfl (hb hby at_112) rfl rfl ?_
      exact k)
    obtain ⟨cq144, kq144, qa144, qb144, qc144⟩ := isOf hZ e141 f65
    obtain ⟨_, _, ⟨T144, L144, k144, n144⟩, -, X144, ⟨Lc144, hQ144, l144, y144, z144⟩, st144⟩ := X141.virtualBack hx (y := (⟨"com/example/kvota/kvota/ResolvedQuota", "equals", "(Ljava/lang/Object;)Z"⟩ : MethodName)) (z := (⟨"com/example/kvota/kvota/ResolvedQuota", "equals", "(Ljava/lang/Object;)Z"⟩ : MethodName)) hown (mvT hZ (hw _ (List.mem_of_getElem? (i := 22) rfl))) (mvT hZ (hw _ (List.mem_of_getElem? (i := 23) rfl))) (notFace_of_selects (args := #[]) (mvT hZ (hw _ (List.mem_of_getElem? (i := 25) rfl)))) (mvT hZ (hw _ (List.mem_of_getElem? (i := 25) rfl))) (mvT hZ (hw _ (List.mem_of_getElem? (i := 24) rfl))) (by decide) (backOf (W := 0) (rmA l Z a0 hw [] b28 b17 vbb lj x0 li T60.heap n0 Z60 f62 f66 f67 f63 f64) hZ (hw _ (List.mem_of_getElem? (i := 26) rfl)) (hw _ (List.mem_of_getElem? (i := 11) rfl)) (by decide) (by decide)) qa144 qc144 (g := (mkF m 114 #[.val (.long x0), .second, .val (.long x1), .second, .val (.int x2), .val (.int x3), .val (.int x4), .val (.ref li), .val (.ref lj), .val (.long vbb), .second, .val (.ref b17), .val (.ref b28), .val (.ref b46), .val (.int (0 : Int32)), .unset, .unset, .unset, .unset] [(.ref b17), (.ref b28)])) rfl (by rw [hml]; rfl) (Steps.refl _) (argsL := [(.ref b17)]) (rest := []) (lenOf pd0_2 rfl) rfl (by show 2 * 0 + _ ≤ _; exact Nat.le_of_eq rfl) (hb hby at_114) (fun _ _ => ⟨rfl, e141, (by decide : 3 + 0 ≤ _), (by decide : 6 + 0 ≤ _)⟩)
    dsimp only [Pt.U, Pt.locs, Pt.cells, Pt.slots] at X144 l144 y144 z144 st144 hQ144
    subst l144 y144 z144
    obtain ⟨rfl, Nq144, e144⟩ := hQ144
    have N144 := Fr.app N141 Nq144
    have p145 : ∀ t, Steps p.tables e below (T144.setTop (mkF m 117 #[.val (.long x0), .second, .val (.long x1), .second, .val (.int x2), .val (.int x3), .val (.int x4), .val (.ref li), .val (.ref lj), .val (.long vbb), .second, .val (.ref b17), .val (.ref b28), .val (.ref b46), .val (.int (0 : Int32)), .unset, .unset, .unset, .unset] [(.int (own_eqq vbb lj x0 li))])) t → Steps p.tables e below (s₁.setTop (entryFrame m #[(.long x0), (.long x1), (.int x2), (.int x3), (.int x4)] maxLocals)) t := fun t k => p143 t (st144.trans k)
    have p146 : ∀ t, Steps p.tables e below (T144.setTop (mkF m 133 #[.val (.long x0), .second, .val (.long x1), .second, .val (.int x2), .val (.int x3), .val (.int x4), .val (.ref li), .val (.ref lj), .val (.long vbb), .second, .val (.ref b17), .val (.ref b28), .val (.ref b46), .val (.int (0 : Int32)), .val (.int (1 : Int32)), .unset, .unset, .unset] [(.ref b17), (.ref b17)])) t → Steps p.tables e below (s₁.setTop (entryFrame m #[(.long x0), (.long x1), (.int x2), (.int x3), (.int x4)] maxLocals)) t := fun t k => p145 t (by
      show Steps p.tables e below (T144.setTop (mkF m 117 #[.val (.long x0), .second, .val (.long x1), .second, .val (.int x2), .val (.int x3), .val (.int x4), .val (.ref li), .val (.ref lj), .val (.long vbb), .second, .val (.ref b17), .val (.ref b28), .val (.ref b46), .val (.int (0 : Int32)), .unset, .unset, .unset, .unset] [(.int (own_eqq vbb lj x0 li))])) _
      refine XS.iload X144.here hx rfl (hb hby at_117) rfl ?_
      show Steps p.tables e below (T144.setTop (mkF m 119 #[.val (.long x0), .second, .val (.long x1), .second, .val (.int x2), .val (.int x3), .val (.int x4), .val (.ref li), .val (.ref lj), .val (.long vbb), .second, .val (.ref b17), .val (.ref b28), .val (.ref b46), .val (.int (0 : Int32)), .unset, .unset, .unset, .unset] [(.int (0 : Int32)), (.int (own_eqq vbb lj x0 li))])) _
      refine XS.icmpNo X144.here hx rfl (hb hby at_119) rfl ((teq (by unfold own_eqq; rw [if_neg hc81])).2) ?_
      show Steps p.tables e below (T144.setTop (mkF m 122 #[.val (.long x0), .second, .val (.long x1), .second, .val (.int x2), .val (.int x3), .val (.int x4), .val (.ref li), .val (.ref lj), .val (.long vbb), .second, .val (.ref b17), .val (.ref b28), .val (.ref b46), .val (.int (0 : Int32)), .unset, .unset, .unset, .unset] [])) _
      refine XS.iconst X144.here hx rfl (hb hby at_122) ?_
      show Steps p.tables e below (T144.setTop (mkF m 123 #[.val (.long x0), .second, .val (.long x1), .second, .val (.int x2), .val (.int x3), .val (.int x4), .val (.ref li), .val (.ref lj), .val (.long vbb), .second, .val (.ref b17), .val (.ref b28), .val (.ref b46), .val (.int (0 : Int32)), .unset, .unset, .unset, .unset] [(.int (1 : Int32))])) _
      refine XS.goto X144.here hx rfl (pc0 := 123) (pc' := 127) rfl (hb hby at_123) (by decide) (by decide) ?_
      show Steps p.tables e below (T144.setTop (mkF m 127 #[.val (.long x0), .second, .val (.long x1), .second, .val (.int x2), .val (.int x3), .val (.int x4), .val (.ref li), .val (.ref lj), .val (.long vbb), .second, .val (.ref b17), .val (.ref b28), .val (.ref b46), .val (.int (0 : Int32)), .unset, .unset, .unset, .unset] [(.int (1 : Int32))])) _
      refine XS.istore X144.here hx rfl (hb hby at_127) rfl (l' := #[.val (.long x0), .second, .val (.long x1), .second, .val (.int x2), .val (.int x3), .val (.int x4), .val (.ref li), .val (.ref lj), .val (.long vbb), .second, .val (.ref b17), .val (.ref b28), .val (.ref b46), .val (.int (0 : Int32)), .val (.int (1 : Int32)), .unset, .unset, .unset]) rfl ?_
      show Steps p.tables e below (T144.setTop (mkF m 129 #[.val (.long x0), .second, .val (.long x1), .second, .val (.int x2), .val (.int x3), .val (.int x4), .val (.ref li), .val (.ref lj), .val (.long vbb), .second, .val (.ref b17), .val (.ref b28), .val (.ref b46), .val (.int (0 : Int32)), .val (.int (1 : Int32)), .unset, .unset, .unset] [])) _
      refine XS.aload X144.here hx rfl (hb hby at_129) rfl rfl ?_
      show Steps p.tables e below (T144.setTop (mkF m 131 #[.val (.long x0), .second, .val (.long x1), .second, .val (.int x2), .val (.int x3), .val (.int x4), .val (.ref li), .val (.ref lj), .val (.long vbb), .second, .val (.ref b17), .val (.ref b28), .val (.ref b46), .val (.int (0 : Int32)), .val (.int (1 : Int32)), .unset, .unset, .unset] [(.ref b17)])) _
      refine XS.aload X144.here hx rfl (hb hby at_131) rfl rfl ?_
      exact k)
    obtain ⟨cq147, kq147, qa147, qb147, qc147⟩ := isOf hZ e144 f62
    obtain ⟨_, _, ⟨T147, L147, k147, n147⟩, -, X147, ⟨Lc147, hQ147, l147, y147, z147⟩, st147⟩ := X144.virtualBack hx (y := (⟨"com/example/kvota/kvota/ResolvedQuota", "equals", "(Ljava/lang/Object;)Z"⟩ : MethodName)) (z := (⟨"com/example/kvota/kvota/ResolvedQuota", "equals", "(Ljava/lang/Object;)Z"⟩ : MethodName)) hown (mvT hZ (hw _ (List.mem_of_getElem? (i := 22) rfl))) (mvT hZ (hw _ (List.mem_of_getElem? (i := 23) rfl))) (notFace_of_selects (args := #[]) (mvT hZ (hw _ (List.mem_of_getElem? (i := 25) rfl)))) (mvT hZ (hw _ (List.mem_of_getElem? (i := 25) rfl))) (mvT hZ (hw _ (List.mem_of_getElem? (i := 24) rfl))) (by decide) (backOf (W := 0) (rmS l Z a0 hw [] b17 x0 li T60.heap n0 Z60 f62 f63 f64) hZ (hw _ (List.mem_of_getElem? (i := 26) rfl)) (hw _ (List.mem_of_getElem? (i := 11) rfl)) (by decide) (by decide)) qa147 qc147 (g := (mkF m 133 #[.val (.long x0), .second, .val (.long x1), .second, .val (.int x2), .val (.int x3), .val (.int x4), .val (.ref li), .val (.ref lj), .val (.long vbb), .second, .val (.ref b17), .val (.ref b28), .val (.ref b46), .val (.int (0 : Int32)), .val (.int (1 : Int32)), .unset, .unset, .unset] [(.ref b17), (.ref b17)])) rfl (by rw [hml]; rfl) (Steps.refl _) (argsL := [(.ref b17)]) (rest := []) (lenOf pd0_2 rfl) rfl (by show 2 * 0 + _ ≤ _; exact Nat.le_of_eq rfl) (hb hby at_133) (fun _ _ => ⟨rfl, e144, (by decide : 3 + 0 ≤ _), (by decide : 6 + 0 ≤ _)⟩)
    dsimp only [Pt.U, Pt.locs, Pt.cells, Pt.slots] at X147 l147 y147 z147 st147 hQ147
    subst l147 y147 z147
    obtain ⟨rfl, Nq147, e147⟩ := hQ147
    have N147 := Fr.app N144 Nq147
    have p148 : ∀ t, Steps p.tables e below (T147.setTop (mkF m 136 #[.val (.long x0), .second, .val (.long x1), .second, .val (.int x2), .val (.int x3), .val (.int x4), .val (.ref li), .val (.ref lj), .val (.long vbb), .second, .val (.ref b17), .val (.ref b28), .val (.ref b46), .val (.int (0 : Int32)), .val (.int (1 : Int32)), .unset, .unset, .unset] [(.int (1 : Int32))])) t → Steps p.tables e below (s₁.setTop (entryFrame m #[(.long x0), (.long x1), (.int x2), (.int x3), (.int x4)] maxLocals)) t := fun t k => p146 t (st147.trans k)
    have p149 : ∀ t, Steps p.tables e below (T147.setTop (mkF m 143 #[.val (.long x0), .second, .val (.long x1), .second, .val (.int x2), .val (.int x3), .val (.int x4), .val (.ref li), .val (.ref lj), .val (.long vbb), .second, .val (.ref b17), .val (.ref b28), .val (.ref b46), .val (.int (0 : Int32)), .val (.int (1 : Int32)), .unset, .unset, .unset] [(.ref b46), (.ref b17)])) t → Steps p.tables e below (s₁.setTop (entryFrame m #[(.long x0), (.long x1), (.int x2), (.int x3), (.int x4)] maxLocals)) t := fun t k => p148 t (by
      show Steps p.tables e below (T147.setTop (mkF m 136 #[.val (.long x0), .second, .val (.long x1), .second, .val (.int x2), .val (.int x3), .val (.int x4), .val (.ref li), .val (.ref lj), .val (.long vbb), .second, .val (.ref b17), .val (.ref b28), .val (.ref b46), .val (.int (0 : Int32)), .val (.int (1 : Int32)), .unset, .unset, .unset] [(.int (1 : Int32))])) _
      refine XS.ifNo X147.here hx rfl (hb hby at_136) rfl ((if0 _ _).trans (feq (by decide)).1) ?_
      show Steps p.tables e below (T147.setTop (mkF m 139 #[.val (.long x0), .second, .val (.long x1), .second, .val (.int x2), .val (.int x3), .val (.int x4), .val (.ref li), .val (.ref lj), .val (.long vbb), .second, .val (.ref b17), .val (.ref b28), .val (.ref b46), .val (.int (0 : Int32)), .val (.int (1 : Int32)), .unset, .unset, .unset] [])) _
      refine XS.aload X147.here hx rfl (hb hby at_139) rfl rfl ?_
      show Steps p.tables e below (T147.setTop (mkF m 141 #[.val (.long x0), .second, .val (.long x1), .second, .val (.int x2), .val (.int x3), .val (.int x4), .val (.ref li), .val (.ref lj), .val (.long vbb), .second, .val (.ref b17), .val (.ref b28), .val (.ref b46), .val (.int (0 : Int32)), .val (.int (1 : Int32)), .unset, .unset, .unset] [(.ref b17)])) _
      refine XS.aload X147.here hx rfl (hb hby at_141) rfl rfl ?_
      exact k)
    obtain ⟨cq150, kq150, qa150, qb150, qc150⟩ := isOf hZ e147 f62
    obtain ⟨_, _, ⟨T150, L150, k150, n150⟩, -, X150, ⟨Lc150, hQ150, l150, y150, z150⟩, st150⟩ := X147.virtualBack hx (y := (⟨"com/example/kvota/kvota/ResolvedQuota", "equals", "(Ljava/lang/Object;)Z"⟩ : MethodName)) (z := (⟨"com/example/kvota/kvota/ResolvedQuota", "equals", "(Ljava/lang/Object;)Z"⟩ : MethodName)) hown (mvT hZ (hw _ (List.mem_of_getElem? (i := 22) rfl))) (mvT hZ (hw _ (List.mem_of_getElem? (i := 23) rfl))) (notFace_of_selects (args := #[]) (mvT hZ (hw _ (List.mem_of_getElem? (i := 25) rfl)))) (mvT hZ (hw _ (List.mem_of_getElem? (i := 25) rfl))) (mvT hZ (hw _ (List.mem_of_getElem? (i := 24) rfl))) (by decide) (backOf (W := 0) (rmA l Z a0 hw [] b17 b46 x0 li x0 li T60.heap n0 Z60 f68 f63 f64 Fa60 Fb60) hZ (hw _ (List.mem_of_getElem? (i := 26) rfl)) (hw _ (List.mem_of_getElem? (i := 11) rfl)) (by decide) (by decide)) qa150 qc150 (g := (mkF m 143 #[.val (.long x0), .second, .val (.long x1), .second, .val (.int x2), .val (.int x3), .val (.int x4), .val (.ref li), .val (.ref lj), .val (.long vbb), .second, .val (.ref b17), .val (.ref b28), .val (.ref b46), .val (.int (0 : Int32)), .val (.int (1 : Int32)), .unset, .unset, .unset] [(.ref b46), (.ref b17)])) rfl (by rw [hml]; rfl) (Steps.refl _) (argsL := [(.ref b46)]) (rest := []) (lenOf pd0_2 rfl) rfl (by show 2 * 0 + _ ≤ _; exact Nat.le_of_eq rfl) (hb hby at_143) (fun _ _ => ⟨rfl, e147, (by decide : 3 + 0 ≤ _), (by decide : 6 + 0 ≤ _)⟩)
    dsimp only [Pt.U, Pt.locs, Pt.cells, Pt.slots] at X150 l150 y150 z150 st150 hQ150
    subst l150 y150 z150
    obtain ⟨rfl, Nq150, e150⟩ := hQ150
    have N150 := Fr.app N147 Nq150
    have p151 : ∀ t, Steps p.tables e below (T150.setTop (mkF m 146 #[.val (.long x0), .second, .val (.long x1), .second, .val (.int x2), .val (.int x3), .val (.int x4), .val (.ref li), .val (.ref lj), .val (.long vbb), .second, .val (.ref b17), .val (.ref b28), .val (.ref b46), .val (.int (0 : Int32)), .val (.int (1 : Int32)), .unset, .unset, .unset] [(.int (own_eqq x0 li x0 li))])) t → Steps p.tables e below (s₁.setTop (entryFrame m #[(.long x0), (.long x1), (.int x2), (.int x3), (.int x4)] maxLocals)) t := fun t k => p149 t (st150.trans k)
    have p152 : ∀ t, Steps p.tables e below (T150.setTop (mkF m 153 #[.val (.long x0), .second, .val (.long x1), .second, .val (.int x2), .val (.int x3), .val (.int x4), .val (.ref li), .val (.ref lj), .val (.long vbb), .second, .val (.ref b17), .val (.ref b28), .val (.ref b46), .val (.int (0 : Int32)), .val (.int (1 : Int32)), .unset, .unset, .unset] [(.ref b17), (.ref b46)])) t → Steps p.tables e below (s₁.setTop (entryFrame m #[(.long x0), (.long x1), (.int x2), (.int x3), (.int x4)] maxLocals)) t := fun t k => p151 t (by
      show Steps p.tables e below (T150.setTop (mkF m 146 #[.val (.long x0), .second, .val (.long x1), .second, .val (.int x2), .val (.int x3), .val (.int x4), .val (.ref li), .val (.ref lj), .val (.long vbb), .second, .val (.ref b17), .val (.ref b28), .val (.ref b46), .val (.int (0 : Int32)), .val (.int (1 : Int32)), .unset, .unset, .unset] [(.int (own_eqq x0 li x0 li))])) _
      refine XS.ifNo X150.here hx rfl (hb hby at_146) rfl ((if0 _ _).trans (feq (by rw [own_refl]; decide)).1) ?_
      show Steps p.tables e below (T150.setTop (mkF m 149 #[.val (.long x0), .second, .val (.long x1), .second, .val (.int x2), .val (.int x3), .val (.int x4), .val (.ref li), .val (.ref lj), .val (.long vbb), .second, .val (.ref b17), .val (.ref b28), .val (.ref b46), .val (.int (0 : Int32)), .val (.int (1 : Int32)), .unset, .unset, .unset] [])) _
      refine XS.aload X150.here hx rfl (hb hby at_149) rfl rfl ?_
      show Steps p.tables e below (T150.setTop (mkF m 151 #[.val (.long x0), .second, .val (.long x1), .second, .val (.int x2), .val (.int x3), .val (.int x4), .val (.ref li), .val (.ref lj), .val (.long vbb), .second, .val (.ref b17), .val (.ref b28), .val (.ref b46), .val (.int (0 : Int32)), .val (.int (1 : Int32)), .unset, .unset, .unset] [(.ref b46)])) _
      refine XS.aload X150.here hx rfl (hb hby at_151) rfl rfl ?_
      exact k)
    obtain ⟨cq153, kq153, qa153, qb153, qc153⟩ := isOf hZ e150 f68
    obtain ⟨_, _, ⟨T153, L153, k153, n153⟩, -, X153, ⟨Lc153, hQ153, l153, y153, z153⟩, st153⟩ := X150.virtualBack hx (y := (⟨"com/example/kvota/kvota/ResolvedQuota", "equals", "(Ljava/lang/Object;)Z"⟩ : MethodName)) (z := (⟨"com/example/kvota/kvota/ResolvedQuota", "equals", "(Ljava/lang/Object;)Z"⟩ : MethodName)) hown (mvT hZ (hw _ (List.mem_of_getElem? (i := 22) rfl))) (mvT hZ (hw _ (List.mem_of_getElem? (i := 23) rfl))) (notFace_of_selects (args := #[]) (mvT hZ (hw _ (List.mem_of_getElem? (i := 25) rfl)))) (mvT hZ (hw _ (List.mem_of_getElem? (i := 25) rfl))) (mvT hZ (hw _ (List.mem_of_getElem? (i := 24) rfl))) (by decide) (backOf (W := 0) (rmA l Z a0 hw [] b46 b17 x0 li x0 li T60.heap n0 Z60 f62 Fa60 Fb60 f63 f64) hZ (hw _ (List.mem_of_getElem? (i := 26) rfl)) (hw _ (List.mem_of_getElem? (i := 11) rfl)) (by decide) (by decide)) qa153 qc153 (g := (mkF m 153 #[.val (.long x0), .second, .val (.long x1), .second, .val (.int x2), .val (.int x3), .val (.int x4), .val (.ref li), .val (.ref lj), .val (.long vbb), .second, .val (.ref b17), .val (.ref b28), .val (.ref b46), .val (.int (0 : Int32)), .val (.int (1 : Int32)), .unset, .unset, .unset] [(.ref b17), (.ref b46)])) rfl (by rw [hml]; rfl) (Steps.refl _) (argsL := [(.ref b17)]) (rest := []) (lenOf pd0_2 rfl) rfl (by show 2 * 0 + _ ≤ _; exact Nat.le_of_eq rfl) (hb hby at_153) (fun _ _ => ⟨rfl, e150, (by decide : 3 + 0 ≤ _), (by decide : 6 + 0 ≤ _)⟩)
    dsimp only [Pt.U, Pt.locs, Pt.cells, Pt.slots] at X153 l153 y153 z153 st153 hQ153
    subst l153 y153 z153
    obtain ⟨rfl, Nq153, e153⟩ := hQ153
    have N153 := Fr.app N150 Nq153
    have p154 : ∀ t, Steps p.tables e below (T153.setTop (mkF m 156 #[.val (.long x0), .second, .val (.long x1), .second, .val (.int x2), .val (.int x3), .val (.int x4), .val (.ref li), .val (.ref lj), .val (.long vbb), .second, .val (.ref b17), .val (.ref b28), .val (.ref b46), .val (.int (0 : Int32)), .val (.int (1 : Int32)), .unset, .unset, .unset] [(.int (own_eqq x0 li x0 li))])) t → Steps p.tables e below (s₁.setTop (entryFrame m #[(.long x0), (.long x1), (.int x2), (.int x3), (.int x4)] maxLocals)) t := fun t k => p152 t (st153.trans k)
    have p155 : ∀ t, Steps p.tables e below (T153.setTop (mkF m 169 #[.val (.long x0), .second, .val (.long x1), .second, .val (.int x2), .val (.int x3), .val (.int x4), .val (.ref li), .val (.ref lj), .val (.long vbb), .second, .val (.ref b17), .val (.ref b28), .val (.ref b46), .val (.int (0 : Int32)), .val (.int (1 : Int32)), .val (.int (1 : Int32)), .unset, .unset] [.null, (.ref b17)])) t → Steps p.tables e below (s₁.setTop (entryFrame m #[(.long x0), (.long x1), (.int x2), (.int x3), (.int x4)] maxLocals)) t := fun t k => p154 t (by
      show Steps p.tables e below (T153.setTop (mkF m 156 #[.val (.long x0), .second, .val (.long x1), .second, .val (.int x2), .val (.int x3), .val (.int x4), .val (.ref li), .val (.ref lj), .val (.long vbb), .second, .val (.ref b17), .val (.ref b28), .val (.ref b46), .val (.int (0 : Int32)), .val (.int (1 : Int32)), .unset, .unset, .unset] [(.int (own_eqq x0 li x0 li))])) _
      refine XS.ifNo X153.here hx rfl (hb hby at_156) rfl ((if0 _ _).trans (feq (by rw [own_refl]; decide)).1) ?_
      show Steps p.tables e below (T153.setTop (mkF m 159 #[.val (.long x0), .second, .val (.long x1), .second, .val (.int x2), .val (.int x3), .val (.int x4), .val (.ref li), .val (.ref lj), .val (.long vbb), .second, .val (.ref b17), .val (.ref b28), .val (.ref b46), .val (.int (0 : Int32)), .val (.int (1 : Int32)), .unset, .unset, .unset] [])) _
      refine XS.iconst X153.here hx rfl (hb hby at_159) ?_
      show Steps p.tables e below (T153.setTop (mkF m 160 #[.val (.long x0), .second, .val (.long x1), .second, .val (.int x2), .val (.int x3), .val (.int x4), .val (.ref li), .val (.ref lj), .val (.long vbb), .second, .val (.ref b17), .val (.ref b28), .val (.ref b46), .val (.int (0 : Int32)), .val (.int (1 : Int32)), .unset, .unset, .unset] [(.int (1 : Int32))])) _
      refine XS.goto X153.here hx rfl (pc0 := 160) (pc' := 164) rfl (hb hby at_160) (by decide) (by decide) ?_
      show Steps p.tables e below (T153.setTop (mkF m 164 #[.val (.long x0), .second, .val (.long x1), .second, .val (.int x2), .val (.int x3), .val (.int x4), .val (.ref li), .val (.ref lj), .val (.long vbb), .second, .val (.ref b17), .val (.ref b28), .val (.ref b46), .val (.int (0 : Int32)), .val (.int (1 : Int32)), .unset, .unset, .unset] [(.int (1 : Int32))])) _
      refine XS.istore X153.here hx rfl (hb hby at_164) rfl (l' := #[.val (.long x0), .second, .val (.long x1), .second, .val (.int x2), .val (.int x3), .val (.int x4), .val (.ref li), .val (.ref lj), .val (.long vbb), .second, .val (.ref b17), .val (.ref b28), .val (.ref b46), .val (.int (0 : Int32)), .val (.int (1 : Int32)), .val (.int (1 : Int32)), .unset, .unset]) rfl ?_
      show Steps p.tables e below (T153.setTop (mkF m 166 #[.val (.long x0), .second, .val (.long x1), .second, .val (.int x2), .val (.int x3), .val (.int x4), .val (.ref li), .val (.ref lj), .val (.long vbb), .second, .val (.ref b17), .val (.ref b28), .val (.ref b46), .val (.int (0 : Int32)), .val (.int (1 : Int32)), .val (.int (1 : Int32)), .unset, .unset] [])) _
      refine XS.aload X153.here hx rfl (hb hby at_166) rfl rfl ?_
      show Steps p.tables e below (T153.setTop (mkF m 168 #[.val (.long x0), .second, .val (.long x1), .second, .val (.int x2), .val (.int x3), .val (.int x4), .val (.ref li), .val (.ref lj), .val (.long vbb), .second, .val (.ref b17), .val (.ref b28), .val (.ref b46), .val (.int (0 : Int32)), .val (.int (1 : Int32)), .val (.int (1 : Int32)), .unset, .unset] [(.ref b17)])) _
      refine XS.aconstNull X153.here hx rfl (hb hby at_168) ?_
      exact k)
    obtain ⟨cq156, kq156, qa156, qb156, qc156⟩ := isOf hZ e153 f62
    obtain ⟨_, _, ⟨T156, L156, k156, n156⟩, -, X156, ⟨Lc156, hQ156, l156, y156, z156⟩, st156⟩ := X153.virtualBack hx (y := (⟨"com/example/kvota/kvota/ResolvedQuota", "equals", "(Ljava/lang/Object;)Z"⟩ : MethodName)) (z := (⟨"com/example/kvota/kvota/ResolvedQuota", "equals", "(Ljava/lang/Object;)Z"⟩ : MethodName)) hown (mvT hZ (hw _ (List.mem_of_getElem? (i := 22) rfl))) (mvT hZ (hw _ (List.mem_of_getElem? (i := 23) rfl))) (notFace_of_selects (args := #[]) (mvT hZ (hw _ (List.mem_of_getElem? (i := 25) rfl)))) (mvT hZ (hw _ (List.mem_of_getElem? (i := 25) rfl))) (mvT hZ (hw _ (List.mem_of_getElem? (i := 24) rfl))) (by decide) (backOf (W := 0) (rmN l Z a0 hw [] b17  T60.heap n0 Z60 ) hZ (hw _ (List.mem_of_getElem? (i := 26) rfl)) (hw _ (List.mem_of_getElem? (i := 11) rfl)) (by decide) (by decide)) qa156 qc156 (g := (mkF m 169 #[.val (.long x0), .second, .val (.long x1), .second, .val (.int x2), .val (.int x3), .val (.int x4), .val (.ref li), .val (.ref lj), .val (.long vbb), .second, .val (.ref b17), .val (.ref b28), .val (.ref b46), .val (.int (0 : Int32)), .val (.int (1 : Int32)), .val (.int (1 : Int32)), .unset, .unset] [.null, (.ref b17)])) rfl (by rw [hml]; rfl) (Steps.refl _) (argsL := [.null]) (rest := []) (lenOf pd0_2 rfl) rfl (by show 2 * 0 + _ ≤ _; exact Nat.le_of_eq rfl) (hb hby at_169) (fun _ _ => ⟨rfl, e153, (by decide : 3 + 0 ≤ _), (by decide : 6 + 0 ≤ _)⟩)
    dsimp only [Pt.U, Pt.locs, Pt.cells, Pt.slots] at X156 l156 y156 z156 st156 hQ156
    subst l156 y156 z156
    obtain ⟨rfl, Nq156, e156⟩ := hQ156
    have N156 := Fr.app N153 Nq156
    have p157 : ∀ t, Steps p.tables e below (T156.setTop (mkF m 172 #[.val (.long x0), .second, .val (.long x1), .second, .val (.int x2), .val (.int x3), .val (.int x4), .val (.ref li), .val (.ref lj), .val (.long vbb), .second, .val (.ref b17), .val (.ref b28), .val (.ref b46), .val (.int (0 : Int32)), .val (.int (1 : Int32)), .val (.int (1 : Int32)), .unset, .unset] [(.int (0 : Int32))])) t → Steps p.tables e below (s₁.setTop (entryFrame m #[(.long x0), (.long x1), (.int x2), (.int x3), (.int x4)] maxLocals)) t := fun t k => p155 t (st156.trans k)
    have p158 : ∀ t, Steps p.tables e below (T156.setTop (mkF m 185 #[.val (.long x0), .second, .val (.long x1), .second, .val (.int x2), .val (.int x3), .val (.int x4), .val (.ref li), .val (.ref lj), .val (.long vbb), .second, .val (.ref b17), .val (.ref b28), .val (.ref b46), .val (.int (0 : Int32)), .val (.int (1 : Int32)), .val (.int (1 : Int32)), .val (.int (1 : Int32)), .unset] [(.long x0), (.ref b17)])) t → Steps p.tables e below (s₁.setTop (entryFrame m #[(.long x0), (.long x1), (.int x2), (.int x3), (.int x4)] maxLocals)) t := fun t k => p157 t (by
      show Steps p.tables e below (T156.setTop (mkF m 172 #[.val (.long x0), .second, .val (.long x1), .second, .val (.int x2), .val (.int x3), .val (.int x4), .val (.ref li), .val (.ref lj), .val (.long vbb), .second, .val (.ref b17), .val (.ref b28), .val (.ref b46), .val (.int (0 : Int32)), .val (.int (1 : Int32)), .val (.int (1 : Int32)), .unset, .unset] [(.int (0 : Int32))])) _
      refine XS.ifNo X156.here hx rfl (hb hby at_172) rfl ((if0 _ _).trans (teq (rfl)).2) ?_
      show Steps p.tables e below (T156.setTop (mkF m 175 #[.val (.long x0), .second, .val (.long x1), .second, .val (.int x2), .val (.int x3), .val (.int x4), .val (.ref li), .val (.ref lj), .val (.long vbb), .second, .val (.ref b17), .val (.ref b28), .val (.ref b46), .val (.int (0 : Int32)), .val (.int (1 : Int32)), .val (.int (1 : Int32)), .unset, .unset] [])) _
      refine XS.iconst X156.here hx rfl (hb hby at_175) ?_
      show Steps p.tables e below (T156.setTop (mkF m 176 #[.val (.long x0), .second, .val (.long x1), .second, .val (.int x2), .val (.int x3), .val (.int x4), .val (.ref li), .val (.ref lj), .val (.long vbb), .second, .val (.ref b17), .val (.ref b28), .val (.ref b46), .val (.int (0 : Int32)), .val (.int (1 : Int32)), .val (.int (1 : Int32)), .unset, .unset] [(.int (1 : Int32))])) _
      refine XS.goto X156.here hx rfl (pc0 := 176) (pc' := 180) rfl (hb hby at_176) (by decide) (by decide) ?_
      show Steps p.tables e below (T156.setTop (mkF m 180 #[.val (.long x0), .second, .val (.long x1), .second, .val (.int x2), .val (.int x3), .val (.int x4), .val (.ref li), .val (.ref lj), .val (.long vbb), .second, .val (.ref b17), .val (.ref b28), .val (.ref b46), .val (.int (0 : Int32)), .val (.int (1 : Int32)), .val (.int (1 : Int32)), .unset, .unset] [(.int (1 : Int32))])) _
      refine XS.istore X156.here hx rfl (hb hby at_180) rfl (l' := #[.val (.long x0), .second, .val (.long x1), .second, .val (.int x2), .val (.int x3), .val (.int x4), .val (.ref li), .val (.ref lj), .val (.long vbb), .second, .val (.ref b17), .val (.ref b28), .val (.ref b46), .val (.int (0 : Int32)), .val (.int (1 : Int32)), .val (.int (1 : Int32)), .val (.int (1 : Int32)), .unset]) rfl ?_
      show Steps p.tables e below (T156.setTop (mkF m 182 #[.val (.long x0), .second, .val (.long x1), .second, .val (.int x2), .val (.int x3), .val (.int x4), .val (.ref li), .val (.ref lj), .val (.long vbb), .second, .val (.ref b17), .val (.ref b28), .val (.ref b46), .val (.int (0 : Int32)), .val (.int (1 : Int32)), .val (.int (1 : Int32)), .val (.int (1 : Int32)), .unset] [])) _
      refine XS.aload X156.here hx rfl (hb hby at_182) rfl rfl ?_
      show Steps p.tables e below (T156.setTop (mkF m 184 #[.val (.long x0), .second, .val (.long x1), .second, .val (.int x2), .val (.int x3), .val (.int x4), .val (.ref li), .val (.ref lj), .val (.long vbb), .second, .val (.ref b17), .val (.ref b28), .val (.ref b46), .val (.int (0 : Int32)), .val (.int (1 : Int32)), .val (.int (1 : Int32)), .val (.int (1 : Int32)), .unset] [(.ref b17)])) _
      refine XS.lloadN X156.here hx rfl (hb hby at_184) rfl ?_
      exact k)
    obtain ⟨_, _, ⟨T159, L159, k159, n159⟩, -, X159, ⟨Lc159, hQ159, l159, y159, z159⟩, st159⟩ := Jvm.LawKit.callS X156 hx (y := (⟨"java/lang/Long", "valueOf", "(J)Ljava/lang/Long;"⟩ : MethodName)) hown (mvT hZ (hw _ (List.mem_of_getElem? (i := 29) rfl))) (mvT hZ (hw _ (List.mem_of_getElem? (i := 30) rfl))) (mvT hZ (hw _ (List.mem_of_getElem? (i := 31) rfl))) (mvT hZ (hw _ (List.mem_of_getElem? (i := 32) rfl))) (by decide) (backOf (W := 1) (rmV l Z a0 hw [] x0 a_C cc own_val T60.heap n0 Z60 f61 S_c B0) hZ (hw _ (List.mem_of_getElem? (i := 32) rfl)) (hw _ (List.mem_of_getElem? (i := 31) rfl)) (by decide) (by decide)) (g := (mkF m 185 #[.val (.long x0), .second, .val (.long x1), .second, .val (.int x2), .val (.int x3), .val (.int x4), .val (.ref li), .val (.ref lj), .val (.long vbb), .second, .val (.ref b17), .val (.ref b28), .val (.ref b46), .val (.int (0 : Int32)), .val (.int (1 : Int32)), .val (.int (1 : Int32)), .val (.int (1 : Int32)), .unset] [(.long x0), (.ref b17)])) rfl (by rw [hml]; rfl) (argsL := [(.long x0)]) (rest := [(.ref b17)]) (lenOf pd0_3 rfl) rfl (by show 2 * 0 + _ ≤ _; exact Nat.le_of_eq rfl) (hb hby at_185) (fun _ _ => ⟨rfl, e156, (by decide : 3 + 1 ≤ _), (by decide : 6 + 1 ≤ _)⟩)
    dsimp only [Pt.U, Pt.locs, Pt.cells, Pt.slots] at X159 l159 y159 z159 st159 hQ159
    subst l159 y159 z159
    obtain ⟨r159, rfl, Nq159, K159, EI159⟩ := hQ159
    have N159 := Fr.app N156 Nq159
    have f160 := f61.keep K159 (all0)
    have f161 := f62.keep K159
    have f162 := f63.keep K159 nin0
    have f163 := f64.keep K159 nin0
    have f164 := f65.keep K159
    have f165 := f66.keep K159 nin0
    have f166 := f67.keep K159 nin0
    have f167 := f68.keep K159
    have f168 := Fa60.keep K159 nin0
    have f169 := Fb60.keep K159 nin0
    have Z159 := Nat.le_trans Z60 K159.1
    have p170 : ∀ t, Steps p.tables e below (T159.setTop (mkF m 188 #[.val (.long x0), .second, .val (.long x1), .second, .val (.int x2), .val (.int x3), .val (.int x4), .val (.ref li), .val (.ref lj), .val (.long vbb), .second, .val (.ref b17), .val (.ref b28), .val (.ref b46), .val (.int (0 : Int32)), .val (.int (1 : Int32)), .val (.int (1 : Int32)), .val (.int (1 : Int32)), .unset] [(.ref r159), (.ref b17)])) t → Steps p.tables e below (s₁.setTop (entryFrame m #[(.long x0), (.long x1), (.int x2), (.int x3), (.int x4)] maxLocals)) t := fun t k => p158 t (st159 _ k)
    obtain ⟨cq171, kq171, qa171, qb171, qc171⟩ := isOf hZ rfl f161
    obtain ⟨_, _, ⟨T171, L171, k171, n171⟩, -, X171, ⟨Lc171, hQ171, l171, y171, z171⟩, st171⟩ := X159.virtualBack hx (y := (⟨"com/example/kvota/kvota/ResolvedQuota", "equals", "(Ljava/lang/Object;)Z"⟩ : MethodName)) (z := (⟨"com/example/kvota/kvota/ResolvedQuota", "equals", "(Ljava/lang/Object;)Z"⟩ : MethodName)) hown (mvT hZ (hw _ (List.mem_of_getElem? (i := 22) rfl))) (mvT hZ (hw _ (List.mem_of_getElem? (i := 23) rfl))) (notFace_of_selects (args := #[]) (mvT hZ (hw _ (List.mem_of_getElem? (i := 25) rfl)))) (mvT hZ (hw _ (List.mem_of_getElem? (i := 25) rfl))) (mvT hZ (hw _ (List.mem_of_getElem? (i := 24) rfl))) (by decide) (backOf (W := 0) (rmO l Z a0 hw [] b17 r159  T159.heap n0 Z159 EI159 hno) hZ (hw _ (List.mem_of_getElem? (i := 26) rfl)) (hw _ (List.mem_of_getElem? (i := 11) rfl)) (by decide) (by decide)) qa171 qc171 (g := (mkF m 188 #[.val (.long x0), .second, .val (.long x1), .second, .val (.int x2), .val (.int x3), .val (.int x4), .val (.ref li), .val (.ref lj), .val (.long vbb), .second, .val (.ref b17), .val (.ref b28), .val (.ref b46), .val (.int (0 : Int32)), .val (.int (1 : Int32)), .val (.int (1 : Int32)), .val (.int (1 : Int32)), .unset] [(.ref r159), (.ref b17)])) rfl (by rw [hml]; rfl) (Steps.refl _) (argsL := [(.ref r159)]) (rest := []) (lenOf pd0_2 rfl) rfl (by show 2 * 0 + _ ≤ _; exact Nat.le_of_eq rfl) (hb hby at_188) (fun _ _ => ⟨rfl, rfl, (by decide : 4 + 0 ≤ _), (by decide : 7 + 0 ≤ _)⟩)
    dsimp only [Pt.U, Pt.locs, Pt.cells, Pt.slots] at X171 l171 y171 z171 st171 hQ171
    subst l171 y171 z171
    obtain ⟨rfl, Nq171, e171⟩ := hQ171
    have N171 := Fr.app N159 Nq171
    have p172 : ∀ t, Steps p.tables e below (T171.setTop (mkF m 191 #[.val (.long x0), .second, .val (.long x1), .second, .val (.int x2), .val (.int x3), .val (.int x4), .val (.ref li), .val (.ref lj), .val (.long vbb), .second, .val (.ref b17), .val (.ref b28), .val (.ref b46), .val (.int (0 : Int32)), .val (.int (1 : Int32)), .val (.int (1 : Int32)), .val (.int (1 : Int32)), .unset] [(.int (0 : Int32))])) t → Steps p.tables e below (s₁.setTop (entryFrame m #[(.long x0), (.long x1), (.int x2), (.int x3), (.int x4)] maxLocals)) t := fun t k => p170 t (st171.trans k)
    have p173 : ∀ t, Steps p.tables e below (T171.setTop (mkF m 226 #[.val (.long x0), .second, .val (.long x1), .second, .val (.int x2), .val (.int x3), .val (.int x4), .val (.ref li), .val (.ref lj), .val (.long vbb), .second, .val (.ref b17), .val (.ref b28), .val (.ref b46), .val (.int (0 : Int32)), .val (.int (1 : Int32)), .val (.int (1 : Int32)), .val (.int (1 : Int32)), .val (.int (1 : Int32))] [(.int (1 : Int32))])) t → Steps p.tables e below (s₁.setTop (entryFrame m #[(.long x0), (.long x1), (.int x2), (.int x3), (.int x4)] maxLocals)) t := fun t k => p172 t (by
      show Steps p.tables e below (T171.setTop (mkF m 191 #[.val (.long x0), .second, .val (.long x1), .second, .val (.int x2), .val (.int x3), .val (.int x4), .val (.ref li), .val (.ref lj), .val (.long vbb), .second, .val (.ref b17), .val (.ref b28), .val (.ref b46), .val (.int (0 : Int32)), .val (.int (1 : Int32)), .val (.int (1 : Int32)), .val (.int (1 : Int32)), .unset] [(.int (0 : Int32))])) _
      refine XS.ifNo X171.here hx rfl (hb hby at_191) rfl ((if0 _ _).trans (teq (rfl)).2) ?_
      show Steps p.tables e below (T171.setTop (mkF m 194 #[.val (.long x0), .second, .val (.long x1), .second, .val (.int x2), .val (.int x3), .val (.int x4), .val (.ref li), .val (.ref lj), .val (.long vbb), .second, .val (.ref b17), .val (.ref b28), .val (.ref b46), .val (.int (0 : Int32)), .val (.int (1 : Int32)), .val (.int (1 : Int32)), .val (.int (1 : Int32)), .unset] [])) _
      refine XS.iconst X171.here hx rfl (hb hby at_194) ?_
      show Steps p.tables e below (T171.setTop (mkF m 195 #[.val (.long x0), .second, .val (.long x1), .second, .val (.int x2), .val (.int x3), .val (.int x4), .val (.ref li), .val (.ref lj), .val (.long vbb), .second, .val (.ref b17), .val (.ref b28), .val (.ref b46), .val (.int (0 : Int32)), .val (.int (1 : Int32)), .val (.int (1 : Int32)), .val (.int (1 : Int32)), .unset] [(.int (1 : Int32))])) _
      refine XS.goto X171.here hx rfl (pc0 := 195) (pc' := 199) rfl (hb hby at_195) (by decide) (by decide) ?_
      show Steps p.tables e below (T171.setTop (mkF m 199 #[.val (.long x0), .second, .val (.long x1), .second, .val (.int x2), .val (.int x3), .val (.int x4), .val (.ref li), .val (.ref lj), .val (.long vbb), .second, .val (.ref b17), .val (.ref b28), .val (.ref b46), .val (.int (0 : Int32)), .val (.int (1 : Int32)), .val (.int (1 : Int32)), .val (.int (1 : Int32)), .unset] [(.int (1 : Int32))])) _
      refine XS.istore X171.here hx rfl (hb hby at_199) rfl (l' := #[.val (.long x0), .second, .val (.long x1), .second, .val (.int x2), .val (.int x3), .val (.int x4), .val (.ref li), .val (.ref lj), .val (.long vbb), .second, .val (.ref b17), .val (.ref b28), .val (.ref b46), .val (.int (0 : Int32)), .val (.int (1 : Int32)), .val (.int (1 : Int32)), .val (.int (1 : Int32)), .val (.int (1 : Int32))]) rfl ?_
      show Steps p.tables e below (T171.setTop (mkF m 201 #[.val (.long x0), .second, .val (.long x1), .second, .val (.int x2), .val (.int x3), .val (.int x4), .val (.ref li), .val (.ref lj), .val (.long vbb), .second, .val (.ref b17), .val (.ref b28), .val (.ref b46), .val (.int (0 : Int32)), .val (.int (1 : Int32)), .val (.int (1 : Int32)), .val (.int (1 : Int32)), .val (.int (1 : Int32))] [])) _
      refine XS.iload X171.here hx rfl (hb hby at_201) rfl ?_
      show Steps p.tables e below (T171.setTop (mkF m 203 #[.val (.long x0), .second, .val (.long x1), .second, .val (.int x2), .val (.int x3), .val (.int x4), .val (.ref li), .val (.ref lj), .val (.long vbb), .second, .val (.ref b17), .val (.ref b28), .val (.ref b46), .val (.int (0 : Int32)), .val (.int (1 : Int32)), .val (.int (1 : Int32)), .val (.int (1 : Int32)), .val (.int (1 : Int32))] [(.int (1 : Int32))])) _
      refine XS.ifNo X171.here hx rfl (hb hby at_203) rfl ((if0 _ _).trans (feq (by decide)).1) ?_
      show Steps p.tables e below (T171.setTop (mkF m 206 #[.val (.long x0), .second, .val (.long x1), .second, .val (.int x2), .val (.int x3), .val (.int x4), .val (.ref li), .val (.ref lj), .val (.long vbb), .second, .val (.ref b17), .val (.ref b28), .val (.ref b46), .val (.int (0 : Int32)), .val (.int (1 : Int32)), .val (.int (1 : Int32)), .val (.int (1 : Int32)), .val (.int (1 : Int32))] [])) _
      refine XS.iload X171.here hx rfl (hb hby at_206) rfl ?_
      show Steps p.tables e below (T171.setTop (mkF m 208 #[.val (.long x0), .second, .val (.long x1), .second, .val (.int x2), .val (.int x3), .val (.int x4), .val (.ref li), .val (.ref lj), .val (.long vbb), .second, .val (.ref b17), .val (.ref b28), .val (.ref b46), .val (.int (0 : Int32)), .val (.int (1 : Int32)), .val (.int (1 : Int32)), .val (.int (1 : Int32)), .val (.int (1 : Int32))] [(.int (1 : Int32))])) _
      refine XS.ifNo X171.here hx rfl (hb hby at_208) rfl ((if0 _ _).trans (feq (by decide)).1) ?_
      show Steps p.tables e below (T171.setTop (mkF m 211 #[.val (.long x0), .second, .val (.long x1), .second, .val (.int x2), .val (.int x3), .val (.int x4), .val (.ref li), .val (.ref lj), .val (.long vbb), .second, .val (.ref b17), .val (.ref b28), .val (.ref b46), .val (.int (0 : Int32)), .val (.int (1 : Int32)), .val (.int (1 : Int32)), .val (.int (1 : Int32)), .val (.int (1 : Int32))] [])) _
      refine XS.iload X171.here hx rfl (hb hby at_211) rfl ?_
      show Steps p.tables e below (T171.setTop (mkF m 213 #[.val (.long x0), .second, .val (.long x1), .second, .val (.int x2), .val (.int x3), .val (.int x4), .val (.ref li), .val (.ref lj), .val (.long vbb), .second, .val (.ref b17), .val (.ref b28), .val (.ref b46), .val (.int (0 : Int32)), .val (.int (1 : Int32)), .val (.int (1 : Int32)), .val (.int (1 : Int32)), .val (.int (1 : Int32))] [(.int (1 : Int32))])) _
      refine XS.ifNo X171.here hx rfl (hb hby at_213) rfl ((if0 _ _).trans (feq (by decide)).1) ?_
      show Steps p.tables e below (T171.setTop (mkF m 216 #[.val (.long x0), .second, .val (.long x1), .second, .val (.int x2), .val (.int x3), .val (.int x4), .val (.ref li), .val (.ref lj), .val (.long vbb), .second, .val (.ref b17), .val (.ref b28), .val (.ref b46), .val (.int (0 : Int32)), .val (.int (1 : Int32)), .val (.int (1 : Int32)), .val (.int (1 : Int32)), .val (.int (1 : Int32))] [])) _
      refine XS.iload X171.here hx rfl (hb hby at_216) rfl ?_
      show Steps p.tables e below (T171.setTop (mkF m 218 #[.val (.long x0), .second, .val (.long x1), .second, .val (.int x2), .val (.int x3), .val (.int x4), .val (.ref li), .val (.ref lj), .val (.long vbb), .second, .val (.ref b17), .val (.ref b28), .val (.ref b46), .val (.int (0 : Int32)), .val (.int (1 : Int32)), .val (.int (1 : Int32)), .val (.int (1 : Int32)), .val (.int (1 : Int32))] [(.int (1 : Int32))])) _
      refine XS.ifNo X171.here hx rfl (hb hby at_218) rfl ((if0 _ _).trans (feq (by decide)).1) ?_
      show Steps p.tables e below (T171.setTop (mkF m 221 #[.val (.long x0), .second, .val (.long x1), .second, .val (.int x2), .val (.int x3), .val (.int x4), .val (.ref li), .val (.ref lj), .val (.long vbb), .second, .val (.ref b17), .val (.ref b28), .val (.ref b46), .val (.int (0 : Int32)), .val (.int (1 : Int32)), .val (.int (1 : Int32)), .val (.int (1 : Int32)), .val (.int (1 : Int32))] [])) _
      refine XS.iconst X171.here hx rfl (hb hby at_221) ?_
      show Steps p.tables e below (T171.setTop (mkF m 222 #[.val (.long x0), .second, .val (.long x1), .second, .val (.int x2), .val (.int x3), .val (.int x4), .val (.ref li), .val (.ref lj), .val (.long vbb), .second, .val (.ref b17), .val (.ref b28), .val (.ref b46), .val (.int (0 : Int32)), .val (.int (1 : Int32)), .val (.int (1 : Int32)), .val (.int (1 : Int32)), .val (.int (1 : Int32))] [(.int (1 : Int32))])) _
      refine XS.goto X171.here hx rfl (pc0 := 222) (pc' := 226) rfl (hb hby at_222) (by decide) (by decide) ?_
      exact k)
    obtain ⟨fs, hr, hrun, hended, hW, hsame⟩ := X171.leave (v := some (.int (1 : Int32))) (fun h => by rw [Bd.returns] at h; cases h)
    refine ⟨_, _, p173 _ ?_, hrun, hended, _, _, rfl, ?_, ⟨_, rfl⟩, hW, hsame.mono (by decide) (by decide)⟩
    · show Steps p.tables e below (T171.setTop (mkF m 226 #[.val (.long x0), .second, .val (.long x1), .second, .val (.int x2), .val (.int x3), .val (.int x4), .val (.ref li), .val (.ref lj), .val (.long vbb), .second, .val (.ref b17), .val (.ref b28), .val (.ref b46), .val (.int (0 : Int32)), .val (.int (1 : Int32)), .val (.int (1 : Int32)), .val (.int (1 : Int32)), .val (.int (1 : Int32))] [(.int (1 : Int32))])) _
      exact retN X171 hx (t := .boolean) Bd.returns (by simp) (hb hby at_226) hr
    · show Q0 Z x0 x1 x2 x3 x4 a_USER_CLIENT a_DEFAULT_USER_CLIENT a_USER a_DEFAULT_USER a_USER_DEFAULT_CLIENT a_CLIENT a_DEFAULT_USER_DEFAULT_CLIENT a_DEFAULT_CLIENT a_C cc own_val h0 n0 _ T171.heap _
      rw [e171]
      exact ⟨rfl, N171⟩
set_option maxRecDepth 65536 in
set_option maxHeartbeats 40000000 in
theorem comes_1 {Post : Tables → Env → Array Value → State → Outcome → State → Prop} (hpost : ∀ tb e args s v u, (limb_1_1.after args s (.returned v) u = true ∧ limb_1_2.after args s (.returned v) u = true ∧ True) → FrameEnd s (.returned v) u (Jvm.fieldLocs frame_1_writes args s ++ Jvm.arrayLocs frame_1_arrays args s ++ Jvm.staticLocs frame_1_statics s) 16 128 → Post tb e args s (.returned v) u) :
    ArmFor flags0 classFile x code maxLocals ret World_1 tables_1 room_1 Calls_1 rest_1 Pre_1 Post := by
  intro l hfl _ _ p e ha hc hk s m args below hf hA hF happ hP
  obtain ⟨hcalls, hrest, hpre⟩ := hP
  obtain ⟨-, -, -, hnamed, -, -, -, hat⟩ := (Spec.applies_iff hf).mp happ
  obtain ⟨hg, hn⟩ := and_e (Cond.before_iff.mp (show (Jvm.Cond.and given_1 narrow_1).before args s = true from hpre))
  obtain ⟨hcount, ga0⟩ := and_e hg
  obtain ⟨gb0, ga1⟩ := and_e ga0
  obtain ⟨gb1, ga2⟩ := and_e ga1
  obtain ⟨gb2, ga3⟩ := and_e ga2
  obtain ⟨gb3, ga4⟩ := and_e ga3
  obtain ⟨w0, w1, w2, w3, w4, rfl⟩ : ∃ w0 w1 w2 w3 w4 : Value, args = #[w0, w1, w2, w3, w4] := by
    have hs : args.size = 5 := by simpa [Cond.value, given_1] using hcount
    obtain ⟨L⟩ := args
    match L, hs with
    | [w0, w1, w2, w3, w4], _ => exact ⟨w0, w1, w2, w3, w4, rfl⟩
  have hw := fun d (hd : d ∈ tables_1) => atoms_spec (ws := Jvm.Cond.code x code maxLocals ret :: tables_1) hat d (List.mem_cons_of_mem _ hd)
  have hfit : Fit s := fun {y c} hc i hi => by
    obtain ⟨ha, rfl⟩ := Array.getElem?_eq_some_iff.mp hc
    have q := List.all_eq_true.mp ((Array.all_eq_true_iff_forall_mem.mp hF) _ (Array.getElem_mem ha)) i (List.mem_range.mpr hi)
    simpa [Array.getElem?_eq_getElem hi] using q
  obtain ⟨hsets, hown0⟩ := atoms_of _ (rest_1_c_eq ▸ (show rest_1_c.before _ s = true from hrest))
  obtain ⟨i0, ei0⟩ := isL_v gb0
  obtain rfl : w0 = (.long i0) := Option.some.inj ei0
  obtain ⟨i1, ei1⟩ := isL_v gb1
  obtain rfl : w1 = (.long i1) := Option.some.inj ei1
  obtain ⟨i2, ei2⟩ := is_v gb2
  obtain rfl : w2 = (.int i2) := Option.some.inj ei2
  obtain ⟨i3, ei3⟩ := is_v gb3
  obtain rfl : w3 = (.int i3) := Option.some.inj ei3
  obtain ⟨i4, ei4⟩ := is_v ga4
  obtain rfl : w4 = (.int i4) := Option.some.inj ei4
  obtain ⟨nn0, nr0⟩ := and_e hn
  obtain ⟨nn1, nr1⟩ := and_e nr0
  obtain ⟨nn2, nr2⟩ := and_e nr1
  obtain ⟨nn3, nr3⟩ := and_e nr2
  obtain ⟨nn4, nr4⟩ := and_e nr3
  obtain ⟨nn5, nr5⟩ := and_e nr4
  obtain ⟨nn6, nr6⟩ := and_e nr5
  obtain ⟨nn7, nr7⟩ := and_e nr6
  obtain ⟨nn8, nr8⟩ := and_e nr7
  obtain ⟨nn9, nr9⟩ := and_e nr8
  obtain ⟨nn10, nr10⟩ := and_e nr9
  obtain ⟨nn11, nr11⟩ := and_e nr10
  obtain ⟨nn12, nr12⟩ := and_e nr11
  obtain ⟨nn13, nr13⟩ := and_e nr12
  obtain ⟨nn14, nr14⟩ := and_e nr13
  obtain ⟨a_USER_CLIENT, ev_USER_CLIENT⟩ := exa_v nn0
  have S_USER_CLIENT : Sta s s.heap "com/example/kvota/kvota/PrecedenceLevel" "USER_CLIENT" "Lcom/example/kvota/kvota/PrecedenceLevel;" (.ref a_USER_CLIENT) := Sta.start ev_USER_CLIENT (Or.inr ⟨(hw _ (List.mem_of_getElem? (i := 5) rfl)), (hw _ (List.mem_of_getElem? (i := 6) rfl))⟩)
  have E_USER_CLIENT : Exa s s.heap a_USER_CLIENT "com/example/kvota/kvota/PrecedenceLevel" := Exa.start ev_USER_CLIENT nn0
  obtain ⟨a_DEFAULT_USER_CLIENT, ev_DEFAULT_USER_CLIENT⟩ := exa_v nn1
  have S_DEFAULT_USER_CLIENT : Sta s s.heap "com/example/kvota/kvota/PrecedenceLevel" "DEFAULT_USER_CLIENT" "Lcom/example/kvota/kvota/PrecedenceLevel;" (.ref a_DEFAULT_USER_CLIENT) := Sta.start ev_DEFAULT_USER_CLIENT (Or.inr ⟨(hw _ (List.mem_of_getElem? (i := 5) rfl)), (hw _ (List.mem_of_getElem? (i := 8) rfl))⟩)
  have E_DEFAULT_USER_CLIENT : Exa s s.heap a_DEFAULT_USER_CLIENT "com/example/kvota/kvota/PrecedenceLevel" := Exa.start ev_DEFAULT_USER_CLIENT nn1
  obtain ⟨a_USER, ev_USER⟩ := exa_v nn2
  have S_USER : Sta s s.heap "com/example/kvota/kvota/PrecedenceLevel" "USER" "Lcom/example/kvota/kvota/PrecedenceLevel;" (.ref a_USER) := Sta.start ev_USER (Or.inr ⟨(hw _ (List.mem_of_getElem? (i := 5) rfl)), (hw _ (List.mem_of_getElem? (i := 41) rfl))⟩)
  have E_USER : Exa s s.heap a_USER "com/example/kvota/kvota/PrecedenceLevel" := Exa.start ev_USER nn2
  obtain ⟨a_DEFAULT_USER, ev_DEFAULT_USER⟩ := exa_v nn3
  have S_DEFAULT_USER : Sta s s.heap "com/example/kvota/kvota/PrecedenceLevel" "DEFAULT_USER" "Lcom/example/kvota/kvota/PrecedenceLevel;" (.ref a_DEFAULT_USER) := Sta.start ev_DEFAULT_USER (Or.inr ⟨(hw _ (List.mem_of_getElem? (i := 5) rfl)), (hw _ (List.mem_of_getElem? (i := 43) rfl))⟩)
  have E_DEFAULT_USER : Exa s s.heap a_DEFAULT_USER "com/example/kvota/kvota/PrecedenceLevel" := Exa.start ev_DEFAULT_USER nn3
  obtain ⟨a_USER_DEFAULT_CLIENT, ev_USER_DEFAULT_CLIENT⟩ := exa_v nn4
  have S_USER_DEFAULT_CLIENT : Sta s s.heap "com/example/kvota/kvota/PrecedenceLevel" "USER_DEFAULT_CLIENT" "Lcom/example/kvota/kvota/PrecedenceLevel;" (.ref a_USER_DEFAULT_CLIENT) := Sta.start ev_USER_DEFAULT_CLIENT (Or.inr ⟨(hw _ (List.mem_of_getElem? (i := 5) rfl)), (hw _ (List.mem_of_getElem? (i := 60) rfl))⟩)
  have E_USER_DEFAULT_CLIENT : Exa s s.heap a_USER_DEFAULT_CLIENT "com/example/kvota/kvota/PrecedenceLevel" := Exa.start ev_USER_DEFAULT_CLIENT nn4
  obtain ⟨a_CLIENT, ev_CLIENT⟩ := exa_v nn5
  have S_CLIENT : Sta s s.heap "com/example/kvota/kvota/PrecedenceLevel" "CLIENT" "Lcom/example/kvota/kvota/PrecedenceLevel;" (.ref a_CLIENT) := Sta.start ev_CLIENT (Or.inr ⟨(hw _ (List.mem_of_getElem? (i := 5) rfl)), (hw _ (List.mem_of_getElem? (i := 62) rfl))⟩)
  have E_CLIENT : Exa s s.heap a_CLIENT "com/example/kvota/kvota/PrecedenceLevel" := Exa.start ev_CLIENT nn5
  obtain ⟨a_DEFAULT_USER_DEFAULT_CLIENT, ev_DEFAULT_USER_DEFAULT_CLIENT⟩ := exa_v nn10
  have S_DEFAULT_USER_DEFAULT_CLIENT : Sta s s.heap "com/example/kvota/kvota/PrecedenceLevel" "DEFAULT_USER_DEFAULT_CLIENT" "Lcom/example/kvota/kvota/PrecedenceLevel;" (.ref a_DEFAULT_USER_DEFAULT_CLIENT) := Sta.start ev_DEFAULT_USER_DEFAULT_CLIENT (Or.inr ⟨(hw _ (List.mem_of_getElem? (i := 5) rfl)), (hw _ (List.mem_of_getElem? (i := 64) rfl))⟩)
  have E_DEFAULT_USER_DEFAULT_CLIENT : Exa s s.heap a_DEFAULT_USER_DEFAULT_CLIENT "com/example/kvota/kvota/PrecedenceLevel" := Exa.start ev_DEFAULT_USER_DEFAULT_CLIENT nn10
  obtain ⟨a_DEFAULT_CLIENT, ev_DEFAULT_CLIENT⟩ := exa_v nn11
  have S_DEFAULT_CLIENT : Sta s s.heap "com/example/kvota/kvota/PrecedenceLevel" "DEFAULT_CLIENT" "Lcom/example/kvota/kvota/PrecedenceLevel;" (.ref a_DEFAULT_CLIENT) := Sta.start ev_DEFAULT_CLIENT (Or.inr ⟨(hw _ (List.mem_of_getElem? (i := 5) rfl)), (hw _ (List.mem_of_getElem? (i := 66) rfl))⟩)
  have E_DEFAULT_CLIENT : Exa s s.heap a_DEFAULT_CLIENT "com/example/kvota/kvota/PrecedenceLevel" := Exa.start ev_DEFAULT_CLIENT nn11
  have O_ordinal_CLIENT : Fld s s.heap a_CLIENT "java/lang/Enum" "ordinal" "I" (.int (6 : Int32)) := Fld.start ((fld_at ev_CLIENT).symm.trans (eqv_i (Term.int_eval (6)) nn6))
  have O_ordinal_DEFAULT_USER : Fld s s.heap a_DEFAULT_USER "java/lang/Enum" "ordinal" "I" (.int (5 : Int32)) := Fld.start ((fld_at ev_DEFAULT_USER).symm.trans (eqv_i (Term.int_eval (5)) nn7))
  have O_ordinal_USER_DEFAULT_CLIENT : Fld s s.heap a_USER_DEFAULT_CLIENT "java/lang/Enum" "ordinal" "I" (.int (1 : Int32)) := Fld.start ((fld_at ev_USER_DEFAULT_CLIENT).symm.trans (eqv_i (Term.int_eval (1)) nn8))
  have O_ordinal_USER_CLIENT : Fld s s.heap a_USER_CLIENT "java/lang/Enum" "ordinal" "I" (.int (0 : Int32)) := Fld.start ((fld_at ev_USER_CLIENT).symm.trans (eqv_i (Term.int_eval (0)) nn9))
  have O_ordinal_DEFAULT_USER_CLIENT : Fld s s.heap a_DEFAULT_USER_CLIENT "java/lang/Enum" "ordinal" "I" (.int (3 : Int32)) := Fld.start ((fld_at ev_DEFAULT_USER_CLIENT).symm.trans (eqv_i (Term.int_eval (3)) nn12))
  have O_ordinal_DEFAULT_USER_DEFAULT_CLIENT : Fld s s.heap a_DEFAULT_USER_DEFAULT_CLIENT "java/lang/Enum" "ordinal" "I" (.int (4 : Int32)) := Fld.start ((fld_at ev_DEFAULT_USER_DEFAULT_CLIENT).symm.trans (eqv_i (Term.int_eval (4)) nn13))
  have O_ordinal_USER : Fld s s.heap a_USER "java/lang/Enum" "ordinal" "I" (.int (2 : Int32)) := Fld.start ((fld_at ev_USER).symm.trans (eqv_i (Term.int_eval (2)) nn14))
  have O_ordinal_DEFAULT_CLIENT : Fld s s.heap a_DEFAULT_CLIENT "java/lang/Enum" "ordinal" "I" (.int (7 : Int32)) := Fld.start ((fld_at ev_DEFAULT_CLIENT).symm.trans (eqv_i (Term.int_eval (7)) nr14))
  have O0 := Old.start s
  obtain ⟨a_C, ev_C⟩ := arr_v (Cond.before_iff.mp (hsets _ (List.mem_of_getElem? (i := 2) rfl)))
  obtain ⟨cc, A_C⟩ := Arr.start ev_C (Cond.before_iff.mp (hsets _ (List.mem_of_getElem? (i := 2) rfl)))
  have S_c : Sta s s.heap "java/lang/Long$LongCache" "cache" "[Ljava/lang/Long;" (.ref a_C) := Sta.start ev_C (Or.inl (hsets _ (List.mem_of_getElem? (i := 1) rfl)))
  obtain ⟨hsz, hlen⟩ := own_len ev_C (A_C.fin (Vm.Alike.refl _)) (eqv_i (Term.int_eval (256)) (Cond.before_iff.mp (hsets _ (List.mem_of_getElem? (i := 4) rfl))))
  have B0 : Bxs s a_C cc "java/lang/Long" "J" (256 : Int32) (fun j => .long ((j - (128 : Int32)).toInt64)) := Bxs.start (fun idx => ev_C) A_C hsz hlen (by decide) (Cond.before_iff.mp (hsets _ (List.mem_of_getElem? (i := 5) rfl))) (fun X j hj hX => eqv_l (i2l_at (Term.sub_int (idx_at hj) (Term.int_eval (128)))) hX)
  obtain ⟨n, o, h1, h2, h3, _, L, rfl, ⟨rfl, N⟩, hq⟩ := rm0 l s _ hw tables_1 i0 i1 i2 i3 i4 a_USER_CLIENT a_DEFAULT_USER_CLIENT a_USER a_DEFAULT_USER a_USER_DEFAULT_CLIENT a_CLIENT a_DEFAULT_USER_DEFAULT_CLIENT a_DEFAULT_CLIENT a_C cc _ s.heap s.heap.size (Nat.le_refl _) S_USER_CLIENT S_DEFAULT_USER_CLIENT S_USER S_DEFAULT_USER S_USER_DEFAULT_CLIENT S_CLIENT S_DEFAULT_USER_DEFAULT_CLIENT S_DEFAULT_CLIENT O0 S_c B0 p e ha hc hk s m _ below hf ((Spec.applies_iff_loose hf).mp happ).1 ⟨rfl, State.Warmed39.refl s, rfl⟩ trivial
  refine ⟨n, _, h1, h2, h3, hpost _ _ _ _ _ _ ⟨Cond.after_iff.mpr rfl, Cond.after_iff.mpr (eq_i res_at (Term.int_eval (1)) rfl), trivial⟩ ⟨hq.1, hq.2.1, (hq.2.2.sift fun y hy => Or.inr (N y hy)).mono (by decide) (by decide)⟩⟩
theorem main_1_1 : Claimed_1_1 := comes_1 fun _ _ _ _ _ _ h hF => ⟨h.1, hF⟩
theorem main_1_2 : Claimed_1_2 := comes_1 fun _ _ _ _ _ _ h hF => ⟨h.2.1, hF⟩
end Jvm.Pilot.@@N@@
namespace Jvm.Pilot.@@N@@
open Jvm Jvm.ClassFile Sem Op Lib Jvm.Free Jvm.Stand Jvm.Pilot.@@N@@.Jvm.D
/-! MADE BY PROGRAM (witnessworld.py) out of the Statement's table words and the real class files: 16 classes; the members and pool entries that the words name. The judged class is class 1, her method 2. -/
namespace start1
open Jvm.ClassFile
def u (s : String) : CpInfo := .utf8 (stringToUtf16 s)
/-- a pool by its gaps: so many unusable entries, then the entry; so many at the end -/
def gap : Nat → List CpInfo → List CpInfo
  | 0, r => r
  | n + 1, r => .unusable :: gap n r
def poolList (es : List (Nat × CpInfo)) (last : Nat) : List CpInfo := es.foldr (fun e r => gap e.1 (e.2 :: r)) (gap last [])
def pool (es : List (Nat × CpInfo)) (last : Nat) : Array CpInfo := ⟨poolList es last⟩
def fileOf (pool : Array CpInfo) (this : Nat) (attrs : Array Attribute := #[]) (ms : Array MethodInfo := #[]) (fl : Nat := 33) (sup : Nat := 0) (ifs : Array Nat := #[]) (fds : Array FieldInfo := #[]) : ClassFile where
  minorVersion := 0
  majorVersion := 65
  constantPool := pool
  accessFlags := fl
  thisClass := this
  superClass := sup
  interfaces := ifs
  fields := fds
  methods := ms
  attributes := attrs
def plain (name : String) (sup : Option ClassId) : Class where
  name := name
  kind := .ordinary
  loader := none
  accessFlags := 33
  super := sup
  interfaces := #[]
  cf := none
  fields := #[]
  methods := #[]
  instanceTypes := #[]
  staticTypes := #[]
  resolved := #[]
  callSites := []
  init := .initialized
  statics := none
  mirror := none

def pool0 : Array CpInfo := pool [(5, u "<init>"), (0, u "()V"), (1, .class_ 10), (1, u "java/lang/Object")] 113

def k0c0 : Code := { maxStack := 0, maxLocals := 1, code := object_method_1_code, exceptionTable := #[], attributes := #[] }
def k0m0 : Method := { name := "<init>", desc := "()V", sig := { parameters := [], returnType := none }, accessFlags := 1, code := some k0c0 }
/-- java/lang/Object -/
def k0 : Class := { plain "java/lang/Object" none with
  accessFlags := 33
  interfaces := #[]
  cf := some (fileOf pool0 8 #[] #[{ accessFlags := 1, nameIndex := 5, descriptorIndex := 6, attributes := #[] }] 33 0 #[] #[])
  fields := #[]
  methods := #[k0m0]
  instanceTypes := #[]
  staticTypes := #[]
  resolved := Array.replicate 124 none
  statics := none }

def pool1 : Array CpInfo := pool [(2, .class_ 4), (1, u "java/lang/Object"), (0, u "<init>"), (0, u "()V"), (0, .fieldref 8 9), (0, .class_ 10), (0, .nameAndType 11 12), (0, u "com/example/kvota/kvota/PrecedenceLevel"), (0, u "USER_CLIENT"), (0, u "Lcom/example/kvota/kvota/PrecedenceLevel;"), (0, .fieldref 8 14), (0, .nameAndType 15 12), (0, u "USER_DEFAULT_CLIENT"), (0, .fieldref 8 17), (0, .nameAndType 18 12), (0, u "USER"), (0, .fieldref 8 20), (0, .nameAndType 21 12), (0, u "DEFAULT_USER_CLIENT"), (0, .fieldref 8 23), (0, .nameAndType 24 12), (0, u "DEFAULT_USER_DEFAULT_CLIENT"), (0, .fieldref 8 26), (0, .nameAndType 27 12), (0, u "DEFAULT_USER"), (0, .fieldref 8 29), (0, .nameAndType 30 12), (0, u "CLIENT"), (0, .fieldref 8 32), (0, .nameAndType 33 12), (0, u "DEFAULT_CLIENT"), (0, .methodref 35 36), (0, .class_ 37), (0, .nameAndType 38 39), (0, u "com/example/kvota/kvota/ResolvedQuotaEqualsPinLaw"), (0, u "level"), (0, u "(I)Lcom/example/kvota/kvota/PrecedenceLevel;"), (0, .class_ 41), (0, u "com/example/kvota/kvota/ResolvedQuota"), (0, .methodref 40 43), (0, .nameAndType 5 44), (0, u "(JLcom/example/kvota/kvota/PrecedenceLevel;)V"), (0, .methodref 40 46), (0, .nameAndType 47 48), (0, u "equals"), (0, u "(Ljava/lang/Object;)Z"), (0, .methodref 50 51), (0, .class_ 52), (0, .nameAndType 53 54), (0, u "java/lang/Long"), (0, u "valueOf"), (0, u "(J)Ljava/lang/Long;"), (3, u "law"), (0, u "(JJIII)Z")] 2

def k1m0 : Method := { name := "<init>", desc := "()V", sig := { parameters := [], returnType := none }, accessFlags := 1, code := none }
def k1c1 : Code := { maxStack := 2, maxLocals := 2, code := method_2_code, exceptionTable := #[], attributes := #[] }
def k1m1 : Method := { name := "level", desc := "(I)Lcom/example/kvota/kvota/PrecedenceLevel;", sig := { parameters := [.int], returnType := some (.object "com/example/kvota/kvota/PrecedenceLevel") }, accessFlags := 10, code := some k1c1 }
def k1c2 : Code := { maxStack := 5, maxLocals := 19, code := code, exceptionTable := #[], attributes := #[] }
def k1m2 : Method := { name := "law", desc := "(JJIII)Z", sig := { parameters := [.long, .long, .int, .int, .int], returnType := some .boolean }, accessFlags := 9, code := some k1c2 }
/-- com/example/kvota/kvota/ResolvedQuotaEqualsPinLaw -/
def k1 : Class := { plain "com/example/kvota/kvota/ResolvedQuotaEqualsPinLaw" (some 0) with
  accessFlags := 49
  interfaces := #[]
  cf := some (fileOf pool1 35 #[] #[{ accessFlags := 1, nameIndex := 5, descriptorIndex := 6, attributes := #[] }, { accessFlags := 10, nameIndex := 38, descriptorIndex := 39, attributes := #[] }, { accessFlags := 9, nameIndex := 58, descriptorIndex := 59, attributes := #[] }] 49 2 #[] #[])
  fields := #[]
  methods := #[k1m0, k1m1, k1m2]
  instanceTypes := #[]
  staticTypes := #[]
  resolved := Array.replicate 62 none
  statics := none }

def pool2 : Array CpInfo := pool [(1, .class_ 2), (0, u "java/lang/constant/Constable"), (0, .class_ 4), (0, u "java/lang/Object")] 6

/-- java/lang/constant/Constable -/
def k2 : Class := { plain "java/lang/constant/Constable" (some 0) with
  accessFlags := 1537
  interfaces := #[]
  cf := some (fileOf pool2 1 #[] #[] 1537 3 #[] #[])
  fields := #[]
  methods := #[]
  instanceTypes := #[]
  staticTypes := #[]
  resolved := Array.replicate 11 none
  statics := none }

def pool3 : Array CpInfo := pool [(1, .class_ 2), (0, u "java/lang/Comparable"), (0, .class_ 4), (0, u "java/lang/Object")] 7

/-- java/lang/Comparable -/
def k3 : Class := { plain "java/lang/Comparable" (some 0) with
  accessFlags := 1537
  interfaces := #[]
  cf := some (fileOf pool3 1 #[] #[] 1537 3 #[] #[])
  fields := #[]
  methods := #[]
  instanceTypes := #[]
  staticTypes := #[]
  resolved := Array.replicate 12 none
  statics := none }

def pool4 : Array CpInfo := pool [(1, .class_ 2), (0, u "java/io/Serializable"), (0, .class_ 4), (0, u "java/lang/Object")] 2

/-- java/io/Serializable -/
def k4 : Class := { plain "java/io/Serializable" (some 0) with
  accessFlags := 1537
  interfaces := #[]
  cf := some (fileOf pool4 1 #[] #[] 1537 3 #[] #[])
  fields := #[]
  methods := #[]
  instanceTypes := #[]
  staticTypes := #[]
  resolved := Array.replicate 7 none
  statics := none }

def pool5 : Array CpInfo := pool [(2, .class_ 4), (1, u "java/lang/Enum"), (0, u "name"), (0, u "Ljava/lang/String;"), (2, u "ordinal"), (0, u "I"), (1, .class_ 14), (1, u "java/lang/Object"), (4, u "hash"), (86, .class_ 108), (1, u "java/lang/Enum$EnumDesc"), (2, .class_ 112), (0, u "java/lang/constant/Constable"), (0, .class_ 114), (0, u "java/lang/Comparable"), (0, .class_ 116), (0, u "java/io/Serializable")] 87

/-- java/lang/Enum -/
def k5 : Class := { plain "java/lang/Enum" (some 0) with
  accessFlags := 1057
  interfaces := #[2, 3, 4]
  cf := some (fileOf pool5 2 #[.nestMembers #[106]] #[] 1057 12 #[111, 113, 115] #[{ accessFlags := 18, nameIndex := 5, descriptorIndex := 6, attributes := #[] }, { accessFlags := 18, nameIndex := 9, descriptorIndex := 10, attributes := #[] }, { accessFlags := 2, nameIndex := 19, descriptorIndex := 10, attributes := #[] }])
  fields := #[{ name := "name", type := (.object "java/lang/String"), accessFlags := 18, slot := 0, constantValue := 0 }, { name := "ordinal", type := .int, accessFlags := 18, slot := 1, constantValue := 0 }, { name := "hash", type := .int, accessFlags := 2, slot := 2, constantValue := 0 }]
  methods := #[]
  instanceTypes := #[(.object "java/lang/String"), .int, .int]
  staticTypes := #[]
  resolved := Array.replicate 204 none
  statics := none }

def pool6 : Array CpInfo := pool [(1, .class_ 2), (0, u "com/example/kvota/kvota/PrecedenceLevel"), (2, u "USER_CLIENT"), (0, u "Lcom/example/kvota/kvota/PrecedenceLevel;"), (2, u "USER_DEFAULT_CLIENT"), (2, u "USER"), (2, u "DEFAULT_USER_CLIENT"), (2, u "DEFAULT_USER_DEFAULT_CLIENT"), (2, u "DEFAULT_USER"), (2, u "CLIENT"), (2, u "DEFAULT_CLIENT"), (2, u "$VALUES"), (0, u "[Lcom/example/kvota/kvota/PrecedenceLevel;"), (6, .class_ 40), (1, u "java/lang/Enum"), (8, u "name"), (0, u "Ljava/lang/String;"), (2, u "user"), (0, u "Lcom/example/kvota/kvota/EntityPart$Kind;"), (2, u "client"), (2, u "LEVELS")] 106

/-- com/example/kvota/kvota/PrecedenceLevel -/
def k6 : Class := { plain "com/example/kvota/kvota/PrecedenceLevel" (some 5) with
  accessFlags := 16433
  interfaces := #[]
  cf := some (fileOf pool6 1 #[] #[] 16433 38 #[] #[{ accessFlags := 16409, nameIndex := 5, descriptorIndex := 6, attributes := #[] }, { accessFlags := 16409, nameIndex := 9, descriptorIndex := 6, attributes := #[] }, { accessFlags := 16409, nameIndex := 12, descriptorIndex := 6, attributes := #[] }, { accessFlags := 16409, nameIndex := 15, descriptorIndex := 6, attributes := #[] }, { accessFlags := 16409, nameIndex := 18, descriptorIndex := 6, attributes := #[] }, { accessFlags := 16409, nameIndex := 21, descriptorIndex := 6, attributes := #[] }, { accessFlags := 16409, nameIndex := 24, descriptorIndex := 6, attributes := #[] }, { accessFlags := 16409, nameIndex := 27, descriptorIndex := 6, attributes := #[] }, { accessFlags := 26, nameIndex := 60, descriptorIndex := 31, attributes := #[] }, { accessFlags := 18, nameIndex := 49, descriptorIndex := 50, attributes := #[] }, { accessFlags := 18, nameIndex := 53, descriptorIndex := 54, attributes := #[] }, { accessFlags := 18, nameIndex := 57, descriptorIndex := 54, attributes := #[] }, { accessFlags := 4122, nameIndex := 30, descriptorIndex := 31, attributes := #[] }])
  fields := #[{ name := "USER_CLIENT", type := (.object "com/example/kvota/kvota/PrecedenceLevel"), accessFlags := 16409, slot := 0, constantValue := 0 }, { name := "USER_DEFAULT_CLIENT", type := (.object "com/example/kvota/kvota/PrecedenceLevel"), accessFlags := 16409, slot := 1, constantValue := 0 }, { name := "USER", type := (.object "com/example/kvota/kvota/PrecedenceLevel"), accessFlags := 16409, slot := 2, constantValue := 0 }, { name := "DEFAULT_USER_CLIENT", type := (.object "com/example/kvota/kvota/PrecedenceLevel"), accessFlags := 16409, slot := 3, constantValue := 0 }, { name := "DEFAULT_USER_DEFAULT_CLIENT", type := (.object "com/example/kvota/kvota/PrecedenceLevel"), accessFlags := 16409, slot := 4, constantValue := 0 }, { name := "DEFAULT_USER", type := (.object "com/example/kvota/kvota/PrecedenceLevel"), accessFlags := 16409, slot := 5, constantValue := 0 }, { name := "CLIENT", type := (.object "com/example/kvota/kvota/PrecedenceLevel"), accessFlags := 16409, slot := 6, constantValue := 0 }, { name := "DEFAULT_CLIENT", type := (.object "com/example/kvota/kvota/PrecedenceLevel"), accessFlags := 16409, slot := 7, constantValue := 0 }, { name := "LEVELS", type := (.array (.object "com/example/kvota/kvota/PrecedenceLevel")), accessFlags := 26, slot := 8, constantValue := 0 }, { name := "name", type := (.object "java/lang/String"), accessFlags := 18, slot := 3, constantValue := 0 }, { name := "user", type := (.object "com/example/kvota/kvota/EntityPart$Kind"), accessFlags := 18, slot := 4, constantValue := 0 }, { name := "client", type := (.object "com/example/kvota/kvota/EntityPart$Kind"), accessFlags := 18, slot := 5, constantValue := 0 }, { name := "$VALUES", type := (.array (.object "com/example/kvota/kvota/PrecedenceLevel")), accessFlags := 4122, slot := 9, constantValue := 0 }]
  methods := #[]
  instanceTypes := #[(.object "java/lang/String"), .int, .int, (.object "java/lang/String"), (.object "com/example/kvota/kvota/EntityPart$Kind"), (.object "com/example/kvota/kvota/EntityPart$Kind")]
  staticTypes := #[(.object "com/example/kvota/kvota/PrecedenceLevel"), (.object "com/example/kvota/kvota/PrecedenceLevel"), (.object "com/example/kvota/kvota/PrecedenceLevel"), (.object "com/example/kvota/kvota/PrecedenceLevel"), (.object "com/example/kvota/kvota/PrecedenceLevel"), (.object "com/example/kvota/kvota/PrecedenceLevel"), (.object "com/example/kvota/kvota/PrecedenceLevel"), (.object "com/example/kvota/kvota/PrecedenceLevel"), (.array (.object "com/example/kvota/kvota/PrecedenceLevel")), (.array (.object "com/example/kvota/kvota/PrecedenceLevel"))]
  resolved := Array.replicate 167 none
  statics := some 0 }

def pool7 : Array CpInfo := pool [(1, .methodref 2 3), (0, .class_ 4), (0, .nameAndType 5 6), (0, u "java/lang/Object"), (0, u "<init>"), (0, u "()V"), (0, .fieldref 8 9), (0, .class_ 10), (0, .nameAndType 11 12), (0, u "com/example/kvota/kvota/ResolvedQuota"), (0, u "value"), (0, u "J"), (0, .fieldref 8 14), (0, .nameAndType 15 16), (0, u "level"), (0, u "Lcom/example/kvota/kvota/PrecedenceLevel;"), (22, u "(JLcom/example/kvota/kvota/PrecedenceLevel;)V"), (6, u "equals"), (0, u "(Ljava/lang/Object;)Z")] 21

def k7c0 : Code := { maxStack := 3, maxLocals := 4, code := prog_36_method_1_code, exceptionTable := #[], attributes := #[] }
def k7m0 : Method := { name := "<init>", desc := "(JLcom/example/kvota/kvota/PrecedenceLevel;)V", sig := { parameters := [.long, (.object "com/example/kvota/kvota/PrecedenceLevel")], returnType := none }, accessFlags := 0, code := some k7c0 }
def k7c1 : Code := { maxStack := 4, maxLocals := 2, code := prog_36_method_4_code, exceptionTable := #[], attributes := #[] }
def k7m1 : Method := { name := "equals", desc := "(Ljava/lang/Object;)Z", sig := { parameters := [(.object "java/lang/Object")], returnType := some .boolean }, accessFlags := 1, code := some k7c1 }
/-- com/example/kvota/kvota/ResolvedQuota -/
def k7 : Class := { plain "com/example/kvota/kvota/ResolvedQuota" (some 0) with
  accessFlags := 33
  interfaces := #[]
  cf := some (fileOf pool7 8 #[] #[{ accessFlags := 0, nameIndex := 5, descriptorIndex := 39, attributes := #[] }, { accessFlags := 1, nameIndex := 46, descriptorIndex := 47, attributes := #[] }] 33 2 #[] #[{ accessFlags := 18, nameIndex := 11, descriptorIndex := 12, attributes := #[] }, { accessFlags := 18, nameIndex := 15, descriptorIndex := 16, attributes := #[] }])
  fields := #[{ name := "value", type := .long, accessFlags := 18, slot := 0, constantValue := 0 }, { name := "level", type := (.object "com/example/kvota/kvota/PrecedenceLevel"), accessFlags := 18, slot := 1, constantValue := 0 }]
  methods := #[k7m0, k7m1]
  instanceTypes := #[.long, (.object "com/example/kvota/kvota/PrecedenceLevel")]
  staticTypes := #[]
  resolved := Array.replicate 69 none
  statics := none }

def pool8 : Array CpInfo := pool [(1, .methodref 2 3), (0, .class_ 4), (0, .nameAndType 5 6), (0, u "java/lang/Object"), (0, u "<init>"), (0, u "()V"), (1, .class_ 10), (1, u "java/lang/Number"), (2, .class_ 14), (0, u "java/io/Serializable"), (0, u "serialVersionUID"), (0, u "J")] 20

def k8c0 : Code := { maxStack := 1, maxLocals := 1, code := jdk_18_method_1_code, exceptionTable := #[], attributes := #[] }
def k8m0 : Method := { name := "<init>", desc := "()V", sig := { parameters := [], returnType := none }, accessFlags := 1, code := some k8c0 }
/-- java/lang/Number -/
def k8 : Class := { plain "java/lang/Number" (some 0) with
  accessFlags := 1057
  interfaces := #[4]
  cf := some (fileOf pool8 8 #[] #[{ accessFlags := 1, nameIndex := 5, descriptorIndex := 6, attributes := #[] }] 1057 2 #[13] #[{ accessFlags := 26, nameIndex := 15, descriptorIndex := 16, attributes := #[] }])
  fields := #[{ name := "serialVersionUID", type := .long, accessFlags := 26, slot := 0, constantValue := 0 }]
  methods := #[k8m0]
  instanceTypes := #[]
  staticTypes := #[.long]
  resolved := Array.replicate 37 none
  statics := none }

def pool9 : Array CpInfo := pool [(1, .class_ 2), (0, u "java/lang/constant/ConstantDesc"), (0, .class_ 4), (0, u "java/lang/Object")] 32

/-- java/lang/constant/ConstantDesc -/
def k9 : Class := { plain "java/lang/constant/ConstantDesc" (some 0) with
  accessFlags := 1537
  interfaces := #[]
  cf := some (fileOf pool9 1 #[] #[] 1537 3 #[] #[])
  fields := #[]
  methods := #[]
  instanceTypes := #[]
  staticTypes := #[]
  resolved := Array.replicate 37 none
  statics := none }

def pool10 : Array CpInfo := pool [(1, .class_ 2), (0, u "java/lang/Long"), (55, .nameAndType 59 60), (0, u "<init>"), (0, u "()V"), (24, u "valueOf"), (143, u "(J)Ljava/lang/Long;"), (0, .long 18446744073709551488), (1, .long 127), (1, .fieldref 235 236), (0, .class_ 237), (0, .nameAndType 238 239), (0, u "java/lang/Long$LongCache"), (0, u "cache"), (0, u "[Ljava/lang/Long;"), (0, .methodref 1 241), (0, .nameAndType 59 242), (0, u "(J)V"), (27, .methodref 271 58), (0, .class_ 272), (0, u "java/lang/Number"), (0, .fieldref 1 274), (0, .nameAndType 275 276), (0, u "value"), (0, u "J"), (84, u "TYPE"), (0, u "Ljava/lang/Class;"), (0, .class_ 364), (0, u "java/lang/Comparable"), (0, .class_ 366), (0, u "java/lang/constant/Constable"), (0, .class_ 368), (0, u "java/lang/constant/ConstantDesc"), (0, u "MIN_VALUE"), (1, u "MAX_VALUE"), (4, u "SIZE"), (0, u "I"), (1, u "BYTES"), (1, u "serialVersionUID")] 142

def k10c0 : Code := { maxStack := 4, maxLocals := 3, code := jdk_35_method_24_code, exceptionTable := #[], attributes := #[] }
def k10m0 : Method := { name := "valueOf", desc := "(J)Ljava/lang/Long;", sig := { parameters := [.long], returnType := some (.object "java/lang/Long") }, accessFlags := 9, code := some k10c0 }
def k10c1 : Code := { maxStack := 3, maxLocals := 3, code := jdk_35_method_26_code, exceptionTable := #[], attributes := #[] }
def k10m1 : Method := { name := "<init>", desc := "(J)V", sig := { parameters := [.long], returnType := none }, accessFlags := 1, code := some k10c1 }
/-- java/lang/Long -/
def k10 : Class := { plain "java/lang/Long" (some 8) with
  accessFlags := 49
  interfaces := #[3, 2, 9]
  cf := some (fileOf pool10 1 #[.nestMembers #[235]] #[{ accessFlags := 9, nameIndex := 85, descriptorIndex := 229, attributes := #[] }, { accessFlags := 1, nameIndex := 59, descriptorIndex := 242, attributes := #[] }] 49 271 #[363, 365, 367] #[{ accessFlags := 25, nameIndex := 369, descriptorIndex := 276, attributes := #[] }, { accessFlags := 25, nameIndex := 371, descriptorIndex := 276, attributes := #[] }, { accessFlags := 25, nameIndex := 361, descriptorIndex := 362, attributes := #[] }, { accessFlags := 18, nameIndex := 275, descriptorIndex := 276, attributes := #[] }, { accessFlags := 25, nameIndex := 376, descriptorIndex := 377, attributes := #[] }, { accessFlags := 25, nameIndex := 379, descriptorIndex := 377, attributes := #[] }, { accessFlags := 26, nameIndex := 381, descriptorIndex := 276, attributes := #[] }])
  fields := #[{ name := "MIN_VALUE", type := .long, accessFlags := 25, slot := 0, constantValue := 0 }, { name := "MAX_VALUE", type := .long, accessFlags := 25, slot := 1, constantValue := 0 }, { name := "TYPE", type := (.object "java/lang/Class"), accessFlags := 25, slot := 2, constantValue := 0 }, { name := "value", type := .long, accessFlags := 18, slot := 0, constantValue := 0 }, { name := "SIZE", type := .int, accessFlags := 25, slot := 3, constantValue := 0 }, { name := "BYTES", type := .int, accessFlags := 25, slot := 4, constantValue := 0 }, { name := "serialVersionUID", type := .long, accessFlags := 26, slot := 5, constantValue := 0 }]
  methods := #[k10m0, k10m1]
  instanceTypes := #[.long]
  staticTypes := #[.long, .long, (.object "java/lang/Class"), .int, .int, .long]
  resolved := Array.replicate 524 none
  statics := none }

def pool11 : Array CpInfo := pool [(2, .class_ 4), (1, u "java/lang/Object"), (0, u "<init>"), (0, u "()V"), (0, .class_ 8), (0, u "java/lang/Long"), (7, .class_ 18), (1, u "java/lang/Long$LongCache"), (0, u "$assertionsDisabled"), (0, u "Z"), (8, u "archivedCache"), (0, u "[Ljava/lang/Long;"), (7, u "cache")] 24

def k11m0 : Method := { name := "<init>", desc := "()V", sig := { parameters := [], returnType := none }, accessFlags := 2, code := none }
/-- java/lang/Long$LongCache -/
def k11 : Class := { plain "java/lang/Long$LongCache" (some 0) with
  accessFlags := 48
  interfaces := #[]
  cf := some (fileOf pool11 16 #[.nestHost 7] #[{ accessFlags := 2, nameIndex := 5, descriptorIndex := 6, attributes := #[] }] 48 2 #[] #[{ accessFlags := 24, nameIndex := 38, descriptorIndex := 30, attributes := #[] }, { accessFlags := 8, nameIndex := 29, descriptorIndex := 30, attributes := #[] }, { accessFlags := 4120, nameIndex := 19, descriptorIndex := 20, attributes := #[] }])
  fields := #[{ name := "cache", type := (.array (.object "java/lang/Long")), accessFlags := 24, slot := 0, constantValue := 0 }, { name := "archivedCache", type := (.array (.object "java/lang/Long")), accessFlags := 8, slot := 1, constantValue := 0 }, { name := "$assertionsDisabled", type := .boolean, accessFlags := 4120, slot := 2, constantValue := 0 }]
  methods := #[k11m0]
  instanceTypes := #[]
  staticTypes := #[(.array (.object "java/lang/Long")), (.array (.object "java/lang/Long")), .boolean]
  resolved := Array.replicate 63 none
  statics := some 1 }

def pool12 : Array CpInfo := pool [(1, u "java/lang/Cloneable"), (0, .class_ 1), (0, u "java/lang/Object"), (0, .class_ 3)] 3

/-- java/lang/Cloneable -/
def k12 : Class := { plain "java/lang/Cloneable" (some 0) with
  accessFlags := 1537
  interfaces := #[]
  cf := some (fileOf pool12 2 #[] #[] 1537 4 #[] #[])
  fields := #[]
  methods := #[]
  instanceTypes := #[]
  staticTypes := #[]
  resolved := Array.replicate 8 none
  statics := none }

/-- the primitive byte -/
def k13 : Class := { plain "byte" none with kind := .primitive 'B', accessFlags := 0x411 }
/-- [B -/
def k14 : Class := { plain "[B" (some 0) with kind := .array 13 .byte, interfaces := #[12, 4], accessFlags := 1041 }

/-- [Ljava/lang/Long; -/
def k15 : Class := { plain "[Ljava/lang/Long;" (some 0) with kind := .array 10 (.object "java/lang/Long"), interfaces := #[12, 4], accessFlags := 1041 }

def heap : Heap := #[{ cls := 6, slots := #[.ref 3, .ref 4, .ref 5, .ref 6, .ref 7, .ref 8, .ref 9, .ref 10, .null, .null], vm := .statics 6 },
  { cls := 11, slots := #[.ref 2, .null, .int 0], vm := .statics 11 },
  { cls := 15, slots := #[.ref 11, .ref 12, .ref 13, .ref 14, .ref 15, .ref 16, .ref 17, .ref 18, .ref 19, .ref 20, .ref 21, .ref 22, .ref 23, .ref 24, .ref 25, .ref 26, .ref 27, .ref 28, .ref 29, .ref 30, .ref 31, .ref 32, .ref 33, .ref 34, .ref 35, .ref 36, .ref 37, .ref 38, .ref 39, .ref 40, .ref 41, .ref 42, .ref 43, .ref 44, .ref 45, .ref 46, .ref 47, .ref 48, .ref 49, .ref 50, .ref 51, .ref 52, .ref 53, .ref 54, .ref 55, .ref 56, .ref 57, .ref 58, .ref 59, .ref 60, .ref 61, .ref 62, .ref 63, .ref 64, .ref 65, .ref 66, .ref 67, .ref 68, .ref 69, .ref 70, .ref 71, .ref 72, .ref 73, .ref 74, .ref 75, .ref 76, .ref 77, .ref 78, .ref 79, .ref 80, .ref 81, .ref 82, .ref 83, .ref 84, .ref 85, .ref 86, .ref 87, .ref 88, .ref 89, .ref 90, .ref 91, .ref 92, .ref 93, .ref 94, .ref 95, .ref 96, .ref 97, .ref 98, .ref 99, .ref 100, .ref 101, .ref 102, .ref 103, .ref 104, .ref 105, .ref 106, .ref 107, .ref 108, .ref 109, .ref 110, .ref 111, .ref 112, .ref 113, .ref 114, .ref 115, .ref 116, .ref 117, .ref 118, .ref 119, .ref 120, .ref 121, .ref 122, .ref 123, .ref 124, .ref 125, .ref 126, .ref 127, .ref 128, .ref 129, .ref 130, .ref 131, .ref 132, .ref 133, .ref 134, .ref 135, .ref 136, .ref 137, .ref 138, .ref 139, .ref 140, .ref 141, .ref 142, .ref 143, .ref 144, .ref 145, .ref 146, .ref 147, .ref 148, .ref 149, .ref 150, .ref 151, .ref 152, .ref 153, .ref 154, .ref 155, .ref 156, .ref 157, .ref 158, .ref 159, .ref 160, .ref 161, .ref 162, .ref 163, .ref 164, .ref 165, .ref 166, .ref 167, .ref 168, .ref 169, .ref 170, .ref 171, .ref 172, .ref 173, .ref 174, .ref 175, .ref 176, .ref 177, .ref 178, .ref 179, .ref 180, .ref 181, .ref 182, .ref 183, .ref 184, .ref 185, .ref 186, .ref 187, .ref 188, .ref 189, .ref 190, .ref 191, .ref 192, .ref 193, .ref 194, .ref 195, .ref 196, .ref 197, .ref 198, .ref 199, .ref 200, .ref 201, .ref 202, .ref 203, .ref 204, .ref 205, .ref 206, .ref 207, .ref 208, .ref 209, .ref 210, .ref 211, .ref 212, .ref 213, .ref 214, .ref 215, .ref 216, .ref 217, .ref 218, .ref 219, .ref 220, .ref 221, .ref 222, .ref 223, .ref 224, .ref 225, .ref 226, .ref 227, .ref 228, .ref 229, .ref 230, .ref 231, .ref 232, .ref 233, .ref 234, .ref 235, .ref 236, .ref 237, .ref 238, .ref 239, .ref 240, .ref 241, .ref 242, .ref 243, .ref 244, .ref 245, .ref 246, .ref 247, .ref 248, .ref 249, .ref 250, .ref 251, .ref 252, .ref 253, .ref 254, .ref 255, .ref 256, .ref 257, .ref 258, .ref 259, .ref 260, .ref 261, .ref 262, .ref 263, .ref 264, .ref 265, .ref 266], vm := .none },
  { cls := 6, slots := #[.null, .int 0, .int 0, .null, .null, .null], vm := .none },
  { cls := 6, slots := #[.null, .int 1, .int 0, .null, .null, .null], vm := .none },
  { cls := 6, slots := #[.null, .int 2, .int 0, .null, .null, .null], vm := .none },
  { cls := 6, slots := #[.null, .int 3, .int 0, .null, .null, .null], vm := .none },
  { cls := 6, slots := #[.null, .int 4, .int 0, .null, .null, .null], vm := .none },
  { cls := 6, slots := #[.null, .int 5, .int 0, .null, .null, .null], vm := .none },
  { cls := 6, slots := #[.null, .int 6, .int 0, .null, .null, .null], vm := .none },
  { cls := 6, slots := #[.null, .int 7, .int 0, .null, .null, .null], vm := .none },
  { cls := 10, slots := #[.long (-128)], vm := .none },
  { cls := 10, slots := #[.long (-127)], vm := .none },
  { cls := 10, slots := #[.long (-126)], vm := .none },
  { cls := 10, slots := #[.long (-125)], vm := .none },
  { cls := 10, slots := #[.long (-124)], vm := .none },
  { cls := 10, slots := #[.long (-123)], vm := .none },
  { cls := 10, slots := #[.long (-122)], vm := .none },
  { cls := 10, slots := #[.long (-121)], vm := .none },
  { cls := 10, slots := #[.long (-120)], vm := .none },
  { cls := 10, slots := #[.long (-119)], vm := .none },
  { cls := 10, slots := #[.long (-118)], vm := .none },
  { cls := 10, slots := #[.long (-117)], vm := .none },
  { cls := 10, slots := #[.long (-116)], vm := .none },
  { cls := 10, slots := #[.long (-115)], vm := .none },
  { cls := 10, slots := #[.long (-114)], vm := .none },
  { cls := 10, slots := #[.long (-113)], vm := .none },
  { cls := 10, slots := #[.long (-112)], vm := .none },
  { cls := 10, slots := #[.long (-111)], vm := .none },
  { cls := 10, slots := #[.long (-110)], vm := .none },
  { cls := 10, slots := #[.long (-109)], vm := .none },
  { cls := 10, slots := #[.long (-108)], vm := .none },
  { cls := 10, slots := #[.long (-107)], vm := .none },
  { cls := 10, slots := #[.long (-106)], vm := .none },
  { cls := 10, slots := #[.long (-105)], vm := .none },
  { cls := 10, slots := #[.long (-104)], vm := .none },
  { cls := 10, slots := #[.long (-103)], vm := .none },
  { cls := 10, slots := #[.long (-102)], vm := .none },
  { cls := 10, slots := #[.long (-101)], vm := .none },
  { cls := 10, slots := #[.long (-100)], vm := .none },
  { cls := 10, slots := #[.long (-99)], vm := .none },
  { cls := 10, slots := #[.long (-98)], vm := .none },
  { cls := 10, slots := #[.long (-97)], vm := .none },
  { cls := 10, slots := #[.long (-96)], vm := .none },
  { cls := 10, slots := #[.long (-95)], vm := .none },
  { cls := 10, slots := #[.long (-94)], vm := .none },
  { cls := 10, slots := #[.long (-93)], vm := .none },
  { cls := 10, slots := #[.long (-92)], vm := .none },
  { cls := 10, slots := #[.long (-91)], vm := .none },
  { cls := 10, slots := #[.long (-90)], vm := .none },
  { cls := 10, slots := #[.long (-89)], vm := .none },
  { cls := 10, slots := #[.long (-88)], vm := .none },
  { cls := 10, slots := #[.long (-87)], vm := .none },
  { cls := 10, slots := #[.long (-86)], vm := .none },
  { cls := 10, slots := #[.long (-85)], vm := .none },
  { cls := 10, slots := #[.long (-84)], vm := .none },
  { cls := 10, slots := #[.long (-83)], vm := .none },
  { cls := 10, slots := #[.long (-82)], vm := .none },
  { cls := 10, slots := #[.long (-81)], vm := .none },
  { cls := 10, slots := #[.long (-80)], vm := .none },
  { cls := 10, slots := #[.long (-79)], vm := .none },
  { cls := 10, slots := #[.long (-78)], vm := .none },
  { cls := 10, slots := #[.long (-77)], vm := .none },
  { cls := 10, slots := #[.long (-76)], vm := .none },
  { cls := 10, slots := #[.long (-75)], vm := .none },
  { cls := 10, slots := #[.long (-74)], vm := .none },
  { cls := 10, slots := #[.long (-73)], vm := .none },
  { cls := 10, slots := #[.long (-72)], vm := .none },
  { cls := 10, slots := #[.long (-71)], vm := .none },
  { cls := 10, slots := #[.long (-70)], vm := .none },
  { cls := 10, slots := #[.long (-69)], vm := .none },
  { cls := 10, slots := #[.long (-68)], vm := .none },
  { cls := 10, slots := #[.long (-67)], vm := .none },
  { cls := 10, slots := #[.long (-66)], vm := .none },
  { cls := 10, slots := #[.long (-65)], vm := .none },
  { cls := 10, slots := #[.long (-64)], vm := .none },
  { cls := 10, slots := #[.long (-63)], vm := .none },
  { cls := 10, slots := #[.long (-62)], vm := .none },
  { cls := 10, slots := #[.long (-61)], vm := .none },
  { cls := 10, slots := #[.long (-60)], vm := .none },
  { cls := 10, slots := #[.long (-59)], vm := .none },
  { cls := 10, slots := #[.long (-58)], vm := .none },
  { cls := 10, slots := #[.long (-57)], vm := .none },
  { cls := 10, slots := #[.long (-56)], vm := .none },
  { cls := 10, slots := #[.long (-55)], vm := .none },
  { cls := 10, slots := #[.long (-54)], vm := .none },
  { cls := 10, slots := #[.long (-53)], vm := .none },
  { cls := 10, slots := #[.long (-52)], vm := .none },
  { cls := 10, slots := #[.long (-51)], vm := .none },
  { cls := 10, slots := #[.long (-50)], vm := .none },
  { cls := 10, slots := #[.long (-49)], vm := .none },
  { cls := 10, slots := #[.long (-48)], vm := .none },
  { cls := 10, slots := #[.long (-47)], vm := .none },
  { cls := 10, slots := #[.long (-46)], vm := .none },
  { cls := 10, slots := #[.long (-45)], vm := .none },
  { cls := 10, slots := #[.long (-44)], vm := .none },
  { cls := 10, slots := #[.long (-43)], vm := .none },
  { cls := 10, slots := #[.long (-42)], vm := .none },
  { cls := 10, slots := #[.long (-41)], vm := .none },
  { cls := 10, slots := #[.long (-40)], vm := .none },
  { cls := 10, slots := #[.long (-39)], vm := .none },
  { cls := 10, slots := #[.long (-38)], vm := .none },
  { cls := 10, slots := #[.long (-37)], vm := .none },
  { cls := 10, slots := #[.long (-36)], vm := .none },
  { cls := 10, slots := #[.long (-35)], vm := .none },
  { cls := 10, slots := #[.long (-34)], vm := .none },
  { cls := 10, slots := #[.long (-33)], vm := .none },
  { cls := 10, slots := #[.long (-32)], vm := .none },
  { cls := 10, slots := #[.long (-31)], vm := .none },
  { cls := 10, slots := #[.long (-30)], vm := .none },
  { cls := 10, slots := #[.long (-29)], vm := .none },
  { cls := 10, slots := #[.long (-28)], vm := .none },
  { cls := 10, slots := #[.long (-27)], vm := .none },
  { cls := 10, slots := #[.long (-26)], vm := .none },
  { cls := 10, slots := #[.long (-25)], vm := .none },
  { cls := 10, slots := #[.long (-24)], vm := .none },
  { cls := 10, slots := #[.long (-23)], vm := .none },
  { cls := 10, slots := #[.long (-22)], vm := .none },
  { cls := 10, slots := #[.long (-21)], vm := .none },
  { cls := 10, slots := #[.long (-20)], vm := .none },
  { cls := 10, slots := #[.long (-19)], vm := .none },
  { cls := 10, slots := #[.long (-18)], vm := .none },
  { cls := 10, slots := #[.long (-17)], vm := .none },
  { cls := 10, slots := #[.long (-16)], vm := .none },
  { cls := 10, slots := #[.long (-15)], vm := .none },
  { cls := 10, slots := #[.long (-14)], vm := .none },
  { cls := 10, slots := #[.long (-13)], vm := .none },
  { cls := 10, slots := #[.long (-12)], vm := .none },
  { cls := 10, slots := #[.long (-11)], vm := .none },
  { cls := 10, slots := #[.long (-10)], vm := .none },
  { cls := 10, slots := #[.long (-9)], vm := .none },
  { cls := 10, slots := #[.long (-8)], vm := .none },
  { cls := 10, slots := #[.long (-7)], vm := .none },
  { cls := 10, slots := #[.long (-6)], vm := .none },
  { cls := 10, slots := #[.long (-5)], vm := .none },
  { cls := 10, slots := #[.long (-4)], vm := .none },
  { cls := 10, slots := #[.long (-3)], vm := .none },
  { cls := 10, slots := #[.long (-2)], vm := .none },
  { cls := 10, slots := #[.long (-1)], vm := .none },
  { cls := 10, slots := #[.long 0], vm := .none },
  { cls := 10, slots := #[.long 1], vm := .none },
  { cls := 10, slots := #[.long 2], vm := .none },
  { cls := 10, slots := #[.long 3], vm := .none },
  { cls := 10, slots := #[.long 4], vm := .none },
  { cls := 10, slots := #[.long 5], vm := .none },
  { cls := 10, slots := #[.long 6], vm := .none },
  { cls := 10, slots := #[.long 7], vm := .none },
  { cls := 10, slots := #[.long 8], vm := .none },
  { cls := 10, slots := #[.long 9], vm := .none },
  { cls := 10, slots := #[.long 10], vm := .none },
  { cls := 10, slots := #[.long 11], vm := .none },
  { cls := 10, slots := #[.long 12], vm := .none },
  { cls := 10, slots := #[.long 13], vm := .none },
  { cls := 10, slots := #[.long 14], vm := .none },
  { cls := 10, slots := #[.long 15], vm := .none },
  { cls := 10, slots := #[.long 16], vm := .none },
  { cls := 10, slots := #[.long 17], vm := .none },
  { cls := 10, slots := #[.long 18], vm := .none },
  { cls := 10, slots := #[.long 19], vm := .none },
  { cls := 10, slots := #[.long 20], vm := .none },
  { cls := 10, slots := #[.long 21], vm := .none },
  { cls := 10, slots := #[.long 22], vm := .none },
  { cls := 10, slots := #[.long 23], vm := .none },
  { cls := 10, slots := #[.long 24], vm := .none },
  { cls := 10, slots := #[.long 25], vm := .none },
  { cls := 10, slots := #[.long 26], vm := .none },
  { cls := 10, slots := #[.long 27], vm := .none },
  { cls := 10, slots := #[.long 28], vm := .none },
  { cls := 10, slots := #[.long 29], vm := .none },
  { cls := 10, slots := #[.long 30], vm := .none },
  { cls := 10, slots := #[.long 31], vm := .none },
  { cls := 10, slots := #[.long 32], vm := .none },
  { cls := 10, slots := #[.long 33], vm := .none },
  { cls := 10, slots := #[.long 34], vm := .none },
  { cls := 10, slots := #[.long 35], vm := .none },
  { cls := 10, slots := #[.long 36], vm := .none },
  { cls := 10, slots := #[.long 37], vm := .none },
  { cls := 10, slots := #[.long 38], vm := .none },
  { cls := 10, slots := #[.long 39], vm := .none },
  { cls := 10, slots := #[.long 40], vm := .none },
  { cls := 10, slots := #[.long 41], vm := .none },
  { cls := 10, slots := #[.long 42], vm := .none },
  { cls := 10, slots := #[.long 43], vm := .none },
  { cls := 10, slots := #[.long 44], vm := .none },
  { cls := 10, slots := #[.long 45], vm := .none },
  { cls := 10, slots := #[.long 46], vm := .none },
  { cls := 10, slots := #[.long 47], vm := .none },
  { cls := 10, slots := #[.long 48], vm := .none },
  { cls := 10, slots := #[.long 49], vm := .none },
  { cls := 10, slots := #[.long 50], vm := .none },
  { cls := 10, slots := #[.long 51], vm := .none },
  { cls := 10, slots := #[.long 52], vm := .none },
  { cls := 10, slots := #[.long 53], vm := .none },
  { cls := 10, slots := #[.long 54], vm := .none },
  { cls := 10, slots := #[.long 55], vm := .none },
  { cls := 10, slots := #[.long 56], vm := .none },
  { cls := 10, slots := #[.long 57], vm := .none },
  { cls := 10, slots := #[.long 58], vm := .none },
  { cls := 10, slots := #[.long 59], vm := .none },
  { cls := 10, slots := #[.long 60], vm := .none },
  { cls := 10, slots := #[.long 61], vm := .none },
  { cls := 10, slots := #[.long 62], vm := .none },
  { cls := 10, slots := #[.long 63], vm := .none },
  { cls := 10, slots := #[.long 64], vm := .none },
  { cls := 10, slots := #[.long 65], vm := .none },
  { cls := 10, slots := #[.long 66], vm := .none },
  { cls := 10, slots := #[.long 67], vm := .none },
  { cls := 10, slots := #[.long 68], vm := .none },
  { cls := 10, slots := #[.long 69], vm := .none },
  { cls := 10, slots := #[.long 70], vm := .none },
  { cls := 10, slots := #[.long 71], vm := .none },
  { cls := 10, slots := #[.long 72], vm := .none },
  { cls := 10, slots := #[.long 73], vm := .none },
  { cls := 10, slots := #[.long 74], vm := .none },
  { cls := 10, slots := #[.long 75], vm := .none },
  { cls := 10, slots := #[.long 76], vm := .none },
  { cls := 10, slots := #[.long 77], vm := .none },
  { cls := 10, slots := #[.long 78], vm := .none },
  { cls := 10, slots := #[.long 79], vm := .none },
  { cls := 10, slots := #[.long 80], vm := .none },
  { cls := 10, slots := #[.long 81], vm := .none },
  { cls := 10, slots := #[.long 82], vm := .none },
  { cls := 10, slots := #[.long 83], vm := .none },
  { cls := 10, slots := #[.long 84], vm := .none },
  { cls := 10, slots := #[.long 85], vm := .none },
  { cls := 10, slots := #[.long 86], vm := .none },
  { cls := 10, slots := #[.long 87], vm := .none },
  { cls := 10, slots := #[.long 88], vm := .none },
  { cls := 10, slots := #[.long 89], vm := .none },
  { cls := 10, slots := #[.long 90], vm := .none },
  { cls := 10, slots := #[.long 91], vm := .none },
  { cls := 10, slots := #[.long 92], vm := .none },
  { cls := 10, slots := #[.long 93], vm := .none },
  { cls := 10, slots := #[.long 94], vm := .none },
  { cls := 10, slots := #[.long 95], vm := .none },
  { cls := 10, slots := #[.long 96], vm := .none },
  { cls := 10, slots := #[.long 97], vm := .none },
  { cls := 10, slots := #[.long 98], vm := .none },
  { cls := 10, slots := #[.long 99], vm := .none },
  { cls := 10, slots := #[.long 100], vm := .none },
  { cls := 10, slots := #[.long 101], vm := .none },
  { cls := 10, slots := #[.long 102], vm := .none },
  { cls := 10, slots := #[.long 103], vm := .none },
  { cls := 10, slots := #[.long 104], vm := .none },
  { cls := 10, slots := #[.long 105], vm := .none },
  { cls := 10, slots := #[.long 106], vm := .none },
  { cls := 10, slots := #[.long 107], vm := .none },
  { cls := 10, slots := #[.long 108], vm := .none },
  { cls := 10, slots := #[.long 109], vm := .none },
  { cls := 10, slots := #[.long 110], vm := .none },
  { cls := 10, slots := #[.long 111], vm := .none },
  { cls := 10, slots := #[.long 112], vm := .none },
  { cls := 10, slots := #[.long 113], vm := .none },
  { cls := 10, slots := #[.long 114], vm := .none },
  { cls := 10, slots := #[.long 115], vm := .none },
  { cls := 10, slots := #[.long 116], vm := .none },
  { cls := 10, slots := #[.long 117], vm := .none },
  { cls := 10, slots := #[.long 118], vm := .none },
  { cls := 10, slots := #[.long 119], vm := .none },
  { cls := 10, slots := #[.long 120], vm := .none },
  { cls := 10, slots := #[.long 121], vm := .none },
  { cls := 10, slots := #[.long 122], vm := .none },
  { cls := 10, slots := #[.long 123], vm := .none },
  { cls := 10, slots := #[.long 124], vm := .none },
  { cls := 10, slots := #[.long 125], vm := .none },
  { cls := 10, slots := #[.long 126], vm := .none },
  { cls := 10, slots := #[.long 127], vm := .none }]
def classes : Array Class := #[k0, k1, k2, k3, k4, k5, k6, k7, k8, k9, k10, k11, k12, k13, k14, k15]
def interned : List (Array UInt16 × Addr) := []
def slotsUsed : Nat := 573
def theMethod : MethodId := ⟨1, 2⟩
def args0 : Array Value := #[.long 5, .long 6, .int 1, .int 2, .int 0]
def aboutOver (below : List Frame) : State where
  vm := { classes := classes, interned := interned.toArray }
  heap := heap
  slotsUsed := slotsUsed
  threads := #[{ frames := .invoking theMethod args0 :: below }]
def below0 : List Frame := [.native { method := ⟨0, 0⟩, args := #[] }]
def about1 : State := aboutOver below0
def p0 : Program := .bare "" "" ""
def e0 : Env := launch0.env 0 0 0
theorem w_frames : about1.frames = Frame.invoking theMethod args0 :: below0 := rfl
set_option maxRecDepth 65536 in
theorem w_args : argsFit about1.vm theMethod args0 = true := by decide +kernel
set_option maxRecDepth 65536 in
theorem w_heap : heapFits about1 = true := by decide +kernel
set_option maxRecDepth 65536 in
theorem w_runnable : about1.curStatus? = some .runnable := by decide +kernel
set_option maxRecDepth 65536 in
theorem w_alone : about1.alone = true := by decide +kernel
set_option maxRecDepth 65536 in
theorem w_named : about1.methodNamed? x = some theMethod := by decide +kernel
set_option maxRecDepth 65536 in
theorem w_hears : about1.hears theMethod below0 = true := by decide +kernel
set_option maxRecDepth 65536 in
theorem w_ripe : about1.ripe theMethod args0 below0 = true := by decide +kernel
theorem w_running : about1.status = .running := rfl
set_option maxRecDepth 65536 in
theorem w_room : about1.hasRoom e0.platform room_1 = true :=
  launch0.hasRoom_least _ room_1 (by decide +kernel) (by decide +kernel) (by decide +kernel) (by decide +kernel) (by decide +kernel) (by decide +kernel)
theorem allAtoms_all (ts : List Jvm.Cond) (a : Array Jvm.Value) (st : Jvm.State) : (allAtoms ts).before a st = ts.all (fun c => c.before a st) := by
  induction ts with
  | nil => rfl
  | cons c t ih =>
    show (Jvm.Cond.and c (allAtoms t)).before a st = _
    rw [Jvm.Cond.before_and, ih, List.all_cons]
def words1 : List Jvm.Cond := Jvm.Cond.code x code maxLocals ret :: tables_1
/-- a 'code' word, met by the world's own term for the bytes: nothing is compared byte by byte -/
theorem code_word {y : MethodName} {bytes : ByteArray} {mx : Nat} {rt : Option FieldType} {a : Array Value} {s : State} {m : MethodId} {meth : Method} {c : Code} (h1 : s.methodNamed? y = some m) (h2 : s.vm.method? m = some meth) (h3 : meth.code = some c) (h4 : c.code = bytes)
    (h5 : (c.maxLocals == mx && c.exceptionTable.isEmpty && decide (c.maxStack ≤ mostOperands) && decide (meth.sig.returnType = rt) && !meth.locks && decide (parseMethodDescriptor y.desc = some meth.sig)) = true) : (Jvm.Cond.code y bytes mx rt).before a s = true := by
  simp only [Bool.and_eq_true, beq_iff_eq, Bool.not_eq_true', decide_eq_true_eq] at h5
  obtain ⟨⟨⟨⟨⟨g1, g2⟩, g3⟩, g4⟩, g5⟩, g6⟩ := h5
  simp [Cond.before, Cond.holds, Cond.value, h1, h2, h3, h4, g1, g2, g3, g4, g5, g6]
def isCode : Jvm.Cond → Bool
  | .code _ _ _ _ => true
  | _ => false
theorem all_split {L : List Jvm.Cond} {P : Jvm.Cond → Bool} (h1 : L.all (fun c => isCode c || P c) = true) (h2 : ∀ c ∈ L.filter isCode, P c = true) : L.all P = true := by
  refine List.all_eq_true.mpr fun c hc => ?_
  have h := List.all_eq_true.mp h1 c hc
  rcases Bool.eq_false_or_eq_true (isCode c) with hi | hi
  · exact h2 c (List.mem_filter.mpr ⟨hc, hi⟩)
  · simpa [hi] using h
set_option maxRecDepth 65536 in
theorem w_c0 : (Jvm.Cond.code x code maxLocals ret).before args0 about1 = true := code_word (m := ⟨1, 2⟩) (meth := k1m2) (c := k1c2) (by decide +kernel) rfl rfl rfl (by decide +kernel)
set_option maxRecDepth 65536 in
theorem w_c1 : (Jvm.Cond.code ({ cls := "com/example/kvota/kvota/ResolvedQuotaEqualsPinLaw", name := "level", desc := "(I)Lcom/example/kvota/kvota/PrecedenceLevel;" } : Jvm.MethodName) method_2_code (2 : Nat) (Option.some (Jvm.ClassFile.FieldType.object "com/example/kvota/kvota/PrecedenceLevel"))).before args0 about1 = true := code_word (m := ⟨1, 1⟩) (meth := k1m1) (c := k1c1) (by decide +kernel) rfl rfl rfl (by decide +kernel)
set_option maxRecDepth 65536 in
theorem w_c2 : (Jvm.Cond.code ({ cls := "com/example/kvota/kvota/ResolvedQuota", name := "<init>", desc := "(JLcom/example/kvota/kvota/PrecedenceLevel;)V" } : Jvm.MethodName) prog_36_method_1_code (4 : Nat) (Option.none : Option Jvm.ClassFile.FieldType)).before args0 about1 = true := code_word (m := ⟨7, 0⟩) (meth := k7m0) (c := k7c0) (by decide +kernel) rfl rfl rfl (by decide +kernel)
set_option maxRecDepth 65536 in
theorem w_c3 : (Jvm.Cond.code ({ cls := "java/lang/Object", name := "<init>", desc := "()V" } : Jvm.MethodName) object_method_1_code (1 : Nat) (Option.none : Option Jvm.ClassFile.FieldType)).before args0 about1 = true := code_word (m := ⟨0, 0⟩) (meth := k0m0) (c := k0c0) (by decide +kernel) rfl rfl rfl (by decide +kernel)
set_option maxRecDepth 65536 in
theorem w_c4 : (Jvm.Cond.code ({ cls := "com/example/kvota/kvota/ResolvedQuota", name := "equals", desc := "(Ljava/lang/Object;)Z" } : Jvm.MethodName) prog_36_method_4_code (2 : Nat) (Option.some Jvm.ClassFile.FieldType.boolean)).before args0 about1 = true := code_word (m := ⟨7, 1⟩) (meth := k7m1) (c := k7c1) (by decide +kernel) rfl rfl rfl (by decide +kernel)
set_option maxRecDepth 65536 in
theorem w_c5 : (Jvm.Cond.code ({ cls := "java/lang/Long", name := "valueOf", desc := "(J)Ljava/lang/Long;" } : Jvm.MethodName) jdk_35_method_24_code (3 : Nat) (Option.some (Jvm.ClassFile.FieldType.object "java/lang/Long"))).before args0 about1 = true := code_word (m := ⟨10, 0⟩) (meth := k10m0) (c := k10c0) (by decide +kernel) rfl rfl rfl (by decide +kernel)
set_option maxRecDepth 65536 in
theorem w_c6 : (Jvm.Cond.code ({ cls := "java/lang/Long", name := "<init>", desc := "(J)V" } : Jvm.MethodName) jdk_35_method_26_code (3 : Nat) (Option.none : Option Jvm.ClassFile.FieldType)).before args0 about1 = true := code_word (m := ⟨10, 1⟩) (meth := k10m1) (c := k10c1) (by decide +kernel) rfl rfl rfl (by decide +kernel)
set_option maxRecDepth 65536 in
theorem w_c7 : (Jvm.Cond.code ({ cls := "java/lang/Number", name := "<init>", desc := "()V" } : Jvm.MethodName) jdk_18_method_1_code (1 : Nat) (Option.none : Option Jvm.ClassFile.FieldType)).before args0 about1 = true := code_word (m := ⟨8, 0⟩) (meth := k8m0) (c := k8c0) (by decide +kernel) rfl rfl rfl (by decide +kernel)
def codes1 : List Jvm.Cond := [Jvm.Cond.code x code maxLocals ret, Jvm.Cond.code ({ cls := "com/example/kvota/kvota/ResolvedQuotaEqualsPinLaw", name := "level", desc := "(I)Lcom/example/kvota/kvota/PrecedenceLevel;" } : Jvm.MethodName) method_2_code (2 : Nat) (Option.some (Jvm.ClassFile.FieldType.object "com/example/kvota/kvota/PrecedenceLevel")), Jvm.Cond.code ({ cls := "com/example/kvota/kvota/ResolvedQuota", name := "<init>", desc := "(JLcom/example/kvota/kvota/PrecedenceLevel;)V" } : Jvm.MethodName) prog_36_method_1_code (4 : Nat) (Option.none : Option Jvm.ClassFile.FieldType), Jvm.Cond.code ({ cls := "java/lang/Object", name := "<init>", desc := "()V" } : Jvm.MethodName) object_method_1_code (1 : Nat) (Option.none : Option Jvm.ClassFile.FieldType), Jvm.Cond.code ({ cls := "com/example/kvota/kvota/ResolvedQuota", name := "equals", desc := "(Ljava/lang/Object;)Z" } : Jvm.MethodName) prog_36_method_4_code (2 : Nat) (Option.some Jvm.ClassFile.FieldType.boolean), Jvm.Cond.code ({ cls := "java/lang/Long", name := "valueOf", desc := "(J)Ljava/lang/Long;" } : Jvm.MethodName) jdk_35_method_24_code (3 : Nat) (Option.some (Jvm.ClassFile.FieldType.object "java/lang/Long")), Jvm.Cond.code ({ cls := "java/lang/Long", name := "<init>", desc := "(J)V" } : Jvm.MethodName) jdk_35_method_26_code (3 : Nat) (Option.none : Option Jvm.ClassFile.FieldType), Jvm.Cond.code ({ cls := "java/lang/Number", name := "<init>", desc := "()V" } : Jvm.MethodName) jdk_18_method_1_code (1 : Nat) (Option.none : Option Jvm.ClassFile.FieldType)]
set_option maxRecDepth 65536 in
theorem codes_eq : words1.filter isCode = codes1 := rfl
theorem w_codes : ∀ c ∈ words1.filter isCode, c.before args0 about1 = true := by
  rw [codes_eq]
  intro c hc
  simp only [codes1, List.mem_cons, List.not_mem_nil, or_false] at hc
  rcases hc with rfl | rfl | rfl | rfl | rfl | rfl | rfl | rfl
  · exact w_c0
  · exact w_c1
  · exact w_c2
  · exact w_c3
  · exact w_c4
  · exact w_c5
  · exact w_c6
  · exact w_c7
set_option maxRecDepth 65536 in
theorem w_t1 : (words1.take 24).all (fun c => isCode c || c.before args0 about1) = true := by decide +kernel
set_option maxRecDepth 65536 in
theorem w_t2 : ((words1.drop 24).take 24).all (fun c => isCode c || c.before args0 about1) = true := by decide +kernel
set_option maxRecDepth 65536 in
theorem w_t3 : ((words1.drop 24).drop 24).all (fun c => isCode c || c.before args0 about1) = true := by decide +kernel
theorem w_tables : (allAtoms (Jvm.Cond.code x code maxLocals ret :: tables_1)).before args0 about1 = true := by
  rw [allAtoms_all]
  show words1.all (fun c => c.before args0 about1) = true
  refine all_split ?_ w_codes
  rw [← List.take_append_drop 24 words1, List.all_append, w_t1, ← List.take_append_drop 24 (words1.drop 24), List.all_append, w_t2, w_t3]
  rfl
set_option maxRecDepth 65536 in
theorem w_rest : rest_1_c.before args0 about1 = true := by decide +kernel
set_option maxRecDepth 65536 in
theorem w_case : (Jvm.Cond.and given_1 narrow_1).before args0 about1 = true := by decide +kernel
theorem w_applies : (headSpec (Jvm.Cond.code x code maxLocals ret :: tables_1) room_1).applies x e0.platform about1 = true :=
  (Spec.applies_iff w_frames).mpr ⟨w_running, w_runnable, w_alone, w_named, w_hears, w_ripe, w_room, w_tables⟩
theorem atStart : AtStart classFile x code maxLocals ret World_1 tables_1 room_1 Calls_1 rest_1 Pre_1 launch0 p0 e0 about1 theMethod args0 below0 :=
  ⟨lists_1, trivial, launch0.admits_env _ _ _, launch0.least_env, fairChoices_fair.cas, fairChoices_fair.clock, w_frames, w_args, w_heap, w_applies, trivial, w_rest, w_case⟩
end start1
theorem witness_1 : WitnessClaimed_1 := ⟨start1.p0, start1.e0, start1.about1, start1.theMethod, start1.args0, start1.below0, start1.atStart⟩
end Jvm.Pilot.@@N@@
