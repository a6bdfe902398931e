import JvmDerived
import JvmDerived.Pilot.@@N@@Statement
import JvmDerived.Pilot.@@N@@Code
set_option linter.unusedVariables false
set_option linter.unusedSimpArgs false
namespace Jvm.Pilot.@@N@@
open Jvm Jvm.ClassFile Sem Op Lib Jvm.Free Jvm.Stand Jvm.LawKit Jvm.RoadKit Bundle Jvm.Pilot.@@N@@.Jvm.D

def own_sat (a b : Int64) : Int64 := if (lcmpW (a + b) (0 : Int64)) < (0 : Int32) then (9223372036854775807 : Int64) else (a + b)
theorem own_nn (x : Int64) (s : UInt64) : 0 ≤ (((x &&& (9223372036854775807 : Int64)).toUInt64 >>> s).toInt64).toInt := by
  have h1 : ((x &&& (9223372036854775807 : Int64)).toUInt64).toNat ≤ 9223372036854775807 := by
    show (x.toBitVec &&& (9223372036854775807 : Int64).toBitVec).toNat ≤ _
    rw [BitVec.toNat_and]
    exact Nat.and_le_right
  have h2 : ((x &&& (9223372036854775807 : Int64)).toUInt64 >>> s).toNat ≤ 9223372036854775807 := by
    rw [UInt64.toNat_shiftRight]
    exact Nat.le_trans (Nat.shiftRight_le _ _) h1
  generalize (x &&& (9223372036854775807 : Int64)).toUInt64 >>> s = u at h2
  show 0 ≤ u.toBitVec.toInt
  rw [BitVec.toInt_eq_toNat_of_lt]
  · omega
  · show 2 * u.toNat < 2 ^ 64
    omega
theorem own_max : (9223372036854775807 : Int64).toInt = 9223372036854775807 := by decide
theorem own_yes {a b : Int64} (ha : 0 ≤ a.toInt) (hb : 0 ≤ b.toInt) (h : (0 : Int32) < (lcmpW a ((9223372036854775807 : Int64) - b))) : (lcmpW (own_sat a b) (9223372036854775807 : Int64)) = (0 : Int32) := by
  rw [lw_gt, Int64.lt_iff_toInt_lt] at h
  rw [lw_eq]; unfold own_sat
  refine if_pos ((lw_lt _ _).mpr ?_)
  rw [Int64.lt_iff_toInt_lt]
  have e0 : (0 : Int64).toInt = 0 := by decide
  have := c_ladd a b; have := c_lsub (9223372036854775807 : Int64) b; have := own_max
  have := rng64 a; have := rng64 b; have := rng64 (a + b); have := rng64 ((9223372036854775807 : Int64) - b)
  omega
theorem own_no {a b : Int64} (ha : 0 ≤ a.toInt) (hb : 0 ≤ b.toInt) (h : ¬ (0 : Int32) < (lcmpW a ((9223372036854775807 : Int64) - b))) : (lcmpW (own_sat a b) (a + b)) = (0 : Int32) := by
  rw [lw_gt, Int64.lt_iff_toInt_lt] at h
  rw [lw_eq]; unfold own_sat
  refine if_neg fun q => ?_
  rw [lw_lt, Int64.lt_iff_toInt_lt] at q
  have e0 : (0 : Int64).toInt = 0 := by decide
  have := c_ladd a b; have := c_lsub (9223372036854775807 : Int64) b; have := own_max
  have := rng64 a; have := rng64 b; have := rng64 (a + b); have := rng64 ((9223372036854775807 : Int64) - b)
  omega
theorem d1_0 : decode prog_41_method_3_code 0 = .ok (.lload_n 0, 1) := by decide +kernel
theorem d1_1 : decode prog_41_method_3_code 1 = .ok (.lload_n 2, 1) := by decide +kernel
theorem d1_2 : decode prog_41_method_3_code 2 = .ok (.ladd, 1) := by decide +kernel
theorem d1_3 : decode prog_41_method_3_code 3 = .ok (.lstore 4, 2) := by decide +kernel
theorem d1_5 : decode prog_41_method_3_code 5 = .ok (.lload 4, 2) := by decide +kernel
theorem d1_7 : decode prog_41_method_3_code 7 = .ok (.lconst 0, 1) := by decide +kernel
theorem d1_8 : decode prog_41_method_3_code 8 = .ok (.lcmp, 1) := by decide +kernel
theorem d1_9 : decode prog_41_method_3_code 9 = .ok (.ifCond .ge 9, 3) := by decide +kernel
theorem d1_12 : decode prog_41_method_3_code 12 = .ok (.ldc2_w 9, 3) := by decide +kernel
theorem d1_15 : decode prog_41_method_3_code 15 = .ok (.goto 5, 3) := by decide +kernel
theorem d1_18 : decode prog_41_method_3_code 18 = .ok (.lload 4, 2) := by decide +kernel
theorem d1_20 : decode prog_41_method_3_code 20 = .ok (.lreturn, 1) := by decide +kernel
theorem pn1 : plainName "com/example/kvota/kvota/WholeNumbers" = true := by first | (simp [plainName, overriddenIn]; done) | decide +kernel
theorem ef1 (m : MethodId) (x0 : Int64) (x1 : Int64) : entryFrame m #[(.long x0), (.long x1)] 6 = mkF m 0 #[.val (.long x0), .second, .val (.long x1), .second, .unset, .unset] [] := by first | (simp [entryFrame, mkF, argsToLocals, Value.category]; done) | rfl
def Q1 (Z : State) (x0 : Int64) (x1 : Int64) (h0 : Heap) (n0 : Nat) (v : Option Value) (h : Heap) (L : List Loc) : Prop := v = some (.long (own_sat x0 x1)) ∧ Fr n0 L ∧ h = h0
set_option maxRecDepth 65536 in
set_option maxHeartbeats 40000000 in
theorem rm1 (l : Launch) (Z : State) (a0 : Array Value) (hw : ∀ d ∈ tables_1, d.before a0 Z = true) (ws : List Jvm.Cond) (x0 : Int64) (x1 : Int64) (h0 : Heap) (n0 : Nat) (Z0 : n0 ≤ h0.size) :
    MetFree l (⟨"com/example/kvota/kvota/WholeNumbers", "saturatedSum", "(JJ)J"⟩ : MethodName) (head1 (Jvm.Cond.code (⟨"com/example/kvota/kvota/WholeNumbers", "saturatedSum", "(JJ)J"⟩ : MethodName) prog_41_method_3_code 6 (some .long) :: ws) ({ frames := 0, cells := 0, slots := 0, locals := 0 } : Room)) (fun a U => a = #[(.long x0), (.long x1)] ∧ Z.Warmed39 U.vm ∧ U.heap = h0) (fun _ _ _ _ _ => True) (fun _ U o U' => ∃ v L, o = .returned v ∧ Q1 Z x0 x1 h0 n0 v U'.heap L ∧ FrameEnd U o U' L ({ frames := 0, cells := 0, slots := 0, locals := 0 } : Room).cells ({ frames := 0, cells := 0, slots := 0, locals := 0 } : Room).slots) := by
  refine MetFree.of_bodySF (plainFor_of_name pn1) hisR ?_
  intro p e s m args below meth c s₁ Bd hml0 hP hK
  obtain ⟨rfl, hZ, hh⟩ := hP
  have hx := Bd.exec
  have hby := Bd.bytes
  have hml : c.maxLocals = 6 := hml0
  have hown : s.vm.findClass "com/example/kvota/kvota/WholeNumbers" = some m.cls := findClass_of_methodNamed Bd.named
  have hnm := (name_of_methodNamed Bd.named Bd.method).1
  have X0 : Stand p l e ({ frames := 0, cells := 0, slots := 0, locals := 0 } : Room) s m #[(.long x0), (.long x1)] below meth c s₁ [] 0 0 := Stand.of_body Bd
  have e0 : s₁.heap = h0 := by rw [← hh, Bd.state]; rfl
  have N0 := Fr.nil n0
  have pre0 : ∀ t, Steps p.tables e below (s₁.setTop (mkF m 0 #[.val (.long x0), .second, .val (.long x1), .second, .unset, .unset] [])) t → Steps p.tables e below (s₁.setTop (entryFrame m #[(.long x0), (.long x1)] 6)) t := fun t k => castTop (ef1 m x0 x1) k
  have p1 : ∀ t, Steps p.tables e below (s₁.setTop (mkF m 9 #[.val (.long x0), .second, .val (.long x1), .second, .val (.long (x0 + x1)), .second] [(.int (lcmpW (x0 + x1) (0 : Int64)))])) t → Steps p.tables e below (s₁.setTop (entryFrame m #[(.long x0), (.long x1)] 6)) t := fun t k => pre0 t (by
    show Steps p.tables e below (s₁.setTop (mkF m 0 #[.val (.long x0), .second, .val (.long x1), .second, .unset, .unset] [])) _
    refine XS.lloadN X0.here hx rfl (hb hby d1_0) rfl ?_
    show Steps p.tables e below (s₁.setTop (mkF m 1 #[.val (.long x0), .second, .val (.long x1), .second, .unset, .unset] [(.long x0)])) _
    refine XS.lloadN X0.here hx rfl (hb hby d1_1) rfl ?_
    show Steps p.tables e below (s₁.setTop (mkF m 2 #[.val (.long x0), .second, .val (.long x1), .second, .unset, .unset] [(.long x1), (.long x0)])) _
    refine XS.ladd X0.here hx rfl (hb hby d1_2) rfl ?_
    show Steps p.tables e below (s₁.setTop (mkF m 3 #[.val (.long x0), .second, .val (.long x1), .second, .unset, .unset] [(.long (x0 + x1))])) _
    refine XS.lstore X0.here hx rfl (hb hby d1_3) rfl (l' := #[.val (.long x0), .second, .val (.long x1), .second, .val (.long (x0 + x1)), .second]) rfl ?_
    show Steps p.tables e below (s₁.setTop (mkF m 5 #[.val (.long x0), .second, .val (.long x1), .second, .val (.long (x0 + x1)), .second] [])) _
    refine XS.lload X0.here hx rfl (hb hby d1_5) rfl ?_
    show Steps p.tables e below (s₁.setTop (mkF m 7 #[.val (.long x0), .second, .val (.long x1), .second, .val (.long (x0 + x1)), .second] [(.long (x0 + x1))])) _
    refine XS.lconst X0.here hx rfl (hb hby d1_7) ?_
    show Steps p.tables e below (s₁.setTop (mkF m 8 #[.val (.long x0), .second, .val (.long x1), .second, .val (.long (x0 + x1)), .second] [(.long (0 : Int64)), (.long (x0 + x1))])) _
    refine XS.lcmp X0.here hx rfl (hb hby d1_8) rfl ?_
    exact k)
  by_cases hc9 : (lcmpW (x0 + x1) (0 : Int64)) < (0 : Int32)
  · have p2 : ∀ t, Steps p.tables e below (s₁.setTop (mkF m 20 #[.val (.long x0), .second, .val (.long x1), .second, .val (.long (x0 + x1)), .second] [(.long (9223372036854775807 : Int64))])) t → Steps p.tables e below (s₁.setTop (entryFrame m #[(.long x0), (.long x1)] 6)) t := fun t k => p1 t (by
      show Steps p.tables e below (s₁.setTop (mkF m 9 #[.val (.long x0), .second, .val (.long x1), .second, .val (.long (x0 + x1)), .second] [(.int (lcmpW (x0 + x1) (0 : Int64)))])) _
      refine XS.ifNo X0.here hx rfl (hb hby d1_9) rfl ((if0 _ _).trans (tlt (hc9)).2.1) ?_
      show Steps p.tables e below (s₁.setTop (mkF m 12 #[.val (.long x0), .second, .val (.long x1), .second, .val (.long (x0 + x1)), .second] [])) _
      refine X0.ldc2Long hx hown (mvT hZ (hw _ (List.mem_of_getElem? (i := 5) rfl))) (g := (mkF m 12 #[.val (.long x0), .second, .val (.long x1), .second, .val (.long (x0 + x1)), .second] [])) rfl (hb hby d1_12) _ ?_
      show Steps p.tables e below (s₁.setTop (mkF m 15 #[.val (.long x0), .second, .val (.long x1), .second, .val (.long (x0 + x1)), .second] [(.long (9223372036854775807 : Int64))])) _
      refine XS.goto X0.here hx rfl (pc0 := 15) (pc' := 20) rfl (hb hby d1_15) (by decide) (by decide) ?_
      exact k)
    obtain ⟨fs, hr, hrun, hended, hW, hsame⟩ := X0.leave (v := some (.long (9223372036854775807 : Int64))) (fun h => by rw [Bd.returns] at h; cases h)
    refine ⟨_, _, p2 _ ?_, hrun, hended, _, _, rfl, ?_, ⟨_, rfl⟩, hW, hsame.mono (by decide) (by decide)⟩
    · show Steps p.tables e below (s₁.setTop (mkF m 20 #[.val (.long x0), .second, .val (.long x1), .second, .val (.long (x0 + x1)), .second] [(.long (9223372036854775807 : Int64))])) _
      exact retOut X0 hx Bd.returns rfl (Or.inr (Or.inl ⟨rfl, rfl, _, rfl⟩)) (hb hby d1_20) hr
    · show Q1 Z x0 x1 h0 n0 _ s₁.heap _
      rw [e0]
      exact ⟨by unfold own_sat; rw [if_pos hc9], N0, rfl⟩
  · have p3 : ∀ t, Steps p.tables e below (s₁.setTop (mkF m 20 #[.val (.long x0), .second, .val (.long x1), .second, .val (.long (x0 + x1)), .second] [(.long (x0 + x1))])) t → Steps p.tables e below (s₁.setTop (entryFrame m #[(.long x0), (.long x1)] 6)) t := fun t k => p1 t (by
      show Steps p.tables e below (s₁.setTop (mkF m 9 #[.val (.long x0), .second, .val (.long x1), .second, .val (.long (x0 + x1)), .second] [(.int (lcmpW (x0 + x1) (0 : Int64)))])) _
      refine XS.ifYes X0.here hx rfl (pc0 := 9) (pc' := 18) rfl (hb hby d1_9) rfl ((if0 _ _).trans (flt (hc9)).2.1) (by decide) (by decide) ?_
      show Steps p.tables e below (s₁.setTop (mkF m 18 #[.val (.long x0), .second, .val (.long x1), .second, .val (.long (x0 + x1)), .second] [])) _
      refine XS.lload X0.here hx rfl (hb hby d1_18) rfl ?_
      exact k)
    obtain ⟨fs, hr, hrun, hended, hW, hsame⟩ := X0.leave (v := some (.long (x0 + x1))) (fun h => by rw [Bd.returns] at h; cases h)
    refine ⟨_, _, p3 _ ?_, hrun, hended, _, _, rfl, ?_, ⟨_, rfl⟩, hW, hsame.mono (by decide) (by decide)⟩
    · show Steps p.tables e below (s₁.setTop (mkF m 20 #[.val (.long x0), .second, .val (.long x1), .second, .val (.long (x0 + x1)), .second] [(.long (x0 + x1))])) _
      exact retOut X0 hx Bd.returns rfl (Or.inr (Or.inl ⟨rfl, rfl, _, rfl⟩)) (hb hby d1_20) hr
    · show Q1 Z x0 x1 h0 n0 _ s₁.heap _
      rw [e0]
      exact ⟨by unfold own_sat; rw [if_neg hc9], N0, rfl⟩
theorem pn0 : plainName "com/example/kvota/kvota/WholeNumbersSaturatedSumPinLaw" = true := by first | (simp [plainName, overriddenIn]; done) | decide +kernel
theorem pd0_0 : parseMethodDescriptor "(JJ)J" = some ⟨[.long, .long], some .long⟩ := by decide +kernel
theorem ef0 (m : MethodId) (x0 : Int64) (x1 : Int64) (x2 : Int32) (x3 : Int32) : entryFrame m #[(.long x0), (.long x1), (.int x2), (.int x3)] maxLocals = mkF m 0 #[.val (.long x0), .second, .val (.long x1), .second, .val (.int x2), .val (.int x3), .unset, .unset, .unset, .unset, .unset, .unset, .unset, .unset] [] := by first | (simp [entryFrame, mkF, argsToLocals, Value.category, maxLocals]; done) | rfl
def Q0 (Z : State) (x0 : Int64) (x1 : Int64) (x2 : Int32) (x3 : Int32) (h0 : Heap) (n0 : Nat) (v : Option Value) (h : Heap) (L : List Loc) : Prop := v = some (.int (1 : Int32)) ∧ Fr n0 L
set_option maxRecDepth 65536 in
set_option maxHeartbeats 40000000 in
theorem rm0 (l : Launch) (Z : State) (a0 : Array Value) (hw : ∀ d ∈ tables_1, d.before a0 Z = true) (ws : List Jvm.Cond) (x0 : Int64) (x1 : Int64) (x2 : Int32) (x3 : Int32) (h0 : Heap) (n0 : Nat) (Z0 : n0 ≤ h0.size) :
    MetFree l x (head1 (Jvm.Cond.code x code maxLocals ret :: ws) room_1) (fun a U => a = #[(.long x0), (.long x1), (.int x2), (.int x3)] ∧ Z.Warmed39 U.vm ∧ U.heap = h0) (fun _ _ _ _ _ => True) (fun _ U o U' => ∃ v L, o = .returned v ∧ Q0 Z x0 x1 x2 x3 h0 n0 v U'.heap L ∧ FrameEnd U o U' L room_1.cells room_1.slots) := by
  refine MetFree.of_bodySF (plainFor_of_name pn0) hisR ?_
  intro p e s m args below meth c s₁ Bd hml0 hP hK
  obtain ⟨rfl, hZ, hh⟩ := hP
  have hx := Bd.exec
  have hby := Bd.bytes
  have hml : c.maxLocals = 14 := hml0
  have hown : s.vm.findClass "com/example/kvota/kvota/WholeNumbersSaturatedSumPinLaw" = some m.cls := findClass_of_methodNamed Bd.named
  have hnm := (name_of_methodNamed Bd.named Bd.method).1
  have X0 : Stand p l e room_1 s m #[(.long x0), (.long x1), (.int x2), (.int x3)] below meth c s₁ [] 0 0 := Stand.of_body Bd
  have e0 : s₁.heap = h0 := by rw [← hh, Bd.state]; rfl
  have N0 := Fr.nil n0
  have pre0 : ∀ t, Steps p.tables e below (s₁.setTop (mkF m 0 #[.val (.long x0), .second, .val (.long x1), .second, .val (.int x2), .val (.int x3), .unset, .unset, .unset, .unset, .unset, .unset, .unset, .unset] [])) t → Steps p.tables e below (s₁.setTop (entryFrame m #[(.long x0), (.long x1), (.int x2), (.int x3)] maxLocals)) t := fun t k => castTop (ef0 m x0 x1 x2 x3) k
  have p1 : ∀ t, Steps p.tables e below (s₁.setTop (mkF m 13 #[.val (.long x0), .second, .val (.long x1), .second, .val (.int x2), .val (.int x3), .val (.long (((x0 &&& (9223372036854775807 : Int64)).toUInt64 >>> ((x2 &&& (63 : Int32)) &&& 0x3f).toInt64.toUInt64).toInt64)), .second, .unset, .unset, .unset, .unset, .unset, .unset] [])) t → Steps p.tables e below (s₁.setTop (entryFrame m #[(.long x0), (.long x1), (.int x2), (.int x3)] maxLocals)) t := fun t k => pre0 t (by
    show Steps p.tables e below (s₁.setTop (mkF m 0 #[.val (.long x0), .second, .val (.long x1), .second, .val (.int x2), .val (.int x3), .unset, .unset, .unset, .unset, .unset, .unset, .unset, .unset] [])) _
    refine XS.lloadN X0.here hx rfl (hb hby at_0) rfl ?_
    show Steps p.tables e below (s₁.setTop (mkF m 1 #[.val (.long x0), .second, .val (.long x1), .second, .val (.int x2), .val (.int x3), .unset, .unset, .unset, .unset, .unset, .unset, .unset, .unset] [(.long x0)])) _
    refine X0.ldc2Long hx hown (mvT hZ (hw _ (List.mem_of_getElem? (i := 0) rfl))) (g := (mkF m 1 #[.val (.long x0), .second, .val (.long x1), .second, .val (.int x2), .val (.int x3), .unset, .unset, .unset, .unset, .unset, .unset, .unset, .unset] [(.long x0)])) rfl (hb hby at_1) _ ?_
    show Steps p.tables e below (s₁.setTop (mkF m 4 #[.val (.long x0), .second, .val (.long x1), .second, .val (.int x2), .val (.int x3), .unset, .unset, .unset, .unset, .unset, .unset, .unset, .unset] [(.long (9223372036854775807 : Int64)), (.long x0)])) _
    refine XS.land X0.here hx rfl (hb hby at_4) rfl ?_
    show Steps p.tables e below (s₁.setTop (mkF m 5 #[.val (.long x0), .second, .val (.long x1), .second, .val (.int x2), .val (.int x3), .unset, .unset, .unset, .unset, .unset, .unset, .unset, .unset] [(.long (x0 &&& (9223372036854775807 : Int64)))])) _
    refine XS.iload X0.here hx rfl (hb hby at_5) rfl ?_
    show Steps p.tables e below (s₁.setTop (mkF m 7 #[.val (.long x0), .second, .val (.long x1), .second, .val (.int x2), .val (.int x3), .unset, .unset, .unset, .unset, .unset, .unset, .unset, .unset] [(.int x2), (.long (x0 &&& (9223372036854775807 : Int64)))])) _
    refine XS.bipush X0.here hx rfl (hb hby at_7) ?_
    show Steps p.tables e below (s₁.setTop (mkF m 9 #[.val (.long x0), .second, .val (.long x1), .second, .val (.int x2), .val (.int x3), .unset, .unset, .unset, .unset, .unset, .unset, .unset, .unset] [(.int (63 : Int32)), (.int x2), (.long (x0 &&& (9223372036854775807 : Int64)))])) _
    refine XS.iand X0.here hx rfl (hb hby at_9) rfl ?_
    show Steps p.tables e below (s₁.setTop (mkF m 10 #[.val (.long x0), .second, .val (.long x1), .second, .val (.int x2), .val (.int x3), .unset, .unset, .unset, .unset, .unset, .unset, .unset, .unset] [(.int (x2 &&& (63 : Int32))), (.long (x0 &&& (9223372036854775807 : Int64)))])) _
    refine XS.lushr X0.here hx rfl (hb hby at_10) rfl ?_
    show Steps p.tables e below (s₁.setTop (mkF m 11 #[.val (.long x0), .second, .val (.long x1), .second, .val (.int x2), .val (.int x3), .unset, .unset, .unset, .unset, .unset, .unset, .unset, .unset] [(.long (((x0 &&& (9223372036854775807 : Int64)).toUInt64 >>> ((x2 &&& (63 : Int32)) &&& 0x3f).toInt64.toUInt64).toInt64))])) _
    refine XS.lstore X0.here hx rfl (hb hby at_11) rfl (l' := #[.val (.long x0), .second, .val (.long x1), .second, .val (.int x2), .val (.int x3), .val (.long (((x0 &&& (9223372036854775807 : Int64)).toUInt64 >>> ((x2 &&& (63 : Int32)) &&& 0x3f).toInt64.toUInt64).toInt64)), .second, .unset, .unset, .unset, .unset, .unset, .unset]) rfl ?_
    exact k)
  obtain ⟨va, hva⟩ : ∃ z : Int64, z = (((x0 &&& (9223372036854775807 : Int64)).toUInt64 >>> ((x2 &&& (63 : Int32)) &&& 0x3f).toInt64.toUInt64).toInt64) := ⟨_, rfl⟩
  have p2 : ∀ t, Steps p.tables e below (s₁.setTop (mkF m 13 #[.val (.long x0), .second, .val (.long x1), .second, .val (.int x2), .val (.int x3), .val (.long va), .second, .unset, .unset, .unset, .unset, .unset, .unset] [])) t → Steps p.tables e below (s₁.setTop (entryFrame m #[(.long x0), (.long x1), (.int x2), (.int x3)] maxLocals)) t := by
    intro t k; subst hva; exact p1 t k
  have p3 : ∀ t, Steps p.tables e below (s₁.setTop (mkF m 26 #[.val (.long x0), .second, .val (.long x1), .second, .val (.int x2), .val (.int x3), .val (.long va), .second, .val (.long (((x1 &&& (9223372036854775807 : Int64)).toUInt64 >>> ((x3 &&& (63 : Int32)) &&& 0x3f).toInt64.toUInt64).toInt64)), .second, .unset, .unset, .unset, .unset] [])) t → Steps p.tables e below (s₁.setTop (entryFrame m #[(.long x0), (.long x1), (.int x2), (.int x3)] maxLocals)) t := fun t k => p2 t (by
    show Steps p.tables e below (s₁.setTop (mkF m 13 #[.val (.long x0), .second, .val (.long x1), .second, .val (.int x2), .val (.int x3), .val (.long va), .second, .unset, .unset, .unset, .unset, .unset, .unset] [])) _
    refine XS.lloadN X0.here hx rfl (hb hby at_13) rfl ?_
    show Steps p.tables e below (s₁.setTop (mkF m 14 #[.val (.long x0), .second, .val (.long x1), .second, .val (.int x2), .val (.int x3), .val (.long va), .second, .unset, .unset, .unset, .unset, .unset, .unset] [(.long x1)])) _
    refine X0.ldc2Long hx hown (mvT hZ (hw _ (List.mem_of_getElem? (i := 0) rfl))) (g := (mkF m 14 #[.val (.long x0), .second, .val (.long x1), .second, .val (.int x2), .val (.int x3), .val (.long va), .second, .unset, .unset, .unset, .unset, .unset, .unset] [(.long x1)])) rfl (hb hby at_14) _ ?_
    show Steps p.tables e below (s₁.setTop (mkF m 17 #[.val (.long x0), .second, .val (.long x1), .second, .val (.int x2), .val (.int x3), .val (.long va), .second, .unset, .unset, .unset, .unset, .unset, .unset] [(.long (9223372036854775807 : Int64)), (.long x1)])) _
    refine XS.land X0.here hx rfl (hb hby at_17) rfl ?_
    show Steps p.tables e below (s₁.setTop (mkF m 18 #[.val (.long x0), .second, .val (.long x1), .second, .val (.int x2), .val (.int x3), .val (.long va), .second, .unset, .unset, .unset, .unset, .unset, .unset] [(.long (x1 &&& (9223372036854775807 : Int64)))])) _
    refine XS.iload X0.here hx rfl (hb hby at_18) rfl ?_
    show Steps p.tables e below (s₁.setTop (mkF m 20 #[.val (.long x0), .second, .val (.long x1), .second, .val (.int x2), .val (.int x3), .val (.long va), .second, .unset, .unset, .unset, .unset, .unset, .unset] [(.int x3), (.long (x1 &&& (9223372036854775807 : Int64)))])) _
    refine XS.bipush X0.here hx rfl (hb hby at_20) ?_
    show Steps p.tables e below (s₁.setTop (mkF m 22 #[.val (.long x0), .second, .val (.long x1), .second, .val (.int x2), .val (.int x3), .val (.long va), .second, .unset, .unset, .unset, .unset, .unset, .unset] [(.int (63 : Int32)), (.int x3), (.long (x1 &&& (9223372036854775807 : Int64)))])) _
    refine XS.iand X0.here hx rfl (hb hby at_22) rfl ?_
    show Steps p.tables e below (s₁.setTop (mkF m 23 #[.val (.long x0), .second, .val (.long x1), .second, .val (.int x2), .val (.int x3), .val (.long va), .second, .unset, .unset, .unset, .unset, .unset, .unset] [(.int (x3 &&& (63 : Int32))), (.long (x1 &&& (9223372036854775807 : Int64)))])) _
    refine XS.lushr X0.here hx rfl (hb hby at_23) rfl ?_
    show Steps p.tables e below (s₁.setTop (mkF m 24 #[.val (.long x0), .second, .val (.long x1), .second, .val (.int x2), .val (.int x3), .val (.long va), .second, .unset, .unset, .unset, .unset, .unset, .unset] [(.long (((x1 &&& (9223372036854775807 : Int64)).toUInt64 >>> ((x3 &&& (63 : Int32)) &&& 0x3f).toInt64.toUInt64).toInt64))])) _
    refine XS.lstore X0.here hx rfl (hb hby at_24) rfl (l' := #[.val (.long x0), .second, .val (.long x1), .second, .val (.int x2), .val (.int x3), .val (.long va), .second, .val (.long (((x1 &&& (9223372036854775807 : Int64)).toUInt64 >>> ((x3 &&& (63 : Int32)) &&& 0x3f).toInt64.toUInt64).toInt64)), .second, .unset, .unset, .unset, .unset]) rfl ?_
    exact k)
  obtain ⟨vb, hvb⟩ : ∃ z : Int64, z = (((x1 &&& (9223372036854775807 : Int64)).toUInt64 >>> ((x3 &&& (63 : Int32)) &&& 0x3f).toInt64.toUInt64).toInt64) := ⟨_, rfl⟩
  have p4 : ∀ t, Steps p.tables e below (s₁.setTop (mkF m 26 #[.val (.long x0), .second, .val (.long x1), .second, .val (.int x2), .val (.int x3), .val (.long va), .second, .val (.long vb), .second, .unset, .unset, .unset, .unset] [])) t → Steps p.tables e below (s₁.setTop (entryFrame m #[(.long x0), (.long x1), (.int x2), (.int x3)] maxLocals)) t := by
    intro t k; subst hvb; exact p3 t k
  have ha : 0 ≤ va.toInt := by rw [hva]; exact own_nn _ _
  have hb' : 0 ≤ vb.toInt := by rw [hvb]; exact own_nn _ _
  have p5 : ∀ t, Steps p.tables e below (s₁.setTop (mkF m 30 #[.val (.long x0), .second, .val (.long x1), .second, .val (.int x2), .val (.int x3), .val (.long va), .second, .val (.long vb), .second, .unset, .unset, .unset, .unset] [(.long vb), (.long va)])) t → Steps p.tables e below (s₁.setTop (entryFrame m #[(.long x0), (.long x1), (.int x2), (.int x3)] maxLocals)) t := fun t k => p4 t (by
    show Steps p.tables e below (s₁.setTop (mkF m 26 #[.val (.long x0), .second, .val (.long x1), .second, .val (.int x2), .val (.int x3), .val (.long va), .second, .val (.long vb), .second, .unset, .unset, .unset, .unset] [])) _
    refine XS.lload X0.here hx rfl (hb hby at_26) rfl ?_
    show Steps p.tables e below (s₁.setTop (mkF m 28 #[.val (.long x0), .second, .val (.long x1), .second, .val (.int x2), .val (.int x3), .val (.long va), .second, .val (.long vb), .second, .unset, .unset, .unset, .unset] [(.long va)])) _
    refine XS.lload X0.here hx rfl (hb hby at_28) rfl ?_
    exact k)
  obtain ⟨_, _, ⟨T6, L6, k6, n6⟩, -, X6, ⟨Lc6, hQ6, l6, y6, z6⟩, st6⟩ := Jvm.LawKit.callS X0 hx (y := (⟨"com/example/kvota/kvota/WholeNumbers", "saturatedSum", "(JJ)J"⟩ : MethodName)) hown (mvT hZ (hw _ (List.mem_of_getElem? (i := 1) rfl))) (mvT hZ (hw _ (List.mem_of_getElem? (i := 2) rfl))) (mvT hZ (hw _ (List.mem_of_getElem? (i := 3) rfl))) (mvT hZ (hw _ (List.mem_of_getElem? (i := 4) rfl))) (by decide) (backOf (W := 0) (rm1 l Z a0 hw [] va vb  h0 n0 Z0 ) hZ (hw _ (List.mem_of_getElem? (i := 4) rfl)) (hw _ (List.mem_of_getElem? (i := 3) rfl)) (by decide) (by decide)) (g := (mkF m 30 #[.val (.long x0), .second, .val (.long x1), .second, .val (.int x2), .val (.int x3), .val (.long va), .second, .val (.long vb), .second, .unset, .unset, .unset, .unset] [(.long vb), (.long va)])) rfl (by rw [hml]; rfl) (argsL := [(.long va), (.long vb)]) (rest := []) (lenOf pd0_0 rfl) rfl (by show 2 * 0 + _ ≤ _; exact Nat.le_of_eq rfl) (hb hby at_30) (fun _ _ => ⟨rfl, e0, (by decide : 0 + 0 ≤ _), (by decide : 0 + 0 ≤ _)⟩)
  dsimp only [Pt.U, Pt.locs, Pt.cells, Pt.slots] at X6 l6 y6 z6 st6 hQ6
  subst l6 y6 z6
  obtain ⟨rfl, Nq6, e6⟩ := hQ6
  have N6 := Fr.app N0 Nq6
  have p7 : ∀ t, Steps p.tables e below (T6.setTop (mkF m 33 #[.val (.long x0), .second, .val (.long x1), .second, .val (.int x2), .val (.int x3), .val (.long va), .second, .val (.long vb), .second, .unset, .unset, .unset, .unset] [(.long (own_sat va vb))])) t → Steps p.tables e below (s₁.setTop (entryFrame m #[(.long x0), (.long x1), (.int x2), (.int x3)] maxLocals)) t := fun t k => p5 t (st6 _ k)
  have p8 : ∀ t, Steps p.tables e below (T6.setTop (mkF m 44 #[.val (.long x0), .second, .val (.long x1), .second, .val (.int x2), .val (.int x3), .val (.long va), .second, .val (.long vb), .second, .val (.long (own_sat va vb)), .second, .unset, .unset] [(.int (lcmpW va ((9223372036854775807 : Int64) - vb)))])) t → Steps p.tables e below (s₁.setTop (entryFrame m #[(.long x0), (.long x1), (.int x2), (.int x3)] maxLocals)) t := fun t k => p7 t (by
    show Steps p.tables e below (T6.setTop (mkF m 33 #[.val (.long x0), .second, .val (.long x1), .second, .val (.int x2), .val (.int x3), .val (.long va), .second, .val (.long vb), .second, .unset, .unset, .unset, .unset] [(.long (own_sat va vb))])) _
    refine XS.lstore X6.here hx rfl (hb hby at_33) rfl (l' := #[.val (.long x0), .second, .val (.long x1), .second, .val (.int x2), .val (.int x3), .val (.long va), .second, .val (.long vb), .second, .val (.long (own_sat va vb)), .second, .unset, .unset]) rfl ?_
    show Steps p.tables e below (T6.setTop (mkF m 35 #[.val (.long x0), .second, .val (.long x1), .second, .val (.int x2), .val (.int x3), .val (.long va), .second, .val (.long vb), .second, .val (.long (own_sat va vb)), .second, .unset, .unset] [])) _
    refine XS.lload X6.here hx rfl (hb hby at_35) rfl ?_
    show Steps p.tables e below (T6.setTop (mkF m 37 #[.val (.long x0), .second, .val (.long x1), .second, .val (.int x2), .val (.int x3), .val (.long va), .second, .val (.long vb), .second, .val (.long (own_sat va vb)), .second, .unset, .unset] [(.long va)])) _
    refine X6.ldc2Long hx hown (mvT hZ (hw _ (List.mem_of_getElem? (i := 0) rfl))) (g := (mkF m 37 #[.val (.long x0), .second, .val (.long x1), .second, .val (.int x2), .val (.int x3), .val (.long va), .second, .val (.long vb), .second, .val (.long (own_sat va vb)), .second, .unset, .unset] [(.long va)])) rfl (hb hby at_37) _ ?_
    show Steps p.tables e below (T6.setTop (mkF m 40 #[.val (.long x0), .second, .val (.long x1), .second, .val (.int x2), .val (.int x3), .val (.long va), .second, .val (.long vb), .second, .val (.long (own_sat va vb)), .second, .unset, .unset] [(.long (9223372036854775807 : Int64)), (.long va)])) _
    refine XS.lload X6.here hx rfl (hb hby at_40) rfl ?_
    show Steps p.tables e below (T6.setTop (mkF m 42 #[.val (.long x0), .second, .val (.long x1), .second, .val (.int x2), .val (.int x3), .val (.long va), .second, .val (.long vb), .second, .val (.long (own_sat va vb)), .second, .unset, .unset] [(.long vb), (.long (9223372036854775807 : Int64)), (.long va)])) _
    refine XS.lsub X6.here hx rfl (hb hby at_42) rfl ?_
    show Steps p.tables e below (T6.setTop (mkF m 43 #[.val (.long x0), .second, .val (.long x1), .second, .val (.int x2), .val (.int x3), .val (.long va), .second, .val (.long vb), .second, .val (.long (own_sat va vb)), .second, .unset, .unset] [(.long ((9223372036854775807 : Int64) - vb)), (.long va)])) _
    refine XS.lcmp X6.here hx rfl (hb hby at_43) rfl ?_
    exact k)
  by_cases hc44 : (0 : Int32) < (lcmpW va ((9223372036854775807 : Int64) - vb))
  · have p9 : ∀ t, Steps p.tables e below (T6.setTop (mkF m 75 #[.val (.long x0), .second, .val (.long x1), .second, .val (.int x2), .val (.int x3), .val (.long va), .second, .val (.long vb), .second, .val (.long (own_sat va vb)), .second, .val (.long (9223372036854775807 : Int64)), .second] [(.int (1 : Int32))])) t → Steps p.tables e below (s₁.setTop (entryFrame m #[(.long x0), (.long x1), (.int x2), (.int x3)] maxLocals)) t := fun t k => p8 t (by
      show Steps p.tables e below (T6.setTop (mkF m 44 #[.val (.long x0), .second, .val (.long x1), .second, .val (.int x2), .val (.int x3), .val (.long va), .second, .val (.long vb), .second, .val (.long (own_sat va vb)), .second, .unset, .unset] [(.int (lcmpW va ((9223372036854775807 : Int64) - vb)))])) _
      refine XS.ifNo X6.here hx rfl (hb hby at_44) rfl ((if0 _ _).trans (tlt (hc44)).2.2.2) ?_
      show Steps p.tables e below (T6.setTop (mkF m 47 #[.val (.long x0), .second, .val (.long x1), .second, .val (.int x2), .val (.int x3), .val (.long va), .second, .val (.long vb), .second, .val (.long (own_sat va vb)), .second, .unset, .unset] [])) _
      refine X6.ldc2Long hx hown (mvT hZ (hw _ (List.mem_of_getElem? (i := 0) rfl))) (g := (mkF m 47 #[.val (.long x0), .second, .val (.long x1), .second, .val (.int x2), .val (.int x3), .val (.long va), .second, .val (.long vb), .second, .val (.long (own_sat va vb)), .second, .unset, .unset] [])) rfl (hb hby at_47) _ ?_
      show Steps p.tables e below (T6.setTop (mkF m 50 #[.val (.long x0), .second, .val (.long x1), .second, .val (.int x2), .val (.int x3), .val (.long va), .second, .val (.long vb), .second, .val (.long (own_sat va vb)), .second, .unset, .unset] [(.long (9223372036854775807 : Int64))])) _
      refine XS.lstore X6.here hx rfl (hb hby at_50) rfl (l' := #[.val (.long x0), .second, .val (.long x1), .second, .val (.int x2), .val (.int x3), .val (.long va), .second, .val (.long vb), .second, .val (.long (own_sat va vb)), .second, .val (.long (9223372036854775807 : Int64)), .second]) rfl ?_
      show Steps p.tables e below (T6.setTop (mkF m 52 #[.val (.long x0), .second, .val (.long x1), .second, .val (.int x2), .val (.int x3), .val (.long va), .second, .val (.long vb), .second, .val (.long (own_sat va vb)), .second, .val (.long (9223372036854775807 : Int64)), .second] [])) _
      refine XS.goto X6.here hx rfl (pc0 := 52) (pc' := 62) rfl (hb hby at_52) (by decide) (by decide) ?_
      show Steps p.tables e below (T6.setTop (mkF m 62 #[.val (.long x0), .second, .val (.long x1), .second, .val (.int x2), .val (.int x3), .val (.long va), .second, .val (.long vb), .second, .val (.long (own_sat va vb)), .second, .val (.long (9223372036854775807 : Int64)), .second] [])) _
      refine XS.lload X6.here hx rfl (hb hby at_62) rfl ?_
      show Steps p.tables e below (T6.setTop (mkF m 64 #[.val (.long x0), .second, .val (.long x1), .second, .val (.int x2), .val (.int x3), .val (.long va), .second, .val (.long vb), .second, .val (.long (own_sat va vb)), .second, .val (.long (9223372036854775807 : Int64)), .second] [(.long (own_sat va vb))])) _
      refine XS.lload X6.here hx rfl (hb hby at_64) rfl ?_
      show Steps p.tables e below (T6.setTop (mkF m 66 #[.val (.long x0), .second, .val (.long x1), .second, .val (.int x2), .val (.int x3), .val (.long va), .second, .val (.long vb), .second, .val (.long (own_sat va vb)), .second, .val (.long (9223372036854775807 : Int64)), .second] [(.long (9223372036854775807 : Int64)), (.long (own_sat va vb))])) _
      refine XS.lcmp X6.here hx rfl (hb hby at_66) rfl ?_
      show Steps p.tables e below (T6.setTop (mkF m 67 #[.val (.long x0), .second, .val (.long x1), .second, .val (.int x2), .val (.int x3), .val (.long va), .second, .val (.long vb), .second, .val (.long (own_sat va vb)), .second, .val (.long (9223372036854775807 : Int64)), .second] [(.int (lcmpW (own_sat va vb) (9223372036854775807 : Int64)))])) _
      refine XS.ifNo X6.here hx rfl (hb hby at_67) rfl ((if0 _ _).trans (teq (own_yes ha hb' hc44)).2) ?_
      show Steps p.tables e below (T6.setTop (mkF m 70 #[.val (.long x0), .second, .val (.long x1), .second, .val (.int x2), .val (.int x3), .val (.long va), .second, .val (.long vb), .second, .val (.long (own_sat va vb)), .second, .val (.long (9223372036854775807 : Int64)), .second] [])) _
      refine XS.iconst X6.here hx rfl (hb hby at_70) ?_
      show Steps p.tables e below (T6.setTop (mkF m 71 #[.val (.long x0), .second, .val (.long x1), .second, .val (.int x2), .val (.int x3), .val (.long va), .second, .val (.long vb), .second, .val (.long (own_sat va vb)), .second, .val (.long (9223372036854775807 : Int64)), .second] [(.int (1 : Int32))])) _
      refine XS.goto X6.here hx rfl (pc0 := 71) (pc' := 75) rfl (hb hby at_71) (by decide) (by decide) ?_
      exact k)
    obtain ⟨fs, hr, hrun, hended, hW, hsame⟩ := X6.leave (v := some (.int (1 : Int32))) (fun h => by rw [Bd.returns] at h; cases h)
    refine ⟨_, _, p9 _ ?_, hrun, hended, _, _, rfl, ?_, ⟨_, rfl⟩, hW, hsame.mono (by decide) (by decide)⟩
    · show Steps p.tables e below (T6.setTop (mkF m 75 #[.val (.long x0), .second, .val (.long x1), .second, .val (.int x2), .val (.int x3), .val (.long va), .second, .val (.long vb), .second, .val (.long (own_sat va vb)), .second, .val (.long (9223372036854775807 : Int64)), .second] [(.int (1 : Int32))])) _
      exact retN X6 hx (t := .boolean) Bd.returns (by simp) (hb hby at_75) hr
    · show Q0 Z x0 x1 x2 x3 h0 n0 _ T6.heap _
      rw [e6]
      exact ⟨rfl, N6⟩
  · have p10 : ∀ t, Steps p.tables e below (T6.setTop (mkF m 75 #[.val (.long x0), .second, .val (.long x1), .second, .val (.int x2), .val (.int x3), .val (.long va), .second, .val (.long vb), .second, .val (.long (own_sat va vb)), .second, .val (.long (va + vb)), .second] [(.int (1 : Int32))])) t → Steps p.tables e below (s₁.setTop (entryFrame m #[(.long x0), (.long x1), (.int x2), (.int x3)] maxLocals)) t := fun t k => p8 t (by
      show Steps p.tables e below (T6.setTop (mkF m 44 #[.val (.long x0), .second, .val (.long x1), .second, .val (.int x2), .val (.int x3), .val (.long va), .second, .val (.long vb), .second, .val (.long (own_sat va vb)), .second, .unset, .unset] [(.int (lcmpW va ((9223372036854775807 : Int64) - vb)))])) _
      refine XS.ifYes X6.here hx rfl (pc0 := 44) (pc' := 55) rfl (hb hby at_44) rfl ((if0 _ _).trans (flt (hc44)).2.2.2) (by decide) (by decide) ?_
      show Steps p.tables e below (T6.setTop (mkF m 55 #[.val (.long x0), .second, .val (.long x1), .second, .val (.int x2), .val (.int x3), .val (.long va), .second, .val (.long vb), .second, .val (.long (own_sat va vb)), .second, .unset, .unset] [])) _
      refine XS.lload X6.here hx rfl (hb hby at_55) rfl ?_
      show Steps p.tables e below (T6.setTop (mkF m 57 #[.val (.long x0), .second, .val (.long x1), .second, .val (.int x2), .val (.int x3), .val (.long va), .second, .val (.long vb), .second, .val (.long (own_sat va vb)), .second, .unset, .unset] [(.long va)])) _
      refine XS.lload X6.here hx rfl (hb hby at_57) rfl ?_
      show Steps p.tables e below (T6.setTop (mkF m 59 #[.val (.long x0), .second, .val (.long x1), .second, .val (.int x2), .val (.int x3), .val (.long va), .second, .val (.long vb), .second, .val (.long (own_sat va vb)), .second, .unset, .unset] [(.long vb), (.long va)])) _
      refine XS.ladd X6.here hx rfl (hb hby at_59) rfl ?_
      show Steps p.tables e below (T6.setTop (mkF m 60 #[.val (.long x0), .second, .val (.long x1), .second, .val (.int x2), .val (.int x3), .val (.long va), .second, .val (.long vb), .second, .val (.long (own_sat va vb)), .second, .unset, .unset] [(.long (va + vb))])) _
      refine XS.lstore X6.here hx rfl (hb hby at_60) rfl (l' := #[.val (.long x0), .second, .val (.long x1), .second, .val (.int x2), .val (.int x3), .val (.long va), .second, .val (.long vb), .second, .val (.long (own_sat va vb)), .second, .val (.long (va + vb)), .second]) rfl ?_
      show Steps p.tables e below (T6.setTop (mkF m 62 #[.val (.long x0), .second, .val (.long x1), .second, .val (.int x2), .val (.int x3), .val (.long va), .second, .val (.long vb), .second, .val (.long (own_sat va vb)), .second, .val (.long (va + vb)), .second] [])) _
      refine XS.lload X6.here hx rfl (hb hby at_62) rfl ?_
      show Steps p.tables e below (T6.setTop (mkF m 64 #[.val (.long x0), .second, .val (.long x1), .second, .val (.int x2), .val (.int x3), .val (.long va), .second, .val (.long vb), .second, .val (.long (own_sat va vb)), .second, .val (.long (va + vb)), .second] [(.long (own_sat va vb))])) _
      refine XS.lload X6.here hx rfl (hb hby at_64) rfl ?_
      show Steps p.tables e below (T6.setTop (mkF m 66 #[.val (.long x0), .second, .val (.long x1), .second, .val (.int x2), .val (.int x3), .val (.long va), .second, .val (.long vb), .second, .val (.long (own_sat va vb)), .second, .val (.long (va + vb)), .second] [(.long (va + vb)), (.long (own_sat va vb))])) _
      refine XS.lcmp X6.here hx rfl (hb hby at_66) rfl ?_
      show Steps p.tables e below (T6.setTop (mkF m 67 #[.val (.long x0), .second, .val (.long x1), .second, .val (.int x2), .val (.int x3), .val (.long va), .second, .val (.long vb), .second, .val (.long (own_sat va vb)), .second, .val (.long (va + vb)), .second] [(.int (lcmpW (own_sat va vb) (va + vb)))])) _
      refine XS.ifNo X6.here hx rfl (hb hby at_67) rfl ((if0 _ _).trans (teq (own_no ha hb' hc44)).2) ?_
      show Steps p.tables e below (T6.setTop (mkF m 70 #[.val (.long x0), .second, .val (.long x1), .second, .val (.int x2), .val (.int x3), .val (.long va), .second, .val (.long vb), .second, .val (.long (own_sat va vb)), .second, .val (.long (va + vb)), .second] [])) _
      refine XS.iconst X6.here hx rfl (hb hby at_70) ?_
      show Steps p.tables e below (T6.setTop (mkF m 71 #[.val (.long x0), .second, .val (.long x1), .second, .val (.int x2), .val (.int x3), .val (.long va), .second, .val (.long vb), .second, .val (.long (own_sat va vb)), .second, .val (.long (va + vb)), .second] [(.int (1 : Int32))])) _
      refine XS.goto X6.here hx rfl (pc0 := 71) (pc' := 75) rfl (hb hby at_71) (by decide) (by decide) ?_
      exact k)
    obtain ⟨fs, hr, hrun, hended, hW, hsame⟩ := X6.leave (v := some (.int (1 : Int32))) (fun h => by rw [Bd.returns] at h; cases h)
    refine ⟨_, _, p10 _ ?_, hrun, hended, _, _, rfl, ?_, ⟨_, rfl⟩, hW, hsame.mono (by decide) (by decide)⟩
    · show Steps p.tables e below (T6.setTop (mkF m 75 #[.val (.long x0), .second, .val (.long x1), .second, .val (.int x2), .val (.int x3), .val (.long va), .second, .val (.long vb), .second, .val (.long (own_sat va vb)), .second, .val (.long (va + vb)), .second] [(.int (1 : Int32))])) _
      exact retN X6 hx (t := .boolean) Bd.returns (by simp) (hb hby at_75) hr
    · show Q0 Z x0 x1 x2 x3 h0 n0 _ T6.heap _
      rw [e6]
      exact ⟨rfl, N6⟩
set_option maxRecDepth 65536 in
set_option maxHeartbeats 40000000 in
theorem comes_1 {Post : Tables → Env → Array Value → State → Outcome → State → Prop} (hpost : ∀ tb e args s v u, (limb_1_1.after args s (.returned v) u = true ∧ limb_1_2.after args s (.returned v) u = true ∧ True) → FrameEnd s (.returned v) u (Jvm.fieldLocs frame_1_writes args s ++ Jvm.arrayLocs frame_1_arrays args s ++ Jvm.staticLocs frame_1_statics s) 0 0 → Post tb e args s (.returned v) u) :
    ArmFor flags0 classFile x code maxLocals ret World_1 tables_1 room_1 Calls_1 rest_1 Pre_1 Post := by
  intro l hfl _ _ p e ha hc hk s m args below hf hA hF happ hP
  obtain ⟨hcalls, hrest, hpre⟩ := hP
  obtain ⟨-, -, -, hnamed, -, -, -, hat⟩ := (Spec.applies_iff hf).mp happ
  obtain ⟨hg, hn⟩ := and_e (Cond.before_iff.mp (show (Jvm.Cond.and given_1 narrow_1).before args s = true from hpre))
  obtain ⟨hcount, ga0⟩ := and_e hg
  obtain ⟨gb0, ga1⟩ := and_e ga0
  obtain ⟨gb1, ga2⟩ := and_e ga1
  obtain ⟨gb2, ga3⟩ := and_e ga2
  obtain ⟨w0, w1, w2, w3, rfl⟩ : ∃ w0 w1 w2 w3 : Value, args = #[w0, w1, w2, w3] := by
    have hs : args.size = 4 := by simpa [Cond.value, given_1] using hcount
    obtain ⟨L⟩ := args
    match L, hs with
    | [w0, w1, w2, w3], _ => exact ⟨w0, w1, w2, w3, rfl⟩
  have hw := fun d (hd : d ∈ tables_1) => atoms_spec (ws := Jvm.Cond.code x code maxLocals ret :: tables_1) hat d (List.mem_cons_of_mem _ hd)
  have hfit : Fit s := fun {y c} hc i hi => by
    obtain ⟨ha, rfl⟩ := Array.getElem?_eq_some_iff.mp hc
    have q := List.all_eq_true.mp ((Array.all_eq_true_iff_forall_mem.mp hF) _ (Array.getElem_mem ha)) i (List.mem_range.mpr hi)
    simpa [Array.getElem?_eq_getElem hi] using q
  obtain ⟨i0, ei0⟩ := isL_v gb0
  obtain rfl : w0 = (.long i0) := Option.some.inj ei0
  obtain ⟨i1, ei1⟩ := isL_v gb1
  obtain rfl : w1 = (.long i1) := Option.some.inj ei1
  obtain ⟨i2, ei2⟩ := is_v gb2
  obtain rfl : w2 = (.int i2) := Option.some.inj ei2
  obtain ⟨i3, ei3⟩ := is_v ga3
  obtain rfl : w3 = (.int i3) := Option.some.inj ei3
  obtain ⟨n, o, h1, h2, h3, _, L, rfl, ⟨rfl, N⟩, hq⟩ := rm0 l s _ hw tables_1 i0 i1 i2 i3 s.heap s.heap.size (Nat.le_refl _) p e ha hc hk s m _ below hf ((Spec.applies_iff_loose hf).mp happ).1 ⟨rfl, State.Warmed39.refl s, rfl⟩ trivial
  refine ⟨n, _, h1, h2, h3, hpost _ _ _ _ _ _ ⟨Cond.after_iff.mpr rfl, Cond.after_iff.mpr (eq_i res_at (Term.int_eval (1)) rfl), trivial⟩ ⟨hq.1, hq.2.1, (hq.2.2.sift fun y hy => Or.inr (N y hy)).mono (by decide) (by decide)⟩⟩
theorem main_1_1 : Claimed_1_1 := comes_1 fun _ _ _ _ _ _ h hF => ⟨h.1, hF⟩
theorem main_1_2 : Claimed_1_2 := comes_1 fun _ _ _ _ _ _ h hF => ⟨h.2.1, hF⟩
end Jvm.Pilot.@@N@@
namespace Jvm.Pilot.@@N@@
open Jvm Jvm.ClassFile Sem Op Lib Jvm.Free Jvm.Stand Jvm.Pilot.@@N@@.Jvm.D
/-! MADE BY PROGRAM (witnessworld.py) out of the Statement's table words and the real class files: 7 classes; the members and pool entries that the words name. The judged class is class 1, her method 1. -/
namespace start1
open Jvm.ClassFile
def u (s : String) : CpInfo := .utf8 (stringToUtf16 s)
/-- a pool by its gaps: so many unusable entries, then the entry; so many at the end -/
def gap : Nat → List CpInfo → List CpInfo
  | 0, r => r
  | n + 1, r => .unusable :: gap n r
def poolList (es : List (Nat × CpInfo)) (last : Nat) : List CpInfo := es.foldr (fun e r => gap e.1 (e.2 :: r)) (gap last [])
def pool (es : List (Nat × CpInfo)) (last : Nat) : Array CpInfo := ⟨poolList es last⟩
def fileOf (pool : Array CpInfo) (this : Nat) (attrs : Array Attribute := #[]) (ms : Array MethodInfo := #[]) (fl : Nat := 33) (sup : Nat := 0) (ifs : Array Nat := #[]) (fds : Array FieldInfo := #[]) : ClassFile where
  minorVersion := 0
  majorVersion := 65
  constantPool := pool
  accessFlags := fl
  thisClass := this
  superClass := sup
  interfaces := ifs
  fields := fds
  methods := ms
  attributes := attrs
def plain (name : String) (sup : Option ClassId) : Class where
  name := name
  kind := .ordinary
  loader := none
  accessFlags := 33
  super := sup
  interfaces := #[]
  cf := none
  fields := #[]
  methods := #[]
  instanceTypes := #[]
  staticTypes := #[]
  resolved := #[]
  callSites := []
  init := .initialized
  statics := none
  mirror := none

def pool0 : Array CpInfo := pool [(5, u "<init>"), (0, u "()V"), (1, .class_ 10), (1, u "java/lang/Object")] 113

def k0m0 : Method := { name := "<init>", desc := "()V", sig := { parameters := [], returnType := none }, accessFlags := 1, code := none }
/-- java/lang/Object -/
def k0 : Class := { plain "java/lang/Object" none with
  accessFlags := 33
  interfaces := #[]
  cf := some (fileOf pool0 8 #[] #[{ accessFlags := 1, nameIndex := 5, descriptorIndex := 6, attributes := #[] }] 33 0 #[] #[])
  fields := #[]
  methods := #[k0m0]
  instanceTypes := #[]
  staticTypes := #[]
  resolved := Array.replicate 124 none
  statics := none }

def pool1 : Array CpInfo := pool [(2, .class_ 4), (1, u "java/lang/Object"), (0, u "<init>"), (0, u "()V"), (2, .long 9223372036854775807), (1, .methodref 12 13), (0, .class_ 14), (0, .nameAndType 15 16), (0, u "com/example/kvota/kvota/WholeNumbers"), (0, u "saturatedSum"), (0, u "(JJ)J"), (0, .class_ 18), (0, u "com/example/kvota/kvota/WholeNumbersSaturatedSumPinLaw"), (2, u "law"), (0, u "(JJII)Z")] 3

def k1m0 : Method := { name := "<init>", desc := "()V", sig := { parameters := [], returnType := none }, accessFlags := 2, code := none }
def k1c1 : Code := { maxStack := 6, maxLocals := 14, code := code, exceptionTable := #[], attributes := #[] }
def k1m1 : Method := { name := "law", desc := "(JJII)Z", sig := { parameters := [.long, .long, .int, .int], returnType := some .boolean }, accessFlags := 9, code := some k1c1 }
/-- com/example/kvota/kvota/WholeNumbersSaturatedSumPinLaw -/
def k1 : Class := { plain "com/example/kvota/kvota/WholeNumbersSaturatedSumPinLaw" (some 0) with
  accessFlags := 49
  interfaces := #[]
  cf := some (fileOf pool1 17 #[] #[{ accessFlags := 2, nameIndex := 5, descriptorIndex := 6, attributes := #[] }, { accessFlags := 9, nameIndex := 21, descriptorIndex := 22, attributes := #[] }] 49 2 #[] #[])
  fields := #[]
  methods := #[k1m0, k1m1]
  instanceTypes := #[]
  staticTypes := #[]
  resolved := Array.replicate 26 none
  statics := none }

def pool2 : Array CpInfo := pool [(2, .class_ 4), (1, u "java/lang/Object"), (0, u "<init>"), (0, u "()V"), (2, .long 9223372036854775807), (1, .class_ 12), (0, u "com/example/kvota/kvota/WholeNumbers"), (3, u "(JJ)J"), (1, u "saturatedSum")] 2

def k2m0 : Method := { name := "<init>", desc := "()V", sig := { parameters := [], returnType := none }, accessFlags := 2, code := none }
def k2c1 : Code := { maxStack := 4, maxLocals := 6, code := prog_41_method_3_code, exceptionTable := #[], attributes := #[] }
def k2m1 : Method := { name := "saturatedSum", desc := "(JJ)J", sig := { parameters := [.long, .long], returnType := some .long }, accessFlags := 8, code := some k2c1 }
/-- com/example/kvota/kvota/WholeNumbers -/
def k2 : Class := { plain "com/example/kvota/kvota/WholeNumbers" (some 0) with
  accessFlags := 32
  interfaces := #[]
  cf := some (fileOf pool2 11 #[] #[{ accessFlags := 2, nameIndex := 5, descriptorIndex := 6, attributes := #[] }, { accessFlags := 8, nameIndex := 18, descriptorIndex := 16, attributes := #[] }] 32 2 #[] #[])
  fields := #[]
  methods := #[k2m0, k2m1]
  instanceTypes := #[]
  staticTypes := #[]
  resolved := Array.replicate 21 none
  statics := none }

def pool3 : Array CpInfo := pool [(1, u "java/lang/Cloneable"), (0, .class_ 1), (0, u "java/lang/Object"), (0, .class_ 3)] 3

/-- java/lang/Cloneable -/
def k3 : Class := { plain "java/lang/Cloneable" (some 0) with
  accessFlags := 1537
  interfaces := #[]
  cf := some (fileOf pool3 2 #[] #[] 1537 4 #[] #[])
  fields := #[]
  methods := #[]
  instanceTypes := #[]
  staticTypes := #[]
  resolved := Array.replicate 8 none
  statics := none }

def pool4 : Array CpInfo := pool [(1, u "java/io/Serializable"), (0, .class_ 1), (0, u "java/lang/Object"), (0, .class_ 3)] 3

/-- java/io/Serializable -/
def k4 : Class := { plain "java/io/Serializable" (some 0) with
  accessFlags := 1537
  interfaces := #[]
  cf := some (fileOf pool4 2 #[] #[] 1537 4 #[] #[])
  fields := #[]
  methods := #[]
  instanceTypes := #[]
  staticTypes := #[]
  resolved := Array.replicate 8 none
  statics := none }

/-- the primitive byte -/
def k5 : Class := { plain "byte" none with kind := .primitive 'B', accessFlags := 0x411 }
/-- [B -/
def k6 : Class := { plain "[B" (some 0) with kind := .array 5 .byte, interfaces := #[3, 4], accessFlags := 1041 }

def heap : Heap := #[]
def classes : Array Class := #[k0, k1, k2, k3, k4, k5, k6]
def interned : List (Array UInt16 × Addr) := []
def slotsUsed : Nat := 0
def theMethod : MethodId := ⟨1, 1⟩
def args0 : Array Value := #[.long 5, .long 7, .int 1, .int 2]
def aboutOver (below : List Frame) : State where
  vm := { classes := classes, interned := interned.toArray }
  heap := heap
  slotsUsed := slotsUsed
  threads := #[{ frames := .invoking theMethod args0 :: below }]
def below0 : List Frame := [.native { method := ⟨0, 0⟩, args := #[] }]
def about1 : State := aboutOver below0
def p0 : Program := .bare "" "" ""
def e0 : Env := launch0.env 0 0 0
theorem w_frames : about1.frames = Frame.invoking theMethod args0 :: below0 := rfl
set_option maxRecDepth 65536 in
theorem w_args : argsFit about1.vm theMethod args0 = true := by decide +kernel
set_option maxRecDepth 65536 in
theorem w_heap : heapFits about1 = true := by decide +kernel
set_option maxRecDepth 65536 in
theorem w_runnable : about1.curStatus? = some .runnable := by decide +kernel
set_option maxRecDepth 65536 in
theorem w_alone : about1.alone = true := by decide +kernel
set_option maxRecDepth 65536 in
theorem w_named : about1.methodNamed? x = some theMethod := by decide +kernel
set_option maxRecDepth 65536 in
theorem w_hears : about1.hears theMethod below0 = true := by decide +kernel
set_option maxRecDepth 65536 in
theorem w_ripe : about1.ripe theMethod args0 below0 = true := by decide +kernel
theorem w_running : about1.status = .running := rfl
set_option maxRecDepth 65536 in
theorem w_room : about1.hasRoom e0.platform room_1 = true :=
  launch0.hasRoom_least _ room_1 (by decide +kernel) (by decide +kernel) (by decide +kernel) (by decide +kernel) (by decide +kernel) (by decide +kernel)
theorem allAtoms_all (ts : List Jvm.Cond) (a : Array Jvm.Value) (st : Jvm.State) : (allAtoms ts).before a st = ts.all (fun c => c.before a st) := by
  induction ts with
  | nil => rfl
  | cons c t ih =>
    show (Jvm.Cond.and c (allAtoms t)).before a st = _
    rw [Jvm.Cond.before_and, ih, List.all_cons]
def words1 : List Jvm.Cond := Jvm.Cond.code x code maxLocals ret :: tables_1
/-- a 'code' word, met by the world's own term for the bytes: nothing is compared byte by byte -/
theorem code_word {y : MethodName} {bytes : ByteArray} {mx : Nat} {rt : Option FieldType} {a : Array Value} {s : State} {m : MethodId} {meth : Method} {c : Code} (h1 : s.methodNamed? y = some m) (h2 : s.vm.method? m = some meth) (h3 : meth.code = some c) (h4 : c.code = bytes)
    (h5 : (c.maxLocals == mx && c.exceptionTable.isEmpty && decide (c.maxStack ≤ mostOperands) && decide (meth.sig.returnType = rt) && !meth.locks && decide (parseMethodDescriptor y.desc = some meth.sig)) = true) : (Jvm.Cond.code y bytes mx rt).before a s = true := by
  simp only [Bool.and_eq_true, beq_iff_eq, Bool.not_eq_true', decide_eq_true_eq] at h5
  obtain ⟨⟨⟨⟨⟨g1, g2⟩, g3⟩, g4⟩, g5⟩, g6⟩ := h5
  simp [Cond.before, Cond.holds, Cond.value, h1, h2, h3, h4, g1, g2, g3, g4, g5, g6]
def isCode : Jvm.Cond → Bool
  | .code _ _ _ _ => true
  | _ => false
theorem all_split {L : List Jvm.Cond} {P : Jvm.Cond → Bool} (h1 : L.all (fun c => isCode c || P c) = true) (h2 : ∀ c ∈ L.filter isCode, P c = true) : L.all P = true := by
  refine List.all_eq_true.mpr fun c hc => ?_
  have h := List.all_eq_true.mp h1 c hc
  rcases Bool.eq_false_or_eq_true (isCode c) with hi | hi
  · exact h2 c (List.mem_filter.mpr ⟨hc, hi⟩)
  · simpa [hi] using h
set_option maxRecDepth 65536 in
theorem w_c0 : (Jvm.Cond.code x code maxLocals ret).before args0 about1 = true := code_word (m := ⟨1, 1⟩) (meth := k1m1) (c := k1c1) (by decide +kernel) rfl rfl rfl (by decide +kernel)
set_option maxRecDepth 65536 in
theorem w_c1 : (Jvm.Cond.code ({ cls := "com/example/kvota/kvota/WholeNumbers", name := "saturatedSum", desc := "(JJ)J" } : Jvm.MethodName) prog_41_method_3_code (6 : Nat) (Option.some Jvm.ClassFile.FieldType.long)).before args0 about1 = true := code_word (m := ⟨2, 1⟩) (meth := k2m1) (c := k2c1) (by decide +kernel) rfl rfl rfl (by decide +kernel)
def codes1 : List Jvm.Cond := [Jvm.Cond.code x code maxLocals ret, Jvm.Cond.code ({ cls := "com/example/kvota/kvota/WholeNumbers", name := "saturatedSum", desc := "(JJ)J" } : Jvm.MethodName) prog_41_method_3_code (6 : Nat) (Option.some Jvm.ClassFile.FieldType.long)]
set_option maxRecDepth 65536 in
theorem codes_eq : words1.filter isCode = codes1 := rfl
theorem w_codes : ∀ c ∈ words1.filter isCode, c.before args0 about1 = true := by
  rw [codes_eq]
  intro c hc
  simp only [codes1, List.mem_cons, List.not_mem_nil, or_false] at hc
  rcases hc with rfl | rfl
  · exact w_c0
  · exact w_c1
set_option maxRecDepth 65536 in
theorem w_t1 : words1.all (fun c => isCode c || c.before args0 about1) = true := by decide +kernel
theorem w_tables : (allAtoms (Jvm.Cond.code x code maxLocals ret :: tables_1)).before args0 about1 = true := by
  rw [allAtoms_all]
  show words1.all (fun c => c.before args0 about1) = true
  refine all_split ?_ w_codes
  rw [w_t1]
set_option maxRecDepth 65536 in
theorem w_case : (Jvm.Cond.and given_1 narrow_1).before args0 about1 = true := by decide +kernel
theorem w_applies : (headSpec (Jvm.Cond.code x code maxLocals ret :: tables_1) room_1).applies x e0.platform about1 = true :=
  (Spec.applies_iff w_frames).mpr ⟨w_running, w_runnable, w_alone, w_named, w_hears, w_ripe, w_room, w_tables⟩
theorem atStart : AtStart classFile x code maxLocals ret World_1 tables_1 room_1 Calls_1 rest_1 Pre_1 launch0 p0 e0 about1 theMethod args0 below0 :=
  ⟨lists_1, trivial, launch0.admits_env _ _ _, launch0.least_env, fairChoices_fair.cas, fairChoices_fair.clock, w_frames, w_args, w_heap, w_applies, trivial, trivial, w_case⟩
end start1
theorem witness_1 : WitnessClaimed_1 := ⟨start1.p0, start1.e0, start1.about1, start1.theMethod, start1.args0, start1.below0, start1.atStart⟩
end Jvm.Pilot.@@N@@
