import JvmDerived
import JvmDerived.Pilot.@@N@@Statement
import JvmDerived.Pilot.@@N@@Code
set_option linter.unusedVariables false
set_option linter.unusedSimpArgs false
namespace Jvm.RoadKit
open Sem ClassFile Op Lib Jvm.Stand Jvm.Free Jvm.LawKit
section New
variable {p : Program} {l : Launch} {e : Env} {R : Room} {s : State} {m : MethodId} {args : Array Value} {below : List Frame} {meth : Method} {c : Code} {T : State} {locs : List Loc} {cells slots : Nat}
theorem retI (X : Stand p l e R s m args below meth c T locs cells slots) (hx : p.tables.exec = Jvm.exec) {pc : Nat} {Ls : Array Slot} {z : Int32} {rest : List Value} (hret : meth.sig.returnType = some .int) (hd : decode c.code pc = .ok (.ireturn, 1)) {fs : List Frame}
    (hl : ∀ (f : JFrame) (acts : List Action), f.method = m → f.locked = none → f.entered = [] → (doReturn e (T.setTop f) acts (some (.int z))).1 = T.setFrames fs) : Steps p.tables e below (T.setTop (mkF m pc Ls (.int z :: rest))) (T.setFrames fs) :=
  retOut X hx hret rfl (Or.inl ⟨rfl, Or.inl rfl, z, rfl⟩) hd hl
end New
end Jvm.RoadKit
namespace Jvm.Pilot.@@N@@
open Jvm Jvm.ClassFile Sem Op Lib Jvm.Free Jvm.Stand Jvm.LawKit Jvm.RoadKit Bundle Jvm.Pilot.@@N@@.Jvm.D

def own_V (f : UInt32) (K : Int) : Prop := Jvm.FP.Core.val32 f ≠ .nan ∧ ((-33554432 ≤ K ∧ K ≤ 33554432 ∧ Jvm.FP.Core.zval Jvm.FP.Core.b32 (Jvm.FP.Core.val32 f) = K * 356811923176489970264571492362373784095686656) ∨ (K = 9223372036854775807 ∧ Jvm.FP.Core.zval Jvm.FP.Core.b32 (Jvm.FP.Core.val32 f) = 242833611528216133864932738352939863330300854881517440156476551217363035650651062272) ∨ (K = -9223372036854775808 ∧ Jvm.FP.Core.zval Jvm.FP.Core.b32 (Jvm.FP.Core.val32 f) = -242833611528216133864932738352939863330300854881517440156476551217363035650651062272) ∨ (K = 9223372036854775806 ∧ Jvm.FP.Core.zval Jvm.FP.Core.b32 (Jvm.FP.Core.val32 f) = 242833597054204979200408310406566737244312373222769356951406046285165034661509857280) ∨ (K = -9223372036854775807 ∧ Jvm.FP.Core.zval Jvm.FP.Core.b32 (Jvm.FP.Core.val32 f) = -242833597054204979200408310406566737244312373222769356951406046285165034661509857280))
theorem own_cmp {a b : UInt32} {K J : Int} (ha : own_V a K) (hb : own_V b J) : (K < J → FP.fcmp a b = some .lt) ∧ (K = J → FP.fcmp a b = some .eq) ∧ (J < K → FP.fcmp a b = some .gt) := by
  obtain ⟨na, ha⟩ := ha
  obtain ⟨nb, hb⟩ := hb
  have e : FP.fcmp a b = some (compare (Jvm.FP.Core.zval Jvm.FP.Core.b32 (Jvm.FP.Core.val32 a)) (Jvm.FP.Core.zval Jvm.FP.Core.b32 (Jvm.FP.Core.val32 b))) := Jvm.FP.Core.fcmp_zval na nb
  rw [e]
  generalize Jvm.FP.Core.zval Jvm.FP.Core.b32 (Jvm.FP.Core.val32 a) = x at ha
  generalize Jvm.FP.Core.zval Jvm.FP.Core.b32 (Jvm.FP.Core.val32 b) = y at hb
  refine ⟨fun h => congrArg some ((Jvm.FP.Core.compare_lt_iff x y).mpr ?_), fun h => congrArg some ((Jvm.FP.Core.compare_eq_iff x y).mpr ?_), fun h => congrArg some ((Jvm.FP.Core.compare_gt_iff x y).mpr ?_)⟩
  all_goals
    rcases ha with ⟨a1, a2, a3⟩ | ⟨a1, a3⟩ | ⟨a1, a3⟩ | ⟨a1, a3⟩ | ⟨a1, a3⟩ <;> rcases hb with ⟨b1, b2, b3⟩ | ⟨b1, b3⟩ | ⟨b1, b3⟩ | ⟨b1, b3⟩ | ⟨b1, b3⟩ <;> omega
theorem own_i2f {r : Int32} (h1 : -16777216 < r.toInt) (h2 : r.toInt < 16777216) : Jvm.FP.Core.val32 (FP.i2f r) ≠ .nan ∧ Jvm.FP.Core.zval Jvm.FP.Core.b32 (Jvm.FP.Core.val32 (FP.i2f r)) = r.toInt * 713623846352979940529142984724747568191373312 := by
  have w : Jvm.FP.Core.Whole r.toInt (Jvm.FP.Core.val32 (FP.i2f r)) := by
    show Jvm.FP.Core.Whole r.toInt (Jvm.FP.Core.val32 (Jvm.FP.Core.i2f r))
    rw [Jvm.FP.Core.val32_i2f]
    exact Jvm.FP.Core.whole_round Jvm.FP.Core.good_b32 Jvm.FP.Core.wide_b32 (by show r.toInt.natAbs ≤ 16777216; omega) (Jvm.FP.Core.whole_ofInt _)
  refine ⟨fun q => by rw [q] at w; exact w, ?_⟩
  have z := Jvm.FP.Core.whole_zval Jvm.FP.Core.good_b32 (Jvm.FP.Core.val32_fits _) w
  rw [z]
  have e : ((2 ^ (-Jvm.FP.Core.b32.qmin).toNat : Nat) : Int) = 713623846352979940529142984724747568191373312 := by decide +kernel
  rw [e]
theorem own_half {r : Int32} (h1 : -16777216 < r.toInt) (h2 : r.toInt < 16777216) : Jvm.FP.Core.val32 (FP.fmul (FP.i2f r) (1056964608 : UInt32)) ≠ .nan ∧ Jvm.FP.Core.zval Jvm.FP.Core.b32 (Jvm.FP.Core.val32 (FP.fmul (FP.i2f r) (1056964608 : UInt32))) = r.toInt * 356811923176489970264571492362373784095686656 := by
  obtain ⟨n, z⟩ := own_i2f h1 h2
  have f := Jvm.FP.Core.val32_fits (FP.i2f r)
  have hb : Jvm.FP.Core.val32 (1056964608 : UInt32) = .fin false 8388608 (-24) := by decide +kernel
  have e : Jvm.FP.Core.val32 (FP.fmul (FP.i2f r) (1056964608 : UInt32)) = Jvm.FP.Core.round Jvm.FP.Core.b32 (Jvm.FP.Core.exactProduct (Jvm.FP.Core.val32 (FP.i2f r)) (.fin false 8388608 (-24))) := by rw [← hb]; exact Jvm.FP.Core.val32_fmul _ _
  rw [e]
  have w : Jvm.FP.Core.Whole r.toInt (Jvm.FP.Core.val32 (FP.i2f r)) := by
    show Jvm.FP.Core.Whole r.toInt (Jvm.FP.Core.val32 (Jvm.FP.Core.i2f r))
    rw [Jvm.FP.Core.val32_i2f]
    exact Jvm.FP.Core.whole_round Jvm.FP.Core.good_b32 Jvm.FP.Core.wide_b32 (by show r.toInt.natAbs ≤ 16777216; omega) (Jvm.FP.Core.whole_ofInt _)
  revert n z f w
  generalize Jvm.FP.Core.val32 (FP.i2f r) = d
  intro n z f w
  cases d with
  | nan => exact absurd rfl n
  | inf s => exact w.elim
  | fin s c q =>
    have hq : Jvm.FP.Core.b32.qmin = -149 := by decide
    have ht : Jvm.FP.Core.b32.tails = 8388608 := by decide
    obtain ⟨f1, f2, f3, f4⟩ := f
    rw [hq] at f2 f4; rw [ht] at f4
    have z' : Jvm.FP.Core.signed s (c * 2 ^ (q - (-149)).toNat) = r.toInt * 713623846352979940529142984724747568191373312 := by rw [← z]; show _ = Jvm.FP.Core.signed s (Jvm.FP.Core.inUnits c q Jvm.FP.Core.b32.qmin); rw [hq]; rfl
    have hs : (s != false) = s := by cases s <;> rfl
    show Jvm.FP.Core.round Jvm.FP.Core.b32 (.fin (s != false) (c * 8388608) (q + -24)) ≠ .nan ∧ Jvm.FP.Core.zval Jvm.FP.Core.b32 (Jvm.FP.Core.round Jvm.FP.Core.b32 (.fin (s != false) (c * 8388608) (q + -24))) = _
    rw [hs]
    by_cases hc : c = 0
    · subst hc
      have r0 : r.toInt = 0 := by
        rw [Nat.zero_mul, Jvm.FP.Core.signed_zero] at z'; omega
      rw [Nat.zero_mul, r0, Int.zero_mul]
      have e0 : Jvm.FP.Core.round Jvm.FP.Core.b32 (.fin s 0 (q + -24)) = .fin s 0 Jvm.FP.Core.b32.qmin := by simp [Jvm.FP.Core.round, Jvm.FP.Core.roundRatio]
      rw [e0]
      refine ⟨nofun, ?_⟩
      show Jvm.FP.Core.signed s (0 * _) = 0
      rw [Nat.zero_mul, Jvm.FP.Core.signed_zero]
    · have hq1 : -148 ≤ q := by
        rcases Int.lt_or_le q (-148) with u | u
        · exfalso
          have q0 : q = -149 := by omega
          subst q0
          have z2 : Jvm.FP.Core.signed s c = r.toInt * 713623846352979940529142984724747568191373312 := by rw [← z']; congr 1; show c = c * 1; omega
          have hb2 : c < 16777216 := f1
          unfold Jvm.FP.Core.signed at z2
          split at z2 <;> omega
        · exact u
      have ei : c * 8388608 = Jvm.FP.Core.inUnits c (q - 1) (q + -24) := by
        show _ = c * 2 ^ (q - 1 - (q + -24)).toNat
        rw [show (q - 1 - (q + -24)) = 23 by omega]; rfl
      have er : Jvm.FP.Core.round Jvm.FP.Core.b32 (.fin s (c * 8388608) (q + -24)) = .fin s c (q - 1) := by
        rw [ei, Jvm.FP.Core.round_inUnits s c (show q + -24 ≤ q - 1 by omega)]
        refine Jvm.FP.Core.round_of_fits Jvm.FP.Core.good_b32 ⟨f1, by rw [hq]; omega, by omega, ?_⟩
        rw [hq, ht]
        rcases f4 with u | u
        · exact absurd u (by omega)
        · exact Or.inr u
      rw [er]
      refine ⟨nofun, ?_⟩
      show Jvm.FP.Core.signed s (Jvm.FP.Core.inUnits c (q - 1) Jvm.FP.Core.b32.qmin) = _
      rw [hq]
      have em : c * 2 ^ (q - (-149)).toNat = (c * 2 ^ (q - 1 - (-149)).toNat) * 2 := by
        rw [show (q - (-149)).toNat = (q - 1 - (-149)).toNat + 1 by omega, Nat.pow_succ, Nat.mul_assoc]
      rw [em] at z'
      show Jvm.FP.Core.signed s (c * 2 ^ (q - 1 - (-149)).toNat) = _
      generalize c * 2 ^ (q - 1 - (-149)).toNat = w2 at z'
      unfold Jvm.FP.Core.signed at z' ⊢
      split at z' <;> rename_i hh <;> simp only [hh, if_true, if_false, Bool.false_eq_true] <;> omega
theorem own_neg {f : UInt32} (h : Jvm.FP.Core.val32 f ≠ .nan) : Jvm.FP.Core.val32 (FP.fneg f) ≠ .nan ∧ Jvm.FP.Core.zval Jvm.FP.Core.b32 (Jvm.FP.Core.val32 (FP.fneg f)) = -Jvm.FP.Core.zval Jvm.FP.Core.b32 (Jvm.FP.Core.val32 f) := by
  have e : FP.fneg f = Jvm.FP.Core.fneg f := Jvm.FP.fneg_core (Jvm.Free.Fl.noNaN32_no.mp (Jvm.Free.Fl.val32_no.mpr h))
  rw [e, Jvm.FP.Core.val32_fneg, Jvm.FP.Core.zval_negate]
  exact ⟨Jvm.FP.Core.negate_ne_nan h, rfl⟩
def own_K (x k : Int32) : Int64 := if (k &&& (7 : Int32)) = (2 : Int32) then (-2 : Int64) * (x % (16777216 : Int32)).toInt64 else if (k &&& (7 : Int32)) = (3 : Int32) then (x % (16777216 : Int32)).toInt64 else if (k &&& (7 : Int32)) = (4 : Int32) then (9223372036854775807 : Int64) else if (k &&& (7 : Int32)) = (5 : Int32) then (-9223372036854775808 : Int64) else if (k &&& (7 : Int32)) = (6 : Int32) then (9223372036854775806 : Int64) else if (k &&& (7 : Int32)) = (7 : Int32) then (-9223372036854775807 : Int64) else (2 : Int64) * (x % (16777216 : Int32)).toInt64
theorem own_r (x : Int32) : -16777216 < (x % (16777216 : Int32)).toInt ∧ (x % (16777216 : Int32)).toInt < 16777216 ∧ (x % (16777216 : Int32)).toInt64.toInt = (x % (16777216 : Int32)).toInt := by
  have e := c_irem x (16777216 : Int32) 16777216 (by decide)
  have e2 := c_i2l (x % (16777216 : Int32))
  obtain ⟨u, v⟩ := e
  rcases Int.lt_or_le x.toInt 0 with q | q
  · have := v q; omega
  · have := u q; omega
theorem own_m2 (r : Int64) (h1 : -16777216 < r.toInt) (h2 : r.toInt < 16777216) : ((-2 : Int64) * r).toInt = -2 * r.toInt ∧ ((2 : Int64) * r).toInt = 2 * r.toInt := by
  have a := c_lmul (-2 : Int64) r
  have b := c_lmul (2 : Int64) r
  rw [show (-2 : Int64).toInt = -2 by decide] at a
  rw [show (2 : Int64).toInt = 2 by decide] at b
  have := rng64 ((-2 : Int64) * r); have := rng64 ((2 : Int64) * r)
  omega
theorem own_vz (f : UInt32) : Jvm.FP.Core.val32 f ≠ .nan ↔ Jvm.Free.Fl.NoNaN32 f := Jvm.Free.Fl.val32_no.symm
theorem own_v2 {x k : Int32} (h : (k &&& (7 : Int32)) = (2 : Int32)) : own_V (FP.fneg (FP.i2f (x % (16777216 : Int32)))) (own_K x k).toInt := by
  obtain ⟨r1, r2, r3⟩ := own_r x
  obtain ⟨n, z⟩ := own_i2f r1 r2
  obtain ⟨n', z'⟩ := own_neg n
  refine ⟨n', Or.inl ?_⟩
  have k1 : (own_K x k).toInt = -2 * (x % (16777216 : Int32)).toInt := by
    unfold own_K; rw [if_pos h, (own_m2 _ (by omega) (by omega)).1, r3]
  rw [k1, z', z]; omega
theorem own_n3h (x : Int32) : Jvm.Free.Fl.NoNaN32 (FP.fmul (FP.i2f (x % (16777216 : Int32))) (1056964608 : UInt32)) := (own_vz _).mp (own_half (own_r x).1 (own_r x).2.1).1
theorem own_v3 {x k : Int32} (g : ¬ (k &&& (7 : Int32)) = (2 : Int32)) (h : (k &&& (7 : Int32)) = (3 : Int32)) : own_V (FP.fmul (FP.i2f (x % (16777216 : Int32))) (1056964608 : UInt32)) (own_K x k).toInt := by
  obtain ⟨r1, r2, r3⟩ := own_r x
  obtain ⟨n, z⟩ := own_half r1 r2
  refine ⟨n, Or.inl ?_⟩
  have k1 : (own_K x k).toInt = (x % (16777216 : Int32)).toInt := by
    unfold own_K; rw [if_neg g, if_pos h, r3]
  rw [k1, z]; omega
theorem own_v4 {x k : Int32} (g1 : ¬ (k &&& (7 : Int32)) = (2 : Int32)) (g2 : ¬ (k &&& (7 : Int32)) = (3 : Int32)) (h : (k &&& (7 : Int32)) = (4 : Int32)) : own_V (2139095040 : UInt32) (own_K x k).toInt := by
  unfold own_K; rw [if_neg g1, if_neg g2, if_pos h]
  exact ⟨by decide +kernel, Or.inr (Or.inl ⟨by decide, by decide +kernel⟩)⟩
theorem own_v5 {x k : Int32} (g1 : ¬ (k &&& (7 : Int32)) = (2 : Int32)) (g2 : ¬ (k &&& (7 : Int32)) = (3 : Int32)) (g3 : ¬ (k &&& (7 : Int32)) = (4 : Int32)) (h : (k &&& (7 : Int32)) = (5 : Int32)) : own_V (4286578688 : UInt32) (own_K x k).toInt := by
  unfold own_K; rw [if_neg g1, if_neg g2, if_neg g3, if_pos h]
  exact ⟨by decide +kernel, Or.inr (Or.inr (Or.inl ⟨by decide, by decide +kernel⟩))⟩
theorem own_v6 {x k : Int32} (g1 : ¬ (k &&& (7 : Int32)) = (2 : Int32)) (g2 : ¬ (k &&& (7 : Int32)) = (3 : Int32)) (g3 : ¬ (k &&& (7 : Int32)) = (4 : Int32)) (g4 : ¬ (k &&& (7 : Int32)) = (5 : Int32)) (h : (k &&& (7 : Int32)) = (6 : Int32)) : own_V (2139095039 : UInt32) (own_K x k).toInt := by
  unfold own_K; rw [if_neg g1, if_neg g2, if_neg g3, if_neg g4, if_pos h]
  exact ⟨by decide +kernel, Or.inr (Or.inr (Or.inr (Or.inl ⟨by decide, by decide +kernel⟩)))⟩
theorem own_v7 {x k : Int32} (g1 : ¬ (k &&& (7 : Int32)) = (2 : Int32)) (g2 : ¬ (k &&& (7 : Int32)) = (3 : Int32)) (g3 : ¬ (k &&& (7 : Int32)) = (4 : Int32)) (g4 : ¬ (k &&& (7 : Int32)) = (5 : Int32)) (g5 : ¬ (k &&& (7 : Int32)) = (6 : Int32)) (h : (k &&& (7 : Int32)) = (7 : Int32)) : own_V (4286578687 : UInt32) (own_K x k).toInt := by
  unfold own_K; rw [if_neg g1, if_neg g2, if_neg g3, if_neg g4, if_neg g5, if_pos h]
  exact ⟨by decide +kernel, Or.inr (Or.inr (Or.inr (Or.inr ⟨by decide, by decide +kernel⟩)))⟩
theorem own_v0 {x k : Int32} (g1 : ¬ (k &&& (7 : Int32)) = (2 : Int32)) (g2 : ¬ (k &&& (7 : Int32)) = (3 : Int32)) (g3 : ¬ (k &&& (7 : Int32)) = (4 : Int32)) (g4 : ¬ (k &&& (7 : Int32)) = (5 : Int32)) (g5 : ¬ (k &&& (7 : Int32)) = (6 : Int32)) (g6 : ¬ (k &&& (7 : Int32)) = (7 : Int32)) : own_V (FP.i2f (x % (16777216 : Int32))) (own_K x k).toInt := by
  obtain ⟨r1, r2, r3⟩ := own_r x
  obtain ⟨n, z⟩ := own_i2f r1 r2
  refine ⟨n, Or.inl ?_⟩
  have k1 : (own_K x k).toInt = 2 * (x % (16777216 : Int32)).toInt := by
    unfold own_K; rw [if_neg g1, if_neg g2, if_neg g3, if_neg g4, if_neg g5, if_neg g6, (own_m2 _ (by omega) (by omega)).2, r3]
  rw [k1, z]; omega
theorem own_tri (a b : Int64) : a < b ∨ a = b ∨ b < a := by
  rw [Int64.lt_iff_toInt_lt, Int64.lt_iff_toInt_lt, ← Int64.toInt_inj]; omega
theorem own_flt {f g : UInt32} {a b : Int64} (ha : own_V f a.toInt) (hb : own_V g b.toInt) (h : a < b) : FP.fcmp f g = some .lt := (own_cmp ha hb).1 (Int64.lt_iff_toInt_lt.mp h)
theorem own_feq {f g : UInt32} {a b : Int64} (ha : own_V f a.toInt) (hb : own_V g b.toInt) (h : a = b) : FP.fcmp f g = some .eq := (own_cmp ha hb).2.1 (congrArg Int64.toInt h)
theorem own_fgt {f g : UInt32} {a b : Int64} (ha : own_V f a.toInt) (hb : own_V g b.toInt) (h : b < a) : FP.fcmp f g = some .gt := (own_cmp ha hb).2.2 (Int64.lt_iff_toInt_lt.mp h)
theorem own_lcn {a b : Int64} (h : ¬ b < a) : ¬ (0 : Int32) < lcmpW a b := fun q => h ((lw_gt a b).mp q)
theorem own_lcg {a b : Int64} (h : b < a) : (0 : Int32) < lcmpW a b := (lw_gt a b).mpr h
theorem own_lcl {a b : Int64} (h : a < b) : lcmpW a b < (0 : Int32) := (lw_lt a b).mpr h
theorem own_lce {a b : Int64} (h : ¬ a < b) : ¬ lcmpW a b < (0 : Int32) := fun q => h ((lw_lt a b).mp q)
theorem own_asym {a b : Int64} (h : a < b) : ¬ b < a := by rw [Int64.lt_iff_toInt_lt] at *; omega
theorem own_irr (a : Int64) : ¬ a < a := by rw [Int64.lt_iff_toInt_lt]; omega
theorem dva_0 : decode method_2_code 0 = .ok (.iload_n 0, 1) := by decide +kernel
theorem dva_1 : decode method_2_code 1 = .ok (.ldc 7, 2) := by decide +kernel
theorem dva_3 : decode method_2_code 3 = .ok (.irem, 1) := by decide +kernel
theorem dva_4 : decode method_2_code 4 = .ok (.istore_n 2, 1) := by decide +kernel
theorem dva_5 : decode method_2_code 5 = .ok (.iload_n 1, 1) := by decide +kernel
theorem dva_6 : decode method_2_code 6 = .ok (.bipush 7, 2) := by decide +kernel
theorem dva_8 : decode method_2_code 8 = .ok (.iand, 1) := by decide +kernel
theorem dva_9 : decode method_2_code 9 = .ok (.istore_n 3, 1) := by decide +kernel
theorem dva_10 : decode method_2_code 10 = .ok (.iload_n 3, 1) := by decide +kernel
theorem dva_11 : decode method_2_code 11 = .ok (.iconst 2, 1) := by decide +kernel
theorem dva_12 : decode method_2_code 12 = .ok (.if_icmp .ne 7, 3) := by decide +kernel
theorem dva_15 : decode method_2_code 15 = .ok (.iload_n 2, 1) := by decide +kernel
theorem dva_16 : decode method_2_code 16 = .ok (.i2f, 1) := by decide +kernel
theorem dva_17 : decode method_2_code 17 = .ok (.fneg, 1) := by decide +kernel
theorem dva_18 : decode method_2_code 18 = .ok (.freturn, 1) := by decide +kernel
theorem dva_19 : decode method_2_code 19 = .ok (.iload_n 3, 1) := by decide +kernel
theorem dva_20 : decode method_2_code 20 = .ok (.iconst 3, 1) := by decide +kernel
theorem dva_21 : decode method_2_code 21 = .ok (.if_icmp .ne 9, 3) := by decide +kernel
theorem dva_24 : decode method_2_code 24 = .ok (.iload_n 2, 1) := by decide +kernel
theorem dva_25 : decode method_2_code 25 = .ok (.i2f, 1) := by decide +kernel
theorem dva_26 : decode method_2_code 26 = .ok (.ldc 8, 2) := by decide +kernel
theorem dva_28 : decode method_2_code 28 = .ok (.fmul, 1) := by decide +kernel
theorem dva_29 : decode method_2_code 29 = .ok (.freturn, 1) := by decide +kernel
theorem dva_30 : decode method_2_code 30 = .ok (.iload_n 3, 1) := by decide +kernel
theorem dva_31 : decode method_2_code 31 = .ok (.iconst 4, 1) := by decide +kernel
theorem dva_32 : decode method_2_code 32 = .ok (.if_icmp .ne 6, 3) := by decide +kernel
theorem dva_35 : decode method_2_code 35 = .ok (.ldc 11, 2) := by decide +kernel
theorem dva_37 : decode method_2_code 37 = .ok (.freturn, 1) := by decide +kernel
theorem dva_38 : decode method_2_code 38 = .ok (.iload_n 3, 1) := by decide +kernel
theorem dva_39 : decode method_2_code 39 = .ok (.iconst 5, 1) := by decide +kernel
theorem dva_40 : decode method_2_code 40 = .ok (.if_icmp .ne 6, 3) := by decide +kernel
theorem dva_43 : decode method_2_code 43 = .ok (.ldc 12, 2) := by decide +kernel
theorem dva_45 : decode method_2_code 45 = .ok (.freturn, 1) := by decide +kernel
theorem dva_46 : decode method_2_code 46 = .ok (.iload_n 3, 1) := by decide +kernel
theorem dva_47 : decode method_2_code 47 = .ok (.bipush 6, 2) := by decide +kernel
theorem dva_49 : decode method_2_code 49 = .ok (.if_icmp .ne 6, 3) := by decide +kernel
theorem dva_52 : decode method_2_code 52 = .ok (.ldc 13, 2) := by decide +kernel
theorem dva_54 : decode method_2_code 54 = .ok (.freturn, 1) := by decide +kernel
theorem dva_55 : decode method_2_code 55 = .ok (.iload_n 3, 1) := by decide +kernel
theorem dva_56 : decode method_2_code 56 = .ok (.bipush 7, 2) := by decide +kernel
theorem dva_58 : decode method_2_code 58 = .ok (.if_icmp .ne 6, 3) := by decide +kernel
theorem dva_61 : decode method_2_code 61 = .ok (.ldc 14, 2) := by decide +kernel
theorem dva_63 : decode method_2_code 63 = .ok (.freturn, 1) := by decide +kernel
theorem dva_64 : decode method_2_code 64 = .ok (.iload_n 2, 1) := by decide +kernel
theorem dva_65 : decode method_2_code 65 = .ok (.i2f, 1) := by decide +kernel
theorem dva_66 : decode method_2_code 66 = .ok (.freturn, 1) := by decide +kernel
theorem pnva : plainName "com/example/kalchas/kalchas/io/RunOrderCompareScoresPinLaw" = true := by first | (simp [plainName, overriddenIn]; done) | decide +kernel
theorem efva (m : MethodId) (x0 : Int32) (x1 : Int32) : entryFrame m #[(.int x0), (.int x1)] 4 = mkF m 0 #[.val (.int x0), .val (.int x1), .unset, .unset] [] := by first | (simp [entryFrame, mkF, argsToLocals, Value.category]; done) | rfl
def Qva (Z : State) (x0 : Int32) (x1 : Int32) (h0 : Heap) (n0 : Nat) (v : Option Value) (h : Heap) (L : List Loc) : Prop := ∃ f : UInt32, v = some (.float f) ∧ Fr n0 L ∧ h = h0 ∧ own_V f (own_K x0 x1).toInt
set_option maxRecDepth 65536 in
set_option maxHeartbeats 40000000 in
theorem rmva (l : Launch) (Z : State) (a0 : Array Value) (hw : ∀ d ∈ tables_1, d.before a0 Z = true) (ws : List Jvm.Cond) (x0 : Int32) (x1 : Int32) (h0 : Heap) (n0 : Nat) (Z0 : n0 ≤ h0.size) :
    MetFree l (⟨"com/example/kalchas/kalchas/io/RunOrderCompareScoresPinLaw", "value", "(II)F"⟩ : MethodName) (head1 (Jvm.Cond.code (⟨"com/example/kalchas/kalchas/io/RunOrderCompareScoresPinLaw", "value", "(II)F"⟩ : MethodName) method_2_code 4 (some .float) :: ws) ({ frames := 0, cells := 0, slots := 0, locals := 0 } : Room)) (fun a U => a = #[(.int x0), (.int x1)] ∧ Z.Warmed39 U.vm ∧ U.heap = h0) (fun _ _ _ _ _ => True) (fun _ U o U' => ∃ v L, o = .returned v ∧ Qva Z x0 x1 h0 n0 v U'.heap L ∧ FrameEnd U o U' L ({ frames := 0, cells := 0, slots := 0, locals := 0 } : Room).cells ({ frames := 0, cells := 0, slots := 0, locals := 0 } : Room).slots) := by
  refine MetFree.of_bodySF (plainFor_of_name pnva) hisR ?_
  intro p e s m args below meth c s₁ Bd hml0 hP hK
  obtain ⟨rfl, hZ, hh⟩ := hP
  have hx := Bd.exec
  have hby := Bd.bytes
  have hml : c.maxLocals = 4 := hml0
  have hown : s.vm.findClass "com/example/kalchas/kalchas/io/RunOrderCompareScoresPinLaw" = some m.cls := findClass_of_methodNamed Bd.named
  have hnm := (name_of_methodNamed Bd.named Bd.method).1
  have X0 : Stand p l e ({ frames := 0, cells := 0, slots := 0, locals := 0 } : Room) s m #[(.int x0), (.int x1)] below meth c s₁ [] 0 0 := Stand.of_body Bd
  have e0 : s₁.heap = h0 := by rw [← hh, Bd.state]; rfl
  have N0 := Fr.nil n0
  have pre0 : ∀ t, Steps p.tables e below (s₁.setTop (mkF m 0 #[.val (.int x0), .val (.int x1), .unset, .unset] [])) t → Steps p.tables e below (s₁.setTop (entryFrame m #[(.int x0), (.int x1)] 4)) t := fun t k => castTop (efva m x0 x1) k
  have p1 : ∀ t, Steps p.tables e below (s₁.setTop (mkF m 12 #[.val (.int x0), .val (.int x1), .val (.int (x0 % (16777216 : Int32))), .val (.int (x1 &&& (7 : Int32)))] [(.int (2 : Int32)), (.int (x1 &&& (7 : Int32)))])) t → Steps p.tables e below (s₁.setTop (entryFrame m #[(.int x0), (.int x1)] 4)) t := fun t k => pre0 t (by
    show Steps p.tables e below (s₁.setTop (mkF m 0 #[.val (.int x0), .val (.int x1), .unset, .unset] [])) _
    refine XS.iloadN X0.here hx rfl (hb hby dva_0) rfl ?_
    show Steps p.tables e below (s₁.setTop (mkF m 1 #[.val (.int x0), .val (.int x1), .unset, .unset] [(.int x0)])) _
    refine X0.ldcInt hx hown (mvT hZ (hw _ (List.mem_of_getElem? (i := 4) rfl))) (g := (mkF m 1 #[.val (.int x0), .val (.int x1), .unset, .unset] [(.int x0)])) rfl (hb hby dva_1) _ ?_
    show Steps p.tables e below (s₁.setTop (mkF m 3 #[.val (.int x0), .val (.int x1), .unset, .unset] [(.int (16777216 : Int32)), (.int x0)])) _
    refine iremM X0 hx rfl (hb hby dva_3) rfl (by decide) ?_
    show Steps p.tables e below (s₁.setTop (mkF m 4 #[.val (.int x0), .val (.int x1), .unset, .unset] [(.int (x0 % (16777216 : Int32)))])) _
    refine XS.istoreN X0.here hx rfl (hb hby dva_4) rfl (l' := #[.val (.int x0), .val (.int x1), .val (.int (x0 % (16777216 : Int32))), .unset]) rfl ?_
    show Steps p.tables e below (s₁.setTop (mkF m 5 #[.val (.int x0), .val (.int x1), .val (.int (x0 % (16777216 : Int32))), .unset] [])) _
    refine XS.iloadN X0.here hx rfl (hb hby dva_5) rfl ?_
    show Steps p.tables e below (s₁.setTop (mkF m 6 #[.val (.int x0), .val (.int x1), .val (.int (x0 % (16777216 : Int32))), .unset] [(.int x1)])) _
    refine XS.bipush X0.here hx rfl (hb hby dva_6) ?_
    show Steps p.tables e below (s₁.setTop (mkF m 8 #[.val (.int x0), .val (.int x1), .val (.int (x0 % (16777216 : Int32))), .unset] [(.int (7 : Int32)), (.int x1)])) _
    refine XS.iand X0.here hx rfl (hb hby dva_8) rfl ?_
    show Steps p.tables e below (s₁.setTop (mkF m 9 #[.val (.int x0), .val (.int x1), .val (.int (x0 % (16777216 : Int32))), .unset] [(.int (x1 &&& (7 : Int32)))])) _
    refine XS.istoreN X0.here hx rfl (hb hby dva_9) rfl (l' := #[.val (.int x0), .val (.int x1), .val (.int (x0 % (16777216 : Int32))), .val (.int (x1 &&& (7 : Int32)))]) rfl ?_
    show Steps p.tables e below (s₁.setTop (mkF m 10 #[.val (.int x0), .val (.int x1), .val (.int (x0 % (16777216 : Int32))), .val (.int (x1 &&& (7 : Int32)))] [])) _
    refine XS.iloadN X0.here hx rfl (hb hby dva_10) rfl ?_
    show Steps p.tables e below (s₁.setTop (mkF m 11 #[.val (.int x0), .val (.int x1), .val (.int (x0 % (16777216 : Int32))), .val (.int (x1 &&& (7 : Int32)))] [(.int (x1 &&& (7 : Int32)))])) _
    refine XS.iconst X0.here hx rfl (hb hby dva_11) ?_
    exact k)
  by_cases hc12 : (x1 &&& (7 : Int32)) = (2 : Int32)
  · have p2 : ∀ t, Steps p.tables e below (s₁.setTop (mkF m 18 #[.val (.int x0), .val (.int x1), .val (.int (x0 % (16777216 : Int32))), .val (.int (x1 &&& (7 : Int32)))] [(.float (FP.fneg (FP.i2f (x0 % (16777216 : Int32)))))])) t → Steps p.tables e below (s₁.setTop (entryFrame m #[(.int x0), (.int x1)] 4)) t := fun t k => p1 t (by
      show Steps p.tables e below (s₁.setTop (mkF m 12 #[.val (.int x0), .val (.int x1), .val (.int (x0 % (16777216 : Int32))), .val (.int (x1 &&& (7 : Int32)))] [(.int (2 : Int32)), (.int (x1 &&& (7 : Int32)))])) _
      refine XS.icmpNo X0.here hx rfl (hb hby dva_12) rfl ((teq (hc12)).2) ?_
      show Steps p.tables e below (s₁.setTop (mkF m 15 #[.val (.int x0), .val (.int x1), .val (.int (x0 % (16777216 : Int32))), .val (.int (x1 &&& (7 : Int32)))] [])) _
      refine XS.iloadN X0.here hx rfl (hb hby dva_15) rfl ?_
      show Steps p.tables e below (s₁.setTop (mkF m 16 #[.val (.int x0), .val (.int x1), .val (.int (x0 % (16777216 : Int32))), .val (.int (x1 &&& (7 : Int32)))] [(.int (x0 % (16777216 : Int32)))])) _
      refine XS.i2fS X0.here hx rfl (hb hby dva_16) rfl (v := (FP.i2f (x0 % (16777216 : Int32)))) rfl ?_
      show Steps p.tables e below (s₁.setTop (mkF m 17 #[.val (.int x0), .val (.int x1), .val (.int (x0 % (16777216 : Int32))), .val (.int (x1 &&& (7 : Int32)))] [(.float (FP.i2f (x0 % (16777216 : Int32))))])) _
      refine XS.fnegS X0.here hx rfl (hb hby dva_17) rfl (v := (FP.fneg (FP.i2f (x0 % (16777216 : Int32))))) rfl ?_
      exact k)
    obtain ⟨fs, hr, hrun, hended, hW, hsame⟩ := X0.leave (v := some (.float (FP.fneg (FP.i2f (x0 % (16777216 : Int32)))))) (fun h => by rw [Bd.returns] at h; cases h)
    refine ⟨_, _, p2 _ ?_, hrun, hended, _, _, rfl, ?_, ⟨_, rfl⟩, hW, hsame.mono (by decide) (by decide)⟩
    · show Steps p.tables e below (s₁.setTop (mkF m 18 #[.val (.int x0), .val (.int x1), .val (.int (x0 % (16777216 : Int32))), .val (.int (x1 &&& (7 : Int32)))] [(.float (FP.fneg (FP.i2f (x0 % (16777216 : Int32)))))])) _
      exact retOut X0 hx Bd.returns rfl (Or.inr (Or.inr (Or.inr (Or.inl ⟨rfl, rfl, _, rfl⟩)))) (hb hby dva_18) hr
    · show Qva Z x0 x1 h0 n0 _ s₁.heap _
      rw [e0]
      exact ⟨_, rfl, N0, rfl, own_v2 hc12⟩
  · have p3 : ∀ t, Steps p.tables e below (s₁.setTop (mkF m 21 #[.val (.int x0), .val (.int x1), .val (.int (x0 % (16777216 : Int32))), .val (.int (x1 &&& (7 : Int32)))] [(.int (3 : Int32)), (.int (x1 &&& (7 : Int32)))])) t → Steps p.tables e below (s₁.setTop (entryFrame m #[(.int x0), (.int x1)] 4)) t := fun t k => p1 t (by
      show Steps p.tables e below (s₁.setTop (mkF m 12 #[.val (.int x0), .val (.int x1), .val (.int (x0 % (16777216 : Int32))), .val (.int (x1 &&& (7 : Int32)))] [(.int (2 : Int32)), (.int (x1 &&& (7 : Int32)))])) _
      refine XS.icmpYes X0.here hx rfl (pc0 := 12) (pc' := 19) rfl (hb hby dva_12) rfl ((feq (hc12)).2) (by decide) (by decide) ?_
      show Steps p.tables e below (s₁.setTop (mkF m 19 #[.val (.int x0), .val (.int x1), .val (.int (x0 % (16777216 : Int32))), .val (.int (x1 &&& (7 : Int32)))] [])) _
      refine XS.iloadN X0.here hx rfl (hb hby dva_19) rfl ?_
      show Steps p.tables e below (s₁.setTop (mkF m 20 #[.val (.int x0), .val (.int x1), .val (.int (x0 % (16777216 : Int32))), .val (.int (x1 &&& (7 : Int32)))] [(.int (x1 &&& (7 : Int32)))])) _
      refine XS.iconst X0.here hx rfl (hb hby dva_20) ?_
      exact k)
    by_cases hc21 : (x1 &&& (7 : Int32)) = (3 : Int32)
    · have p4 : ∀ t, Steps p.tables e below (s₁.setTop (mkF m 29 #[.val (.int x0), .val (.int x1), .val (.int (x0 % (16777216 : Int32))), .val (.int (x1 &&& (7 : Int32)))] [(.float (FP.fmul (FP.i2f (x0 % (16777216 : Int32))) (1056964608 : UInt32)))])) t → Steps p.tables e below (s₁.setTop (entryFrame m #[(.int x0), (.int x1)] 4)) t := fun t k => p3 t (by
        show Steps p.tables e below (s₁.setTop (mkF m 21 #[.val (.int x0), .val (.int x1), .val (.int (x0 % (16777216 : Int32))), .val (.int (x1 &&& (7 : Int32)))] [(.int (3 : Int32)), (.int (x1 &&& (7 : Int32)))])) _
        refine XS.icmpNo X0.here hx rfl (hb hby dva_21) rfl ((teq (hc21)).2) ?_
        show Steps p.tables e below (s₁.setTop (mkF m 24 #[.val (.int x0), .val (.int x1), .val (.int (x0 % (16777216 : Int32))), .val (.int (x1 &&& (7 : Int32)))] [])) _
        refine XS.iloadN X0.here hx rfl (hb hby dva_24) rfl ?_
        show Steps p.tables e below (s₁.setTop (mkF m 25 #[.val (.int x0), .val (.int x1), .val (.int (x0 % (16777216 : Int32))), .val (.int (x1 &&& (7 : Int32)))] [(.int (x0 % (16777216 : Int32)))])) _
        refine XS.i2fS X0.here hx rfl (hb hby dva_25) rfl (v := (FP.i2f (x0 % (16777216 : Int32)))) rfl ?_
        show Steps p.tables e below (s₁.setTop (mkF m 26 #[.val (.int x0), .val (.int x1), .val (.int (x0 % (16777216 : Int32))), .val (.int (x1 &&& (7 : Int32)))] [(.float (FP.i2f (x0 % (16777216 : Int32))))])) _
        refine X0.ldcFloatC hx hown (mvT hZ (hw _ (List.mem_of_getElem? (i := 5) rfl))) (g := (mkF m 26 #[.val (.int x0), .val (.int x1), .val (.int (x0 % (16777216 : Int32))), .val (.int (x1 &&& (7 : Int32)))] [(.float (FP.i2f (x0 % (16777216 : Int32))))])) rfl (hb hby dva_26) _ ?_
        show Steps p.tables e below (s₁.setTop (mkF m 28 #[.val (.int x0), .val (.int x1), .val (.int (x0 % (16777216 : Int32))), .val (.int (x1 &&& (7 : Int32)))] [(.float (1056964608 : UInt32)), (.float (FP.i2f (x0 % (16777216 : Int32))))])) _
        refine XS.fmulS X0.here hx rfl (hb hby dva_28) rfl (own_n3h x0) (v := (FP.fmul (FP.i2f (x0 % (16777216 : Int32))) (1056964608 : UInt32))) rfl ?_
        exact k)
      obtain ⟨fs, hr, hrun, hended, hW, hsame⟩ := X0.leave (v := some (.float (FP.fmul (FP.i2f (x0 % (16777216 : Int32))) (1056964608 : UInt32)))) (fun h => by rw [Bd.returns] at h; cases h)
      refine ⟨_, _, p4 _ ?_, hrun, hended, _, _, rfl, ?_, ⟨_, rfl⟩, hW, hsame.mono (by decide) (by decide)⟩
      · show Steps p.tables e below (s₁.setTop (mkF m 29 #[.val (.int x0), .val (.int x1), .val (.int (x0 % (16777216 : Int32))), .val (.int (x1 &&& (7 : Int32)))] [(.float (FP.fmul (FP.i2f (x0 % (16777216 : Int32))) (1056964608 : UInt32)))])) _
        exact retOut X0 hx Bd.returns rfl (Or.inr (Or.inr (Or.inr (Or.inl ⟨rfl, rfl, _, rfl⟩)))) (hb hby dva_29) hr
      · show Qva Z x0 x1 h0 n0 _ s₁.heap _
        rw [e0]
        exact ⟨_, rfl, N0, rfl, own_v3 hc12 hc21⟩
    · have p5 : ∀ t, Steps p.tables e below (s₁.setTop (mkF m 32 #[.val (.int x0), .val (.int x1), .val (.int (x0 % (16777216 : Int32))), .val (.int (x1 &&& (7 : Int32)))] [(.int (4 : Int32)), (.int (x1 &&& (7 : Int32)))])) t → Steps p.tables e below (s₁.setTop (entryFrame m #[(.int x0), (.int x1)] 4)) t := fun t k => p3 t (by
        show Steps p.tables e below (s₁.setTop (mkF m 21 #[.val (.int x0), .val (.int x1), .val (.int (x0 % (16777216 : Int32))), .val (.int (x1 &&& (7 : Int32)))] [(.int (3 : Int32)), (.int (x1 &&& (7 : Int32)))])) _
        refine XS.icmpYes X0.here hx rfl (pc0 := 21) (pc' := 30) rfl (hb hby dva_21) rfl ((feq (hc21)).2) (by decide) (by decide) ?_
        show Steps p.tables e below (s₁.setTop (mkF m 30 #[.val (.int x0), .val (.int x1), .val (.int (x0 % (16777216 : Int32))), .val (.int (x1 &&& (7 : Int32)))] [])) _
        refine XS.iloadN X0.here hx rfl (hb hby dva_30) rfl ?_
        show Steps p.tables e below (s₁.setTop (mkF m 31 #[.val (.int x0), .val (.int x1), .val (.int (x0 % (16777216 : Int32))), .val (.int (x1 &&& (7 : Int32)))] [(.int (x1 &&& (7 : Int32)))])) _
        refine XS.iconst X0.here hx rfl (hb hby dva_31) ?_
        exact k)
      by_cases hc32 : (x1 &&& (7 : Int32)) = (4 : Int32)
      · have p6 : ∀ t, Steps p.tables e below (s₁.setTop (mkF m 37 #[.val (.int x0), .val (.int x1), .val (.int (x0 % (16777216 : Int32))), .val (.int (x1 &&& (7 : Int32)))] [(.float (2139095040 : UInt32))])) t → Steps p.tables e below (s₁.setTop (entryFrame m #[(.int x0), (.int x1)] 4)) t := fun t k => p5 t (by
          show Steps p.tables e below (s₁.setTop (mkF m 32 #[.val (.int x0), .val (.int x1), .val (.int (x0 % (16777216 : Int32))), .val (.int (x1 &&& (7 : Int32)))] [(.int (4 : Int32)), (.int (x1 &&& (7 : Int32)))])) _
          refine XS.icmpNo X0.here hx rfl (hb hby dva_32) rfl ((teq (hc32)).2) ?_
          show Steps p.tables e below (s₁.setTop (mkF m 35 #[.val (.int x0), .val (.int x1), .val (.int (x0 % (16777216 : Int32))), .val (.int (x1 &&& (7 : Int32)))] [])) _
          refine X0.ldcFloatC hx hown (mvT hZ (hw _ (List.mem_of_getElem? (i := 20) rfl))) (g := (mkF m 35 #[.val (.int x0), .val (.int x1), .val (.int (x0 % (16777216 : Int32))), .val (.int (x1 &&& (7 : Int32)))] [])) rfl (hb hby dva_35) _ ?_
          exact k)
        obtain ⟨fs, hr, hrun, hended, hW, hsame⟩ := X0.leave (v := some (.float (2139095040 : UInt32))) (fun h => by rw [Bd.returns] at h; cases h)
        refine ⟨_, _, p6 _ ?_, hrun, hended, _, _, rfl, ?_, ⟨_, rfl⟩, hW, hsame.mono (by decide) (by decide)⟩
        · show Steps p.tables e below (s₁.setTop (mkF m 37 #[.val (.int x0), .val (.int x1), .val (.int (x0 % (16777216 : Int32))), .val (.int (x1 &&& (7 : Int32)))] [(.float (2139095040 : UInt32))])) _
          exact retOut X0 hx Bd.returns rfl (Or.inr (Or.inr (Or.inr (Or.inl ⟨rfl, rfl, _, rfl⟩)))) (hb hby dva_37) hr
        · show Qva Z x0 x1 h0 n0 _ s₁.heap _
          rw [e0]
          exact ⟨_, rfl, N0, rfl, own_v4 hc12 hc21 hc32⟩
      · have p7 : ∀ t, Steps p.tables e below (s₁.setTop (mkF m 40 #[.val (.int x0), .val (.int x1), .val (.int (x0 % (16777216 : Int32))), .val (.int (x1 &&& (7 : Int32)))] [(.int (5 : Int32)), (.int (x1 &&& (7 : Int32)))])) t → Steps p.tables e below (s₁.setTop (entryFrame m #[(.int x0), (.int x1)] 4)) t := fun t k => p5 t (by
          show Steps p.tables e below (s₁.setTop (mkF m 32 #[.val (.int x0), .val (.int x1), .val (.int (x0 % (16777216 : Int32))), .val (.int (x1 &&& (7 : Int32)))] [(.int (4 : Int32)), (.int (x1 &&& (7 : Int32)))])) _
          refine XS.icmpYes X0.here hx rfl (pc0 := 32) (pc' := 38) rfl (hb hby dva_32) rfl ((feq (hc32)).2) (by decide) (by decide) ?_
          show Steps p.tables e below (s₁.setTop (mkF m 38 #[.val (.int x0), .val (.int x1), .val (.int (x0 % (16777216 : Int32))), .val (.int (x1 &&& (7 : Int32)))] [])) _
          refine XS.iloadN X0.here hx rfl (hb hby dva_38) rfl ?_
          show Steps p.tables e below (s₁.setTop (mkF m 39 #[.val (.int x0), .val (.int x1), .val (.int (x0 % (16777216 : Int32))), .val (.int (x1 &&& (7 : Int32)))] [(.int (x1 &&& (7 : Int32)))])) _
          refine XS.iconst X0.here hx rfl (hb hby dva_39) ?_
          exact k)
        by_cases hc40 : (x1 &&& (7 : Int32)) = (5 : Int32)
        · have p8 : ∀ t, Steps p.tables e below (s₁.setTop (mkF m 45 #[.val (.int x0), .val (.int x1), .val (.int (x0 % (16777216 : Int32))), .val (.int (x1 &&& (7 : Int32)))] [(.float (4286578688 : UInt32))])) t → Steps p.tables e below (s₁.setTop (entryFrame m #[(.int x0), (.int x1)] 4)) t := fun t k => p7 t (by
            show Steps p.tables e below (s₁.setTop (mkF m 40 #[.val (.int x0), .val (.int x1), .val (.int (x0 % (16777216 : Int32))), .val (.int (x1 &&& (7 : Int32)))] [(.int (5 : Int32)), (.int (x1 &&& (7 : Int32)))])) _
            refine XS.icmpNo X0.here hx rfl (hb hby dva_40) rfl ((teq (hc40)).2) ?_
            show Steps p.tables e below (s₁.setTop (mkF m 43 #[.val (.int x0), .val (.int x1), .val (.int (x0 % (16777216 : Int32))), .val (.int (x1 &&& (7 : Int32)))] [])) _
            refine X0.ldcFloatC hx hown (mvT hZ (hw _ (List.mem_of_getElem? (i := 19) rfl))) (g := (mkF m 43 #[.val (.int x0), .val (.int x1), .val (.int (x0 % (16777216 : Int32))), .val (.int (x1 &&& (7 : Int32)))] [])) rfl (hb hby dva_43) _ ?_
            exact k)
          obtain ⟨fs, hr, hrun, hended, hW, hsame⟩ := X0.leave (v := some (.float (4286578688 : UInt32))) (fun h => by rw [Bd.returns] at h; cases h)
          refine ⟨_, _, p8 _ ?_, hrun, hended, _, _, rfl, ?_, ⟨_, rfl⟩, hW, hsame.mono (by decide) (by decide)⟩
          · show Steps p.tables e below (s₁.setTop (mkF m 45 #[.val (.int x0), .val (.int x1), .val (.int (x0 % (16777216 : Int32))), .val (.int (x1 &&& (7 : Int32)))] [(.float (4286578688 : UInt32))])) _
            exact retOut X0 hx Bd.returns rfl (Or.inr (Or.inr (Or.inr (Or.inl ⟨rfl, rfl, _, rfl⟩)))) (hb hby dva_45) hr
          · show Qva Z x0 x1 h0 n0 _ s₁.heap _
            rw [e0]
            exact ⟨_, rfl, N0, rfl, own_v5 hc12 hc21 hc32 hc40⟩
        · have p9 : ∀ t, Steps p.tables e below (s₁.setTop (mkF m 49 #[.val (.int x0), .val (.int x1), .val (.int (x0 % (16777216 : Int32))), .val (.int (x1 &&& (7 : Int32)))] [(.int (6 : Int32)), (.int (x1 &&& (7 : Int32)))])) t → Steps p.tables e below (s₁.setTop (entryFrame m #[(.int x0), (.int x1)] 4)) t := fun t k => p7 t (by
            show Steps p.tables e below (s₁.setTop (mkF m 40 #[.val (.int x0), .val (.int x1), .val (.int (x0 % (16777216 : Int32))), .val (.int (x1 &&& (7 : Int32)))] [(.int (5 : Int32)), (.int (x1 &&& (7 : Int32)))])) _
            refine XS.icmpYes X0.here hx rfl (pc0 := 40) (pc' := 46) rfl (hb hby dva_40) rfl ((feq (hc40)).2) (by decide) (by decide) ?_
            show Steps p.tables e below (s₁.setTop (mkF m 46 #[.val (.int x0), .val (.int x1), .val (.int (x0 % (16777216 : Int32))), .val (.int (x1 &&& (7 : Int32)))] [])) _
            refine XS.iloadN X0.here hx rfl (hb hby dva_46) rfl ?_
            show Steps p.tables e below (s₁.setTop (mkF m 47 #[.val (.int x0), .val (.int x1), .val (.int (x0 % (16777216 : Int32))), .val (.int (x1 &&& (7 : Int32)))] [(.int (x1 &&& (7 : Int32)))])) _
            refine XS.bipush X0.here hx rfl (hb hby dva_47) ?_
            exact k)
          by_cases hc49 : (x1 &&& (7 : Int32)) = (6 : Int32)
          · have p10 : ∀ t, Steps p.tables e below (s₁.setTop (mkF m 54 #[.val (.int x0), .val (.int x1), .val (.int (x0 % (16777216 : Int32))), .val (.int (x1 &&& (7 : Int32)))] [(.float (2139095039 : UInt32))])) t → Steps p.tables e below (s₁.setTop (entryFrame m #[(.int x0), (.int x1)] 4)) t := fun t k => p9 t (by
              show Steps p.tables e below (s₁.setTop (mkF m 49 #[.val (.int x0), .val (.int x1), .val (.int (x0 % (16777216 : Int32))), .val (.int (x1 &&& (7 : Int32)))] [(.int (6 : Int32)), (.int (x1 &&& (7 : Int32)))])) _
              refine XS.icmpNo X0.here hx rfl (hb hby dva_49) rfl ((teq (hc49)).2) ?_
              show Steps p.tables e below (s₁.setTop (mkF m 52 #[.val (.int x0), .val (.int x1), .val (.int (x0 % (16777216 : Int32))), .val (.int (x1 &&& (7 : Int32)))] [])) _
              refine X0.ldcFloatC hx hown (mvT hZ (hw _ (List.mem_of_getElem? (i := 17) rfl))) (g := (mkF m 52 #[.val (.int x0), .val (.int x1), .val (.int (x0 % (16777216 : Int32))), .val (.int (x1 &&& (7 : Int32)))] [])) rfl (hb hby dva_52) _ ?_
              exact k)
            obtain ⟨fs, hr, hrun, hended, hW, hsame⟩ := X0.leave (v := some (.float (2139095039 : UInt32))) (fun h => by rw [Bd.returns] at h; cases h)
            refine ⟨_, _, p10 _ ?_, hrun, hended, _, _, rfl, ?_, ⟨_, rfl⟩, hW, hsame.mono (by decide) (by decide)⟩
            · show Steps p.tables e below (s₁.setTop (mkF m 54 #[.val (.int x0), .val (.int x1), .val (.int (x0 % (16777216 : Int32))), .val (.int (x1 &&& (7 : Int32)))] [(.float (2139095039 : UInt32))])) _
              exact retOut X0 hx Bd.returns rfl (Or.inr (Or.inr (Or.inr (Or.inl ⟨rfl, rfl, _, rfl⟩)))) (hb hby dva_54) hr
            · show Qva Z x0 x1 h0 n0 _ s₁.heap _
              rw [e0]
              exact ⟨_, rfl, N0, rfl, own_v6 hc12 hc21 hc32 hc40 hc49⟩
          · have p11 : ∀ t, Steps p.tables e below (s₁.setTop (mkF m 58 #[.val (.int x0), .val (.int x1), .val (.int (x0 % (16777216 : Int32))), .val (.int (x1 &&& (7 : Int32)))] [(.int (7 : Int32)), (.int (x1 &&& (7 : Int32)))])) t → Steps p.tables e below (s₁.setTop (entryFrame m #[(.int x0), (.int x1)] 4)) t := fun t k => p9 t (by
              show Steps p.tables e below (s₁.setTop (mkF m 49 #[.val (.int x0), .val (.int x1), .val (.int (x0 % (16777216 : Int32))), .val (.int (x1 &&& (7 : Int32)))] [(.int (6 : Int32)), (.int (x1 &&& (7 : Int32)))])) _
              refine XS.icmpYes X0.here hx rfl (pc0 := 49) (pc' := 55) rfl (hb hby dva_49) rfl ((feq (hc49)).2) (by decide) (by decide) ?_
              show Steps p.tables e below (s₁.setTop (mkF m 55 #[.val (.int x0), .val (.int x1), .val (.int (x0 % (16777216 : Int32))), .val (.int (x1 &&& (7 : Int32)))] [])) _
              refine XS.iloadN X0.here hx rfl (hb hby dva_55) rfl ?_
              show Steps p.tables e below (s₁.setTop (mkF m 56 #[.val (.int x0), .val (.int x1), .val (.int (x0 % (16777216 : Int32))), .val (.int (x1 &&& (7 : Int32)))] [(.int (x1 &&& (7 : Int32)))])) _
              refine XS.bipush X0.here hx rfl (hb hby dva_56) ?_
              exact k)
            by_cases hc58 : (x1 &&& (7 : Int32)) = (7 : Int32)
            · have p12 : ∀ t, Steps p.tables e below (s₁.setTop (mkF m 63 #[.val (.int x0), .val (.int x1), .val (.int (x0 % (16777216 : Int32))), .val (.int (x1 &&& (7 : Int32)))] [(.float (4286578687 : UInt32))])) t → Steps p.tables e below (s₁.setTop (entryFrame m #[(.int x0), (.int x1)] 4)) t := fun t k => p11 t (by
                show Steps p.tables e below (s₁.setTop (mkF m 58 #[.val (.int x0), .val (.int x1), .val (.int (x0 % (16777216 : Int32))), .val (.int (x1 &&& (7 : Int32)))] [(.int (7 : Int32)), (.int (x1 &&& (7 : Int32)))])) _
                refine XS.icmpNo X0.here hx rfl (hb hby dva_58) rfl ((teq (hc58)).2) ?_
                show Steps p.tables e below (s₁.setTop (mkF m 61 #[.val (.int x0), .val (.int x1), .val (.int (x0 % (16777216 : Int32))), .val (.int (x1 &&& (7 : Int32)))] [])) _
                refine X0.ldcFloatC hx hown (mvT hZ (hw _ (List.mem_of_getElem? (i := 15) rfl))) (g := (mkF m 61 #[.val (.int x0), .val (.int x1), .val (.int (x0 % (16777216 : Int32))), .val (.int (x1 &&& (7 : Int32)))] [])) rfl (hb hby dva_61) _ ?_
                exact k)
              obtain ⟨fs, hr, hrun, hended, hW, hsame⟩ := X0.leave (v := some (.float (4286578687 : UInt32))) (fun h => by rw [Bd.returns] at h; cases h)
              refine ⟨_, _, p12 _ ?_, hrun, hended, _, _, rfl, ?_, ⟨_, rfl⟩, hW, hsame.mono (by decide) (by decide)⟩
              · show Steps p.tables e below (s₁.setTop (mkF m 63 #[.val (.int x0), .val (.int x1), .val (.int (x0 % (16777216 : Int32))), .val (.int (x1 &&& (7 : Int32)))] [(.float (4286578687 : UInt32))])) _
                exact retOut X0 hx Bd.returns rfl (Or.inr (Or.inr (Or.inr (Or.inl ⟨rfl, rfl, _, rfl⟩)))) (hb hby dva_63) hr
              · show Qva Z x0 x1 h0 n0 _ s₁.heap _
                rw [e0]
                exact ⟨_, rfl, N0, rfl, own_v7 hc12 hc21 hc32 hc40 hc49 hc58⟩
            · have p13 : ∀ t, Steps p.tables e below (s₁.setTop (mkF m 66 #[.val (.int x0), .val (.int x1), .val (.int (x0 % (16777216 : Int32))), .val (.int (x1 &&& (7 : Int32)))] [(.float (FP.i2f (x0 % (16777216 : Int32))))])) t → Steps p.tables e below (s₁.setTop (entryFrame m #[(.int x0), (.int x1)] 4)) t := fun t k => p11 t (by
                show Steps p.tables e below (s₁.setTop (mkF m 58 #[.val (.int x0), .val (.int x1), .val (.int (x0 % (16777216 : Int32))), .val (.int (x1 &&& (7 : Int32)))] [(.int (7 : Int32)), (.int (x1 &&& (7 : Int32)))])) _
                refine XS.icmpYes X0.here hx rfl (pc0 := 58) (pc' := 64) rfl (hb hby dva_58) rfl ((feq (hc58)).2) (by decide) (by decide) ?_
                show Steps p.tables e below (s₁.setTop (mkF m 64 #[.val (.int x0), .val (.int x1), .val (.int (x0 % (16777216 : Int32))), .val (.int (x1 &&& (7 : Int32)))] [])) _
                refine XS.iloadN X0.here hx rfl (hb hby dva_64) rfl ?_
                show Steps p.tables e below (s₁.setTop (mkF m 65 #[.val (.int x0), .val (.int x1), .val (.int (x0 % (16777216 : Int32))), .val (.int (x1 &&& (7 : Int32)))] [(.int (x0 % (16777216 : Int32)))])) _
                refine XS.i2fS X0.here hx rfl (hb hby dva_65) rfl (v := (FP.i2f (x0 % (16777216 : Int32)))) rfl ?_
                exact k)
              obtain ⟨fs, hr, hrun, hended, hW, hsame⟩ := X0.leave (v := some (.float (FP.i2f (x0 % (16777216 : Int32))))) (fun h => by rw [Bd.returns] at h; cases h)
              refine ⟨_, _, p13 _ ?_, hrun, hended, _, _, rfl, ?_, ⟨_, rfl⟩, hW, hsame.mono (by decide) (by decide)⟩
              · show Steps p.tables e below (s₁.setTop (mkF m 66 #[.val (.int x0), .val (.int x1), .val (.int (x0 % (16777216 : Int32))), .val (.int (x1 &&& (7 : Int32)))] [(.float (FP.i2f (x0 % (16777216 : Int32))))])) _
                exact retOut X0 hx Bd.returns rfl (Or.inr (Or.inr (Or.inr (Or.inl ⟨rfl, rfl, _, rfl⟩)))) (hb hby dva_66) hr
              · show Qva Z x0 x1 h0 n0 _ s₁.heap _
                rw [e0]
                exact ⟨_, rfl, N0, rfl, own_v0 hc12 hc21 hc32 hc40 hc49 hc58⟩
theorem dke_0 : decode method_3_code 0 = .ok (.iload_n 0, 1) := by decide +kernel
theorem dke_1 : decode method_3_code 1 = .ok (.ldc 7, 2) := by decide +kernel
theorem dke_3 : decode method_3_code 3 = .ok (.irem, 1) := by decide +kernel
theorem dke_4 : decode method_3_code 4 = .ok (.i2l, 1) := by decide +kernel
theorem dke_5 : decode method_3_code 5 = .ok (.lstore_n 2, 1) := by decide +kernel
theorem dke_6 : decode method_3_code 6 = .ok (.iload_n 1, 1) := by decide +kernel
theorem dke_7 : decode method_3_code 7 = .ok (.bipush 7, 2) := by decide +kernel
theorem dke_9 : decode method_3_code 9 = .ok (.iand, 1) := by decide +kernel
theorem dke_10 : decode method_3_code 10 = .ok (.istore 4, 2) := by decide +kernel
theorem dke_12 : decode method_3_code 12 = .ok (.iload 4, 2) := by decide +kernel
theorem dke_14 : decode method_3_code 14 = .ok (.iconst 2, 1) := by decide +kernel
theorem dke_15 : decode method_3_code 15 = .ok (.if_icmp .ne 9, 3) := by decide +kernel
theorem dke_18 : decode method_3_code 18 = .ok (.ldc2_w 15, 3) := by decide +kernel
theorem dke_21 : decode method_3_code 21 = .ok (.lload_n 2, 1) := by decide +kernel
theorem dke_22 : decode method_3_code 22 = .ok (.lmul, 1) := by decide +kernel
theorem dke_23 : decode method_3_code 23 = .ok (.lreturn, 1) := by decide +kernel
theorem dke_24 : decode method_3_code 24 = .ok (.iload 4, 2) := by decide +kernel
theorem dke_26 : decode method_3_code 26 = .ok (.iconst 3, 1) := by decide +kernel
theorem dke_27 : decode method_3_code 27 = .ok (.if_icmp .ne 5, 3) := by decide +kernel
theorem dke_30 : decode method_3_code 30 = .ok (.lload_n 2, 1) := by decide +kernel
theorem dke_31 : decode method_3_code 31 = .ok (.lreturn, 1) := by decide +kernel
theorem dke_32 : decode method_3_code 32 = .ok (.iload 4, 2) := by decide +kernel
theorem dke_34 : decode method_3_code 34 = .ok (.iconst 4, 1) := by decide +kernel
theorem dke_35 : decode method_3_code 35 = .ok (.if_icmp .ne 7, 3) := by decide +kernel
theorem dke_38 : decode method_3_code 38 = .ok (.ldc2_w 19, 3) := by decide +kernel
theorem dke_41 : decode method_3_code 41 = .ok (.lreturn, 1) := by decide +kernel
theorem dke_42 : decode method_3_code 42 = .ok (.iload 4, 2) := by decide +kernel
theorem dke_44 : decode method_3_code 44 = .ok (.iconst 5, 1) := by decide +kernel
theorem dke_45 : decode method_3_code 45 = .ok (.if_icmp .ne 7, 3) := by decide +kernel
theorem dke_48 : decode method_3_code 48 = .ok (.ldc2_w 21, 3) := by decide +kernel
theorem dke_51 : decode method_3_code 51 = .ok (.lreturn, 1) := by decide +kernel
theorem dke_52 : decode method_3_code 52 = .ok (.iload 4, 2) := by decide +kernel
theorem dke_54 : decode method_3_code 54 = .ok (.bipush 6, 2) := by decide +kernel
theorem dke_56 : decode method_3_code 56 = .ok (.if_icmp .ne 7, 3) := by decide +kernel
theorem dke_59 : decode method_3_code 59 = .ok (.ldc2_w 23, 3) := by decide +kernel
theorem dke_62 : decode method_3_code 62 = .ok (.lreturn, 1) := by decide +kernel
theorem dke_63 : decode method_3_code 63 = .ok (.iload 4, 2) := by decide +kernel
theorem dke_65 : decode method_3_code 65 = .ok (.bipush 7, 2) := by decide +kernel
theorem dke_67 : decode method_3_code 67 = .ok (.if_icmp .ne 7, 3) := by decide +kernel
theorem dke_70 : decode method_3_code 70 = .ok (.ldc2_w 25, 3) := by decide +kernel
theorem dke_73 : decode method_3_code 73 = .ok (.lreturn, 1) := by decide +kernel
theorem dke_74 : decode method_3_code 74 = .ok (.ldc2_w 27, 3) := by decide +kernel
theorem dke_77 : decode method_3_code 77 = .ok (.lload_n 2, 1) := by decide +kernel
theorem dke_78 : decode method_3_code 78 = .ok (.lmul, 1) := by decide +kernel
theorem dke_79 : decode method_3_code 79 = .ok (.lreturn, 1) := by decide +kernel
theorem pnke : plainName "com/example/kalchas/kalchas/io/RunOrderCompareScoresPinLaw" = true := by first | (simp [plainName, overriddenIn]; done) | decide +kernel
theorem efke (m : MethodId) (x0 : Int32) (x1 : Int32) : entryFrame m #[(.int x0), (.int x1)] 5 = mkF m 0 #[.val (.int x0), .val (.int x1), .unset, .unset, .unset] [] := by first | (simp [entryFrame, mkF, argsToLocals, Value.category]; done) | rfl
def Qke (Z : State) (x0 : Int32) (x1 : Int32) (h0 : Heap) (n0 : Nat) (v : Option Value) (h : Heap) (L : List Loc) : Prop := v = some (.long (own_K x0 x1)) ∧ Fr n0 L ∧ h = h0
set_option maxRecDepth 65536 in
set_option maxHeartbeats 40000000 in
theorem rmke (l : Launch) (Z : State) (a0 : Array Value) (hw : ∀ d ∈ tables_1, d.before a0 Z = true) (ws : List Jvm.Cond) (x0 : Int32) (x1 : Int32) (h0 : Heap) (n0 : Nat) (Z0 : n0 ≤ h0.size) :
    MetFree l (⟨"com/example/kalchas/kalchas/io/RunOrderCompareScoresPinLaw", "key", "(II)J"⟩ : MethodName) (head1 (Jvm.Cond.code (⟨"com/example/kalchas/kalchas/io/RunOrderCompareScoresPinLaw", "key", "(II)J"⟩ : MethodName) method_3_code 5 (some .long) :: ws) ({ frames := 0, cells := 0, slots := 0, locals := 0 } : Room)) (fun a U => a = #[(.int x0), (.int x1)] ∧ Z.Warmed39 U.vm ∧ U.heap = h0) (fun _ _ _ _ _ => True) (fun _ U o U' => ∃ v L, o = .returned v ∧ Qke Z x0 x1 h0 n0 v U'.heap L ∧ FrameEnd U o U' L ({ frames := 0, cells := 0, slots := 0, locals := 0 } : Room).cells ({ frames := 0, cells := 0, slots := 0, locals := 0 } : Room).slots) := by
  refine MetFree.of_bodySF (plainFor_of_name pnke) hisR ?_
  intro p e s m args below meth c s₁ Bd hml0 hP hK
  obtain ⟨rfl, hZ, hh⟩ := hP
  have hx := Bd.exec
  have hby := Bd.bytes
  have hml : c.maxLocals = 5 := hml0
  have hown : s.vm.findClass "com/example/kalchas/kalchas/io/RunOrderCompareScoresPinLaw" = some m.cls := findClass_of_methodNamed Bd.named
  have hnm := (name_of_methodNamed Bd.named Bd.method).1
  have X0 : Stand p l e ({ frames := 0, cells := 0, slots := 0, locals := 0 } : Room) s m #[(.int x0), (.int x1)] below meth c s₁ [] 0 0 := Stand.of_body Bd
  have e0 : s₁.heap = h0 := by rw [← hh, Bd.state]; rfl
  have N0 := Fr.nil n0
  have pre0 : ∀ t, Steps p.tables e below (s₁.setTop (mkF m 0 #[.val (.int x0), .val (.int x1), .unset, .unset, .unset] [])) t → Steps p.tables e below (s₁.setTop (entryFrame m #[(.int x0), (.int x1)] 5)) t := fun t k => castTop (efke m x0 x1) k
  have p1 : ∀ t, Steps p.tables e below (s₁.setTop (mkF m 15 #[.val (.int x0), .val (.int x1), .val (.long ((x0 % (16777216 : Int32)).toInt64)), .second, .val (.int (x1 &&& (7 : Int32)))] [(.int (2 : Int32)), (.int (x1 &&& (7 : Int32)))])) t → Steps p.tables e below (s₁.setTop (entryFrame m #[(.int x0), (.int x1)] 5)) t := fun t k => pre0 t (by
    show Steps p.tables e below (s₁.setTop (mkF m 0 #[.val (.int x0), .val (.int x1), .unset, .unset, .unset] [])) _
    refine XS.iloadN X0.here hx rfl (hb hby dke_0) rfl ?_
    show Steps p.tables e below (s₁.setTop (mkF m 1 #[.val (.int x0), .val (.int x1), .unset, .unset, .unset] [(.int x0)])) _
    refine X0.ldcInt hx hown (mvT hZ (hw _ (List.mem_of_getElem? (i := 4) rfl))) (g := (mkF m 1 #[.val (.int x0), .val (.int x1), .unset, .unset, .unset] [(.int x0)])) rfl (hb hby dke_1) _ ?_
    show Steps p.tables e below (s₁.setTop (mkF m 3 #[.val (.int x0), .val (.int x1), .unset, .unset, .unset] [(.int (16777216 : Int32)), (.int x0)])) _
    refine iremM X0 hx rfl (hb hby dke_3) rfl (by decide) ?_
    show Steps p.tables e below (s₁.setTop (mkF m 4 #[.val (.int x0), .val (.int x1), .unset, .unset, .unset] [(.int (x0 % (16777216 : Int32)))])) _
    refine XS.i2l X0.here hx rfl (hb hby dke_4) rfl ?_
    show Steps p.tables e below (s₁.setTop (mkF m 5 #[.val (.int x0), .val (.int x1), .unset, .unset, .unset] [(.long ((x0 % (16777216 : Int32)).toInt64))])) _
    refine XS.lstoreN X0.here hx rfl (hb hby dke_5) rfl (l' := #[.val (.int x0), .val (.int x1), .val (.long ((x0 % (16777216 : Int32)).toInt64)), .second, .unset]) rfl ?_
    show Steps p.tables e below (s₁.setTop (mkF m 6 #[.val (.int x0), .val (.int x1), .val (.long ((x0 % (16777216 : Int32)).toInt64)), .second, .unset] [])) _
    refine XS.iloadN X0.here hx rfl (hb hby dke_6) rfl ?_
    show Steps p.tables e below (s₁.setTop (mkF m 7 #[.val (.int x0), .val (.int x1), .val (.long ((x0 % (16777216 : Int32)).toInt64)), .second, .unset] [(.int x1)])) _
    refine XS.bipush X0.here hx rfl (hb hby dke_7) ?_
    show Steps p.tables e below (s₁.setTop (mkF m 9 #[.val (.int x0), .val (.int x1), .val (.long ((x0 % (16777216 : Int32)).toInt64)), .second, .unset] [(.int (7 : Int32)), (.int x1)])) _
    refine XS.iand X0.here hx rfl (hb hby dke_9) rfl ?_
    show Steps p.tables e below (s₁.setTop (mkF m 10 #[.val (.int x0), .val (.int x1), .val (.long ((x0 % (16777216 : Int32)).toInt64)), .second, .unset] [(.int (x1 &&& (7 : Int32)))])) _
    refine XS.istore X0.here hx rfl (hb hby dke_10) rfl (l' := #[.val (.int x0), .val (.int x1), .val (.long ((x0 % (16777216 : Int32)).toInt64)), .second, .val (.int (x1 &&& (7 : Int32)))]) rfl ?_
    show Steps p.tables e below (s₁.setTop (mkF m 12 #[.val (.int x0), .val (.int x1), .val (.long ((x0 % (16777216 : Int32)).toInt64)), .second, .val (.int (x1 &&& (7 : Int32)))] [])) _
    refine XS.iload X0.here hx rfl (hb hby dke_12) rfl ?_
    show Steps p.tables e below (s₁.setTop (mkF m 14 #[.val (.int x0), .val (.int x1), .val (.long ((x0 % (16777216 : Int32)).toInt64)), .second, .val (.int (x1 &&& (7 : Int32)))] [(.int (x1 &&& (7 : Int32)))])) _
    refine XS.iconst X0.here hx rfl (hb hby dke_14) ?_
    exact k)
  by_cases hc15 : (x1 &&& (7 : Int32)) = (2 : Int32)
  · have p2 : ∀ t, Steps p.tables e below (s₁.setTop (mkF m 23 #[.val (.int x0), .val (.int x1), .val (.long ((x0 % (16777216 : Int32)).toInt64)), .second, .val (.int (x1 &&& (7 : Int32)))] [(.long ((-2 : Int64) * ((x0 % (16777216 : Int32)).toInt64)))])) t → Steps p.tables e below (s₁.setTop (entryFrame m #[(.int x0), (.int x1)] 5)) t := fun t k => p1 t (by
      show Steps p.tables e below (s₁.setTop (mkF m 15 #[.val (.int x0), .val (.int x1), .val (.long ((x0 % (16777216 : Int32)).toInt64)), .second, .val (.int (x1 &&& (7 : Int32)))] [(.int (2 : Int32)), (.int (x1 &&& (7 : Int32)))])) _
      refine XS.icmpNo X0.here hx rfl (hb hby dke_15) rfl ((teq (hc15)).2) ?_
      show Steps p.tables e below (s₁.setTop (mkF m 18 #[.val (.int x0), .val (.int x1), .val (.long ((x0 % (16777216 : Int32)).toInt64)), .second, .val (.int (x1 &&& (7 : Int32)))] [])) _
      refine X0.ldc2Long hx hown (mvT hZ (hw _ (List.mem_of_getElem? (i := 14) rfl))) (g := (mkF m 18 #[.val (.int x0), .val (.int x1), .val (.long ((x0 % (16777216 : Int32)).toInt64)), .second, .val (.int (x1 &&& (7 : Int32)))] [])) rfl (hb hby dke_18) _ ?_
      show Steps p.tables e below (s₁.setTop (mkF m 21 #[.val (.int x0), .val (.int x1), .val (.long ((x0 % (16777216 : Int32)).toInt64)), .second, .val (.int (x1 &&& (7 : Int32)))] [(.long (-2 : Int64))])) _
      refine XS.lloadN X0.here hx rfl (hb hby dke_21) rfl ?_
      show Steps p.tables e below (s₁.setTop (mkF m 22 #[.val (.int x0), .val (.int x1), .val (.long ((x0 % (16777216 : Int32)).toInt64)), .second, .val (.int (x1 &&& (7 : Int32)))] [(.long ((x0 % (16777216 : Int32)).toInt64)), (.long (-2 : Int64))])) _
      refine XS.lmul X0.here hx rfl (hb hby dke_22) rfl ?_
      exact k)
    obtain ⟨fs, hr, hrun, hended, hW, hsame⟩ := X0.leave (v := some (.long ((-2 : Int64) * ((x0 % (16777216 : Int32)).toInt64)))) (fun h => by rw [Bd.returns] at h; cases h)
    refine ⟨_, _, p2 _ ?_, hrun, hended, _, _, rfl, ?_, ⟨_, rfl⟩, hW, hsame.mono (by decide) (by decide)⟩
    · show Steps p.tables e below (s₁.setTop (mkF m 23 #[.val (.int x0), .val (.int x1), .val (.long ((x0 % (16777216 : Int32)).toInt64)), .second, .val (.int (x1 &&& (7 : Int32)))] [(.long ((-2 : Int64) * ((x0 % (16777216 : Int32)).toInt64)))])) _
      exact retOut X0 hx Bd.returns rfl (Or.inr (Or.inl ⟨rfl, rfl, _, rfl⟩)) (hb hby dke_23) hr
    · show Qke Z x0 x1 h0 n0 _ s₁.heap _
      rw [e0]
      exact ⟨congrArg (fun z => some (Value.long z)) (by unfold own_K; rw [if_pos hc15]), N0, rfl⟩
  · have p3 : ∀ t, Steps p.tables e below (s₁.setTop (mkF m 27 #[.val (.int x0), .val (.int x1), .val (.long ((x0 % (16777216 : Int32)).toInt64)), .second, .val (.int (x1 &&& (7 : Int32)))] [(.int (3 : Int32)), (.int (x1 &&& (7 : Int32)))])) t → Steps p.tables e below (s₁.setTop (entryFrame m #[(.int x0), (.int x1)] 5)) t := fun t k => p1 t (by
      show Steps p.tables e below (s₁.setTop (mkF m 15 #[.val (.int x0), .val (.int x1), .val (.long ((x0 % (16777216 : Int32)).toInt64)), .second, .val (.int (x1 &&& (7 : Int32)))] [(.int (2 : Int32)), (.int (x1 &&& (7 : Int32)))])) _
      refine XS.icmpYes X0.here hx rfl (pc0 := 15) (pc' := 24) rfl (hb hby dke_15) rfl ((feq (hc15)).2) (by decide) (by decide) ?_
      show Steps p.tables e below (s₁.setTop (mkF m 24 #[.val (.int x0), .val (.int x1), .val (.long ((x0 % (16777216 : Int32)).toInt64)), .second, .val (.int (x1 &&& (7 : Int32)))] [])) _
      refine XS.iload X0.here hx rfl (hb hby dke_24) rfl ?_
      show Steps p.tables e below (s₁.setTop (mkF m 26 #[.val (.int x0), .val (.int x1), .val (.long ((x0 % (16777216 : Int32)).toInt64)), .second, .val (.int (x1 &&& (7 : Int32)))] [(.int (x1 &&& (7 : Int32)))])) _
      refine XS.iconst X0.here hx rfl (hb hby dke_26) ?_
      exact k)
    by_cases hc27 : (x1 &&& (7 : Int32)) = (3 : Int32)
    · have p4 : ∀ t, Steps p.tables e below (s₁.setTop (mkF m 31 #[.val (.int x0), .val (.int x1), .val (.long ((x0 % (16777216 : Int32)).toInt64)), .second, .val (.int (x1 &&& (7 : Int32)))] [(.long ((x0 % (16777216 : Int32)).toInt64))])) t → Steps p.tables e below (s₁.setTop (entryFrame m #[(.int x0), (.int x1)] 5)) t := fun t k => p3 t (by
        show Steps p.tables e below (s₁.setTop (mkF m 27 #[.val (.int x0), .val (.int x1), .val (.long ((x0 % (16777216 : Int32)).toInt64)), .second, .val (.int (x1 &&& (7 : Int32)))] [(.int (3 : Int32)), (.int (x1 &&& (7 : Int32)))])) _
        refine XS.icmpNo X0.here hx rfl (hb hby dke_27) rfl ((teq (hc27)).2) ?_
        show Steps p.tables e below (s₁.setTop (mkF m 30 #[.val (.int x0), .val (.int x1), .val (.long ((x0 % (16777216 : Int32)).toInt64)), .second, .val (.int (x1 &&& (7 : Int32)))] [])) _
        refine XS.lloadN X0.here hx rfl (hb hby dke_30) rfl ?_
        exact k)
      obtain ⟨fs, hr, hrun, hended, hW, hsame⟩ := X0.leave (v := some (.long ((x0 % (16777216 : Int32)).toInt64))) (fun h => by rw [Bd.returns] at h; cases h)
      refine ⟨_, _, p4 _ ?_, hrun, hended, _, _, rfl, ?_, ⟨_, rfl⟩, hW, hsame.mono (by decide) (by decide)⟩
      · show Steps p.tables e below (s₁.setTop (mkF m 31 #[.val (.int x0), .val (.int x1), .val (.long ((x0 % (16777216 : Int32)).toInt64)), .second, .val (.int (x1 &&& (7 : Int32)))] [(.long ((x0 % (16777216 : Int32)).toInt64))])) _
        exact retOut X0 hx Bd.returns rfl (Or.inr (Or.inl ⟨rfl, rfl, _, rfl⟩)) (hb hby dke_31) hr
      · show Qke Z x0 x1 h0 n0 _ s₁.heap _
        rw [e0]
        exact ⟨congrArg (fun z => some (Value.long z)) (by unfold own_K; rw [if_neg hc15, if_pos hc27]), N0, rfl⟩
    · have p5 : ∀ t, Steps p.tables e below (s₁.setTop (mkF m 35 #[.val (.int x0), .val (.int x1), .val (.long ((x0 % (16777216 : Int32)).toInt64)), .second, .val (.int (x1 &&& (7 : Int32)))] [(.int (4 : Int32)), (.int (x1 &&& (7 : Int32)))])) t → Steps p.tables e below (s₁.setTop (entryFrame m #[(.int x0), (.int x1)] 5)) t := fun t k => p3 t (by
        show Steps p.tables e below (s₁.setTop (mkF m 27 #[.val (.int x0), .val (.int x1), .val (.long ((x0 % (16777216 : Int32)).toInt64)), .second, .val (.int (x1 &&& (7 : Int32)))] [(.int (3 : Int32)), (.int (x1 &&& (7 : Int32)))])) _
        refine XS.icmpYes X0.here hx rfl (pc0 := 27) (pc' := 32) rfl (hb hby dke_27) rfl ((feq (hc27)).2) (by decide) (by decide) ?_
        show Steps p.tables e below (s₁.setTop (mkF m 32 #[.val (.int x0), .val (.int x1), .val (.long ((x0 % (16777216 : Int32)).toInt64)), .second, .val (.int (x1 &&& (7 : Int32)))] [])) _
        refine XS.iload X0.here hx rfl (hb hby dke_32) rfl ?_
        show Steps p.tables e below (s₁.setTop (mkF m 34 #[.val (.int x0), .val (.int x1), .val (.long ((x0 % (16777216 : Int32)).toInt64)), .second, .val (.int (x1 &&& (7 : Int32)))] [(.int (x1 &&& (7 : Int32)))])) _
        refine XS.iconst X0.here hx rfl (hb hby dke_34) ?_
        exact k)
      by_cases hc35 : (x1 &&& (7 : Int32)) = (4 : Int32)
      · have p6 : ∀ t, Steps p.tables e below (s₁.setTop (mkF m 41 #[.val (.int x0), .val (.int x1), .val (.long ((x0 % (16777216 : Int32)).toInt64)), .second, .val (.int (x1 &&& (7 : Int32)))] [(.long (9223372036854775807 : Int64))])) t → Steps p.tables e below (s₁.setTop (entryFrame m #[(.int x0), (.int x1)] 5)) t := fun t k => p5 t (by
          show Steps p.tables e below (s₁.setTop (mkF m 35 #[.val (.int x0), .val (.int x1), .val (.long ((x0 % (16777216 : Int32)).toInt64)), .second, .val (.int (x1 &&& (7 : Int32)))] [(.int (4 : Int32)), (.int (x1 &&& (7 : Int32)))])) _
          refine XS.icmpNo X0.here hx rfl (hb hby dke_35) rfl ((teq (hc35)).2) ?_
          show Steps p.tables e below (s₁.setTop (mkF m 38 #[.val (.int x0), .val (.int x1), .val (.long ((x0 % (16777216 : Int32)).toInt64)), .second, .val (.int (x1 &&& (7 : Int32)))] [])) _
          refine X0.ldc2Long hx hown (mvT hZ (hw _ (List.mem_of_getElem? (i := 22) rfl))) (g := (mkF m 38 #[.val (.int x0), .val (.int x1), .val (.long ((x0 % (16777216 : Int32)).toInt64)), .second, .val (.int (x1 &&& (7 : Int32)))] [])) rfl (hb hby dke_38) _ ?_
          exact k)
        obtain ⟨fs, hr, hrun, hended, hW, hsame⟩ := X0.leave (v := some (.long (9223372036854775807 : Int64))) (fun h => by rw [Bd.returns] at h; cases h)
        refine ⟨_, _, p6 _ ?_, hrun, hended, _, _, rfl, ?_, ⟨_, rfl⟩, hW, hsame.mono (by decide) (by decide)⟩
        · show Steps p.tables e below (s₁.setTop (mkF m 41 #[.val (.int x0), .val (.int x1), .val (.long ((x0 % (16777216 : Int32)).toInt64)), .second, .val (.int (x1 &&& (7 : Int32)))] [(.long (9223372036854775807 : Int64))])) _
          exact retOut X0 hx Bd.returns rfl (Or.inr (Or.inl ⟨rfl, rfl, _, rfl⟩)) (hb hby dke_41) hr
        · show Qke Z x0 x1 h0 n0 _ s₁.heap _
          rw [e0]
          exact ⟨congrArg (fun z => some (Value.long z)) (by unfold own_K; rw [if_neg hc15, if_neg hc27, if_pos hc35]), N0, rfl⟩
      · have p7 : ∀ t, Steps p.tables e below (s₁.setTop (mkF m 45 #[.val (.int x0), .val (.int x1), .val (.long ((x0 % (16777216 : Int32)).toInt64)), .second, .val (.int (x1 &&& (7 : Int32)))] [(.int (5 : Int32)), (.int (x1 &&& (7 : Int32)))])) t → Steps p.tables e below (s₁.setTop (entryFrame m #[(.int x0), (.int x1)] 5)) t := fun t k => p5 t (by
          show Steps p.tables e below (s₁.setTop (mkF m 35 #[.val (.int x0), .val (.int x1), .val (.long ((x0 % (16777216 : Int32)).toInt64)), .second, .val (.int (x1 &&& (7 : Int32)))] [(.int (4 : Int32)), (.int (x1 &&& (7 : Int32)))])) _
          refine XS.icmpYes X0.here hx rfl (pc0 := 35) (pc' := 42) rfl (hb hby dke_35) rfl ((feq (hc35)).2) (by decide) (by decide) ?_
          show Steps p.tables e below (s₁.setTop (mkF m 42 #[.val (.int x0), .val (.int x1), .val (.long ((x0 % (16777216 : Int32)).toInt64)), .second, .val (.int (x1 &&& (7 : Int32)))] [])) _
          refine XS.iload X0.here hx rfl (hb hby dke_42) rfl ?_
          show Steps p.tables e below (s₁.setTop (mkF m 44 #[.val (.int x0), .val (.int x1), .val (.long ((x0 % (16777216 : Int32)).toInt64)), .second, .val (.int (x1 &&& (7 : Int32)))] [(.int (x1 &&& (7 : Int32)))])) _
          refine XS.iconst X0.here hx rfl (hb hby dke_44) ?_
          exact k)
        by_cases hc45 : (x1 &&& (7 : Int32)) = (5 : Int32)
        · have p8 : ∀ t, Steps p.tables e below (s₁.setTop (mkF m 51 #[.val (.int x0), .val (.int x1), .val (.long ((x0 % (16777216 : Int32)).toInt64)), .second, .val (.int (x1 &&& (7 : Int32)))] [(.long (-9223372036854775808 : Int64))])) t → Steps p.tables e below (s₁.setTop (entryFrame m #[(.int x0), (.int x1)] 5)) t := fun t k => p7 t (by
            show Steps p.tables e below (s₁.setTop (mkF m 45 #[.val (.int x0), .val (.int x1), .val (.long ((x0 % (16777216 : Int32)).toInt64)), .second, .val (.int (x1 &&& (7 : Int32)))] [(.int (5 : Int32)), (.int (x1 &&& (7 : Int32)))])) _
            refine XS.icmpNo X0.here hx rfl (hb hby dke_45) rfl ((teq (hc45)).2) ?_
            show Steps p.tables e below (s₁.setTop (mkF m 48 #[.val (.int x0), .val (.int x1), .val (.long ((x0 % (16777216 : Int32)).toInt64)), .second, .val (.int (x1 &&& (7 : Int32)))] [])) _
            refine X0.ldc2Long hx hown (mvT hZ (hw _ (List.mem_of_getElem? (i := 21) rfl))) (g := (mkF m 48 #[.val (.int x0), .val (.int x1), .val (.long ((x0 % (16777216 : Int32)).toInt64)), .second, .val (.int (x1 &&& (7 : Int32)))] [])) rfl (hb hby dke_48) _ ?_
            exact k)
          obtain ⟨fs, hr, hrun, hended, hW, hsame⟩ := X0.leave (v := some (.long (-9223372036854775808 : Int64))) (fun h => by rw [Bd.returns] at h; cases h)
          refine ⟨_, _, p8 _ ?_, hrun, hended, _, _, rfl, ?_, ⟨_, rfl⟩, hW, hsame.mono (by decide) (by decide)⟩
          · show Steps p.tables e below (s₁.setTop (mkF m 51 #[.val (.int x0), .val (.int x1), .val (.long ((x0 % (16777216 : Int32)).toInt64)), .second, .val (.int (x1 &&& (7 : Int32)))] [(.long (-9223372036854775808 : Int64))])) _
            exact retOut X0 hx Bd.returns rfl (Or.inr (Or.inl ⟨rfl, rfl, _, rfl⟩)) (hb hby dke_51) hr
          · show Qke Z x0 x1 h0 n0 _ s₁.heap _
            rw [e0]
            exact ⟨congrArg (fun z => some (Value.long z)) (by unfold own_K; rw [if_neg hc15, if_neg hc27, if_neg hc35, if_pos hc45]), N0, rfl⟩
        · have p9 : ∀ t, Steps p.tables e below (s₁.setTop (mkF m 56 #[.val (.int x0), .val (.int x1), .val (.long ((x0 % (16777216 : Int32)).toInt64)), .second, .val (.int (x1 &&& (7 : Int32)))] [(.int (6 : Int32)), (.int (x1 &&& (7 : Int32)))])) t → Steps p.tables e below (s₁.setTop (entryFrame m #[(.int x0), (.int x1)] 5)) t := fun t k => p7 t (by
            show Steps p.tables e below (s₁.setTop (mkF m 45 #[.val (.int x0), .val (.int x1), .val (.long ((x0 % (16777216 : Int32)).toInt64)), .second, .val (.int (x1 &&& (7 : Int32)))] [(.int (5 : Int32)), (.int (x1 &&& (7 : Int32)))])) _
            refine XS.icmpYes X0.here hx rfl (pc0 := 45) (pc' := 52) rfl (hb hby dke_45) rfl ((feq (hc45)).2) (by decide) (by decide) ?_
            show Steps p.tables e below (s₁.setTop (mkF m 52 #[.val (.int x0), .val (.int x1), .val (.long ((x0 % (16777216 : Int32)).toInt64)), .second, .val (.int (x1 &&& (7 : Int32)))] [])) _
            refine XS.iload X0.here hx rfl (hb hby dke_52) rfl ?_
            show Steps p.tables e below (s₁.setTop (mkF m 54 #[.val (.int x0), .val (.int x1), .val (.long ((x0 % (16777216 : Int32)).toInt64)), .second, .val (.int (x1 &&& (7 : Int32)))] [(.int (x1 &&& (7 : Int32)))])) _
            refine XS.bipush X0.here hx rfl (hb hby dke_54) ?_
            exact k)
          by_cases hc56 : (x1 &&& (7 : Int32)) = (6 : Int32)
          · have p10 : ∀ t, Steps p.tables e below (s₁.setTop (mkF m 62 #[.val (.int x0), .val (.int x1), .val (.long ((x0 % (16777216 : Int32)).toInt64)), .second, .val (.int (x1 &&& (7 : Int32)))] [(.long (9223372036854775806 : Int64))])) t → Steps p.tables e below (s₁.setTop (entryFrame m #[(.int x0), (.int x1)] 5)) t := fun t k => p9 t (by
              show Steps p.tables e below (s₁.setTop (mkF m 56 #[.val (.int x0), .val (.int x1), .val (.long ((x0 % (16777216 : Int32)).toInt64)), .second, .val (.int (x1 &&& (7 : Int32)))] [(.int (6 : Int32)), (.int (x1 &&& (7 : Int32)))])) _
              refine XS.icmpNo X0.here hx rfl (hb hby dke_56) rfl ((teq (hc56)).2) ?_
              show Steps p.tables e below (s₁.setTop (mkF m 59 #[.val (.int x0), .val (.int x1), .val (.long ((x0 % (16777216 : Int32)).toInt64)), .second, .val (.int (x1 &&& (7 : Int32)))] [])) _
              refine X0.ldc2Long hx hown (mvT hZ (hw _ (List.mem_of_getElem? (i := 18) rfl))) (g := (mkF m 59 #[.val (.int x0), .val (.int x1), .val (.long ((x0 % (16777216 : Int32)).toInt64)), .second, .val (.int (x1 &&& (7 : Int32)))] [])) rfl (hb hby dke_59) _ ?_
              exact k)
            obtain ⟨fs, hr, hrun, hended, hW, hsame⟩ := X0.leave (v := some (.long (9223372036854775806 : Int64))) (fun h => by rw [Bd.returns] at h; cases h)
            refine ⟨_, _, p10 _ ?_, hrun, hended, _, _, rfl, ?_, ⟨_, rfl⟩, hW, hsame.mono (by decide) (by decide)⟩
            · show Steps p.tables e below (s₁.setTop (mkF m 62 #[.val (.int x0), .val (.int x1), .val (.long ((x0 % (16777216 : Int32)).toInt64)), .second, .val (.int (x1 &&& (7 : Int32)))] [(.long (9223372036854775806 : Int64))])) _
              exact retOut X0 hx Bd.returns rfl (Or.inr (Or.inl ⟨rfl, rfl, _, rfl⟩)) (hb hby dke_62) hr
            · show Qke Z x0 x1 h0 n0 _ s₁.heap _
              rw [e0]
              exact ⟨congrArg (fun z => some (Value.long z)) (by unfold own_K; rw [if_neg hc15, if_neg hc27, if_neg hc35, if_neg hc45, if_pos hc56]), N0, rfl⟩
          · have p11 : ∀ t, Steps p.tables e below (s₁.setTop (mkF m 67 #[.val (.int x0), .val (.int x1), .val (.long ((x0 % (16777216 : Int32)).toInt64)), .second, .val (.int (x1 &&& (7 : Int32)))] [(.int (7 : Int32)), (.int (x1 &&& (7 : Int32)))])) t → Steps p.tables e below (s₁.setTop (entryFrame m #[(.int x0), (.int x1)] 5)) t := fun t k => p9 t (by
              show Steps p.tables e below (s₁.setTop (mkF m 56 #[.val (.int x0), .val (.int x1), .val (.long ((x0 % (16777216 : Int32)).toInt64)), .second, .val (.int (x1 &&& (7 : Int32)))] [(.int (6 : Int32)), (.int (x1 &&& (7 : Int32)))])) _
              refine XS.icmpYes X0.here hx rfl (pc0 := 56) (pc' := 63) rfl (hb hby dke_56) rfl ((feq (hc56)).2) (by decide) (by decide) ?_
              show Steps p.tables e below (s₁.setTop (mkF m 63 #[.val (.int x0), .val (.int x1), .val (.long ((x0 % (16777216 : Int32)).toInt64)), .second, .val (.int (x1 &&& (7 : Int32)))] [])) _
              refine XS.iload X0.here hx rfl (hb hby dke_63) rfl ?_
              show Steps p.tables e below (s₁.setTop (mkF m 65 #[.val (.int x0), .val (.int x1), .val (.long ((x0 % (16777216 : Int32)).toInt64)), .second, .val (.int (x1 &&& (7 : Int32)))] [(.int (x1 &&& (7 : Int32)))])) _
              refine XS.bipush X0.here hx rfl (hb hby dke_65) ?_
              exact k)
            by_cases hc67 : (x1 &&& (7 : Int32)) = (7 : Int32)
            · have p12 : ∀ t, Steps p.tables e below (s₁.setTop (mkF m 73 #[.val (.int x0), .val (.int x1), .val (.long ((x0 % (16777216 : Int32)).toInt64)), .second, .val (.int (x1 &&& (7 : Int32)))] [(.long (-9223372036854775807 : Int64))])) t → Steps p.tables e below (s₁.setTop (entryFrame m #[(.int x0), (.int x1)] 5)) t := fun t k => p11 t (by
                show Steps p.tables e below (s₁.setTop (mkF m 67 #[.val (.int x0), .val (.int x1), .val (.long ((x0 % (16777216 : Int32)).toInt64)), .second, .val (.int (x1 &&& (7 : Int32)))] [(.int (7 : Int32)), (.int (x1 &&& (7 : Int32)))])) _
                refine XS.icmpNo X0.here hx rfl (hb hby dke_67) rfl ((teq (hc67)).2) ?_
                show Steps p.tables e below (s₁.setTop (mkF m 70 #[.val (.int x0), .val (.int x1), .val (.long ((x0 % (16777216 : Int32)).toInt64)), .second, .val (.int (x1 &&& (7 : Int32)))] [])) _
                refine X0.ldc2Long hx hown (mvT hZ (hw _ (List.mem_of_getElem? (i := 16) rfl))) (g := (mkF m 70 #[.val (.int x0), .val (.int x1), .val (.long ((x0 % (16777216 : Int32)).toInt64)), .second, .val (.int (x1 &&& (7 : Int32)))] [])) rfl (hb hby dke_70) _ ?_
                exact k)
              obtain ⟨fs, hr, hrun, hended, hW, hsame⟩ := X0.leave (v := some (.long (-9223372036854775807 : Int64))) (fun h => by rw [Bd.returns] at h; cases h)
              refine ⟨_, _, p12 _ ?_, hrun, hended, _, _, rfl, ?_, ⟨_, rfl⟩, hW, hsame.mono (by decide) (by decide)⟩
              · show Steps p.tables e below (s₁.setTop (mkF m 73 #[.val (.int x0), .val (.int x1), .val (.long ((x0 % (16777216 : Int32)).toInt64)), .second, .val (.int (x1 &&& (7 : Int32)))] [(.long (-9223372036854775807 : Int64))])) _
                exact retOut X0 hx Bd.returns rfl (Or.inr (Or.inl ⟨rfl, rfl, _, rfl⟩)) (hb hby dke_73) hr
              · show Qke Z x0 x1 h0 n0 _ s₁.heap _
                rw [e0]
                exact ⟨congrArg (fun z => some (Value.long z)) (by unfold own_K; rw [if_neg hc15, if_neg hc27, if_neg hc35, if_neg hc45, if_neg hc56, if_pos hc67]), N0, rfl⟩
            · have p13 : ∀ t, Steps p.tables e below (s₁.setTop (mkF m 79 #[.val (.int x0), .val (.int x1), .val (.long ((x0 % (16777216 : Int32)).toInt64)), .second, .val (.int (x1 &&& (7 : Int32)))] [(.long ((2 : Int64) * ((x0 % (16777216 : Int32)).toInt64)))])) t → Steps p.tables e below (s₁.setTop (entryFrame m #[(.int x0), (.int x1)] 5)) t := fun t k => p11 t (by
                show Steps p.tables e below (s₁.setTop (mkF m 67 #[.val (.int x0), .val (.int x1), .val (.long ((x0 % (16777216 : Int32)).toInt64)), .second, .val (.int (x1 &&& (7 : Int32)))] [(.int (7 : Int32)), (.int (x1 &&& (7 : Int32)))])) _
                refine XS.icmpYes X0.here hx rfl (pc0 := 67) (pc' := 74) rfl (hb hby dke_67) rfl ((feq (hc67)).2) (by decide) (by decide) ?_
                show Steps p.tables e below (s₁.setTop (mkF m 74 #[.val (.int x0), .val (.int x1), .val (.long ((x0 % (16777216 : Int32)).toInt64)), .second, .val (.int (x1 &&& (7 : Int32)))] [])) _
                refine X0.ldc2Long hx hown (mvT hZ (hw _ (List.mem_of_getElem? (i := 9) rfl))) (g := (mkF m 74 #[.val (.int x0), .val (.int x1), .val (.long ((x0 % (16777216 : Int32)).toInt64)), .second, .val (.int (x1 &&& (7 : Int32)))] [])) rfl (hb hby dke_74) _ ?_
                show Steps p.tables e below (s₁.setTop (mkF m 77 #[.val (.int x0), .val (.int x1), .val (.long ((x0 % (16777216 : Int32)).toInt64)), .second, .val (.int (x1 &&& (7 : Int32)))] [(.long (2 : Int64))])) _
                refine XS.lloadN X0.here hx rfl (hb hby dke_77) rfl ?_
                show Steps p.tables e below (s₁.setTop (mkF m 78 #[.val (.int x0), .val (.int x1), .val (.long ((x0 % (16777216 : Int32)).toInt64)), .second, .val (.int (x1 &&& (7 : Int32)))] [(.long ((x0 % (16777216 : Int32)).toInt64)), (.long (2 : Int64))])) _
                refine XS.lmul X0.here hx rfl (hb hby dke_78) rfl ?_
                exact k)
              obtain ⟨fs, hr, hrun, hended, hW, hsame⟩ := X0.leave (v := some (.long ((2 : Int64) * ((x0 % (16777216 : Int32)).toInt64)))) (fun h => by rw [Bd.returns] at h; cases h)
              refine ⟨_, _, p13 _ ?_, hrun, hended, _, _, rfl, ?_, ⟨_, rfl⟩, hW, hsame.mono (by decide) (by decide)⟩
              · show Steps p.tables e below (s₁.setTop (mkF m 79 #[.val (.int x0), .val (.int x1), .val (.long ((x0 % (16777216 : Int32)).toInt64)), .second, .val (.int (x1 &&& (7 : Int32)))] [(.long ((2 : Int64) * ((x0 % (16777216 : Int32)).toInt64)))])) _
                exact retOut X0 hx Bd.returns rfl (Or.inr (Or.inl ⟨rfl, rfl, _, rfl⟩)) (hb hby dke_79) hr
              · show Qke Z x0 x1 h0 n0 _ s₁.heap _
                rw [e0]
                exact ⟨congrArg (fun z => some (Value.long z)) (by unfold own_K; rw [if_neg hc15, if_neg hc27, if_neg hc35, if_neg hc45, if_neg hc56, if_neg hc67]), N0, rfl⟩
theorem dgt_0 : decode prog_49_method_3_code 0 = .ok (.fload_n 0, 1) := by decide +kernel
theorem dgt_1 : decode prog_49_method_3_code 1 = .ok (.fload_n 1, 1) := by decide +kernel
theorem dgt_2 : decode prog_49_method_3_code 2 = .ok (.fcmp .l, 1) := by decide +kernel
theorem dgt_3 : decode prog_49_method_3_code 3 = .ok (.ifCond .le 8, 3) := by decide +kernel
theorem dgt_6 : decode prog_49_method_3_code 6 = .ok (.iconst (-1), 1) := by decide +kernel
theorem dgt_7 : decode prog_49_method_3_code 7 = .ok (.istore_n 2, 1) := by decide +kernel
theorem dgt_8 : decode prog_49_method_3_code 8 = .ok (.goto 16, 3) := by decide +kernel
theorem dgt_24 : decode prog_49_method_3_code 24 = .ok (.iload_n 2, 1) := by decide +kernel
theorem dgt_25 : decode prog_49_method_3_code 25 = .ok (.ireturn, 1) := by decide +kernel
theorem pngt : plainName "com/example/kalchas/kalchas/io/RunOrder" = true := by first | (simp [plainName, overriddenIn]; done) | decide +kernel
theorem efgt (m : MethodId) (x0 : UInt32) (x1 : UInt32) : entryFrame m #[(.float x0), (.float x1)] 3 = mkF m 0 #[.val (.float x0), .val (.float x1), .unset] [] := by first | (simp [entryFrame, mkF, argsToLocals, Value.category]; done) | rfl
def Qgt (Z : State) (x0 : UInt32) (x1 : UInt32) (h0 : Heap) (n0 : Nat) (v : Option Value) (h : Heap) (L : List Loc) : Prop := v = some (.int (-1 : Int32)) ∧ Fr n0 L ∧ h = h0
set_option maxRecDepth 65536 in
set_option maxHeartbeats 40000000 in
theorem rmgt (l : Launch) (Z : State) (a0 : Array Value) (hw : ∀ d ∈ tables_1, d.before a0 Z = true) (ws : List Jvm.Cond) (x0 : UInt32) (x1 : UInt32) (h0 : Heap) (n0 : Nat) (Z0 : n0 ≤ h0.size) (hf : FP.fcmp x0 x1 = some .gt) :
    MetFree l (⟨"com/example/kalchas/kalchas/io/RunOrder", "compareScores", "(FF)I"⟩ : MethodName) (head1 (Jvm.Cond.code (⟨"com/example/kalchas/kalchas/io/RunOrder", "compareScores", "(FF)I"⟩ : MethodName) prog_49_method_3_code 3 (some .int) :: ws) ({ frames := 0, cells := 0, slots := 0, locals := 0 } : Room)) (fun a U => a = #[(.float x0), (.float x1)] ∧ Z.Warmed39 U.vm ∧ U.heap = h0) (fun _ _ _ _ _ => True) (fun _ U o U' => ∃ v L, o = .returned v ∧ Qgt Z x0 x1 h0 n0 v U'.heap L ∧ FrameEnd U o U' L ({ frames := 0, cells := 0, slots := 0, locals := 0 } : Room).cells ({ frames := 0, cells := 0, slots := 0, locals := 0 } : Room).slots) := by
  refine MetFree.of_bodySF (plainFor_of_name pngt) hisR ?_
  intro p e s m args below meth c s₁ Bd hml0 hP hK
  obtain ⟨rfl, hZ, hh⟩ := hP
  have hx := Bd.exec
  have hby := Bd.bytes
  have hml : c.maxLocals = 3 := hml0
  have hown : s.vm.findClass "com/example/kalchas/kalchas/io/RunOrder" = some m.cls := findClass_of_methodNamed Bd.named
  have hnm := (name_of_methodNamed Bd.named Bd.method).1
  have X0 : Stand p l e ({ frames := 0, cells := 0, slots := 0, locals := 0 } : Room) s m #[(.float x0), (.float x1)] below meth c s₁ [] 0 0 := Stand.of_body Bd
  have e0 : s₁.heap = h0 := by rw [← hh, Bd.state]; rfl
  have N0 := Fr.nil n0
  have pre0 : ∀ t, Steps p.tables e below (s₁.setTop (mkF m 0 #[.val (.float x0), .val (.float x1), .unset] [])) t → Steps p.tables e below (s₁.setTop (entryFrame m #[(.float x0), (.float x1)] 3)) t := fun t k => castTop (efgt m x0 x1) k
  have p1 : ∀ t, Steps p.tables e below (s₁.setTop (mkF m 25 #[.val (.float x0), .val (.float x1), .val (.int (-1 : Int32))] [(.int (-1 : Int32))])) t → Steps p.tables e below (s₁.setTop (entryFrame m #[(.float x0), (.float x1)] 3)) t := fun t k => pre0 t (by
    show Steps p.tables e below (s₁.setTop (mkF m 0 #[.val (.float x0), .val (.float x1), .unset] [])) _
    refine XS.floadN X0.here hx rfl (hb hby dgt_0) rfl ?_
    show Steps p.tables e below (s₁.setTop (mkF m 1 #[.val (.float x0), .val (.float x1), .unset] [(.float x0)])) _
    refine XS.floadN X0.here hx rfl (hb hby dgt_1) rfl ?_
    show Steps p.tables e below (s₁.setTop (mkF m 2 #[.val (.float x0), .val (.float x1), .unset] [(.float x1), (.float x0)])) _
    refine XS.fcmpS X0.here hx rfl (hb hby dgt_2) rfl (v := (1 : Int32)) (by rw [hf]; rfl) ?_
    show Steps p.tables e below (s₁.setTop (mkF m 3 #[.val (.float x0), .val (.float x1), .unset] [(.int (1 : Int32))])) _
    refine XS.ifNo X0.here hx rfl (hb hby dgt_3) rfl ((if0 _ _).trans (tlt (by decide)).2.2.2) ?_
    show Steps p.tables e below (s₁.setTop (mkF m 6 #[.val (.float x0), .val (.float x1), .unset] [])) _
    refine XS.iconst X0.here hx rfl (hb hby dgt_6) ?_
    show Steps p.tables e below (s₁.setTop (mkF m 7 #[.val (.float x0), .val (.float x1), .unset] [(.int (-1 : Int32))])) _
    refine XS.istoreN X0.here hx rfl (hb hby dgt_7) rfl (l' := #[.val (.float x0), .val (.float x1), .val (.int (-1 : Int32))]) rfl ?_
    show Steps p.tables e below (s₁.setTop (mkF m 8 #[.val (.float x0), .val (.float x1), .val (.int (-1 : Int32))] [])) _
    refine XS.goto X0.here hx rfl (pc0 := 8) (pc' := 24) rfl (hb hby dgt_8) (by decide) (by decide) ?_
    show Steps p.tables e below (s₁.setTop (mkF m 24 #[.val (.float x0), .val (.float x1), .val (.int (-1 : Int32))] [])) _
    refine XS.iloadN X0.here hx rfl (hb hby dgt_24) rfl ?_
    exact k)
  obtain ⟨fs, hr, hrun, hended, hW, hsame⟩ := X0.leave (v := some (.int (-1 : Int32))) (fun h => by rw [Bd.returns] at h; cases h)
  refine ⟨_, _, p1 _ ?_, hrun, hended, _, _, rfl, ?_, ⟨_, rfl⟩, hW, hsame.mono (by decide) (by decide)⟩
  · show Steps p.tables e below (s₁.setTop (mkF m 25 #[.val (.float x0), .val (.float x1), .val (.int (-1 : Int32))] [(.int (-1 : Int32))])) _
    exact retI X0 hx Bd.returns (hb hby dgt_25) hr
  · show Qgt Z x0 x1 h0 n0 _ s₁.heap _
    rw [e0]
    exact ⟨rfl, N0, rfl⟩
theorem dlt_0 : decode prog_49_method_3_code 0 = .ok (.fload_n 0, 1) := by decide +kernel
theorem dlt_1 : decode prog_49_method_3_code 1 = .ok (.fload_n 1, 1) := by decide +kernel
theorem dlt_2 : decode prog_49_method_3_code 2 = .ok (.fcmp .l, 1) := by decide +kernel
theorem dlt_3 : decode prog_49_method_3_code 3 = .ok (.ifCond .le 8, 3) := by decide +kernel
theorem dlt_11 : decode prog_49_method_3_code 11 = .ok (.fload_n 0, 1) := by decide +kernel
theorem dlt_12 : decode prog_49_method_3_code 12 = .ok (.fload_n 1, 1) := by decide +kernel
theorem dlt_13 : decode prog_49_method_3_code 13 = .ok (.fcmp .g, 1) := by decide +kernel
theorem dlt_14 : decode prog_49_method_3_code 14 = .ok (.ifCond .ge 8, 3) := by decide +kernel
theorem dlt_17 : decode prog_49_method_3_code 17 = .ok (.iconst 1, 1) := by decide +kernel
theorem dlt_18 : decode prog_49_method_3_code 18 = .ok (.istore_n 2, 1) := by decide +kernel
theorem dlt_19 : decode prog_49_method_3_code 19 = .ok (.goto 5, 3) := by decide +kernel
theorem dlt_24 : decode prog_49_method_3_code 24 = .ok (.iload_n 2, 1) := by decide +kernel
theorem dlt_25 : decode prog_49_method_3_code 25 = .ok (.ireturn, 1) := by decide +kernel
theorem pnlt : plainName "com/example/kalchas/kalchas/io/RunOrder" = true := by first | (simp [plainName, overriddenIn]; done) | decide +kernel
theorem eflt (m : MethodId) (x0 : UInt32) (x1 : UInt32) : entryFrame m #[(.float x0), (.float x1)] 3 = mkF m 0 #[.val (.float x0), .val (.float x1), .unset] [] := by first | (simp [entryFrame, mkF, argsToLocals, Value.category]; done) | rfl
def Qlt (Z : State) (x0 : UInt32) (x1 : UInt32) (h0 : Heap) (n0 : Nat) (v : Option Value) (h : Heap) (L : List Loc) : Prop := v = some (.int (1 : Int32)) ∧ Fr n0 L ∧ h = h0
set_option maxRecDepth 65536 in
set_option maxHeartbeats 40000000 in
theorem rmlt (l : Launch) (Z : State) (a0 : Array Value) (hw : ∀ d ∈ tables_1, d.before a0 Z = true) (ws : List Jvm.Cond) (x0 : UInt32) (x1 : UInt32) (h0 : Heap) (n0 : Nat) (Z0 : n0 ≤ h0.size) (hf : FP.fcmp x0 x1 = some .lt) :
    MetFree l (⟨"com/example/kalchas/kalchas/io/RunOrder", "compareScores", "(FF)I"⟩ : MethodName) (head1 (Jvm.Cond.code (⟨"com/example/kalchas/kalchas/io/RunOrder", "compareScores", "(FF)I"⟩ : MethodName) prog_49_method_3_code 3 (some .int) :: ws) ({ frames := 0, cells := 0, slots := 0, locals := 0 } : Room)) (fun a U => a = #[(.float x0), (.float x1)] ∧ Z.Warmed39 U.vm ∧ U.heap = h0) (fun _ _ _ _ _ => True) (fun _ U o U' => ∃ v L, o = .returned v ∧ Qlt Z x0 x1 h0 n0 v U'.heap L ∧ FrameEnd U o U' L ({ frames := 0, cells := 0, slots := 0, locals := 0 } : Room).cells ({ frames := 0, cells := 0, slots := 0, locals := 0 } : Room).slots) := by
  refine MetFree.of_bodySF (plainFor_of_name pnlt) hisR ?_
  intro p e s m args below meth c s₁ Bd hml0 hP hK
  obtain ⟨rfl, hZ, hh⟩ := hP
  have hx := Bd.exec
  have hby := Bd.bytes
  have hml : c.maxLocals = 3 := hml0
  have hown : s.vm.findClass "com/example/kalchas/kalchas/io/RunOrder" = some m.cls := findClass_of_methodNamed Bd.named
  have hnm := (name_of_methodNamed Bd.named Bd.method).1
  have X0 : Stand p l e ({ frames := 0, cells := 0, slots := 0, locals := 0 } : Room) s m #[(.float x0), (.float x1)] below meth c s₁ [] 0 0 := Stand.of_body Bd
  have e0 : s₁.heap = h0 := by rw [← hh, Bd.state]; rfl
  have N0 := Fr.nil n0
  have pre0 : ∀ t, Steps p.tables e below (s₁.setTop (mkF m 0 #[.val (.float x0), .val (.float x1), .unset] [])) t → Steps p.tables e below (s₁.setTop (entryFrame m #[(.float x0), (.float x1)] 3)) t := fun t k => castTop (eflt m x0 x1) k
  have p1 : ∀ t, Steps p.tables e below (s₁.setTop (mkF m 25 #[.val (.float x0), .val (.float x1), .val (.int (1 : Int32))] [(.int (1 : Int32))])) t → Steps p.tables e below (s₁.setTop (entryFrame m #[(.float x0), (.float x1)] 3)) t := fun t k => pre0 t (by
    show Steps p.tables e below (s₁.setTop (mkF m 0 #[.val (.float x0), .val (.float x1), .unset] [])) _
    refine XS.floadN X0.here hx rfl (hb hby dlt_0) rfl ?_
    show Steps p.tables e below (s₁.setTop (mkF m 1 #[.val (.float x0), .val (.float x1), .unset] [(.float x0)])) _
    refine XS.floadN X0.here hx rfl (hb hby dlt_1) rfl ?_
    show Steps p.tables e below (s₁.setTop (mkF m 2 #[.val (.float x0), .val (.float x1), .unset] [(.float x1), (.float x0)])) _
    refine XS.fcmpS X0.here hx rfl (hb hby dlt_2) rfl (v := (-1 : Int32)) (by rw [hf]; rfl) ?_
    show Steps p.tables e below (s₁.setTop (mkF m 3 #[.val (.float x0), .val (.float x1), .unset] [(.int (-1 : Int32))])) _
    refine XS.ifYes X0.here hx rfl (pc0 := 3) (pc' := 11) rfl (hb hby dlt_3) rfl ((if0 _ _).trans (flt (by decide)).2.2.2) (by decide) (by decide) ?_
    show Steps p.tables e below (s₁.setTop (mkF m 11 #[.val (.float x0), .val (.float x1), .unset] [])) _
    refine XS.floadN X0.here hx rfl (hb hby dlt_11) rfl ?_
    show Steps p.tables e below (s₁.setTop (mkF m 12 #[.val (.float x0), .val (.float x1), .unset] [(.float x0)])) _
    refine XS.floadN X0.here hx rfl (hb hby dlt_12) rfl ?_
    show Steps p.tables e below (s₁.setTop (mkF m 13 #[.val (.float x0), .val (.float x1), .unset] [(.float x1), (.float x0)])) _
    refine XS.fcmpS X0.here hx rfl (hb hby dlt_13) rfl (v := (-1 : Int32)) (by rw [hf]; rfl) ?_
    show Steps p.tables e below (s₁.setTop (mkF m 14 #[.val (.float x0), .val (.float x1), .unset] [(.int (-1 : Int32))])) _
    refine XS.ifNo X0.here hx rfl (hb hby dlt_14) rfl ((if0 _ _).trans (tlt (by decide)).2.1) ?_
    show Steps p.tables e below (s₁.setTop (mkF m 17 #[.val (.float x0), .val (.float x1), .unset] [])) _
    refine XS.iconst X0.here hx rfl (hb hby dlt_17) ?_
    show Steps p.tables e below (s₁.setTop (mkF m 18 #[.val (.float x0), .val (.float x1), .unset] [(.int (1 : Int32))])) _
    refine XS.istoreN X0.here hx rfl (hb hby dlt_18) rfl (l' := #[.val (.float x0), .val (.float x1), .val (.int (1 : Int32))]) rfl ?_
    show Steps p.tables e below (s₁.setTop (mkF m 19 #[.val (.float x0), .val (.float x1), .val (.int (1 : Int32))] [])) _
    refine XS.goto X0.here hx rfl (pc0 := 19) (pc' := 24) rfl (hb hby dlt_19) (by decide) (by decide) ?_
    show Steps p.tables e below (s₁.setTop (mkF m 24 #[.val (.float x0), .val (.float x1), .val (.int (1 : Int32))] [])) _
    refine XS.iloadN X0.here hx rfl (hb hby dlt_24) rfl ?_
    exact k)
  obtain ⟨fs, hr, hrun, hended, hW, hsame⟩ := X0.leave (v := some (.int (1 : Int32))) (fun h => by rw [Bd.returns] at h; cases h)
  refine ⟨_, _, p1 _ ?_, hrun, hended, _, _, rfl, ?_, ⟨_, rfl⟩, hW, hsame.mono (by decide) (by decide)⟩
  · show Steps p.tables e below (s₁.setTop (mkF m 25 #[.val (.float x0), .val (.float x1), .val (.int (1 : Int32))] [(.int (1 : Int32))])) _
    exact retI X0 hx Bd.returns (hb hby dlt_25) hr
  · show Qlt Z x0 x1 h0 n0 _ s₁.heap _
    rw [e0]
    exact ⟨rfl, N0, rfl⟩
theorem deq_0 : decode prog_49_method_3_code 0 = .ok (.fload_n 0, 1) := by decide +kernel
theorem deq_1 : decode prog_49_method_3_code 1 = .ok (.fload_n 1, 1) := by decide +kernel
theorem deq_2 : decode prog_49_method_3_code 2 = .ok (.fcmp .l, 1) := by decide +kernel
theorem deq_3 : decode prog_49_method_3_code 3 = .ok (.ifCond .le 8, 3) := by decide +kernel
theorem deq_11 : decode prog_49_method_3_code 11 = .ok (.fload_n 0, 1) := by decide +kernel
theorem deq_12 : decode prog_49_method_3_code 12 = .ok (.fload_n 1, 1) := by decide +kernel
theorem deq_13 : decode prog_49_method_3_code 13 = .ok (.fcmp .g, 1) := by decide +kernel
theorem deq_14 : decode prog_49_method_3_code 14 = .ok (.ifCond .ge 8, 3) := by decide +kernel
theorem deq_22 : decode prog_49_method_3_code 22 = .ok (.iconst 0, 1) := by decide +kernel
theorem deq_23 : decode prog_49_method_3_code 23 = .ok (.istore_n 2, 1) := by decide +kernel
theorem deq_24 : decode prog_49_method_3_code 24 = .ok (.iload_n 2, 1) := by decide +kernel
theorem deq_25 : decode prog_49_method_3_code 25 = .ok (.ireturn, 1) := by decide +kernel
theorem pneq : plainName "com/example/kalchas/kalchas/io/RunOrder" = true := by first | (simp [plainName, overriddenIn]; done) | decide +kernel
theorem efeq (m : MethodId) (x0 : UInt32) (x1 : UInt32) : entryFrame m #[(.float x0), (.float x1)] 3 = mkF m 0 #[.val (.float x0), .val (.float x1), .unset] [] := by first | (simp [entryFrame, mkF, argsToLocals, Value.category]; done) | rfl
def Qeq (Z : State) (x0 : UInt32) (x1 : UInt32) (h0 : Heap) (n0 : Nat) (v : Option Value) (h : Heap) (L : List Loc) : Prop := v = some (.int (0 : Int32)) ∧ Fr n0 L ∧ h = h0
set_option maxRecDepth 65536 in
set_option maxHeartbeats 40000000 in
theorem rmeq (l : Launch) (Z : State) (a0 : Array Value) (hw : ∀ d ∈ tables_1, d.before a0 Z = true) (ws : List Jvm.Cond) (x0 : UInt32) (x1 : UInt32) (h0 : Heap) (n0 : Nat) (Z0 : n0 ≤ h0.size) (hf : FP.fcmp x0 x1 = some .eq) :
    MetFree l (⟨"com/example/kalchas/kalchas/io/RunOrder", "compareScores", "(FF)I"⟩ : MethodName) (head1 (Jvm.Cond.code (⟨"com/example/kalchas/kalchas/io/RunOrder", "compareScores", "(FF)I"⟩ : MethodName) prog_49_method_3_code 3 (some .int) :: ws) ({ frames := 0, cells := 0, slots := 0, locals := 0 } : Room)) (fun a U => a = #[(.float x0), (.float x1)] ∧ Z.Warmed39 U.vm ∧ U.heap = h0) (fun _ _ _ _ _ => True) (fun _ U o U' => ∃ v L, o = .returned v ∧ Qeq Z x0 x1 h0 n0 v U'.heap L ∧ FrameEnd U o U' L ({ frames := 0, cells := 0, slots := 0, locals := 0 } : Room).cells ({ frames := 0, cells := 0, slots := 0, locals := 0 } : Room).slots) := by
  refine MetFree.of_bodySF (plainFor_of_name pneq) hisR ?_
  intro p e s m args below meth c s₁ Bd hml0 hP hK
  obtain ⟨rfl, hZ, hh⟩ := hP
  have hx := Bd.exec
  have hby := Bd.bytes
  have hml : c.maxLocals = 3 := hml0
  have hown : s.vm.findClass "com/example/kalchas/kalchas/io/RunOrder" = some m.cls := findClass_of_methodNamed Bd.named
  have hnm := (name_of_methodNamed Bd.named Bd.method).1
  have X0 : Stand p l e ({ frames := 0, cells := 0, slots := 0, locals := 0 } : Room) s m #[(.float x0), (.float x1)] below meth c s₁ [] 0 0 := Stand.of_body Bd
  have e0 : s₁.heap = h0 := by rw [← hh, Bd.state]; rfl
  have N0 := Fr.nil n0
  have pre0 : ∀ t, Steps p.tables e below (s₁.setTop (mkF m 0 #[.val (.float x0), .val (.float x1), .unset] [])) t → Steps p.tables e below (s₁.setTop (entryFrame m #[(.float x0), (.float x1)] 3)) t := fun t k => castTop (efeq m x0 x1) k
  have p1 : ∀ t, Steps p.tables e below (s₁.setTop (mkF m 25 #[.val (.float x0), .val (.float x1), .val (.int (0 : Int32))] [(.int (0 : Int32))])) t → Steps p.tables e below (s₁.setTop (entryFrame m #[(.float x0), (.float x1)] 3)) t := fun t k => pre0 t (by
    show Steps p.tables e below (s₁.setTop (mkF m 0 #[.val (.float x0), .val (.float x1), .unset] [])) _
    refine XS.floadN X0.here hx rfl (hb hby deq_0) rfl ?_
    show Steps p.tables e below (s₁.setTop (mkF m 1 #[.val (.float x0), .val (.float x1), .unset] [(.float x0)])) _
    refine XS.floadN X0.here hx rfl (hb hby deq_1) rfl ?_
    show Steps p.tables e below (s₁.setTop (mkF m 2 #[.val (.float x0), .val (.float x1), .unset] [(.float x1), (.float x0)])) _
    refine XS.fcmpS X0.here hx rfl (hb hby deq_2) rfl (v := (0 : Int32)) (by rw [hf]; rfl) ?_
    show Steps p.tables e below (s₁.setTop (mkF m 3 #[.val (.float x0), .val (.float x1), .unset] [(.int (0 : Int32))])) _
    refine XS.ifYes X0.here hx rfl (pc0 := 3) (pc' := 11) rfl (hb hby deq_3) rfl ((if0 _ _).trans (flt (by decide)).2.2.2) (by decide) (by decide) ?_
    show Steps p.tables e below (s₁.setTop (mkF m 11 #[.val (.float x0), .val (.float x1), .unset] [])) _
    refine XS.floadN X0.here hx rfl (hb hby deq_11) rfl ?_
    show Steps p.tables e below (s₁.setTop (mkF m 12 #[.val (.float x0), .val (.float x1), .unset] [(.float x0)])) _
    refine XS.floadN X0.here hx rfl (hb hby deq_12) rfl ?_
    show Steps p.tables e below (s₁.setTop (mkF m 13 #[.val (.float x0), .val (.float x1), .unset] [(.float x1), (.float x0)])) _
    refine XS.fcmpS X0.here hx rfl (hb hby deq_13) rfl (v := (0 : Int32)) (by rw [hf]; rfl) ?_
    show Steps p.tables e below (s₁.setTop (mkF m 14 #[.val (.float x0), .val (.float x1), .unset] [(.int (0 : Int32))])) _
    refine XS.ifYes X0.here hx rfl (pc0 := 14) (pc' := 22) rfl (hb hby deq_14) rfl ((if0 _ _).trans (flt (by decide)).2.1) (by decide) (by decide) ?_
    show Steps p.tables e below (s₁.setTop (mkF m 22 #[.val (.float x0), .val (.float x1), .unset] [])) _
    refine XS.iconst X0.here hx rfl (hb hby deq_22) ?_
    show Steps p.tables e below (s₁.setTop (mkF m 23 #[.val (.float x0), .val (.float x1), .unset] [(.int (0 : Int32))])) _
    refine XS.istoreN X0.here hx rfl (hb hby deq_23) rfl (l' := #[.val (.float x0), .val (.float x1), .val (.int (0 : Int32))]) rfl ?_
    show Steps p.tables e below (s₁.setTop (mkF m 24 #[.val (.float x0), .val (.float x1), .val (.int (0 : Int32))] [])) _
    refine XS.iloadN X0.here hx rfl (hb hby deq_24) rfl ?_
    exact k)
  obtain ⟨fs, hr, hrun, hended, hW, hsame⟩ := X0.leave (v := some (.int (0 : Int32))) (fun h => by rw [Bd.returns] at h; cases h)
  refine ⟨_, _, p1 _ ?_, hrun, hended, _, _, rfl, ?_, ⟨_, rfl⟩, hW, hsame.mono (by decide) (by decide)⟩
  · show Steps p.tables e below (s₁.setTop (mkF m 25 #[.val (.float x0), .val (.float x1), .val (.int (0 : Int32))] [(.int (0 : Int32))])) _
    exact retI X0 hx Bd.returns (hb hby deq_25) hr
  · show Qeq Z x0 x1 h0 n0 _ s₁.heap _
    rw [e0]
    exact ⟨rfl, N0, rfl⟩
theorem pn0 : plainName "com/example/kalchas/kalchas/io/RunOrderCompareScoresPinLaw" = true := by first | (simp [plainName, overriddenIn]; done) | decide +kernel
theorem pd0_0 : parseMethodDescriptor "(II)F" = some ⟨[.int, .int], some .float⟩ := by decide +kernel
theorem pd0_1 : parseMethodDescriptor "(II)J" = some ⟨[.int, .int], some .long⟩ := by decide +kernel
theorem pd0_2 : parseMethodDescriptor "(FF)I" = some ⟨[.float, .float], some .int⟩ := by decide +kernel
theorem ef0 (m : MethodId) (x0 : Int32) (x1 : Int32) (x2 : Int32) (x3 : Int32) : entryFrame m #[(.int x0), (.int x1), (.int x2), (.int x3)] maxLocals = mkF m 0 #[.val (.int x0), .val (.int x1), .val (.int x2), .val (.int x3), .unset, .unset, .unset, .unset, .unset, .unset, .unset] [] := by first | (simp [entryFrame, mkF, argsToLocals, Value.category, maxLocals]; done) | rfl
def Q0 (Z : State) (x0 : Int32) (x1 : Int32) (x2 : Int32) (x3 : Int32) (h0 : Heap) (n0 : Nat) (v : Option Value) (h : Heap) (L : List Loc) : Prop := v = some (.int (1 : Int32)) ∧ Fr n0 L
set_option maxRecDepth 65536 in
set_option maxHeartbeats 40000000 in
theorem rm0 (l : Launch) (Z : State) (a0 : Array Value) (hw : ∀ d ∈ tables_1, d.before a0 Z = true) (ws : List Jvm.Cond) (x0 : Int32) (x1 : Int32) (x2 : Int32) (x3 : Int32) (h0 : Heap) (n0 : Nat) (Z0 : n0 ≤ h0.size) :
    MetFree l x (head1 (Jvm.Cond.code x code maxLocals ret :: ws) room_1) (fun a U => a = #[(.int x0), (.int x1), (.int x2), (.int x3)] ∧ Z.Warmed39 U.vm ∧ U.heap = h0) (fun _ _ _ _ _ => True) (fun _ U o U' => ∃ v L, o = .returned v ∧ Q0 Z x0 x1 x2 x3 h0 n0 v U'.heap L ∧ FrameEnd U o U' L room_1.cells room_1.slots) := by
  refine MetFree.of_bodySF (plainFor_of_name pn0) hisR ?_
  intro p e s m args below meth c s₁ Bd hml0 hP hK
  obtain ⟨rfl, hZ, hh⟩ := hP
  have hx := Bd.exec
  have hby := Bd.bytes
  have hml : c.maxLocals = 11 := hml0
  have hown : s.vm.findClass "com/example/kalchas/kalchas/io/RunOrderCompareScoresPinLaw" = some m.cls := findClass_of_methodNamed Bd.named
  have hnm := (name_of_methodNamed Bd.named Bd.method).1
  have X0 : Stand p l e room_1 s m #[(.int x0), (.int x1), (.int x2), (.int x3)] below meth c s₁ [] 0 0 := Stand.of_body Bd
  have e0 : s₁.heap = h0 := by rw [← hh, Bd.state]; rfl
  have N0 := Fr.nil n0
  have pre0 : ∀ t, Steps p.tables e below (s₁.setTop (mkF m 0 #[.val (.int x0), .val (.int x1), .val (.int x2), .val (.int x3), .unset, .unset, .unset, .unset, .unset, .unset, .unset] [])) t → Steps p.tables e below (s₁.setTop (entryFrame m #[(.int x0), (.int x1), (.int x2), (.int x3)] maxLocals)) t := fun t k => castTop (ef0 m x0 x1 x2 x3) k
  have p1 : ∀ t, Steps p.tables e below (s₁.setTop (mkF m 2 #[.val (.int x0), .val (.int x1), .val (.int x2), .val (.int x3), .unset, .unset, .unset, .unset, .unset, .unset, .unset] [(.int x1), (.int x0)])) t → Steps p.tables e below (s₁.setTop (entryFrame m #[(.int x0), (.int x1), (.int x2), (.int x3)] maxLocals)) t := fun t k => pre0 t (by
    show Steps p.tables e below (s₁.setTop (mkF m 0 #[.val (.int x0), .val (.int x1), .val (.int x2), .val (.int x3), .unset, .unset, .unset, .unset, .unset, .unset, .unset] [])) _
    refine XS.iloadN X0.here hx rfl (hb hby at_0) rfl ?_
    show Steps p.tables e below (s₁.setTop (mkF m 1 #[.val (.int x0), .val (.int x1), .val (.int x2), .val (.int x3), .unset, .unset, .unset, .unset, .unset, .unset, .unset] [(.int x0)])) _
    refine XS.iloadN X0.here hx rfl (hb hby at_1) rfl ?_
    exact k)
  obtain ⟨_, _, ⟨T2, L2, k2, n2⟩, -, X2, ⟨Lc2, hQ2, l2, y2, z2⟩, st2⟩ := Jvm.LawKit.callS X0 hx (y := (⟨"com/example/kalchas/kalchas/io/RunOrderCompareScoresPinLaw", "value", "(II)F"⟩ : MethodName)) hown (mvT hZ (hw _ (List.mem_of_getElem? (i := 0) rfl))) (mvT hZ (hw _ (List.mem_of_getElem? (i := 1) rfl))) (mvT hZ (hw _ (List.mem_of_getElem? (i := 2) rfl))) (mvT hZ (hw _ (List.mem_of_getElem? (i := 3) rfl))) (by decide) (backOf (W := 0) (rmva l Z a0 hw [] x0 x1  h0 n0 Z0 ) hZ (hw _ (List.mem_of_getElem? (i := 3) rfl)) (hw _ (List.mem_of_getElem? (i := 2) rfl)) (by decide) (by decide)) (g := (mkF m 2 #[.val (.int x0), .val (.int x1), .val (.int x2), .val (.int x3), .unset, .unset, .unset, .unset, .unset, .unset, .unset] [(.int x1), (.int x0)])) rfl (by rw [hml]; rfl) (argsL := [(.int x0), (.int x1)]) (rest := []) (lenOf pd0_0 rfl) rfl (by show 2 * 0 + _ ≤ _; exact Nat.le_of_eq rfl) (hb hby at_2) (fun _ _ => ⟨rfl, e0, (by decide : 0 + 0 ≤ _), (by decide : 0 + 0 ≤ _)⟩)
  dsimp only [Pt.U, Pt.locs, Pt.cells, Pt.slots] at X2 l2 y2 z2 st2 hQ2
  subst l2 y2 z2
  obtain ⟨f0, rfl, Nq2, e2, hv0⟩ := hQ2
  have N2 := Fr.app N0 Nq2
  have p3 : ∀ t, Steps p.tables e below (T2.setTop (mkF m 5 #[.val (.int x0), .val (.int x1), .val (.int x2), .val (.int x3), .unset, .unset, .unset, .unset, .unset, .unset, .unset] [(.float f0)])) t → Steps p.tables e below (s₁.setTop (entryFrame m #[(.int x0), (.int x1), (.int x2), (.int x3)] maxLocals)) t := fun t k => p1 t (st2 _ k)
  have p4 : ∀ t, Steps p.tables e below (T2.setTop (mkF m 9 #[.val (.int x0), .val (.int x1), .val (.int x2), .val (.int x3), .val (.float f0), .unset, .unset, .unset, .unset, .unset, .unset] [(.int x3), (.int x2)])) t → Steps p.tables e below (s₁.setTop (entryFrame m #[(.int x0), (.int x1), (.int x2), (.int x3)] maxLocals)) t := fun t k => p3 t (by
    show Steps p.tables e below (T2.setTop (mkF m 5 #[.val (.int x0), .val (.int x1), .val (.int x2), .val (.int x3), .unset, .unset, .unset, .unset, .unset, .unset, .unset] [(.float f0)])) _
    refine XS.fstore X2.here hx rfl (hb hby at_5) rfl (l' := #[.val (.int x0), .val (.int x1), .val (.int x2), .val (.int x3), .val (.float f0), .unset, .unset, .unset, .unset, .unset, .unset]) rfl ?_
    show Steps p.tables e below (T2.setTop (mkF m 7 #[.val (.int x0), .val (.int x1), .val (.int x2), .val (.int x3), .val (.float f0), .unset, .unset, .unset, .unset, .unset, .unset] [])) _
    refine XS.iloadN X2.here hx rfl (hb hby at_7) rfl ?_
    show Steps p.tables e below (T2.setTop (mkF m 8 #[.val (.int x0), .val (.int x1), .val (.int x2), .val (.int x3), .val (.float f0), .unset, .unset, .unset, .unset, .unset, .unset] [(.int x2)])) _
    refine XS.iloadN X2.here hx rfl (hb hby at_8) rfl ?_
    exact k)
  obtain ⟨_, _, ⟨T5, L5, k5, n5⟩, -, X5, ⟨Lc5, hQ5, l5, y5, z5⟩, st5⟩ := Jvm.LawKit.callS X2 hx (y := (⟨"com/example/kalchas/kalchas/io/RunOrderCompareScoresPinLaw", "value", "(II)F"⟩ : MethodName)) hown (mvT hZ (hw _ (List.mem_of_getElem? (i := 0) rfl))) (mvT hZ (hw _ (List.mem_of_getElem? (i := 1) rfl))) (mvT hZ (hw _ (List.mem_of_getElem? (i := 2) rfl))) (mvT hZ (hw _ (List.mem_of_getElem? (i := 3) rfl))) (by decide) (backOf (W := 0) (rmva l Z a0 hw [] x2 x3  h0 n0 Z0 ) hZ (hw _ (List.mem_of_getElem? (i := 3) rfl)) (hw _ (List.mem_of_getElem? (i := 2) rfl)) (by decide) (by decide)) (g := (mkF m 9 #[.val (.int x0), .val (.int x1), .val (.int x2), .val (.int x3), .val (.float f0), .unset, .unset, .unset, .unset, .unset, .unset] [(.int x3), (.int x2)])) rfl (by rw [hml]; rfl) (argsL := [(.int x2), (.int x3)]) (rest := []) (lenOf pd0_0 rfl) rfl (by show 2 * 0 + _ ≤ _; exact Nat.le_of_eq rfl) (hb hby at_9) (fun _ _ => ⟨rfl, e2, (by decide : 0 + 0 ≤ _), (by decide : 0 + 0 ≤ _)⟩)
  dsimp only [Pt.U, Pt.locs, Pt.cells, Pt.slots] at X5 l5 y5 z5 st5 hQ5
  subst l5 y5 z5
  obtain ⟨f1, rfl, Nq5, e5, hv1⟩ := hQ5
  have N5 := Fr.app N2 Nq5
  have p6 : ∀ t, Steps p.tables e below (T5.setTop (mkF m 12 #[.val (.int x0), .val (.int x1), .val (.int x2), .val (.int x3), .val (.float f0), .unset, .unset, .unset, .unset, .unset, .unset] [(.float f1)])) t → Steps p.tables e below (s₁.setTop (entryFrame m #[(.int x0), (.int x1), (.int x2), (.int x3)] maxLocals)) t := fun t k => p4 t (st5 _ k)
  have p7 : ∀ t, Steps p.tables e below (T5.setTop (mkF m 16 #[.val (.int x0), .val (.int x1), .val (.int x2), .val (.int x3), .val (.float f0), .val (.float f1), .unset, .unset, .unset, .unset, .unset] [(.int x1), (.int x0)])) t → Steps p.tables e below (s₁.setTop (entryFrame m #[(.int x0), (.int x1), (.int x2), (.int x3)] maxLocals)) t := fun t k => p6 t (by
    show Steps p.tables e below (T5.setTop (mkF m 12 #[.val (.int x0), .val (.int x1), .val (.int x2), .val (.int x3), .val (.float f0), .unset, .unset, .unset, .unset, .unset, .unset] [(.float f1)])) _
    refine XS.fstore X5.here hx rfl (hb hby at_12) rfl (l' := #[.val (.int x0), .val (.int x1), .val (.int x2), .val (.int x3), .val (.float f0), .val (.float f1), .unset, .unset, .unset, .unset, .unset]) rfl ?_
    show Steps p.tables e below (T5.setTop (mkF m 14 #[.val (.int x0), .val (.int x1), .val (.int x2), .val (.int x3), .val (.float f0), .val (.float f1), .unset, .unset, .unset, .unset, .unset] [])) _
    refine XS.iloadN X5.here hx rfl (hb hby at_14) rfl ?_
    show Steps p.tables e below (T5.setTop (mkF m 15 #[.val (.int x0), .val (.int x1), .val (.int x2), .val (.int x3), .val (.float f0), .val (.float f1), .unset, .unset, .unset, .unset, .unset] [(.int x0)])) _
    refine XS.iloadN X5.here hx rfl (hb hby at_15) rfl ?_
    exact k)
  obtain ⟨_, _, ⟨T8, L8, k8, n8⟩, -, X8, ⟨Lc8, hQ8, l8, y8, z8⟩, st8⟩ := Jvm.LawKit.callS X5 hx (y := (⟨"com/example/kalchas/kalchas/io/RunOrderCompareScoresPinLaw", "key", "(II)J"⟩ : MethodName)) hown (mvT hZ (hw _ (List.mem_of_getElem? (i := 6) rfl))) (mvT hZ (hw _ (List.mem_of_getElem? (i := 7) rfl))) (mvT hZ (hw _ (List.mem_of_getElem? (i := 2) rfl))) (mvT hZ (hw _ (List.mem_of_getElem? (i := 8) rfl))) (by decide) (backOf (W := 0) (rmke l Z a0 hw [] x0 x1  h0 n0 Z0 ) hZ (hw _ (List.mem_of_getElem? (i := 8) rfl)) (hw _ (List.mem_of_getElem? (i := 2) rfl)) (by decide) (by decide)) (g := (mkF m 16 #[.val (.int x0), .val (.int x1), .val (.int x2), .val (.int x3), .val (.float f0), .val (.float f1), .unset, .unset, .unset, .unset, .unset] [(.int x1), (.int x0)])) rfl (by rw [hml]; rfl) (argsL := [(.int x0), (.int x1)]) (rest := []) (lenOf pd0_1 rfl) rfl (by show 2 * 0 + _ ≤ _; exact Nat.le_of_eq rfl) (hb hby at_16) (fun _ _ => ⟨rfl, e5, (by decide : 0 + 0 ≤ _), (by decide : 0 + 0 ≤ _)⟩)
  dsimp only [Pt.U, Pt.locs, Pt.cells, Pt.slots] at X8 l8 y8 z8 st8 hQ8
  subst l8 y8 z8
  obtain ⟨rfl, Nq8, e8⟩ := hQ8
  have N8 := Fr.app N5 Nq8
  have p9 : ∀ t, Steps p.tables e below (T8.setTop (mkF m 19 #[.val (.int x0), .val (.int x1), .val (.int x2), .val (.int x3), .val (.float f0), .val (.float f1), .unset, .unset, .unset, .unset, .unset] [(.long (own_K x0 x1))])) t → Steps p.tables e below (s₁.setTop (entryFrame m #[(.int x0), (.int x1), (.int x2), (.int x3)] maxLocals)) t := fun t k => p7 t (st8 _ k)
  have p10 : ∀ t, Steps p.tables e below (T8.setTop (mkF m 23 #[.val (.int x0), .val (.int x1), .val (.int x2), .val (.int x3), .val (.float f0), .val (.float f1), .val (.long (own_K x0 x1)), .second, .unset, .unset, .unset] [(.int x3), (.int x2)])) t → Steps p.tables e below (s₁.setTop (entryFrame m #[(.int x0), (.int x1), (.int x2), (.int x3)] maxLocals)) t := fun t k => p9 t (by
    show Steps p.tables e below (T8.setTop (mkF m 19 #[.val (.int x0), .val (.int x1), .val (.int x2), .val (.int x3), .val (.float f0), .val (.float f1), .unset, .unset, .unset, .unset, .unset] [(.long (own_K x0 x1))])) _
    refine XS.lstore X8.here hx rfl (hb hby at_19) rfl (l' := #[.val (.int x0), .val (.int x1), .val (.int x2), .val (.int x3), .val (.float f0), .val (.float f1), .val (.long (own_K x0 x1)), .second, .unset, .unset, .unset]) rfl ?_
    show Steps p.tables e below (T8.setTop (mkF m 21 #[.val (.int x0), .val (.int x1), .val (.int x2), .val (.int x3), .val (.float f0), .val (.float f1), .val (.long (own_K x0 x1)), .second, .unset, .unset, .unset] [])) _
    refine XS.iloadN X8.here hx rfl (hb hby at_21) rfl ?_
    show Steps p.tables e below (T8.setTop (mkF m 22 #[.val (.int x0), .val (.int x1), .val (.int x2), .val (.int x3), .val (.float f0), .val (.float f1), .val (.long (own_K x0 x1)), .second, .unset, .unset, .unset] [(.int x2)])) _
    refine XS.iloadN X8.here hx rfl (hb hby at_22) rfl ?_
    exact k)
  obtain ⟨_, _, ⟨T11, L11, k11, n11⟩, -, X11, ⟨Lc11, hQ11, l11, y11, z11⟩, st11⟩ := Jvm.LawKit.callS X8 hx (y := (⟨"com/example/kalchas/kalchas/io/RunOrderCompareScoresPinLaw", "key", "(II)J"⟩ : MethodName)) hown (mvT hZ (hw _ (List.mem_of_getElem? (i := 6) rfl))) (mvT hZ (hw _ (List.mem_of_getElem? (i := 7) rfl))) (mvT hZ (hw _ (List.mem_of_getElem? (i := 2) rfl))) (mvT hZ (hw _ (List.mem_of_getElem? (i := 8) rfl))) (by decide) (backOf (W := 0) (rmke l Z a0 hw [] x2 x3  h0 n0 Z0 ) hZ (hw _ (List.mem_of_getElem? (i := 8) rfl)) (hw _ (List.mem_of_getElem? (i := 2) rfl)) (by decide) (by decide)) (g := (mkF m 23 #[.val (.int x0), .val (.int x1), .val (.int x2), .val (.int x3), .val (.float f0), .val (.float f1), .val (.long (own_K x0 x1)), .second, .unset, .unset, .unset] [(.int x3), (.int x2)])) rfl (by rw [hml]; rfl) (argsL := [(.int x2), (.int x3)]) (rest := []) (lenOf pd0_1 rfl) rfl (by show 2 * 0 + _ ≤ _; exact Nat.le_of_eq rfl) (hb hby at_23) (fun _ _ => ⟨rfl, e8, (by decide : 0 + 0 ≤ _), (by decide : 0 + 0 ≤ _)⟩)
  dsimp only [Pt.U, Pt.locs, Pt.cells, Pt.slots] at X11 l11 y11 z11 st11 hQ11
  subst l11 y11 z11
  obtain ⟨rfl, Nq11, e11⟩ := hQ11
  have N11 := Fr.app N8 Nq11
  have p12 : ∀ t, Steps p.tables e below (T11.setTop (mkF m 26 #[.val (.int x0), .val (.int x1), .val (.int x2), .val (.int x3), .val (.float f0), .val (.float f1), .val (.long (own_K x0 x1)), .second, .unset, .unset, .unset] [(.long (own_K x2 x3))])) t → Steps p.tables e below (s₁.setTop (entryFrame m #[(.int x0), (.int x1), (.int x2), (.int x3)] maxLocals)) t := fun t k => p10 t (st11 _ k)
  have p13 : ∀ t, Steps p.tables e below (T11.setTop (mkF m 32 #[.val (.int x0), .val (.int x1), .val (.int x2), .val (.int x3), .val (.float f0), .val (.float f1), .val (.long (own_K x0 x1)), .second, .val (.long (own_K x2 x3)), .second, .unset] [(.float f1), (.float f0)])) t → Steps p.tables e below (s₁.setTop (entryFrame m #[(.int x0), (.int x1), (.int x2), (.int x3)] maxLocals)) t := fun t k => p12 t (by
    show Steps p.tables e below (T11.setTop (mkF m 26 #[.val (.int x0), .val (.int x1), .val (.int x2), .val (.int x3), .val (.float f0), .val (.float f1), .val (.long (own_K x0 x1)), .second, .unset, .unset, .unset] [(.long (own_K x2 x3))])) _
    refine XS.lstore X11.here hx rfl (hb hby at_26) rfl (l' := #[.val (.int x0), .val (.int x1), .val (.int x2), .val (.int x3), .val (.float f0), .val (.float f1), .val (.long (own_K x0 x1)), .second, .val (.long (own_K x2 x3)), .second, .unset]) rfl ?_
    show Steps p.tables e below (T11.setTop (mkF m 28 #[.val (.int x0), .val (.int x1), .val (.int x2), .val (.int x3), .val (.float f0), .val (.float f1), .val (.long (own_K x0 x1)), .second, .val (.long (own_K x2 x3)), .second, .unset] [])) _
    refine XS.fload X11.here hx rfl (hb hby at_28) rfl ?_
    show Steps p.tables e below (T11.setTop (mkF m 30 #[.val (.int x0), .val (.int x1), .val (.int x2), .val (.int x3), .val (.float f0), .val (.float f1), .val (.long (own_K x0 x1)), .second, .val (.long (own_K x2 x3)), .second, .unset] [(.float f0)])) _
    refine XS.fload X11.here hx rfl (hb hby at_30) rfl ?_
    exact k)
  rcases own_tri (own_K x0 x1) (own_K x2 x3) with hk | hk | hk
  · have hf := own_flt hv0 hv1 hk
    obtain ⟨_, _, ⟨T14, L14, k14, n14⟩, -, X14, ⟨Lc14, hQ14, l14, y14, z14⟩, st14⟩ := Jvm.LawKit.callS X11 hx (y := (⟨"com/example/kalchas/kalchas/io/RunOrder", "compareScores", "(FF)I"⟩ : MethodName)) hown (mvT hZ (hw _ (List.mem_of_getElem? (i := 10) rfl))) (mvT hZ (hw _ (List.mem_of_getElem? (i := 11) rfl))) (mvT hZ (hw _ (List.mem_of_getElem? (i := 12) rfl))) (mvT hZ (hw _ (List.mem_of_getElem? (i := 13) rfl))) (by decide) (backOf (W := 0) (rmlt l Z a0 hw [] f0 f1  h0 n0 Z0 hf) hZ (hw _ (List.mem_of_getElem? (i := 13) rfl)) (hw _ (List.mem_of_getElem? (i := 12) rfl)) (by decide) (by decide)) (g := (mkF m 32 #[.val (.int x0), .val (.int x1), .val (.int x2), .val (.int x3), .val (.float f0), .val (.float f1), .val (.long (own_K x0 x1)), .second, .val (.long (own_K x2 x3)), .second, .unset] [(.float f1), (.float f0)])) rfl (by rw [hml]; rfl) (argsL := [(.float f0), (.float f1)]) (rest := []) (lenOf pd0_2 rfl) rfl (by show 2 * 0 + _ ≤ _; exact Nat.le_of_eq rfl) (hb hby at_32) (fun _ _ => ⟨rfl, e11, (by decide : 0 + 0 ≤ _), (by decide : 0 + 0 ≤ _)⟩)
    dsimp only [Pt.U, Pt.locs, Pt.cells, Pt.slots] at X14 l14 y14 z14 st14 hQ14
    subst l14 y14 z14
    obtain ⟨rfl, Nq14, e14⟩ := hQ14
    have N14 := Fr.app N11 Nq14
    have p15 : ∀ t, Steps p.tables e below (T14.setTop (mkF m 35 #[.val (.int x0), .val (.int x1), .val (.int x2), .val (.int x3), .val (.float f0), .val (.float f1), .val (.long (own_K x0 x1)), .second, .val (.long (own_K x2 x3)), .second, .unset] [(.int (1 : Int32))])) t → Steps p.tables e below (s₁.setTop (entryFrame m #[(.int x0), (.int x1), (.int x2), (.int x3)] maxLocals)) t := fun t k => p13 t (st14 _ k)
    have p16 : ∀ t, Steps p.tables e below (T14.setTop (mkF m 74 #[.val (.int x0), .val (.int x1), .val (.int x2), .val (.int x3), .val (.float f0), .val (.float f1), .val (.long (own_K x0 x1)), .second, .val (.long (own_K x2 x3)), .second, .val (.int (1 : Int32))] [(.int (1 : Int32))])) t → Steps p.tables e below (s₁.setTop (entryFrame m #[(.int x0), (.int x1), (.int x2), (.int x3)] maxLocals)) t := fun t k => p15 t (by
      show Steps p.tables e below (T14.setTop (mkF m 35 #[.val (.int x0), .val (.int x1), .val (.int x2), .val (.int x3), .val (.float f0), .val (.float f1), .val (.long (own_K x0 x1)), .second, .val (.long (own_K x2 x3)), .second, .unset] [(.int (1 : Int32))])) _
      refine XS.istore X14.here hx rfl (hb hby at_35) rfl (l' := #[.val (.int x0), .val (.int x1), .val (.int x2), .val (.int x3), .val (.float f0), .val (.float f1), .val (.long (own_K x0 x1)), .second, .val (.long (own_K x2 x3)), .second, .val (.int (1 : Int32))]) rfl ?_
      show Steps p.tables e below (T14.setTop (mkF m 37 #[.val (.int x0), .val (.int x1), .val (.int x2), .val (.int x3), .val (.float f0), .val (.float f1), .val (.long (own_K x0 x1)), .second, .val (.long (own_K x2 x3)), .second, .val (.int (1 : Int32))] [])) _
      refine XS.lload X14.here hx rfl (hb hby at_37) rfl ?_
      show Steps p.tables e below (T14.setTop (mkF m 39 #[.val (.int x0), .val (.int x1), .val (.int x2), .val (.int x3), .val (.float f0), .val (.float f1), .val (.long (own_K x0 x1)), .second, .val (.long (own_K x2 x3)), .second, .val (.int (1 : Int32))] [(.long (own_K x0 x1))])) _
      refine XS.lload X14.here hx rfl (hb hby at_39) rfl ?_
      show Steps p.tables e below (T14.setTop (mkF m 41 #[.val (.int x0), .val (.int x1), .val (.int x2), .val (.int x3), .val (.float f0), .val (.float f1), .val (.long (own_K x0 x1)), .second, .val (.long (own_K x2 x3)), .second, .val (.int (1 : Int32))] [(.long (own_K x2 x3)), (.long (own_K x0 x1))])) _
      refine XS.lcmp X14.here hx rfl (hb hby at_41) rfl ?_
      show Steps p.tables e below (T14.setTop (mkF m 42 #[.val (.int x0), .val (.int x1), .val (.int x2), .val (.int x3), .val (.float f0), .val (.float f1), .val (.long (own_K x0 x1)), .second, .val (.long (own_K x2 x3)), .second, .val (.int (1 : Int32))] [(.int (lcmpW (own_K x0 x1) (own_K x2 x3)))])) _
      refine XS.ifYes X14.here hx rfl (pc0 := 42) (pc' := 56) rfl (hb hby at_42) rfl ((if0 _ _).trans (flt (own_lcn (own_asym hk))).2.2.2) (by decide) (by decide) ?_
      show Steps p.tables e below (T14.setTop (mkF m 56 #[.val (.int x0), .val (.int x1), .val (.int x2), .val (.int x3), .val (.float f0), .val (.float f1), .val (.long (own_K x0 x1)), .second, .val (.long (own_K x2 x3)), .second, .val (.int (1 : Int32))] [])) _
      refine XS.lload X14.here hx rfl (hb hby at_56) rfl ?_
      show Steps p.tables e below (T14.setTop (mkF m 58 #[.val (.int x0), .val (.int x1), .val (.int x2), .val (.int x3), .val (.float f0), .val (.float f1), .val (.long (own_K x0 x1)), .second, .val (.long (own_K x2 x3)), .second, .val (.int (1 : Int32))] [(.long (own_K x0 x1))])) _
      refine XS.lload X14.here hx rfl (hb hby at_58) rfl ?_
      show Steps p.tables e below (T14.setTop (mkF m 60 #[.val (.int x0), .val (.int x1), .val (.int x2), .val (.int x3), .val (.float f0), .val (.float f1), .val (.long (own_K x0 x1)), .second, .val (.long (own_K x2 x3)), .second, .val (.int (1 : Int32))] [(.long (own_K x2 x3)), (.long (own_K x0 x1))])) _
      refine XS.lcmp X14.here hx rfl (hb hby at_60) rfl ?_
      show Steps p.tables e below (T14.setTop (mkF m 61 #[.val (.int x0), .val (.int x1), .val (.int x2), .val (.int x3), .val (.float f0), .val (.float f1), .val (.long (own_K x0 x1)), .second, .val (.long (own_K x2 x3)), .second, .val (.int (1 : Int32))] [(.int (lcmpW (own_K x0 x1) (own_K x2 x3)))])) _
      refine XS.ifNo X14.here hx rfl (hb hby at_61) rfl ((if0 _ _).trans (tlt (own_lcl hk)).2.1) ?_
      show Steps p.tables e below (T14.setTop (mkF m 64 #[.val (.int x0), .val (.int x1), .val (.int x2), .val (.int x3), .val (.float f0), .val (.float f1), .val (.long (own_K x0 x1)), .second, .val (.long (own_K x2 x3)), .second, .val (.int (1 : Int32))] [])) _
      refine XS.iload X14.here hx rfl (hb hby at_64) rfl ?_
      show Steps p.tables e below (T14.setTop (mkF m 66 #[.val (.int x0), .val (.int x1), .val (.int x2), .val (.int x3), .val (.float f0), .val (.float f1), .val (.long (own_K x0 x1)), .second, .val (.long (own_K x2 x3)), .second, .val (.int (1 : Int32))] [(.int (1 : Int32))])) _
      refine XS.ifNo X14.here hx rfl (hb hby at_66) rfl ((if0 _ _).trans (tlt (by decide)).2.2.2) ?_
      show Steps p.tables e below (T14.setTop (mkF m 69 #[.val (.int x0), .val (.int x1), .val (.int x2), .val (.int x3), .val (.float f0), .val (.float f1), .val (.long (own_K x0 x1)), .second, .val (.long (own_K x2 x3)), .second, .val (.int (1 : Int32))] [])) _
      refine XS.iconst X14.here hx rfl (hb hby at_69) ?_
      show Steps p.tables e below (T14.setTop (mkF m 70 #[.val (.int x0), .val (.int x1), .val (.int x2), .val (.int x3), .val (.float f0), .val (.float f1), .val (.long (own_K x0 x1)), .second, .val (.long (own_K x2 x3)), .second, .val (.int (1 : Int32))] [(.int (1 : Int32))])) _
      refine XS.goto X14.here hx rfl (pc0 := 70) (pc' := 74) rfl (hb hby at_70) (by decide) (by decide) ?_
      exact k)
    obtain ⟨fs, hr, hrun, hended, hW, hsame⟩ := X14.leave (v := some (.int (1 : Int32))) (fun h => by rw [Bd.returns] at h; cases h)
    refine ⟨_, _, p16 _ ?_, hrun, hended, _, _, rfl, ?_, ⟨_, rfl⟩, hW, hsame.mono (by decide) (by decide)⟩
    · show Steps p.tables e below (T14.setTop (mkF m 74 #[.val (.int x0), .val (.int x1), .val (.int x2), .val (.int x3), .val (.float f0), .val (.float f1), .val (.long (own_K x0 x1)), .second, .val (.long (own_K x2 x3)), .second, .val (.int (1 : Int32))] [(.int (1 : Int32))])) _
      exact retN X14 hx (t := .boolean) Bd.returns (by simp) (hb hby at_74) hr
    · show Q0 Z x0 x1 x2 x3 h0 n0 _ T14.heap _
      rw [e14]
      exact ⟨rfl, N14⟩
  · have hf := own_feq hv0 hv1 hk
    obtain ⟨_, _, ⟨T17, L17, k17, n17⟩, -, X17, ⟨Lc17, hQ17, l17, y17, z17⟩, st17⟩ := Jvm.LawKit.callS X11 hx (y := (⟨"com/example/kalchas/kalchas/io/RunOrder", "compareScores", "(FF)I"⟩ : MethodName)) hown (mvT hZ (hw _ (List.mem_of_getElem? (i := 10) rfl))) (mvT hZ (hw _ (List.mem_of_getElem? (i := 11) rfl))) (mvT hZ (hw _ (List.mem_of_getElem? (i := 12) rfl))) (mvT hZ (hw _ (List.mem_of_getElem? (i := 13) rfl))) (by decide) (backOf (W := 0) (rmeq l Z a0 hw [] f0 f1  h0 n0 Z0 hf) hZ (hw _ (List.mem_of_getElem? (i := 13) rfl)) (hw _ (List.mem_of_getElem? (i := 12) rfl)) (by decide) (by decide)) (g := (mkF m 32 #[.val (.int x0), .val (.int x1), .val (.int x2), .val (.int x3), .val (.float f0), .val (.float f1), .val (.long (own_K x0 x1)), .second, .val (.long (own_K x2 x3)), .second, .unset] [(.float f1), (.float f0)])) rfl (by rw [hml]; rfl) (argsL := [(.float f0), (.float f1)]) (rest := []) (lenOf pd0_2 rfl) rfl (by show 2 * 0 + _ ≤ _; exact Nat.le_of_eq rfl) (hb hby at_32) (fun _ _ => ⟨rfl, e11, (by decide : 0 + 0 ≤ _), (by decide : 0 + 0 ≤ _)⟩)
    dsimp only [Pt.U, Pt.locs, Pt.cells, Pt.slots] at X17 l17 y17 z17 st17 hQ17
    subst l17 y17 z17
    obtain ⟨rfl, Nq17, e17⟩ := hQ17
    have N17 := Fr.app N11 Nq17
    have p18 : ∀ t, Steps p.tables e below (T17.setTop (mkF m 35 #[.val (.int x0), .val (.int x1), .val (.int x2), .val (.int x3), .val (.float f0), .val (.float f1), .val (.long (own_K x0 x1)), .second, .val (.long (own_K x2 x3)), .second, .unset] [(.int (0 : Int32))])) t → Steps p.tables e below (s₁.setTop (entryFrame m #[(.int x0), (.int x1), (.int x2), (.int x3)] maxLocals)) t := fun t k => p13 t (st17 _ k)
    have p19 : ∀ t, Steps p.tables e below (T17.setTop (mkF m 85 #[.val (.int x0), .val (.int x1), .val (.int x2), .val (.int x3), .val (.float f0), .val (.float f1), .val (.long (own_K x0 x1)), .second, .val (.long (own_K x2 x3)), .second, .val (.int (0 : Int32))] [(.int (1 : Int32))])) t → Steps p.tables e below (s₁.setTop (entryFrame m #[(.int x0), (.int x1), (.int x2), (.int x3)] maxLocals)) t := fun t k => p18 t (by
      show Steps p.tables e below (T17.setTop (mkF m 35 #[.val (.int x0), .val (.int x1), .val (.int x2), .val (.int x3), .val (.float f0), .val (.float f1), .val (.long (own_K x0 x1)), .second, .val (.long (own_K x2 x3)), .second, .unset] [(.int (0 : Int32))])) _
      refine XS.istore X17.here hx rfl (hb hby at_35) rfl (l' := #[.val (.int x0), .val (.int x1), .val (.int x2), .val (.int x3), .val (.float f0), .val (.float f1), .val (.long (own_K x0 x1)), .second, .val (.long (own_K x2 x3)), .second, .val (.int (0 : Int32))]) rfl ?_
      show Steps p.tables e below (T17.setTop (mkF m 37 #[.val (.int x0), .val (.int x1), .val (.int x2), .val (.int x3), .val (.float f0), .val (.float f1), .val (.long (own_K x0 x1)), .second, .val (.long (own_K x2 x3)), .second, .val (.int (0 : Int32))] [])) _
      refine XS.lload X17.here hx rfl (hb hby at_37) rfl ?_
      show Steps p.tables e below (T17.setTop (mkF m 39 #[.val (.int x0), .val (.int x1), .val (.int x2), .val (.int x3), .val (.float f0), .val (.float f1), .val (.long (own_K x0 x1)), .second, .val (.long (own_K x2 x3)), .second, .val (.int (0 : Int32))] [(.long (own_K x0 x1))])) _
      refine XS.lload X17.here hx rfl (hb hby at_39) rfl ?_
      show Steps p.tables e below (T17.setTop (mkF m 41 #[.val (.int x0), .val (.int x1), .val (.int x2), .val (.int x3), .val (.float f0), .val (.float f1), .val (.long (own_K x0 x1)), .second, .val (.long (own_K x2 x3)), .second, .val (.int (0 : Int32))] [(.long (own_K x2 x3)), (.long (own_K x0 x1))])) _
      refine XS.lcmp X17.here hx rfl (hb hby at_41) rfl ?_
      show Steps p.tables e below (T17.setTop (mkF m 42 #[.val (.int x0), .val (.int x1), .val (.int x2), .val (.int x3), .val (.float f0), .val (.float f1), .val (.long (own_K x0 x1)), .second, .val (.long (own_K x2 x3)), .second, .val (.int (0 : Int32))] [(.int (lcmpW (own_K x0 x1) (own_K x2 x3)))])) _
      refine XS.ifYes X17.here hx rfl (pc0 := 42) (pc' := 56) rfl (hb hby at_42) rfl ((if0 _ _).trans (flt (own_lcn (fun q => own_irr _ (hk ▸ q)))).2.2.2) (by decide) (by decide) ?_
      show Steps p.tables e below (T17.setTop (mkF m 56 #[.val (.int x0), .val (.int x1), .val (.int x2), .val (.int x3), .val (.float f0), .val (.float f1), .val (.long (own_K x0 x1)), .second, .val (.long (own_K x2 x3)), .second, .val (.int (0 : Int32))] [])) _
      refine XS.lload X17.here hx rfl (hb hby at_56) rfl ?_
      show Steps p.tables e below (T17.setTop (mkF m 58 #[.val (.int x0), .val (.int x1), .val (.int x2), .val (.int x3), .val (.float f0), .val (.float f1), .val (.long (own_K x0 x1)), .second, .val (.long (own_K x2 x3)), .second, .val (.int (0 : Int32))] [(.long (own_K x0 x1))])) _
      refine XS.lload X17.here hx rfl (hb hby at_58) rfl ?_
      show Steps p.tables e below (T17.setTop (mkF m 60 #[.val (.int x0), .val (.int x1), .val (.int x2), .val (.int x3), .val (.float f0), .val (.float f1), .val (.long (own_K x0 x1)), .second, .val (.long (own_K x2 x3)), .second, .val (.int (0 : Int32))] [(.long (own_K x2 x3)), (.long (own_K x0 x1))])) _
      refine XS.lcmp X17.here hx rfl (hb hby at_60) rfl ?_
      show Steps p.tables e below (T17.setTop (mkF m 61 #[.val (.int x0), .val (.int x1), .val (.int x2), .val (.int x3), .val (.float f0), .val (.float f1), .val (.long (own_K x0 x1)), .second, .val (.long (own_K x2 x3)), .second, .val (.int (0 : Int32))] [(.int (lcmpW (own_K x0 x1) (own_K x2 x3)))])) _
      refine XS.ifYes X17.here hx rfl (pc0 := 61) (pc' := 75) rfl (hb hby at_61) rfl ((if0 _ _).trans (flt (own_lce (fun q => own_irr _ (hk ▸ q)))).2.1) (by decide) (by decide) ?_
      show Steps p.tables e below (T17.setTop (mkF m 75 #[.val (.int x0), .val (.int x1), .val (.int x2), .val (.int x3), .val (.float f0), .val (.float f1), .val (.long (own_K x0 x1)), .second, .val (.long (own_K x2 x3)), .second, .val (.int (0 : Int32))] [])) _
      refine XS.iload X17.here hx rfl (hb hby at_75) rfl ?_
      show Steps p.tables e below (T17.setTop (mkF m 77 #[.val (.int x0), .val (.int x1), .val (.int x2), .val (.int x3), .val (.float f0), .val (.float f1), .val (.long (own_K x0 x1)), .second, .val (.long (own_K x2 x3)), .second, .val (.int (0 : Int32))] [(.int (0 : Int32))])) _
      refine XS.ifNo X17.here hx rfl (hb hby at_77) rfl ((if0 _ _).trans (teq (rfl)).2) ?_
      show Steps p.tables e below (T17.setTop (mkF m 80 #[.val (.int x0), .val (.int x1), .val (.int x2), .val (.int x3), .val (.float f0), .val (.float f1), .val (.long (own_K x0 x1)), .second, .val (.long (own_K x2 x3)), .second, .val (.int (0 : Int32))] [])) _
      refine XS.iconst X17.here hx rfl (hb hby at_80) ?_
      show Steps p.tables e below (T17.setTop (mkF m 81 #[.val (.int x0), .val (.int x1), .val (.int x2), .val (.int x3), .val (.float f0), .val (.float f1), .val (.long (own_K x0 x1)), .second, .val (.long (own_K x2 x3)), .second, .val (.int (0 : Int32))] [(.int (1 : Int32))])) _
      refine XS.goto X17.here hx rfl (pc0 := 81) (pc' := 85) rfl (hb hby at_81) (by decide) (by decide) ?_
      exact k)
    obtain ⟨fs, hr, hrun, hended, hW, hsame⟩ := X17.leave (v := some (.int (1 : Int32))) (fun h => by rw [Bd.returns] at h; cases h)
    refine ⟨_, _, p19 _ ?_, hrun, hended, _, _, rfl, ?_, ⟨_, rfl⟩, hW, hsame.mono (by decide) (by decide)⟩
    · show Steps p.tables e below (T17.setTop (mkF m 85 #[.val (.int x0), .val (.int x1), .val (.int x2), .val (.int x3), .val (.float f0), .val (.float f1), .val (.long (own_K x0 x1)), .second, .val (.long (own_K x2 x3)), .second, .val (.int (0 : Int32))] [(.int (1 : Int32))])) _
      exact retN X17 hx (t := .boolean) Bd.returns (by simp) (hb hby at_85) hr
    · show Q0 Z x0 x1 x2 x3 h0 n0 _ T17.heap _
      rw [e17]
      exact ⟨rfl, N17⟩
  · have hf := own_fgt hv0 hv1 hk
    obtain ⟨_, _, ⟨T20, L20, k20, n20⟩, -, X20, ⟨Lc20, hQ20, l20, y20, z20⟩, st20⟩ := Jvm.LawKit.callS X11 hx (y := (⟨"com/example/kalchas/kalchas/io/RunOrder", "compareScores", "(FF)I"⟩ : MethodName)) hown (mvT hZ (hw _ (List.mem_of_getElem? (i := 10) rfl))) (mvT hZ (hw _ (List.mem_of_getElem? (i := 11) rfl))) (mvT hZ (hw _ (List.mem_of_getElem? (i := 12) rfl))) (mvT hZ (hw _ (List.mem_of_getElem? (i := 13) rfl))) (by decide) (backOf (W := 0) (rmgt l Z a0 hw [] f0 f1  h0 n0 Z0 hf) hZ (hw _ (List.mem_of_getElem? (i := 13) rfl)) (hw _ (List.mem_of_getElem? (i := 12) rfl)) (by decide) (by decide)) (g := (mkF m 32 #[.val (.int x0), .val (.int x1), .val (.int x2), .val (.int x3), .val (.float f0), .val (.float f1), .val (.long (own_K x0 x1)), .second, .val (.long (own_K x2 x3)), .second, .unset] [(.float f1), (.float f0)])) rfl (by rw [hml]; rfl) (argsL := [(.float f0), (.float f1)]) (rest := []) (lenOf pd0_2 rfl) rfl (by show 2 * 0 + _ ≤ _; exact Nat.le_of_eq rfl) (hb hby at_32) (fun _ _ => ⟨rfl, e11, (by decide : 0 + 0 ≤ _), (by decide : 0 + 0 ≤ _)⟩)
    dsimp only [Pt.U, Pt.locs, Pt.cells, Pt.slots] at X20 l20 y20 z20 st20 hQ20
    subst l20 y20 z20
    obtain ⟨rfl, Nq20, e20⟩ := hQ20
    have N20 := Fr.app N11 Nq20
    have p21 : ∀ t, Steps p.tables e below (T20.setTop (mkF m 35 #[.val (.int x0), .val (.int x1), .val (.int x2), .val (.int x3), .val (.float f0), .val (.float f1), .val (.long (own_K x0 x1)), .second, .val (.long (own_K x2 x3)), .second, .unset] [(.int (-1 : Int32))])) t → Steps p.tables e below (s₁.setTop (entryFrame m #[(.int x0), (.int x1), (.int x2), (.int x3)] maxLocals)) t := fun t k => p13 t (st20 _ k)
    have p22 : ∀ t, Steps p.tables e below (T20.setTop (mkF m 55 #[.val (.int x0), .val (.int x1), .val (.int x2), .val (.int x3), .val (.float f0), .val (.float f1), .val (.long (own_K x0 x1)), .second, .val (.long (own_K x2 x3)), .second, .val (.int (-1 : Int32))] [(.int (1 : Int32))])) t → Steps p.tables e below (s₁.setTop (entryFrame m #[(.int x0), (.int x1), (.int x2), (.int x3)] maxLocals)) t := fun t k => p21 t (by
      show Steps p.tables e below (T20.setTop (mkF m 35 #[.val (.int x0), .val (.int x1), .val (.int x2), .val (.int x3), .val (.float f0), .val (.float f1), .val (.long (own_K x0 x1)), .second, .val (.long (own_K x2 x3)), .second, .unset] [(.int (-1 : Int32))])) _
      refine XS.istore X20.here hx rfl (hb hby at_35) rfl (l' := #[.val (.int x0), .val (.int x1), .val (.int x2), .val (.int x3), .val (.float f0), .val (.float f1), .val (.long (own_K x0 x1)), .second, .val (.long (own_K x2 x3)), .second, .val (.int (-1 : Int32))]) rfl ?_
      show Steps p.tables e below (T20.setTop (mkF m 37 #[.val (.int x0), .val (.int x1), .val (.int x2), .val (.int x3), .val (.float f0), .val (.float f1), .val (.long (own_K x0 x1)), .second, .val (.long (own_K x2 x3)), .second, .val (.int (-1 : Int32))] [])) _
      refine XS.lload X20.here hx rfl (hb hby at_37) rfl ?_
      show Steps p.tables e below (T20.setTop (mkF m 39 #[.val (.int x0), .val (.int x1), .val (.int x2), .val (.int x3), .val (.float f0), .val (.float f1), .val (.long (own_K x0 x1)), .second, .val (.long (own_K x2 x3)), .second, .val (.int (-1 : Int32))] [(.long (own_K x0 x1))])) _
      refine XS.lload X20.here hx rfl (hb hby at_39) rfl ?_
      show Steps p.tables e below (T20.setTop (mkF m 41 #[.val (.int x0), .val (.int x1), .val (.int x2), .val (.int x3), .val (.float f0), .val (.float f1), .val (.long (own_K x0 x1)), .second, .val (.long (own_K x2 x3)), .second, .val (.int (-1 : Int32))] [(.long (own_K x2 x3)), (.long (own_K x0 x1))])) _
      refine XS.lcmp X20.here hx rfl (hb hby at_41) rfl ?_
      show Steps p.tables e below (T20.setTop (mkF m 42 #[.val (.int x0), .val (.int x1), .val (.int x2), .val (.int x3), .val (.float f0), .val (.float f1), .val (.long (own_K x0 x1)), .second, .val (.long (own_K x2 x3)), .second, .val (.int (-1 : Int32))] [(.int (lcmpW (own_K x0 x1) (own_K x2 x3)))])) _
      refine XS.ifNo X20.here hx rfl (hb hby at_42) rfl ((if0 _ _).trans (tlt (own_lcg hk)).2.2.2) ?_
      show Steps p.tables e below (T20.setTop (mkF m 45 #[.val (.int x0), .val (.int x1), .val (.int x2), .val (.int x3), .val (.float f0), .val (.float f1), .val (.long (own_K x0 x1)), .second, .val (.long (own_K x2 x3)), .second, .val (.int (-1 : Int32))] [])) _
      refine XS.iload X20.here hx rfl (hb hby at_45) rfl ?_
      show Steps p.tables e below (T20.setTop (mkF m 47 #[.val (.int x0), .val (.int x1), .val (.int x2), .val (.int x3), .val (.float f0), .val (.float f1), .val (.long (own_K x0 x1)), .second, .val (.long (own_K x2 x3)), .second, .val (.int (-1 : Int32))] [(.int (-1 : Int32))])) _
      refine XS.ifNo X20.here hx rfl (hb hby at_47) rfl ((if0 _ _).trans (tlt (by decide)).2.1) ?_
      show Steps p.tables e below (T20.setTop (mkF m 50 #[.val (.int x0), .val (.int x1), .val (.int x2), .val (.int x3), .val (.float f0), .val (.float f1), .val (.long (own_K x0 x1)), .second, .val (.long (own_K x2 x3)), .second, .val (.int (-1 : Int32))] [])) _
      refine XS.iconst X20.here hx rfl (hb hby at_50) ?_
      show Steps p.tables e below (T20.setTop (mkF m 51 #[.val (.int x0), .val (.int x1), .val (.int x2), .val (.int x3), .val (.float f0), .val (.float f1), .val (.long (own_K x0 x1)), .second, .val (.long (own_K x2 x3)), .second, .val (.int (-1 : Int32))] [(.int (1 : Int32))])) _
      refine XS.goto X20.here hx rfl (pc0 := 51) (pc' := 55) rfl (hb hby at_51) (by decide) (by decide) ?_
      exact k)
    obtain ⟨fs, hr, hrun, hended, hW, hsame⟩ := X20.leave (v := some (.int (1 : Int32))) (fun h => by rw [Bd.returns] at h; cases h)
    refine ⟨_, _, p22 _ ?_, hrun, hended, _, _, rfl, ?_, ⟨_, rfl⟩, hW, hsame.mono (by decide) (by decide)⟩
    · show Steps p.tables e below (T20.setTop (mkF m 55 #[.val (.int x0), .val (.int x1), .val (.int x2), .val (.int x3), .val (.float f0), .val (.float f1), .val (.long (own_K x0 x1)), .second, .val (.long (own_K x2 x3)), .second, .val (.int (-1 : Int32))] [(.int (1 : Int32))])) _
      exact retN X20 hx (t := .boolean) Bd.returns (by simp) (hb hby at_55) hr
    · show Q0 Z x0 x1 x2 x3 h0 n0 _ T20.heap _
      rw [e20]
      exact ⟨rfl, N20⟩
set_option maxRecDepth 65536 in
set_option maxHeartbeats 40000000 in
theorem comes_1 {Post : Tables → Env → Array Value → State → Outcome → State → Prop} (hpost : ∀ tb e args s v u, (limb_1_1.after args s (.returned v) u = true ∧ limb_1_2.after args s (.returned v) u = true ∧ True) → FrameEnd s (.returned v) u (Jvm.fieldLocs frame_1_writes args s ++ Jvm.arrayLocs frame_1_arrays args s ++ Jvm.staticLocs frame_1_statics s) 0 0 → Post tb e args s (.returned v) u) :
    ArmFor flags0 classFile x code maxLocals ret World_1 tables_1 room_1 Calls_1 rest_1 Pre_1 Post := by
  intro l hfl _ _ p e ha hc hk s m args below hf hA hF happ hP
  obtain ⟨hcalls, hrest, hpre⟩ := hP
  obtain ⟨-, -, -, hnamed, -, -, -, hat⟩ := (Spec.applies_iff hf).mp happ
  obtain ⟨hg, hn⟩ := and_e (Cond.before_iff.mp (show (Jvm.Cond.and given_1 narrow_1).before args s = true from hpre))
  obtain ⟨hcount, ga0⟩ := and_e hg
  obtain ⟨gb0, ga1⟩ := and_e ga0
  obtain ⟨gb1, ga2⟩ := and_e ga1
  obtain ⟨gb2, ga3⟩ := and_e ga2
  obtain ⟨w0, w1, w2, w3, rfl⟩ : ∃ w0 w1 w2 w3 : Value, args = #[w0, w1, w2, w3] := by
    have hs : args.size = 4 := by simpa [Cond.value, given_1] using hcount
    obtain ⟨L⟩ := args
    match L, hs with
    | [w0, w1, w2, w3], _ => exact ⟨w0, w1, w2, w3, rfl⟩
  have hw := fun d (hd : d ∈ tables_1) => atoms_spec (ws := Jvm.Cond.code x code maxLocals ret :: tables_1) hat d (List.mem_cons_of_mem _ hd)
  have hfit : Fit s := fun {y c} hc i hi => by
    obtain ⟨ha, rfl⟩ := Array.getElem?_eq_some_iff.mp hc
    have q := List.all_eq_true.mp ((Array.all_eq_true_iff_forall_mem.mp hF) _ (Array.getElem_mem ha)) i (List.mem_range.mpr hi)
    simpa [Array.getElem?_eq_getElem hi] using q
  obtain ⟨i0, ei0⟩ := is_v gb0
  obtain rfl : w0 = (.int i0) := Option.some.inj ei0
  obtain ⟨i1, ei1⟩ := is_v gb1
  obtain rfl : w1 = (.int i1) := Option.some.inj ei1
  obtain ⟨i2, ei2⟩ := is_v gb2
  obtain rfl : w2 = (.int i2) := Option.some.inj ei2
  obtain ⟨i3, ei3⟩ := is_v ga3
  obtain rfl : w3 = (.int i3) := Option.some.inj ei3
  obtain ⟨n, o, h1, h2, h3, _, L, rfl, ⟨rfl, N⟩, hq⟩ := rm0 l s _ hw tables_1 i0 i1 i2 i3 s.heap s.heap.size (Nat.le_refl _) p e ha hc hk s m _ below hf ((Spec.applies_iff_loose hf).mp happ).1 ⟨rfl, State.Warmed39.refl s, rfl⟩ trivial
  refine ⟨n, _, h1, h2, h3, hpost _ _ _ _ _ _ ⟨Cond.after_iff.mpr rfl, Cond.after_iff.mpr (eq_i res_at (Term.int_eval (1)) rfl), trivial⟩ ⟨hq.1, hq.2.1, (hq.2.2.sift fun y hy => Or.inr (N y hy)).mono (by decide) (by decide)⟩⟩
theorem main_1_1 : Claimed_1_1 := comes_1 fun _ _ _ _ _ _ h hF => ⟨h.1, hF⟩
theorem main_1_2 : Claimed_1_2 := comes_1 fun _ _ _ _ _ _ h hF => ⟨h.2.1, hF⟩
end Jvm.Pilot.@@N@@
namespace Jvm.Pilot.@@N@@
open Jvm Jvm.ClassFile Sem Op Lib Jvm.Free Jvm.Stand Jvm.Pilot.@@N@@.Jvm.D
/-! MADE BY PROGRAM (witnessworld.py) out of the Statement's table words and the real class files: 9 classes; the members and pool entries that the words name. The judged class is class 1, her method 3. -/
namespace start1
open Jvm.ClassFile
def u (s : String) : CpInfo := .utf8 (stringToUtf16 s)
/-- a pool by its gaps: so many unusable entries, then the entry; so many at the end -/
def gap : Nat → List CpInfo → List CpInfo
  | 0, r => r
  | n + 1, r => .unusable :: gap n r
def poolList (es : List (Nat × CpInfo)) (last : Nat) : List CpInfo := es.foldr (fun e r => gap e.1 (e.2 :: r)) (gap last [])
def pool (es : List (Nat × CpInfo)) (last : Nat) : Array CpInfo := ⟨poolList es last⟩
def fileOf (pool : Array CpInfo) (this : Nat) (attrs : Array Attribute := #[]) (ms : Array MethodInfo := #[]) (fl : Nat := 33) (sup : Nat := 0) (ifs : Array Nat := #[]) (fds : Array FieldInfo := #[]) : ClassFile where
  minorVersion := 0
  majorVersion := 65
  constantPool := pool
  accessFlags := fl
  thisClass := this
  superClass := sup
  interfaces := ifs
  fields := fds
  methods := ms
  attributes := attrs
def plain (name : String) (sup : Option ClassId) : Class where
  name := name
  kind := .ordinary
  loader := none
  accessFlags := 33
  super := sup
  interfaces := #[]
  cf := none
  fields := #[]
  methods := #[]
  instanceTypes := #[]
  staticTypes := #[]
  resolved := #[]
  callSites := []
  init := .initialized
  statics := none
  mirror := none

def pool0 : Array CpInfo := pool [(5, u "<init>"), (0, u "()V"), (1, .class_ 10), (1, u "java/lang/Object")] 113

def k0m0 : Method := { name := "<init>", desc := "()V", sig := { parameters := [], returnType := none }, accessFlags := 1, code := none }
/-- java/lang/Object -/
def k0 : Class := { plain "java/lang/Object" none with
  accessFlags := 33
  interfaces := #[]
  cf := some (fileOf pool0 8 #[] #[{ accessFlags := 1, nameIndex := 5, descriptorIndex := 6, attributes := #[] }] 33 0 #[] #[])
  fields := #[]
  methods := #[k0m0]
  instanceTypes := #[]
  staticTypes := #[]
  resolved := Array.replicate 124 none
  statics := none }

def pool1 : Array CpInfo := pool [(2, .class_ 4), (1, u "java/lang/Object"), (0, u "<init>"), (0, u "()V"), (0, .integer 16777216), (0, .float 1056964608), (2, .float 2139095040), (0, .float 4286578688), (0, .float 2139095039), (0, .float 4286578687), (0, .long 18446744073709551614), (3, .long 9223372036854775807), (1, .long 9223372036854775808), (1, .long 9223372036854775806), (1, .long 9223372036854775809), (1, .long 2), (1, .methodref 30 31), (0, .class_ 32), (0, .nameAndType 33 34), (0, u "com/example/kalchas/kalchas/io/RunOrderCompareScoresPinLaw"), (0, u "value"), (0, u "(II)F"), (0, .methodref 30 36), (0, .nameAndType 37 38), (0, u "key"), (0, u "(II)J"), (0, .methodref 40 41), (0, .class_ 42), (0, .nameAndType 43 44), (0, u "com/example/kalchas/kalchas/io/RunOrder"), (0, u "compareScores"), (0, u "(FF)I"), (3, u "law"), (0, u "(IIII)Z")] 2

def k1m0 : Method := { name := "<init>", desc := "()V", sig := { parameters := [], returnType := none }, accessFlags := 2, code := none }
def k1c1 : Code := { maxStack := 2, maxLocals := 4, code := method_2_code, exceptionTable := #[], attributes := #[] }
def k1m1 : Method := { name := "value", desc := "(II)F", sig := { parameters := [.int, .int], returnType := some .float }, accessFlags := 10, code := some k1c1 }
def k1c2 : Code := { maxStack := 4, maxLocals := 5, code := method_3_code, exceptionTable := #[], attributes := #[] }
def k1m2 : Method := { name := "key", desc := "(II)J", sig := { parameters := [.int, .int], returnType := some .long }, accessFlags := 10, code := some k1c2 }
def k1c3 : Code := { maxStack := 4, maxLocals := 11, code := code, exceptionTable := #[], attributes := #[] }
def k1m3 : Method := { name := "law", desc := "(IIII)Z", sig := { parameters := [.int, .int, .int, .int], returnType := some .boolean }, accessFlags := 9, code := some k1c3 }
/-- com/example/kalchas/kalchas/io/RunOrderCompareScoresPinLaw -/
def k1 : Class := { plain "com/example/kalchas/kalchas/io/RunOrderCompareScoresPinLaw" (some 0) with
  accessFlags := 49
  interfaces := #[]
  cf := some (fileOf pool1 30 #[] #[{ accessFlags := 2, nameIndex := 5, descriptorIndex := 6, attributes := #[] }, { accessFlags := 10, nameIndex := 33, descriptorIndex := 34, attributes := #[] }, { accessFlags := 10, nameIndex := 37, descriptorIndex := 38, attributes := #[] }, { accessFlags := 9, nameIndex := 48, descriptorIndex := 49, attributes := #[] }] 49 2 #[] #[])
  fields := #[]
  methods := #[k1m0, k1m1, k1m2, k1m3]
  instanceTypes := #[]
  staticTypes := #[]
  resolved := Array.replicate 52 none
  statics := none }

def pool2 : Array CpInfo := pool [(2, .class_ 4), (1, u "java/lang/Object"), (0, u "<init>"), (0, u "()V"), (7, .class_ 16), (1, u "com/example/kalchas/kalchas/io/RunOrder"), (0, u "compareScores"), (0, u "(FF)I")] 14

def k2m0 : Method := { name := "<init>", desc := "()V", sig := { parameters := [], returnType := none }, accessFlags := 2, code := none }
def k2c1 : Code := { maxStack := 2, maxLocals := 3, code := prog_49_method_3_code, exceptionTable := #[], attributes := #[] }
def k2m1 : Method := { name := "compareScores", desc := "(FF)I", sig := { parameters := [.float, .float], returnType := some .int }, accessFlags := 9, code := some k2c1 }
/-- com/example/kalchas/kalchas/io/RunOrder -/
def k2 : Class := { plain "com/example/kalchas/kalchas/io/RunOrder" (some 0) with
  accessFlags := 49
  interfaces := #[]
  cf := some (fileOf pool2 14 #[] #[{ accessFlags := 2, nameIndex := 5, descriptorIndex := 6, attributes := #[] }, { accessFlags := 9, nameIndex := 17, descriptorIndex := 18, attributes := #[] }] 49 2 #[] #[])
  fields := #[]
  methods := #[k2m0, k2m1]
  instanceTypes := #[]
  staticTypes := #[]
  resolved := Array.replicate 33 none
  statics := none }

def pool3 : Array CpInfo := pool [(1, u "java/lang/Cloneable"), (0, .class_ 1), (0, u "java/lang/Object"), (0, .class_ 3)] 3

/-- java/lang/Cloneable -/
def k3 : Class := { plain "java/lang/Cloneable" (some 0) with
  accessFlags := 1537
  interfaces := #[]
  cf := some (fileOf pool3 2 #[] #[] 1537 4 #[] #[])
  fields := #[]
  methods := #[]
  instanceTypes := #[]
  staticTypes := #[]
  resolved := Array.replicate 8 none
  statics := none }

def pool4 : Array CpInfo := pool [(1, u "java/io/Serializable"), (0, .class_ 1), (0, u "java/lang/Object"), (0, .class_ 3)] 3

/-- java/io/Serializable -/
def k4 : Class := { plain "java/io/Serializable" (some 0) with
  accessFlags := 1537
  interfaces := #[]
  cf := some (fileOf pool4 2 #[] #[] 1537 4 #[] #[])
  fields := #[]
  methods := #[]
  instanceTypes := #[]
  staticTypes := #[]
  resolved := Array.replicate 8 none
  statics := none }

/-- the primitive byte -/
def k5 : Class := { plain "byte" none with kind := .primitive 'B', accessFlags := 0x411 }
/-- [B -/
def k6 : Class := { plain "[B" (some 0) with kind := .array 5 .byte, interfaces := #[3, 4], accessFlags := 1041 }

/-- the primitive int -/
def k7 : Class := { plain "int" none with kind := .primitive 'I', accessFlags := 0x411 }
/-- [I -/
def k8 : Class := { plain "[I" (some 0) with kind := .array 7 .int, interfaces := #[3, 4], accessFlags := 1041 }

def heap : Heap := #[]
def classes : Array Class := #[k0, k1, k2, k3, k4, k5, k6, k7, k8]
def interned : List (Array UInt16 × Addr) := []
def slotsUsed : Nat := 0
def theMethod : MethodId := ⟨1, 3⟩
def args0 : Array Value := #[.int 5, .int 3, .int 6, .int 2]
def aboutOver (below : List Frame) : State where
  vm := { classes := classes, interned := interned.toArray }
  heap := heap
  slotsUsed := slotsUsed
  threads := #[{ frames := .invoking theMethod args0 :: below }]
def below0 : List Frame := [.native { method := ⟨0, 0⟩, args := #[] }]
def about1 : State := aboutOver below0
def p0 : Program := .bare "" "" ""
def e0 : Env := launch0.env 0 0 0
theorem w_frames : about1.frames = Frame.invoking theMethod args0 :: below0 := rfl
set_option maxRecDepth 65536 in
theorem w_args : argsFit about1.vm theMethod args0 = true := by decide +kernel
set_option maxRecDepth 65536 in
theorem w_heap : heapFits about1 = true := by decide +kernel
set_option maxRecDepth 65536 in
theorem w_runnable : about1.curStatus? = some .runnable := by decide +kernel
set_option maxRecDepth 65536 in
theorem w_alone : about1.alone = true := by decide +kernel
set_option maxRecDepth 65536 in
theorem w_named : about1.methodNamed? x = some theMethod := by decide +kernel
set_option maxRecDepth 65536 in
theorem w_hears : about1.hears theMethod below0 = true := by decide +kernel
set_option maxRecDepth 65536 in
theorem w_ripe : about1.ripe theMethod args0 below0 = true := by decide +kernel
theorem w_running : about1.status = .running := rfl
set_option maxRecDepth 65536 in
theorem w_room : about1.hasRoom e0.platform room_1 = true :=
  launch0.hasRoom_least _ room_1 (by decide +kernel) (by decide +kernel) (by decide +kernel) (by decide +kernel) (by decide +kernel) (by decide +kernel)
theorem allAtoms_all (ts : List Jvm.Cond) (a : Array Jvm.Value) (st : Jvm.State) : (allAtoms ts).before a st = ts.all (fun c => c.before a st) := by
  induction ts with
  | nil => rfl
  | cons c t ih =>
    show (Jvm.Cond.and c (allAtoms t)).before a st = _
    rw [Jvm.Cond.before_and, ih, List.all_cons]
def words1 : List Jvm.Cond := Jvm.Cond.code x code maxLocals ret :: tables_1
/-- a 'code' word, met by the world's own term for the bytes: nothing is compared byte by byte -/
theorem code_word {y : MethodName} {bytes : ByteArray} {mx : Nat} {rt : Option FieldType} {a : Array Value} {s : State} {m : MethodId} {meth : Method} {c : Code} (h1 : s.methodNamed? y = some m) (h2 : s.vm.method? m = some meth) (h3 : meth.code = some c) (h4 : c.code = bytes)
    (h5 : (c.maxLocals == mx && c.exceptionTable.isEmpty && decide (c.maxStack ≤ mostOperands) && decide (meth.sig.returnType = rt) && !meth.locks && decide (parseMethodDescriptor y.desc = some meth.sig)) = true) : (Jvm.Cond.code y bytes mx rt).before a s = true := by
  simp only [Bool.and_eq_true, beq_iff_eq, Bool.not_eq_true', decide_eq_true_eq] at h5
  obtain ⟨⟨⟨⟨⟨g1, g2⟩, g3⟩, g4⟩, g5⟩, g6⟩ := h5
  simp [Cond.before, Cond.holds, Cond.value, h1, h2, h3, h4, g1, g2, g3, g4, g5, g6]
def isCode : Jvm.Cond → Bool
  | .code _ _ _ _ => true
  | _ => false
theorem all_split {L : List Jvm.Cond} {P : Jvm.Cond → Bool} (h1 : L.all (fun c => isCode c || P c) = true) (h2 : ∀ c ∈ L.filter isCode, P c = true) : L.all P = true := by
  refine List.all_eq_true.mpr fun c hc => ?_
  have h := List.all_eq_true.mp h1 c hc
  rcases Bool.eq_false_or_eq_true (isCode c) with hi | hi
  · exact h2 c (List.mem_filter.mpr ⟨hc, hi⟩)
  · simpa [hi] using h
set_option maxRecDepth 65536 in
theorem w_c0 : (Jvm.Cond.code x code maxLocals ret).before args0 about1 = true := code_word (m := ⟨1, 3⟩) (meth := k1m3) (c := k1c3) (by decide +kernel) rfl rfl rfl (by decide +kernel)
set_option maxRecDepth 65536 in
theorem w_c1 : (Jvm.Cond.code ({ cls := "com/example/kalchas/kalchas/io/RunOrderCompareScoresPinLaw", name := "value", desc := "(II)F" } : Jvm.MethodName) method_2_code (4 : Nat) (Option.some Jvm.ClassFile.FieldType.float)).before args0 about1 = true := code_word (m := ⟨1, 1⟩) (meth := k1m1) (c := k1c1) (by decide +kernel) rfl rfl rfl (by decide +kernel)
set_option maxRecDepth 65536 in
theorem w_c2 : (Jvm.Cond.code ({ cls := "com/example/kalchas/kalchas/io/RunOrderCompareScoresPinLaw", name := "key", desc := "(II)J" } : Jvm.MethodName) method_3_code (5 : Nat) (Option.some Jvm.ClassFile.FieldType.long)).before args0 about1 = true := code_word (m := ⟨1, 2⟩) (meth := k1m2) (c := k1c2) (by decide +kernel) rfl rfl rfl (by decide +kernel)
set_option maxRecDepth 65536 in
theorem w_c3 : (Jvm.Cond.code ({ cls := "com/example/kalchas/kalchas/io/RunOrder", name := "compareScores", desc := "(FF)I" } : Jvm.MethodName) prog_49_method_3_code (3 : Nat) (Option.some Jvm.ClassFile.FieldType.int)).before args0 about1 = true := code_word (m := ⟨2, 1⟩) (meth := k2m1) (c := k2c1) (by decide +kernel) rfl rfl rfl (by decide +kernel)
def codes1 : List Jvm.Cond := [Jvm.Cond.code x code maxLocals ret, Jvm.Cond.code ({ cls := "com/example/kalchas/kalchas/io/RunOrderCompareScoresPinLaw", name := "value", desc := "(II)F" } : Jvm.MethodName) method_2_code (4 : Nat) (Option.some Jvm.ClassFile.FieldType.float), Jvm.Cond.code ({ cls := "com/example/kalchas/kalchas/io/RunOrderCompareScoresPinLaw", name := "key", desc := "(II)J" } : Jvm.MethodName) method_3_code (5 : Nat) (Option.some Jvm.ClassFile.FieldType.long), Jvm.Cond.code ({ cls := "com/example/kalchas/kalchas/io/RunOrder", name := "compareScores", desc := "(FF)I" } : Jvm.MethodName) prog_49_method_3_code (3 : Nat) (Option.some Jvm.ClassFile.FieldType.int)]
set_option maxRecDepth 65536 in
theorem codes_eq : words1.filter isCode = codes1 := rfl
theorem w_codes : ∀ c ∈ words1.filter isCode, c.before args0 about1 = true := by
  rw [codes_eq]
  intro c hc
  simp only [codes1, List.mem_cons, List.not_mem_nil, or_false] at hc
  rcases hc with rfl | rfl | rfl | rfl
  · exact w_c0
  · exact w_c1
  · exact w_c2
  · exact w_c3
set_option maxRecDepth 65536 in
theorem w_t1 : words1.all (fun c => isCode c || c.before args0 about1) = true := by decide +kernel
theorem w_tables : (allAtoms (Jvm.Cond.code x code maxLocals ret :: tables_1)).before args0 about1 = true := by
  rw [allAtoms_all]
  show words1.all (fun c => c.before args0 about1) = true
  refine all_split ?_ w_codes
  rw [w_t1]
set_option maxRecDepth 65536 in
theorem w_case : (Jvm.Cond.and given_1 narrow_1).before args0 about1 = true := by decide +kernel
theorem w_applies : (headSpec (Jvm.Cond.code x code maxLocals ret :: tables_1) room_1).applies x e0.platform about1 = true :=
  (Spec.applies_iff w_frames).mpr ⟨w_running, w_runnable, w_alone, w_named, w_hears, w_ripe, w_room, w_tables⟩
theorem atStart : AtStart classFile x code maxLocals ret World_1 tables_1 room_1 Calls_1 rest_1 Pre_1 launch0 p0 e0 about1 theMethod args0 below0 :=
  ⟨lists_1, trivial, launch0.admits_env _ _ _, launch0.least_env, fairChoices_fair.cas, fairChoices_fair.clock, w_frames, w_args, w_heap, w_applies, trivial, trivial, w_case⟩
end start1
theorem witness_1 : WitnessClaimed_1 := ⟨start1.p0, start1.e0, start1.about1, start1.theMethod, start1.args0, start1.below0, start1.atStart⟩
end Jvm.Pilot.@@N@@
