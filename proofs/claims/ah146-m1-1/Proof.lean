import JvmDerived
import JvmDerived.Pilot.@@N@@Statement
import JvmDerived.Pilot.@@N@@Code
set_option linter.unusedVariables false
set_option linter.unusedSimpArgs false
namespace Jvm.RoadKit
open Sem ClassFile Op Lib Jvm.Stand Jvm.Free Jvm.LawKit
section New
variable {p : Program} {l : Launch} {e : Env} {R : Room} {s : State} {m : MethodId} {args : Array Value} {below : List Frame} {meth : Method} {c : Code} {T : State} {locs : List Loc} {cells slots : Nat}
theorem retI (X : Stand p l e R s m args below meth c T locs cells slots) (hx : p.tables.exec = Jvm.exec) {pc : Nat} {Ls : Array Slot} {z : Int32} {rest : List Value} (hret : meth.sig.returnType = some .int) (hd : decode c.code pc = .ok (.ireturn, 1)) {fs : List Frame}
    (hl : ∀ (f : JFrame) (acts : List Action), f.method = m → f.locked = none → f.entered = [] → (doReturn e (T.setTop f) acts (some (.int z))).1 = T.setFrames fs) : Steps p.tables e below (T.setTop (mkF m pc Ls (.int z :: rest))) (T.setFrames fs) :=
  retOut X hx hret rfl (Or.inl ⟨rfl, Or.inl rfl, z, rfl⟩) hd hl
end New
end Jvm.RoadKit
namespace Jvm.Pilot.@@N@@
open Jvm Jvm.ClassFile Sem Op Lib Jvm.Free Jvm.Stand Jvm.LawKit Jvm.RoadKit Bundle Jvm.Pilot.@@N@@.Jvm.D

def own_w (x0 : Int32) : Int32 := if x0 < (128 : Int32) then x0 else if x0 < (2048 : Int32) then (((192 : Int32) ||| (x0 >>> ((6 : Int32) &&& 31))) ||| (((128 : Int32) ||| (x0 &&& (63 : Int32))) <<< ((8 : Int32) &&& 31))) else ((((224 : Int32) ||| (x0 >>> ((12 : Int32) &&& 31))) ||| (((128 : Int32) ||| ((x0 >>> ((6 : Int32) &&& 31)) &&& (63 : Int32))) <<< ((8 : Int32) &&& 31))) ||| (((128 : Int32) ||| (x0 &&& (63 : Int32))) <<< ((16 : Int32) &&& 31)))
theorem own_rng {vc x : Int32} (h : vc = (x.toUInt32.toUInt16.toUInt32.toInt32)) : 0 ≤ vc.toInt ∧ vc.toInt < 65536 := by rw [h]; exact ⟨(c_i2c x).2.1, (c_i2c x).2.2⟩
theorem own_fin {P : Int32 → Prop} (H : ∀ n : Fin 256, P (Int32.ofNat n.1)) (x : Int32) (h0 : 0 ≤ x.toInt) (h1 : x.toInt < 256) : P x := by
  have e : x = Int32.ofNat x.toInt.toNat := by
    rw [← Int32.toInt_inj, Int32.toInt_ofNat_of_lt (by omega)]; omega
  rw [e]; exact H ⟨x.toInt.toNat, by omega⟩
theorem own_224 (x : Int32) (h0 : 0 ≤ x.toInt) (h1 : x.toInt < 256) : (x &&& (224 : Int32)).toInt = x.toInt - x.toInt % 32 := own_fin (P := fun x => (x &&& (224 : Int32)).toInt = x.toInt - x.toInt % 32) (by decide +kernel) x h0 h1
theorem own_192 (x : Int32) (h0 : 0 ≤ x.toInt) (h1 : x.toInt < 256) : (x &&& (192 : Int32)).toInt = x.toInt - x.toInt % 64 := own_fin (P := fun x => (x &&& (192 : Int32)).toInt = x.toInt - x.toInt % 64) (by decide +kernel) x h0 h1
theorem own_240 (x : Int32) (h0 : 0 ≤ x.toInt) (h1 : x.toInt < 256) : (x &&& (240 : Int32)).toInt = x.toInt - x.toInt % 16 := own_fin (P := fun x => (x &&& (240 : Int32)).toInt = x.toInt - x.toInt % 16) (by decide +kernel) x h0 h1
theorem own_lits : (0 : Int32).toInt = 0 ∧ (128 : Int32).toInt = 128 ∧ (192 : Int32).toInt = 192 ∧ (224 : Int32).toInt = 224 ∧ (2048 : Int32).toInt = 2048 := by decide
theorem own_m255 (x : Int32) : (x &&& (255 : Int32)).toInt = x.toInt % 256 := c_mask x 255 8 (by decide) (by decide)
theorem own_m63 (x : Int32) : (x &&& (63 : Int32)).toInt = x.toInt % 64 := c_mask x 63 6 (by decide) (by decide)
theorem own_m31 (x : Int32) : (x &&& (31 : Int32)).toInt = x.toInt % 32 := c_mask x 31 5 (by decide) (by decide)
theorem own_m15 (x : Int32) : (x &&& (15 : Int32)).toInt = x.toInt % 16 := c_mask x 15 4 (by decide) (by decide)
theorem own_u8 (x : Int32) : ((x.toUInt32 >>> ((8 : Int32) &&& 31).toUInt32).toInt32).toInt = (x.toInt % 4294967296) / 256 := c_iushr x 8 8 (by decide) (by decide)
theorem own_u16 (x : Int32) : ((x.toUInt32 >>> ((16 : Int32) &&& 31).toUInt32).toInt32).toInt = (x.toInt % 4294967296) / 65536 := c_iushr x 16 16 (by decide) (by decide)
theorem own_u24 (x : Int32) : ((x.toUInt32 >>> ((24 : Int32) &&& 31).toUInt32).toInt32).toInt = (x.toInt % 4294967296) / 16777216 := c_iushr x 24 24 (by decide) (by decide)
theorem own_s6 (x : Int32) : (x >>> ((6 : Int32) &&& 31)).toInt = x.toInt / 64 := c_ishr x 6 6 (by decide)
theorem own_s12 (x : Int32) : (x >>> ((12 : Int32) &&& 31)).toInt = x.toInt / 4096 := c_ishr x 12 12 (by decide)
theorem own_l6 (x : Int32) : ((x <<< ((6 : Int32) &&& 31)).toInt - x.toInt * 64) % 4294967296 = 0 := c_ishl x 6 6 (by decide)
theorem own_l8 (x : Int32) : ((x <<< ((8 : Int32) &&& 31)).toInt - x.toInt * 256) % 4294967296 = 0 := c_ishl x 8 8 (by decide)
theorem own_l12 (x : Int32) : ((x <<< ((12 : Int32) &&& 31)).toInt - x.toInt * 4096) % 4294967296 = 0 := c_ishl x 12 12 (by decide)
theorem own_l16 (x : Int32) : ((x <<< ((16 : Int32) &&& 31)).toInt - x.toInt * 65536) % 4294967296 = 0 := c_ishl x 16 16 (by decide)
theorem own_orS (a b : Int32) (k : Nat) (hk : k ≤ 31) (P : Int) (hP : P = (2 ^ k : Nat)) (h1 : a.toInt % P = 0) (h2 : 0 ≤ b.toInt) (h3 : b.toInt < P) (h4 : 0 ≤ a.toInt + b.toInt) (h5 : a.toInt + b.toInt < 2147483648) : (a ||| b).toInt = a.toInt + b.toInt := by
  have := c_or a b k hk P hP h1 h2 h3; have := rng32 (a ||| b); omega
theorem own_orS' (b a : Int32) (k : Nat) (hk : k ≤ 31) (P : Int) (hP : P = (2 ^ k : Nat)) (h1 : a.toInt % P = 0) (h2 : 0 ≤ b.toInt) (h3 : b.toInt < P) (h4 : 0 ≤ a.toInt + b.toInt) (h5 : a.toInt + b.toInt < 2147483648) : (b ||| a).toInt = a.toInt + b.toInt := by
  have := c_or' b a k hk P hP h1 h2 h3; have := rng32 (b ||| a); omega
theorem own_shl6 (x : Int32) (h0 : 0 ≤ x.toInt) (h1 : x.toInt < 256) : (x <<< ((6 : Int32) &&& 31)).toInt = x.toInt * 64 := by have := own_l6 x; have := rng32 (x <<< ((6 : Int32) &&& 31)); omega
theorem own_shl8 (x : Int32) (h0 : 0 ≤ x.toInt) (h1 : x.toInt < 256) : (x <<< ((8 : Int32) &&& 31)).toInt = x.toInt * 256 := by have := own_l8 x; have := rng32 (x <<< ((8 : Int32) &&& 31)); omega
theorem own_shl12 (x : Int32) (h0 : 0 ≤ x.toInt) (h1 : x.toInt < 256) : (x <<< ((12 : Int32) &&& 31)).toInt = x.toInt * 4096 := by have := own_l12 x; have := rng32 (x <<< ((12 : Int32) &&& 31)); omega
theorem own_shl16 (x : Int32) (h0 : 0 ≤ x.toInt) (h1 : x.toInt < 256) : (x <<< ((16 : Int32) &&& 31)).toInt = x.toInt * 65536 := by have := own_l16 x; have := rng32 (x <<< ((16 : Int32) &&& 31)); omega
theorem own_A {vc vw vb0 vb1 vb2 vb3 : Int32} (hvc0 : 0 ≤ vc.toInt ∧ vc.toInt < 65536) (hvw : vw = own_w vc) (hvb0 : vb0 = (vw &&& (255 : Int32))) (hvb1 : vb1 = (((vw.toUInt32 >>> ((8 : Int32) &&& 31).toUInt32).toInt32) &&& (255 : Int32))) (hvb2 : vb2 = (((vw.toUInt32 >>> ((16 : Int32) &&& 31).toUInt32).toInt32) &&& (255 : Int32))) (hvb3 : vb3 = ((vw.toUInt32 >>> ((24 : Int32) &&& 31).toUInt32).toInt32)) (h1 : vc < (128 : Int32)) : (vb0 < (128 : Int32)) ∧ (vb1 = (0 : Int32)) ∧ (vb2 = (0 : Int32)) ∧ (vb3 = (0 : Int32)) ∧ (vb0 = vc) := by
  have hw : vw = vc := by rw [hvw]; unfold own_w; rw [if_pos h1]
  rw [Int32.lt_iff_toInt_lt] at h1
  subst hw hvb0 hvb1 hvb2 hvb3
  obtain ⟨l0, l1, l2, l3, l4⟩ := own_lits
  have e0 := own_m255 vw
  have e1 := own_m255 ((vw.toUInt32 >>> ((8 : Int32) &&& 31).toUInt32).toInt32)
  have e1' := own_u8 vw
  have e2 := own_m255 ((vw.toUInt32 >>> ((16 : Int32) &&& 31).toUInt32).toInt32)
  have e2' := own_u16 vw
  have e3 := own_u24 vw
  simp only [Int32.lt_iff_toInt_lt, ← Int32.toInt_inj]
  refine ⟨?_, ?_, ?_, ?_, ?_⟩ <;> omega
theorem own_B {vc vw vb0 vb1 vb2 vb3 : Int32} (hvc0 : 0 ≤ vc.toInt ∧ vc.toInt < 65536) (hvw : vw = own_w vc) (hvb0 : vb0 = (vw &&& (255 : Int32))) (hvb1 : vb1 = (((vw.toUInt32 >>> ((8 : Int32) &&& 31).toUInt32).toInt32) &&& (255 : Int32))) (hvb2 : vb2 = (((vw.toUInt32 >>> ((16 : Int32) &&& 31).toUInt32).toInt32) &&& (255 : Int32))) (hvb3 : vb3 = ((vw.toUInt32 >>> ((24 : Int32) &&& 31).toUInt32).toInt32)) (h1 : ¬ vc < (128 : Int32)) (h2 : vc < (2048 : Int32)) : ((vb0 &&& (224 : Int32)) = (192 : Int32)) ∧ ((vb1 &&& (192 : Int32)) = (128 : Int32)) ∧ (vb2 = (0 : Int32)) ∧ (vb3 = (0 : Int32)) ∧ ((((vb0 &&& (31 : Int32)) <<< ((6 : Int32) &&& 31)) ||| (vb1 &&& (63 : Int32))) = vc) := by
  have hw : vw = (((192 : Int32) ||| (vc >>> ((6 : Int32) &&& 31))) ||| (((128 : Int32) ||| (vc &&& (63 : Int32))) <<< ((8 : Int32) &&& 31))) := by rw [hvw]; unfold own_w; rw [if_neg h1, if_pos h2]
  rw [Int32.lt_iff_toInt_lt] at h1 h2
  obtain ⟨l0, l1, l2, l3, l4⟩ := own_lits
  have a1 := own_s6 vc
  have a2 := own_orS (192 : Int32) (vc >>> ((6 : Int32) &&& 31)) 6 (by decide) 64 rfl (by omega) (by omega) (by omega) (by omega) (by omega)
  have a3 := own_m63 vc
  have a4 := own_orS (128 : Int32) (vc &&& (63 : Int32)) 6 (by decide) 64 rfl (by omega) (by omega) (by omega) (by omega) (by omega)
  have a5 := own_shl8 ((128 : Int32) ||| (vc &&& (63 : Int32))) (by omega) (by omega)
  have a6 := own_orS' ((192 : Int32) ||| (vc >>> ((6 : Int32) &&& 31))) (((128 : Int32) ||| (vc &&& (63 : Int32))) <<< ((8 : Int32) &&& 31)) 8 (by decide) 256 rfl (by omega) (by omega) (by omega) (by omega) (by omega)
  rw [← hw] at a6
  have W0 : vw.toInt = (192 + vc.toInt / 64) + (128 + vc.toInt % 64) * 256 := by omega
  clear a1 a2 a3 a4 a5 a6 hw hvw
  have e0 := own_m255 vw
  have e1 := own_m255 ((vw.toUInt32 >>> ((8 : Int32) &&& 31).toUInt32).toInt32)
  have e1' := own_u8 vw
  have e2 := own_m255 ((vw.toUInt32 >>> ((16 : Int32) &&& 31).toUInt32).toInt32)
  have e2' := own_u16 vw
  have e3 := own_u24 vw
  rw [← hvb0] at e0; rw [← hvb1] at e1; rw [← hvb2] at e2; rw [← hvb3] at e3
  rw [e1'] at e1; rw [e2'] at e2
  clear e1' e2' hvb0 hvb1 hvb2 hvb3
  obtain ⟨P, hP⟩ : ∃ z, z = vc.toInt / 64 := ⟨_, rfl⟩
  obtain ⟨Q, hQ⟩ : ∃ z, z = vc.toInt % 64 := ⟨_, rfl⟩
  have hc : vc.toInt = 64 * P + Q := by omega
  rw [← hP, ← hQ] at W0
  have b1 : 2 ≤ P ∧ P < 32 ∧ 0 ≤ Q ∧ Q < 64 := by omega
  have m1 : vw.toInt % 4294967296 = vw.toInt := by omega
  rw [m1] at e1 e2 e3
  have m2 : vw.toInt / 256 = 128 + Q := by omega
  have m3 : vw.toInt / 65536 = 0 := by omega
  have m4 : vw.toInt / 16777216 = 0 := by omega
  rw [m2] at e1; rw [m3] at e2; rw [m4] at e3
  have f0 : vb0.toInt = 192 + P := by omega
  have f1 : vb1.toInt = 128 + Q := by omega
  have f2 : vb2.toInt = 0 := by omega
  have f3 : vb3.toInt = 0 := by omega
  clear W0 m1 m2 m3 m4 e0 e1 e2 e3 hP hQ
  have g0 := own_224 vb0 (by omega) (by omega)
  have g1 := own_192 vb1 (by omega) (by omega)
  have g2 := own_m31 vb0
  have g3 := own_shl6 (vb0 &&& (31 : Int32)) (by omega) (by omega)
  have g4 := own_m63 vb1
  have g5 := own_orS ((vb0 &&& (31 : Int32)) <<< ((6 : Int32) &&& 31)) (vb1 &&& (63 : Int32)) 6 (by decide) 64 rfl (by omega) (by omega) (by omega) (by omega) (by omega)
  simp only [← Int32.toInt_inj]
  refine ⟨?_, ?_, ?_, ?_, ?_⟩ <;> omega
theorem own_C {vc vw vb0 vb1 vb2 vb3 : Int32} (hvc0 : 0 ≤ vc.toInt ∧ vc.toInt < 65536) (hvw : vw = own_w vc) (hvb0 : vb0 = (vw &&& (255 : Int32))) (hvb1 : vb1 = (((vw.toUInt32 >>> ((8 : Int32) &&& 31).toUInt32).toInt32) &&& (255 : Int32))) (hvb2 : vb2 = (((vw.toUInt32 >>> ((16 : Int32) &&& 31).toUInt32).toInt32) &&& (255 : Int32))) (hvb3 : vb3 = ((vw.toUInt32 >>> ((24 : Int32) &&& 31).toUInt32).toInt32)) (h1 : ¬ vc < (128 : Int32)) (h2 : ¬ vc < (2048 : Int32)) : ((vb0 &&& (240 : Int32)) = (224 : Int32)) ∧ ((vb1 &&& (192 : Int32)) = (128 : Int32)) ∧ ((vb2 &&& (192 : Int32)) = (128 : Int32)) ∧ (vb3 = (0 : Int32)) ∧ (((((vb0 &&& (15 : Int32)) <<< ((12 : Int32) &&& 31)) ||| ((vb1 &&& (63 : Int32)) <<< ((6 : Int32) &&& 31))) ||| (vb2 &&& (63 : Int32))) = vc) := by
  have hw : vw = ((((224 : Int32) ||| (vc >>> ((12 : Int32) &&& 31))) ||| (((128 : Int32) ||| ((vc >>> ((6 : Int32) &&& 31)) &&& (63 : Int32))) <<< ((8 : Int32) &&& 31))) ||| (((128 : Int32) ||| (vc &&& (63 : Int32))) <<< ((16 : Int32) &&& 31))) := by rw [hvw]; unfold own_w; rw [if_neg h1, if_neg h2]
  rw [Int32.lt_iff_toInt_lt] at h1 h2
  obtain ⟨l0, l1, l2, l3, l4⟩ := own_lits
  have a1 := own_s12 vc
  have a2 := own_orS (224 : Int32) (vc >>> ((12 : Int32) &&& 31)) 4 (by decide) 16 rfl (by omega) (by omega) (by omega) (by omega) (by omega)
  have a3 := own_s6 vc
  have a3' := own_m63 (vc >>> ((6 : Int32) &&& 31))
  have a4 := own_orS (128 : Int32) ((vc >>> ((6 : Int32) &&& 31)) &&& (63 : Int32)) 6 (by decide) 64 rfl (by omega) (by omega) (by omega) (by omega) (by omega)
  have a5 := own_shl8 ((128 : Int32) ||| ((vc >>> ((6 : Int32) &&& 31)) &&& (63 : Int32))) (by omega) (by omega)
  have a6 := own_orS' ((224 : Int32) ||| (vc >>> ((12 : Int32) &&& 31))) (((128 : Int32) ||| ((vc >>> ((6 : Int32) &&& 31)) &&& (63 : Int32))) <<< ((8 : Int32) &&& 31)) 8 (by decide) 256 rfl (by omega) (by omega) (by omega) (by omega) (by omega)
  have a7 := own_m63 vc
  have a8 := own_orS (128 : Int32) (vc &&& (63 : Int32)) 6 (by decide) 64 rfl (by omega) (by omega) (by omega) (by omega) (by omega)
  have a9 := own_shl16 ((128 : Int32) ||| (vc &&& (63 : Int32))) (by omega) (by omega)
  have a10 := own_orS' (((224 : Int32) ||| (vc >>> ((12 : Int32) &&& 31))) ||| (((128 : Int32) ||| ((vc >>> ((6 : Int32) &&& 31)) &&& (63 : Int32))) <<< ((8 : Int32) &&& 31))) (((128 : Int32) ||| (vc &&& (63 : Int32))) <<< ((16 : Int32) &&& 31)) 16 (by decide) 65536 rfl (by omega) (by omega) (by omega) (by omega) (by omega)
  rw [← hw] at a10
  have W0 : vw.toInt = (224 + vc.toInt / 4096) + (128 + vc.toInt / 64 % 64) * 256 + (128 + vc.toInt % 64) * 65536 := by omega
  clear a1 a2 a3 a3' a4 a5 a6 a7 a8 a9 a10 hw hvw
  have e0 := own_m255 vw
  have e1 := own_m255 ((vw.toUInt32 >>> ((8 : Int32) &&& 31).toUInt32).toInt32)
  have e1' := own_u8 vw
  have e2 := own_m255 ((vw.toUInt32 >>> ((16 : Int32) &&& 31).toUInt32).toInt32)
  have e2' := own_u16 vw
  have e3 := own_u24 vw
  rw [← hvb0] at e0; rw [← hvb1] at e1; rw [← hvb2] at e2; rw [← hvb3] at e3
  rw [e1'] at e1; rw [e2'] at e2
  clear e1' e2' hvb0 hvb1 hvb2 hvb3
  obtain ⟨P, hP⟩ : ∃ z, z = vc.toInt / 4096 := ⟨_, rfl⟩
  obtain ⟨R, hR⟩ : ∃ z, z = vc.toInt / 64 % 64 := ⟨_, rfl⟩
  obtain ⟨Q, hQ⟩ : ∃ z, z = vc.toInt % 64 := ⟨_, rfl⟩
  have hc : vc.toInt = 4096 * P + 64 * R + Q := by omega
  rw [← hP, ← hQ, ← hR] at W0
  have b1 : 0 ≤ P ∧ P < 16 ∧ 0 ≤ Q ∧ Q < 64 ∧ 0 ≤ R ∧ R < 64 := by omega
  clear hP hQ hR
  have m1 : vw.toInt % 4294967296 = vw.toInt := by omega
  rw [m1] at e1 e2 e3
  have m2 : vw.toInt / 256 = 128 + R + 256 * (128 + Q) := by omega
  have m3 : vw.toInt / 65536 = 128 + Q := by omega
  have m4 : vw.toInt / 16777216 = 0 := by omega
  rw [m2] at e1; rw [m3] at e2; rw [m4] at e3
  have f0 : vb0.toInt = 224 + P := by omega
  have f1 : vb1.toInt = 128 + R := by omega
  have f2 : vb2.toInt = 128 + Q := by omega
  have f3 : vb3.toInt = 0 := by omega
  clear W0 m1 m2 m3 m4 e0 e1 e2 e3
  have g0 := own_240 vb0 (by omega) (by omega)
  have g1 := own_192 vb1 (by omega) (by omega)
  have g2 := own_192 vb2 (by omega) (by omega)
  have k0 := own_m15 vb0
  have k1 := own_shl12 (vb0 &&& (15 : Int32)) (by omega) (by omega)
  have k2 := own_m63 vb1
  have k3 := own_shl6 (vb1 &&& (63 : Int32)) (by omega) (by omega)
  have k4 := own_orS ((vb0 &&& (15 : Int32)) <<< ((12 : Int32) &&& 31)) ((vb1 &&& (63 : Int32)) <<< ((6 : Int32) &&& 31)) 12 (by decide) 4096 rfl (by omega) (by omega) (by omega) (by omega) (by omega)
  have k5 := own_m63 vb2
  have k6 := own_orS (((vb0 &&& (15 : Int32)) <<< ((12 : Int32) &&& 31)) ||| ((vb1 &&& (63 : Int32)) <<< ((6 : Int32) &&& 31))) (vb2 &&& (63 : Int32)) 6 (by decide) 64 rfl (by omega) (by omega) (by omega) (by omega) (by omega)
  simp only [← Int32.toInt_inj]
  refine ⟨?_, ?_, ?_, ?_, ?_⟩ <;> omega
theorem d1_0 : decode prog_71_method_11_code 0 = .ok (.iload_n 0, 1) := by decide +kernel
theorem d1_1 : decode prog_71_method_11_code 1 = .ok (.sipush 128, 3) := by decide +kernel
theorem d1_4 : decode prog_71_method_11_code 4 = .ok (.if_icmp .ge 5, 3) := by decide +kernel
theorem d1_7 : decode prog_71_method_11_code 7 = .ok (.iload_n 0, 1) := by decide +kernel
theorem d1_8 : decode prog_71_method_11_code 8 = .ok (.ireturn, 1) := by decide +kernel
theorem d1_9 : decode prog_71_method_11_code 9 = .ok (.iload_n 0, 1) := by decide +kernel
theorem d1_10 : decode prog_71_method_11_code 10 = .ok (.sipush 2048, 3) := by decide +kernel
theorem d1_13 : decode prog_71_method_11_code 13 = .ok (.if_icmp .ge 24, 3) := by decide +kernel
theorem d1_16 : decode prog_71_method_11_code 16 = .ok (.sipush 192, 3) := by decide +kernel
theorem d1_19 : decode prog_71_method_11_code 19 = .ok (.iload_n 0, 1) := by decide +kernel
theorem d1_20 : decode prog_71_method_11_code 20 = .ok (.bipush 6, 2) := by decide +kernel
theorem d1_22 : decode prog_71_method_11_code 22 = .ok (.ishr, 1) := by decide +kernel
theorem d1_23 : decode prog_71_method_11_code 23 = .ok (.ior, 1) := by decide +kernel
theorem d1_24 : decode prog_71_method_11_code 24 = .ok (.sipush 128, 3) := by decide +kernel
theorem d1_27 : decode prog_71_method_11_code 27 = .ok (.iload_n 0, 1) := by decide +kernel
theorem d1_28 : decode prog_71_method_11_code 28 = .ok (.bipush 63, 2) := by decide +kernel
theorem d1_30 : decode prog_71_method_11_code 30 = .ok (.iand, 1) := by decide +kernel
theorem d1_31 : decode prog_71_method_11_code 31 = .ok (.ior, 1) := by decide +kernel
theorem d1_32 : decode prog_71_method_11_code 32 = .ok (.bipush 8, 2) := by decide +kernel
theorem d1_34 : decode prog_71_method_11_code 34 = .ok (.ishl, 1) := by decide +kernel
theorem d1_35 : decode prog_71_method_11_code 35 = .ok (.ior, 1) := by decide +kernel
theorem d1_36 : decode prog_71_method_11_code 36 = .ok (.ireturn, 1) := by decide +kernel
theorem d1_37 : decode prog_71_method_11_code 37 = .ok (.sipush 224, 3) := by decide +kernel
theorem d1_40 : decode prog_71_method_11_code 40 = .ok (.iload_n 0, 1) := by decide +kernel
theorem d1_41 : decode prog_71_method_11_code 41 = .ok (.bipush 12, 2) := by decide +kernel
theorem d1_43 : decode prog_71_method_11_code 43 = .ok (.ishr, 1) := by decide +kernel
theorem d1_44 : decode prog_71_method_11_code 44 = .ok (.ior, 1) := by decide +kernel
theorem d1_45 : decode prog_71_method_11_code 45 = .ok (.sipush 128, 3) := by decide +kernel
theorem d1_48 : decode prog_71_method_11_code 48 = .ok (.iload_n 0, 1) := by decide +kernel
theorem d1_49 : decode prog_71_method_11_code 49 = .ok (.bipush 6, 2) := by decide +kernel
theorem d1_51 : decode prog_71_method_11_code 51 = .ok (.ishr, 1) := by decide +kernel
theorem d1_52 : decode prog_71_method_11_code 52 = .ok (.bipush 63, 2) := by decide +kernel
theorem d1_54 : decode prog_71_method_11_code 54 = .ok (.iand, 1) := by decide +kernel
theorem d1_55 : decode prog_71_method_11_code 55 = .ok (.ior, 1) := by decide +kernel
theorem d1_56 : decode prog_71_method_11_code 56 = .ok (.bipush 8, 2) := by decide +kernel
theorem d1_58 : decode prog_71_method_11_code 58 = .ok (.ishl, 1) := by decide +kernel
theorem d1_59 : decode prog_71_method_11_code 59 = .ok (.ior, 1) := by decide +kernel
theorem d1_60 : decode prog_71_method_11_code 60 = .ok (.sipush 128, 3) := by decide +kernel
theorem d1_63 : decode prog_71_method_11_code 63 = .ok (.iload_n 0, 1) := by decide +kernel
theorem d1_64 : decode prog_71_method_11_code 64 = .ok (.bipush 63, 2) := by decide +kernel
theorem d1_66 : decode prog_71_method_11_code 66 = .ok (.iand, 1) := by decide +kernel
theorem d1_67 : decode prog_71_method_11_code 67 = .ok (.ior, 1) := by decide +kernel
theorem d1_68 : decode prog_71_method_11_code 68 = .ok (.bipush 16, 2) := by decide +kernel
theorem d1_70 : decode prog_71_method_11_code 70 = .ok (.ishl, 1) := by decide +kernel
theorem d1_71 : decode prog_71_method_11_code 71 = .ok (.ior, 1) := by decide +kernel
theorem d1_72 : decode prog_71_method_11_code 72 = .ok (.ireturn, 1) := by decide +kernel
theorem pn1 : plainName "com/example/kinwarden/kinwarden/NameBytes" = true := by first | (simp [plainName, overriddenIn]; done) | decide +kernel
theorem ef1 (m : MethodId) (x0 : Int32) : entryFrame m #[(.int x0)] 1 = mkF m 0 #[.val (.int x0)] [] := by first | (simp [entryFrame, mkF, argsToLocals, Value.category]; done) | rfl
def Q1 (Z : State) (x0 : Int32) (h0 : Heap) (n0 : Nat) (v : Option Value) (h : Heap) (L : List Loc) : Prop := v = some (.int (own_w x0)) ∧ Fr n0 L ∧ h = h0
set_option maxRecDepth 65536 in
set_option maxHeartbeats 40000000 in
theorem rm1 (l : Launch) (Z : State) (a0 : Array Value) (hw : ∀ d ∈ tables_1, d.before a0 Z = true) (ws : List Jvm.Cond) (x0 : Int32) (h0 : Heap) (n0 : Nat) (Z0 : n0 ≤ h0.size) :
    MetFree l (⟨"com/example/kinwarden/kinwarden/NameBytes", "written", "(C)I"⟩ : MethodName) (head1 (Jvm.Cond.code (⟨"com/example/kinwarden/kinwarden/NameBytes", "written", "(C)I"⟩ : MethodName) prog_71_method_11_code 1 (some .int) :: ws) ({ frames := 0, cells := 0, slots := 0, locals := 0 } : Room)) (fun a U => a = #[(.int x0)] ∧ Z.Warmed39 U.vm ∧ U.heap = h0) (fun _ _ _ _ _ => True) (fun _ U o U' => ∃ v L, o = .returned v ∧ Q1 Z x0 h0 n0 v U'.heap L ∧ FrameEnd U o U' L ({ frames := 0, cells := 0, slots := 0, locals := 0 } : Room).cells ({ frames := 0, cells := 0, slots := 0, locals := 0 } : Room).slots) := by
  refine MetFree.of_bodySF (plainFor_of_name pn1) hisR ?_
  intro p e s m args below meth c s₁ Bd hml0 hP hK
  obtain ⟨rfl, hZ, hh⟩ := hP
  have hx := Bd.exec
  have hby := Bd.bytes
  have hml : c.maxLocals = 1 := hml0
  have hown : s.vm.findClass "com/example/kinwarden/kinwarden/NameBytes" = some m.cls := findClass_of_methodNamed Bd.named
  have hnm := (name_of_methodNamed Bd.named Bd.method).1
  have X0 : Stand p l e ({ frames := 0, cells := 0, slots := 0, locals := 0 } : Room) s m #[(.int x0)] below meth c s₁ [] 0 0 := Stand.of_body Bd
  have e0 : s₁.heap = h0 := by rw [← hh, Bd.state]; rfl
  have N0 := Fr.nil n0
  have pre0 : ∀ t, Steps p.tables e below (s₁.setTop (mkF m 0 #[.val (.int x0)] [])) t → Steps p.tables e below (s₁.setTop (entryFrame m #[(.int x0)] 1)) t := fun t k => castTop (ef1 m x0) k
  have p1 : ∀ t, Steps p.tables e below (s₁.setTop (mkF m 4 #[.val (.int x0)] [(.int (128 : Int32)), (.int x0)])) t → Steps p.tables e below (s₁.setTop (entryFrame m #[(.int x0)] 1)) t := fun t k => pre0 t (by
    show Steps p.tables e below (s₁.setTop (mkF m 0 #[.val (.int x0)] [])) _
    refine XS.iloadN X0.here hx rfl (hb hby d1_0) rfl ?_
    show Steps p.tables e below (s₁.setTop (mkF m 1 #[.val (.int x0)] [(.int x0)])) _
    refine XS.sipush X0.here hx rfl (hb hby d1_1) ?_
    exact k)
  by_cases hc4 : x0 < (128 : Int32)
  · have p2 : ∀ t, Steps p.tables e below (s₁.setTop (mkF m 8 #[.val (.int x0)] [(.int x0)])) t → Steps p.tables e below (s₁.setTop (entryFrame m #[(.int x0)] 1)) t := fun t k => p1 t (by
      show Steps p.tables e below (s₁.setTop (mkF m 4 #[.val (.int x0)] [(.int (128 : Int32)), (.int x0)])) _
      refine XS.icmpNo X0.here hx rfl (hb hby d1_4) rfl ((tlt (hc4)).2.1) ?_
      show Steps p.tables e below (s₁.setTop (mkF m 7 #[.val (.int x0)] [])) _
      refine XS.iloadN X0.here hx rfl (hb hby d1_7) rfl ?_
      exact k)
    obtain ⟨fs, hr, hrun, hended, hW, hsame⟩ := X0.leave (v := some (.int x0)) (fun h => by rw [Bd.returns] at h; cases h)
    refine ⟨_, _, p2 _ ?_, hrun, hended, _, _, rfl, ?_, ⟨_, rfl⟩, hW, hsame.mono (by decide) (by decide)⟩
    · show Steps p.tables e below (s₁.setTop (mkF m 8 #[.val (.int x0)] [(.int x0)])) _
      exact retI X0 hx Bd.returns (hb hby d1_8) hr
    · show Q1 Z x0 h0 n0 _ s₁.heap _
      rw [e0]
      exact ⟨by unfold own_w; rw [if_pos hc4], N0, rfl⟩
  · have p3 : ∀ t, Steps p.tables e below (s₁.setTop (mkF m 13 #[.val (.int x0)] [(.int (2048 : Int32)), (.int x0)])) t → Steps p.tables e below (s₁.setTop (entryFrame m #[(.int x0)] 1)) t := fun t k => p1 t (by
      show Steps p.tables e below (s₁.setTop (mkF m 4 #[.val (.int x0)] [(.int (128 : Int32)), (.int x0)])) _
      refine XS.icmpYes X0.here hx rfl (pc0 := 4) (pc' := 9) rfl (hb hby d1_4) rfl ((flt (hc4)).2.1) (by decide) (by decide) ?_
      show Steps p.tables e below (s₁.setTop (mkF m 9 #[.val (.int x0)] [])) _
      refine XS.iloadN X0.here hx rfl (hb hby d1_9) rfl ?_
      show Steps p.tables e below (s₁.setTop (mkF m 10 #[.val (.int x0)] [(.int x0)])) _
      refine XS.sipush X0.here hx rfl (hb hby d1_10) ?_
      exact k)
    by_cases hc13 : x0 < (2048 : Int32)
    · have p4 : ∀ t, Steps p.tables e below (s₁.setTop (mkF m 36 #[.val (.int x0)] [(.int (((192 : Int32) ||| (x0 >>> ((6 : Int32) &&& 31))) ||| (((128 : Int32) ||| (x0 &&& (63 : Int32))) <<< ((8 : Int32) &&& 31))))])) t → Steps p.tables e below (s₁.setTop (entryFrame m #[(.int x0)] 1)) t := fun t k => p3 t (by
        show Steps p.tables e below (s₁.setTop (mkF m 13 #[.val (.int x0)] [(.int (2048 : Int32)), (.int x0)])) _
        refine XS.icmpNo X0.here hx rfl (hb hby d1_13) rfl ((tlt (hc13)).2.1) ?_
        show Steps p.tables e below (s₁.setTop (mkF m 16 #[.val (.int x0)] [])) _
        refine XS.sipush X0.here hx rfl (hb hby d1_16) ?_
        show Steps p.tables e below (s₁.setTop (mkF m 19 #[.val (.int x0)] [(.int (192 : Int32))])) _
        refine XS.iloadN X0.here hx rfl (hb hby d1_19) rfl ?_
        show Steps p.tables e below (s₁.setTop (mkF m 20 #[.val (.int x0)] [(.int x0), (.int (192 : Int32))])) _
        refine XS.bipush X0.here hx rfl (hb hby d1_20) ?_
        show Steps p.tables e below (s₁.setTop (mkF m 22 #[.val (.int x0)] [(.int (6 : Int32)), (.int x0), (.int (192 : Int32))])) _
        refine XS.ishr X0.here hx rfl (hb hby d1_22) rfl ?_
        show Steps p.tables e below (s₁.setTop (mkF m 23 #[.val (.int x0)] [(.int (x0 >>> ((6 : Int32) &&& 31))), (.int (192 : Int32))])) _
        refine XS.ior X0.here hx rfl (hb hby d1_23) rfl ?_
        show Steps p.tables e below (s₁.setTop (mkF m 24 #[.val (.int x0)] [(.int ((192 : Int32) ||| (x0 >>> ((6 : Int32) &&& 31))))])) _
        refine XS.sipush X0.here hx rfl (hb hby d1_24) ?_
        show Steps p.tables e below (s₁.setTop (mkF m 27 #[.val (.int x0)] [(.int (128 : Int32)), (.int ((192 : Int32) ||| (x0 >>> ((6 : Int32) &&& 31))))])) _
        refine XS.iloadN X0.here hx rfl (hb hby d1_27) rfl ?_
        show Steps p.tables e below (s₁.setTop (mkF m 28 #[.val (.int x0)] [(.int x0), (.int (128 : Int32)), (.int ((192 : Int32) ||| (x0 >>> ((6 : Int32) &&& 31))))])) _
        refine XS.bipush X0.here hx rfl (hb hby d1_28) ?_
        show Steps p.tables e below (s₁.setTop (mkF m 30 #[.val (.int x0)] [(.int (63 : Int32)), (.int x0), (.int (128 : Int32)), (.int ((192 : Int32) ||| (x0 >>> ((6 : Int32) &&& 31))))])) _
        refine XS.iand X0.here hx rfl (hb hby d1_30) rfl ?_
        show Steps p.tables e below (s₁.setTop (mkF m 31 #[.val (.int x0)] [(.int (x0 &&& (63 : Int32))), (.int (128 : Int32)), (.int ((192 : Int32) ||| (x0 >>> ((6 : Int32) &&& 31))))])) _
        refine XS.ior X0.here hx rfl (hb hby d1_31) rfl ?_
        show Steps p.tables e below (s₁.setTop (mkF m 32 #[.val (.int x0)] [(.int ((128 : Int32) ||| (x0 &&& (63 : Int32)))), (.int ((192 : Int32) ||| (x0 >>> ((6 : Int32) &&& 31))))])) _
        refine XS.bipush X0.here hx rfl (hb hby d1_32) ?_
        show Steps p.tables e below (s₁.setTop (mkF m 34 #[.val (.int x0)] [(.int (8 : Int32)), (.int ((128 : Int32) ||| (x0 &&& (63 : Int32)))), (.int ((192 : Int32) ||| (x0 >>> ((6 : Int32) &&& 31))))])) _
        refine XS.ishl X0.here hx rfl (hb hby d1_34) rfl ?_
        show Steps p.tables e below (s₁.setTop (mkF m 35 #[.val (.int x0)] [(.int (((128 : Int32) ||| (x0 &&& (63 : Int32))) <<< ((8 : Int32) &&& 31))), (.int ((192 : Int32) ||| (x0 >>> ((6 : Int32) &&& 31))))])) _
        refine XS.ior X0.here hx rfl (hb hby d1_35) rfl ?_
        exact k)
      obtain ⟨fs, hr, hrun, hended, hW, hsame⟩ := X0.leave (v := some (.int (((192 : Int32) ||| (x0 >>> ((6 : Int32) &&& 31))) ||| (((128 : Int32) ||| (x0 &&& (63 : Int32))) <<< ((8 : Int32) &&& 31))))) (fun h => by rw [Bd.returns] at h; cases h)
      refine ⟨_, _, p4 _ ?_, hrun, hended, _, _, rfl, ?_, ⟨_, rfl⟩, hW, hsame.mono (by decide) (by decide)⟩
      · show Steps p.tables e below (s₁.setTop (mkF m 36 #[.val (.int x0)] [(.int (((192 : Int32) ||| (x0 >>> ((6 : Int32) &&& 31))) ||| (((128 : Int32) ||| (x0 &&& (63 : Int32))) <<< ((8 : Int32) &&& 31))))])) _
        exact retI X0 hx Bd.returns (hb hby d1_36) hr
      · show Q1 Z x0 h0 n0 _ s₁.heap _
        rw [e0]
        exact ⟨by unfold own_w; rw [if_neg hc4, if_pos hc13], N0, rfl⟩
    · have p5 : ∀ t, Steps p.tables e below (s₁.setTop (mkF m 72 #[.val (.int x0)] [(.int ((((224 : Int32) ||| (x0 >>> ((12 : Int32) &&& 31))) ||| (((128 : Int32) ||| ((x0 >>> ((6 : Int32) &&& 31)) &&& (63 : Int32))) <<< ((8 : Int32) &&& 31))) ||| (((128 : Int32) ||| (x0 &&& (63 : Int32))) <<< ((16 : Int32) &&& 31))))])) t → Steps p.tables e below (s₁.setTop (entryFrame m #[(.int x0)] 1)) t := fun t k => p3 t (by
        show Steps p.tables e below (s₁.setTop (mkF m 13 #[.val (.int x0)] [(.int (2048 : Int32)), (.int x0)])) _
        refine XS.icmpYes X0.here hx rfl (pc0 := 13) (pc' := 37) rfl (hb hby d1_13) rfl ((flt (hc13)).2.1) (by decide) (by decide) ?_
        show Steps p.tables e below (s₁.setTop (mkF m 37 #[.val (.int x0)] [])) _
        refine XS.sipush X0.here hx rfl (hb hby d1_37) ?_
        show Steps p.tables e below (s₁.setTop (mkF m 40 #[.val (.int x0)] [(.int (224 : Int32))])) _
        refine XS.iloadN X0.here hx rfl (hb hby d1_40) rfl ?_
        show Steps p.tables e below (s₁.setTop (mkF m 41 #[.val (.int x0)] [(.int x0), (.int (224 : Int32))])) _
        refine XS.bipush X0.here hx rfl (hb hby d1_41) ?_
        show Steps p.tables e below (s₁.setTop (mkF m 43 #[.val (.int x0)] [(.int (12 : Int32)), (.int x0), (.int (224 : Int32))])) _
        refine XS.ishr X0.here hx rfl (hb hby d1_43) rfl ?_
        show Steps p.tables e below (s₁.setTop (mkF m 44 #[.val (.int x0)] [(.int (x0 >>> ((12 : Int32) &&& 31))), (.int (224 : Int32))])) _
        refine XS.ior X0.here hx rfl (hb hby d1_44) rfl ?_
        show Steps p.tables e below (s₁.setTop (mkF m 45 #[.val (.int x0)] [(.int ((224 : Int32) ||| (x0 >>> ((12 : Int32) &&& 31))))])) _
        refine XS.sipush X0.here hx rfl (hb hby d1_45) ?_
        show Steps p.tables e below (s₁.setTop (mkF m 48 #[.val (.int x0)] [(.int (128 : Int32)), (.int ((224 : Int32) ||| (x0 >>> ((12 : Int32) &&& 31))))])) _
        refine XS.iloadN X0.here hx rfl (hb hby d1_48) rfl ?_
        show Steps p.tables e below (s₁.setTop (mkF m 49 #[.val (.int x0)] [(.int x0), (.int (128 : Int32)), (.int ((224 : Int32) ||| (x0 >>> ((12 : Int32) &&& 31))))])) _
        refine XS.bipush X0.here hx rfl (hb hby d1_49) ?_
        show Steps p.tables e below (s₁.setTop (mkF m 51 #[.val (.int x0)] [(.int (6 : Int32)), (.int x0), (.int (128 : Int32)), (.int ((224 : Int32) ||| (x0 >>> ((12 : Int32) &&& 31))))])) _
        refine XS.ishr X0.here hx rfl (hb hby d1_51) rfl ?_
        show Steps p.tables e below (s₁.setTop (mkF m 52 #[.val (.int x0)] [(.int (x0 >>> ((6 : Int32) &&& 31))), (.int (128 : Int32)), (.int ((224 : Int32) ||| (x0 >>> ((12 : Int32) &&& 31))))])) _
        refine XS.bipush X0.here hx rfl (hb hby d1_52) ?_
        show Steps p.tables e below (s₁.setTop (mkF m 54 #[.val (.int x0)] [(.int (63 : Int32)), (.int (x0 >>> ((6 : Int32) &&& 31))), (.int (128 : Int32)), (.int ((224 : Int32) ||| (x0 >>> ((12 : Int32) &&& 31))))])) _
        refine XS.iand X0.here hx rfl (hb hby d1_54) rfl ?_
        show Steps p.tables e below (s₁.setTop (mkF m 55 #[.val (.int x0)] [(.int ((x0 >>> ((6 : Int32) &&& 31)) &&& (63 : Int32))), (.int (128 : Int32)), (.int ((224 : Int32) ||| (x0 >>> ((12 : Int32) &&& 31))))])) _
        refine XS.ior X0.here hx rfl (hb hby d1_55) rfl ?_
        show Steps p.tables e below (s₁.setTop (mkF m 56 #[.val (.int x0)] [(.int ((128 : Int32) ||| ((x0 >>> ((6 : Int32) &&& 31)) &&& (63 : Int32)))), (.int ((224 : Int32) ||| (x0 >>> ((12 : Int32) &&& 31))))])) _
        refine XS.bipush X0.here hx rfl (hb hby d1_56) ?_
        show Steps p.tables e below (s₁.setTop (mkF m 58 #[.val (.int x0)] [(.int (8 : Int32)), (.int ((128 : Int32) ||| ((x0 >>> ((6 : Int32) &&& 31)) &&& (63 : Int32)))), (.int ((224 : Int32) ||| (x0 >>> ((12 : Int32) &&& 31))))])) _
        refine XS.ishl X0.here hx rfl (hb hby d1_58) rfl ?_
        show Steps p.tables e below (s₁.setTop (mkF m 59 #[.val (.int x0)] [(.int (((128 : Int32) ||| ((x0 >>> ((6 : Int32) &&& 31)) &&& (63 : Int32))) <<< ((8 : Int32) &&& 31))), (.int ((224 : Int32) ||| (x0 >>> ((12 : Int32) &&& 31))))])) _
        refine XS.ior X0.here hx rfl (hb hby d1_59) rfl ?_
        show Steps p.tables e below (s₁.setTop (mkF m 60 #[.val (.int x0)] [(.int (((224 : Int32) ||| (x0 >>> ((12 : Int32) &&& 31))) ||| (((128 : Int32) ||| ((x0 >>> ((6 : Int32) &&& 31)) &&& (63 : Int32))) <<< ((8 : Int32) &&& 31))))])) _
        refine XS.sipush X0.here hx rfl (hb hby d1_60) ?_
        show Steps p.tables e below (s₁.setTop (mkF m 63 #[.val (.int x0)] [(.int (128 : Int32)), (.int (((224 : Int32) ||| (x0 >>> ((12 : Int32) &&& 31))) ||| (((128 : Int32) ||| ((x0 >>> ((6 : Int32) &&& 31)) &&& (63 : Int32))) <<< ((8 : Int32) &&& 31))))])) _
        refine XS.iloadN X0.here hx rfl (hb hby d1_63) rfl ?_
        show Steps p.tables e below (s₁.setTop (mkF m 64 #[.val (.int x0)] [(.int x0), (.int (128 : Int32)), (.int (((224 : Int32) ||| (x0 >>> ((12 : Int32) &&& 31))) ||| (((128 : Int32) ||| ((x0 >>> ((6 : Int32) &&& 31)) &&& (63 : Int32))) <<< ((8 : Int32) &&& 31))))])) _
        refine XS.bipush X0.here hx rfl (hb hby d1_64) ?_
        show Steps p.tables e below (s₁.setTop (mkF m 66 #[.val (.int x0)] [(.int (63 : Int32)), (.int x0), (.int (128 : Int32)), (.int (((224 : Int32) ||| (x0 >>> ((12 : Int32) &&& 31))) ||| (((128 : Int32) ||| ((x0 >>> ((6 : Int32) &&& 31)) &&& (63 : Int32))) <<< ((8 : Int32) &&& 31))))])) _
        refine XS.iand X0.here hx rfl (hb hby d1_66) rfl ?_
        show Steps p.tables e below (s₁.setTop (mkF m 67 #[.val (.int x0)] [(.int (x0 &&& (63 : Int32))), (.int (128 : Int32)), (.int (((224 : Int32) ||| (x0 >>> ((12 : Int32) &&& 31))) ||| (((128 : Int32) ||| ((x0 >>> ((6 : Int32) &&& 31)) &&& (63 : Int32))) <<< ((8 : Int32) &&& 31))))])) _
        refine XS.ior X0.here hx rfl (hb hby d1_67) rfl ?_
        show Steps p.tables e below (s₁.setTop (mkF m 68 #[.val (.int x0)] [(.int ((128 : Int32) ||| (x0 &&& (63 : Int32)))), (.int (((224 : Int32) ||| (x0 >>> ((12 : Int32) &&& 31))) ||| (((128 : Int32) ||| ((x0 >>> ((6 : Int32) &&& 31)) &&& (63 : Int32))) <<< ((8 : Int32) &&& 31))))])) _
        refine XS.bipush X0.here hx rfl (hb hby d1_68) ?_
        show Steps p.tables e below (s₁.setTop (mkF m 70 #[.val (.int x0)] [(.int (16 : Int32)), (.int ((128 : Int32) ||| (x0 &&& (63 : Int32)))), (.int (((224 : Int32) ||| (x0 >>> ((12 : Int32) &&& 31))) ||| (((128 : Int32) ||| ((x0 >>> ((6 : Int32) &&& 31)) &&& (63 : Int32))) <<< ((8 : Int32) &&& 31))))])) _
        refine XS.ishl X0.here hx rfl (hb hby d1_70) rfl ?_
        show Steps p.tables e below (s₁.setTop (mkF m 71 #[.val (.int x0)] [(.int (((128 : Int32) ||| (x0 &&& (63 : Int32))) <<< ((16 : Int32) &&& 31))), (.int (((224 : Int32) ||| (x0 >>> ((12 : Int32) &&& 31))) ||| (((128 : Int32) ||| ((x0 >>> ((6 : Int32) &&& 31)) &&& (63 : Int32))) <<< ((8 : Int32) &&& 31))))])) _
        refine XS.ior X0.here hx rfl (hb hby d1_71) rfl ?_
        exact k)
      obtain ⟨fs, hr, hrun, hended, hW, hsame⟩ := X0.leave (v := some (.int ((((224 : Int32) ||| (x0 >>> ((12 : Int32) &&& 31))) ||| (((128 : Int32) ||| ((x0 >>> ((6 : Int32) &&& 31)) &&& (63 : Int32))) <<< ((8 : Int32) &&& 31))) ||| (((128 : Int32) ||| (x0 &&& (63 : Int32))) <<< ((16 : Int32) &&& 31))))) (fun h => by rw [Bd.returns] at h; cases h)
      refine ⟨_, _, p5 _ ?_, hrun, hended, _, _, rfl, ?_, ⟨_, rfl⟩, hW, hsame.mono (by decide) (by decide)⟩
      · show Steps p.tables e below (s₁.setTop (mkF m 72 #[.val (.int x0)] [(.int ((((224 : Int32) ||| (x0 >>> ((12 : Int32) &&& 31))) ||| (((128 : Int32) ||| ((x0 >>> ((6 : Int32) &&& 31)) &&& (63 : Int32))) <<< ((8 : Int32) &&& 31))) ||| (((128 : Int32) ||| (x0 &&& (63 : Int32))) <<< ((16 : Int32) &&& 31))))])) _
        exact retI X0 hx Bd.returns (hb hby d1_72) hr
      · show Q1 Z x0 h0 n0 _ s₁.heap _
        rw [e0]
        exact ⟨by unfold own_w; rw [if_neg hc4, if_neg hc13], N0, rfl⟩
theorem pn0 : plainName "com/example/kinwarden/kinwarden/NameBytesWrittenPinLaw" = true := by first | (simp [plainName, overriddenIn]; done) | decide +kernel
theorem pd0_0 : parseMethodDescriptor "(C)I" = some ⟨[.char], some .int⟩ := by decide +kernel
theorem ef0 (m : MethodId) (x0 : Int32) : entryFrame m #[(.int x0)] maxLocals = mkF m 0 #[.val (.int x0), .unset, .unset, .unset, .unset, .unset, .unset, .unset, .unset] [] := by first | (simp [entryFrame, mkF, argsToLocals, Value.category, maxLocals]; done) | rfl
def Q0 (Z : State) (x0 : Int32) (h0 : Heap) (n0 : Nat) (v : Option Value) (h : Heap) (L : List Loc) : Prop := v = some (.int (1 : Int32)) ∧ Fr n0 L
set_option maxRecDepth 65536 in
set_option maxHeartbeats 40000000 in
theorem rm0 (l : Launch) (Z : State) (a0 : Array Value) (hw : ∀ d ∈ tables_1, d.before a0 Z = true) (ws : List Jvm.Cond) (x0 : Int32) (h0 : Heap) (n0 : Nat) (Z0 : n0 ≤ h0.size) :
    MetFree l x (head1 (Jvm.Cond.code x code maxLocals ret :: ws) room_1) (fun a U => a = #[(.int x0)] ∧ Z.Warmed39 U.vm ∧ U.heap = h0) (fun _ _ _ _ _ => True) (fun _ U o U' => ∃ v L, o = .returned v ∧ Q0 Z x0 h0 n0 v U'.heap L ∧ FrameEnd U o U' L room_1.cells room_1.slots) := by
  refine MetFree.of_bodySF (plainFor_of_name pn0) hisR ?_
  intro p e s m args below meth c s₁ Bd hml0 hP hK
  obtain ⟨rfl, hZ, hh⟩ := hP
  have hx := Bd.exec
  have hby := Bd.bytes
  have hml : c.maxLocals = 9 := hml0
  have hown : s.vm.findClass "com/example/kinwarden/kinwarden/NameBytesWrittenPinLaw" = some m.cls := findClass_of_methodNamed Bd.named
  have hnm := (name_of_methodNamed Bd.named Bd.method).1
  have X0 : Stand p l e room_1 s m #[(.int x0)] below meth c s₁ [] 0 0 := Stand.of_body Bd
  have e0 : s₁.heap = h0 := by rw [← hh, Bd.state]; rfl
  have N0 := Fr.nil n0
  have pre0 : ∀ t, Steps p.tables e below (s₁.setTop (mkF m 0 #[.val (.int x0), .unset, .unset, .unset, .unset, .unset, .unset, .unset, .unset] [])) t → Steps p.tables e below (s₁.setTop (entryFrame m #[(.int x0)] maxLocals)) t := fun t k => castTop (ef0 m x0) k
  have p1 : ∀ t, Steps p.tables e below (s₁.setTop (mkF m 3 #[.val (.int x0), .val (.int (x0.toUInt32.toUInt16.toUInt32.toInt32)), .unset, .unset, .unset, .unset, .unset, .unset, .unset] [])) t → Steps p.tables e below (s₁.setTop (entryFrame m #[(.int x0)] maxLocals)) t := fun t k => pre0 t (by
    show Steps p.tables e below (s₁.setTop (mkF m 0 #[.val (.int x0), .unset, .unset, .unset, .unset, .unset, .unset, .unset, .unset] [])) _
    refine XS.iloadN X0.here hx rfl (hb hby at_0) rfl ?_
    show Steps p.tables e below (s₁.setTop (mkF m 1 #[.val (.int x0), .unset, .unset, .unset, .unset, .unset, .unset, .unset, .unset] [(.int x0)])) _
    refine XS.i2c X0.here hx rfl (hb hby at_1) rfl ?_
    show Steps p.tables e below (s₁.setTop (mkF m 2 #[.val (.int x0), .unset, .unset, .unset, .unset, .unset, .unset, .unset, .unset] [(.int (x0.toUInt32.toUInt16.toUInt32.toInt32))])) _
    refine XS.istoreN X0.here hx rfl (hb hby at_2) rfl (l' := #[.val (.int x0), .val (.int (x0.toUInt32.toUInt16.toUInt32.toInt32)), .unset, .unset, .unset, .unset, .unset, .unset, .unset]) rfl ?_
    exact k)
  obtain ⟨vc, hvc⟩ : ∃ z : Int32, z = (x0.toUInt32.toUInt16.toUInt32.toInt32) := ⟨_, rfl⟩
  have p2 : ∀ t, Steps p.tables e below (s₁.setTop (mkF m 3 #[.val (.int x0), .val (.int vc), .unset, .unset, .unset, .unset, .unset, .unset, .unset] [])) t → Steps p.tables e below (s₁.setTop (entryFrame m #[(.int x0)] maxLocals)) t := by
    intro t k; subst hvc; exact p1 t k
  have p3 : ∀ t, Steps p.tables e below (s₁.setTop (mkF m 4 #[.val (.int x0), .val (.int vc), .unset, .unset, .unset, .unset, .unset, .unset, .unset] [(.int vc)])) t → Steps p.tables e below (s₁.setTop (entryFrame m #[(.int x0)] maxLocals)) t := fun t k => p2 t (by
    show Steps p.tables e below (s₁.setTop (mkF m 3 #[.val (.int x0), .val (.int vc), .unset, .unset, .unset, .unset, .unset, .unset, .unset] [])) _
    refine XS.iloadN X0.here hx rfl (hb hby at_3) rfl ?_
    exact k)
  obtain ⟨_, _, ⟨T4, L4, k4, n4⟩, -, X4, ⟨Lc4, hQ4, l4, y4, z4⟩, st4⟩ := Jvm.LawKit.callS X0 hx (y := (⟨"com/example/kinwarden/kinwarden/NameBytes", "written", "(C)I"⟩ : MethodName)) hown (mvT hZ (hw _ (List.mem_of_getElem? (i := 0) rfl))) (mvT hZ (hw _ (List.mem_of_getElem? (i := 1) rfl))) (mvT hZ (hw _ (List.mem_of_getElem? (i := 2) rfl))) (mvT hZ (hw _ (List.mem_of_getElem? (i := 3) rfl))) (by decide) (backOf (W := 0) (rm1 l Z a0 hw [] vc  h0 n0 Z0 ) hZ (hw _ (List.mem_of_getElem? (i := 3) rfl)) (hw _ (List.mem_of_getElem? (i := 2) rfl)) (by decide) (by decide)) (g := (mkF m 4 #[.val (.int x0), .val (.int vc), .unset, .unset, .unset, .unset, .unset, .unset, .unset] [(.int vc)])) rfl (by rw [hml]; rfl) (argsL := [(.int vc)]) (rest := []) (lenOf pd0_0 rfl) rfl (by show 2 * 0 + _ ≤ _; exact Nat.le_of_eq rfl) (hb hby at_4) (fun _ _ => ⟨rfl, e0, (by decide : 0 + 0 ≤ _), (by decide : 0 + 0 ≤ _)⟩)
  dsimp only [Pt.U, Pt.locs, Pt.cells, Pt.slots] at X4 l4 y4 z4 st4 hQ4
  subst l4 y4 z4
  obtain ⟨rfl, Nq4, e4⟩ := hQ4
  have N4 := Fr.app N0 Nq4
  have p5 : ∀ t, Steps p.tables e below (T4.setTop (mkF m 7 #[.val (.int x0), .val (.int vc), .unset, .unset, .unset, .unset, .unset, .unset, .unset] [(.int (own_w vc))])) t → Steps p.tables e below (s₁.setTop (entryFrame m #[(.int x0)] maxLocals)) t := fun t k => p3 t (st4 _ k)
  have p6 : ∀ t, Steps p.tables e below (T4.setTop (mkF m 8 #[.val (.int x0), .val (.int vc), .val (.int (own_w vc)), .unset, .unset, .unset, .unset, .unset, .unset] [])) t → Steps p.tables e below (s₁.setTop (entryFrame m #[(.int x0)] maxLocals)) t := fun t k => p5 t (by
    show Steps p.tables e below (T4.setTop (mkF m 7 #[.val (.int x0), .val (.int vc), .unset, .unset, .unset, .unset, .unset, .unset, .unset] [(.int (own_w vc))])) _
    refine XS.istoreN X4.here hx rfl (hb hby at_7) rfl (l' := #[.val (.int x0), .val (.int vc), .val (.int (own_w vc)), .unset, .unset, .unset, .unset, .unset, .unset]) rfl ?_
    exact k)
  obtain ⟨vw, hvw⟩ : ∃ z : Int32, z = (own_w vc) := ⟨_, rfl⟩
  have p7 : ∀ t, Steps p.tables e below (T4.setTop (mkF m 8 #[.val (.int x0), .val (.int vc), .val (.int vw), .unset, .unset, .unset, .unset, .unset, .unset] [])) t → Steps p.tables e below (s₁.setTop (entryFrame m #[(.int x0)] maxLocals)) t := by
    intro t k; subst hvw; exact p6 t k
  have p8 : ∀ t, Steps p.tables e below (T4.setTop (mkF m 14 #[.val (.int x0), .val (.int vc), .val (.int vw), .val (.int (vw &&& (255 : Int32))), .unset, .unset, .unset, .unset, .unset] [])) t → Steps p.tables e below (s₁.setTop (entryFrame m #[(.int x0)] maxLocals)) t := fun t k => p7 t (by
    show Steps p.tables e below (T4.setTop (mkF m 8 #[.val (.int x0), .val (.int vc), .val (.int vw), .unset, .unset, .unset, .unset, .unset, .unset] [])) _
    refine XS.iloadN X4.here hx rfl (hb hby at_8) rfl ?_
    show Steps p.tables e below (T4.setTop (mkF m 9 #[.val (.int x0), .val (.int vc), .val (.int vw), .unset, .unset, .unset, .unset, .unset, .unset] [(.int vw)])) _
    refine XS.sipush X4.here hx rfl (hb hby at_9) ?_
    show Steps p.tables e below (T4.setTop (mkF m 12 #[.val (.int x0), .val (.int vc), .val (.int vw), .unset, .unset, .unset, .unset, .unset, .unset] [(.int (255 : Int32)), (.int vw)])) _
    refine XS.iand X4.here hx rfl (hb hby at_12) rfl ?_
    show Steps p.tables e below (T4.setTop (mkF m 13 #[.val (.int x0), .val (.int vc), .val (.int vw), .unset, .unset, .unset, .unset, .unset, .unset] [(.int (vw &&& (255 : Int32)))])) _
    refine XS.istoreN X4.here hx rfl (hb hby at_13) rfl (l' := #[.val (.int x0), .val (.int vc), .val (.int vw), .val (.int (vw &&& (255 : Int32))), .unset, .unset, .unset, .unset, .unset]) rfl ?_
    exact k)
  obtain ⟨vb0, hvb0⟩ : ∃ z : Int32, z = (vw &&& (255 : Int32)) := ⟨_, rfl⟩
  have p9 : ∀ t, Steps p.tables e below (T4.setTop (mkF m 14 #[.val (.int x0), .val (.int vc), .val (.int vw), .val (.int vb0), .unset, .unset, .unset, .unset, .unset] [])) t → Steps p.tables e below (s₁.setTop (entryFrame m #[(.int x0)] maxLocals)) t := by
    intro t k; subst hvb0; exact p8 t k
  have p10 : ∀ t, Steps p.tables e below (T4.setTop (mkF m 24 #[.val (.int x0), .val (.int vc), .val (.int vw), .val (.int vb0), .val (.int (((vw.toUInt32 >>> ((8 : Int32) &&& 31).toUInt32).toInt32) &&& (255 : Int32))), .unset, .unset, .unset, .unset] [])) t → Steps p.tables e below (s₁.setTop (entryFrame m #[(.int x0)] maxLocals)) t := fun t k => p9 t (by
    show Steps p.tables e below (T4.setTop (mkF m 14 #[.val (.int x0), .val (.int vc), .val (.int vw), .val (.int vb0), .unset, .unset, .unset, .unset, .unset] [])) _
    refine XS.iloadN X4.here hx rfl (hb hby at_14) rfl ?_
    show Steps p.tables e below (T4.setTop (mkF m 15 #[.val (.int x0), .val (.int vc), .val (.int vw), .val (.int vb0), .unset, .unset, .unset, .unset, .unset] [(.int vw)])) _
    refine XS.bipush X4.here hx rfl (hb hby at_15) ?_
    show Steps p.tables e below (T4.setTop (mkF m 17 #[.val (.int x0), .val (.int vc), .val (.int vw), .val (.int vb0), .unset, .unset, .unset, .unset, .unset] [(.int (8 : Int32)), (.int vw)])) _
    refine XS.iushr X4.here hx rfl (hb hby at_17) rfl ?_
    show Steps p.tables e below (T4.setTop (mkF m 18 #[.val (.int x0), .val (.int vc), .val (.int vw), .val (.int vb0), .unset, .unset, .unset, .unset, .unset] [(.int ((vw.toUInt32 >>> ((8 : Int32) &&& 31).toUInt32).toInt32))])) _
    refine XS.sipush X4.here hx rfl (hb hby at_18) ?_
    show Steps p.tables e below (T4.setTop (mkF m 21 #[.val (.int x0), .val (.int vc), .val (.int vw), .val (.int vb0), .unset, .unset, .unset, .unset, .unset] [(.int (255 : Int32)), (.int ((vw.toUInt32 >>> ((8 : Int32) &&& 31).toUInt32).toInt32))])) _
    refine XS.iand X4.here hx rfl (hb hby at_21) rfl ?_
    show Steps p.tables e below (T4.setTop (mkF m 22 #[.val (.int x0), .val (.int vc), .val (.int vw), .val (.int vb0), .unset, .unset, .unset, .unset, .unset] [(.int (((vw.toUInt32 >>> ((8 : Int32) &&& 31).toUInt32).toInt32) &&& (255 : Int32)))])) _
    refine XS.istore X4.here hx rfl (hb hby at_22) rfl (l' := #[.val (.int x0), .val (.int vc), .val (.int vw), .val (.int vb0), .val (.int (((vw.toUInt32 >>> ((8 : Int32) &&& 31).toUInt32).toInt32) &&& (255 : Int32))), .unset, .unset, .unset, .unset]) rfl ?_
    exact k)
  obtain ⟨vb1, hvb1⟩ : ∃ z : Int32, z = (((vw.toUInt32 >>> ((8 : Int32) &&& 31).toUInt32).toInt32) &&& (255 : Int32)) := ⟨_, rfl⟩
  have p11 : ∀ t, Steps p.tables e below (T4.setTop (mkF m 24 #[.val (.int x0), .val (.int vc), .val (.int vw), .val (.int vb0), .val (.int vb1), .unset, .unset, .unset, .unset] [])) t → Steps p.tables e below (s₁.setTop (entryFrame m #[(.int x0)] maxLocals)) t := by
    intro t k; subst hvb1; exact p10 t k
  have p12 : ∀ t, Steps p.tables e below (T4.setTop (mkF m 34 #[.val (.int x0), .val (.int vc), .val (.int vw), .val (.int vb0), .val (.int vb1), .val (.int (((vw.toUInt32 >>> ((16 : Int32) &&& 31).toUInt32).toInt32) &&& (255 : Int32))), .unset, .unset, .unset] [])) t → Steps p.tables e below (s₁.setTop (entryFrame m #[(.int x0)] maxLocals)) t := fun t k => p11 t (by
    show Steps p.tables e below (T4.setTop (mkF m 24 #[.val (.int x0), .val (.int vc), .val (.int vw), .val (.int vb0), .val (.int vb1), .unset, .unset, .unset, .unset] [])) _
    refine XS.iloadN X4.here hx rfl (hb hby at_24) rfl ?_
    show Steps p.tables e below (T4.setTop (mkF m 25 #[.val (.int x0), .val (.int vc), .val (.int vw), .val (.int vb0), .val (.int vb1), .unset, .unset, .unset, .unset] [(.int vw)])) _
    refine XS.bipush X4.here hx rfl (hb hby at_25) ?_
    show Steps p.tables e below (T4.setTop (mkF m 27 #[.val (.int x0), .val (.int vc), .val (.int vw), .val (.int vb0), .val (.int vb1), .unset, .unset, .unset, .unset] [(.int (16 : Int32)), (.int vw)])) _
    refine XS.iushr X4.here hx rfl (hb hby at_27) rfl ?_
    show Steps p.tables e below (T4.setTop (mkF m 28 #[.val (.int x0), .val (.int vc), .val (.int vw), .val (.int vb0), .val (.int vb1), .unset, .unset, .unset, .unset] [(.int ((vw.toUInt32 >>> ((16 : Int32) &&& 31).toUInt32).toInt32))])) _
    refine XS.sipush X4.here hx rfl (hb hby at_28) ?_
    show Steps p.tables e below (T4.setTop (mkF m 31 #[.val (.int x0), .val (.int vc), .val (.int vw), .val (.int vb0), .val (.int vb1), .unset, .unset, .unset, .unset] [(.int (255 : Int32)), (.int ((vw.toUInt32 >>> ((16 : Int32) &&& 31).toUInt32).toInt32))])) _
    refine XS.iand X4.here hx rfl (hb hby at_31) rfl ?_
    show Steps p.tables e below (T4.setTop (mkF m 32 #[.val (.int x0), .val (.int vc), .val (.int vw), .val (.int vb0), .val (.int vb1), .unset, .unset, .unset, .unset] [(.int (((vw.toUInt32 >>> ((16 : Int32) &&& 31).toUInt32).toInt32) &&& (255 : Int32)))])) _
    refine XS.istore X4.here hx rfl (hb hby at_32) rfl (l' := #[.val (.int x0), .val (.int vc), .val (.int vw), .val (.int vb0), .val (.int vb1), .val (.int (((vw.toUInt32 >>> ((16 : Int32) &&& 31).toUInt32).toInt32) &&& (255 : Int32))), .unset, .unset, .unset]) rfl ?_
    exact k)
  obtain ⟨vb2, hvb2⟩ : ∃ z : Int32, z = (((vw.toUInt32 >>> ((16 : Int32) &&& 31).toUInt32).toInt32) &&& (255 : Int32)) := ⟨_, rfl⟩
  have p13 : ∀ t, Steps p.tables e below (T4.setTop (mkF m 34 #[.val (.int x0), .val (.int vc), .val (.int vw), .val (.int vb0), .val (.int vb1), .val (.int vb2), .unset, .unset, .unset] [])) t → Steps p.tables e below (s₁.setTop (entryFrame m #[(.int x0)] maxLocals)) t := by
    intro t k; subst hvb2; exact p12 t k
  have p14 : ∀ t, Steps p.tables e below (T4.setTop (mkF m 40 #[.val (.int x0), .val (.int vc), .val (.int vw), .val (.int vb0), .val (.int vb1), .val (.int vb2), .val (.int ((vw.toUInt32 >>> ((24 : Int32) &&& 31).toUInt32).toInt32)), .unset, .unset] [])) t → Steps p.tables e below (s₁.setTop (entryFrame m #[(.int x0)] maxLocals)) t := fun t k => p13 t (by
    show Steps p.tables e below (T4.setTop (mkF m 34 #[.val (.int x0), .val (.int vc), .val (.int vw), .val (.int vb0), .val (.int vb1), .val (.int vb2), .unset, .unset, .unset] [])) _
    refine XS.iloadN X4.here hx rfl (hb hby at_34) rfl ?_
    show Steps p.tables e below (T4.setTop (mkF m 35 #[.val (.int x0), .val (.int vc), .val (.int vw), .val (.int vb0), .val (.int vb1), .val (.int vb2), .unset, .unset, .unset] [(.int vw)])) _
    refine XS.bipush X4.here hx rfl (hb hby at_35) ?_
    show Steps p.tables e below (T4.setTop (mkF m 37 #[.val (.int x0), .val (.int vc), .val (.int vw), .val (.int vb0), .val (.int vb1), .val (.int vb2), .unset, .unset, .unset] [(.int (24 : Int32)), (.int vw)])) _
    refine XS.iushr X4.here hx rfl (hb hby at_37) rfl ?_
    show Steps p.tables e below (T4.setTop (mkF m 38 #[.val (.int x0), .val (.int vc), .val (.int vw), .val (.int vb0), .val (.int vb1), .val (.int vb2), .unset, .unset, .unset] [(.int ((vw.toUInt32 >>> ((24 : Int32) &&& 31).toUInt32).toInt32))])) _
    refine XS.istore X4.here hx rfl (hb hby at_38) rfl (l' := #[.val (.int x0), .val (.int vc), .val (.int vw), .val (.int vb0), .val (.int vb1), .val (.int vb2), .val (.int ((vw.toUInt32 >>> ((24 : Int32) &&& 31).toUInt32).toInt32)), .unset, .unset]) rfl ?_
    exact k)
  obtain ⟨vb3, hvb3⟩ : ∃ z : Int32, z = ((vw.toUInt32 >>> ((24 : Int32) &&& 31).toUInt32).toInt32) := ⟨_, rfl⟩
  have p15 : ∀ t, Steps p.tables e below (T4.setTop (mkF m 40 #[.val (.int x0), .val (.int vc), .val (.int vw), .val (.int vb0), .val (.int vb1), .val (.int vb2), .val (.int vb3), .unset, .unset] [])) t → Steps p.tables e below (s₁.setTop (entryFrame m #[(.int x0)] maxLocals)) t := by
    intro t k; subst hvb3; exact p14 t k
  have hvc0 := own_rng hvc
  have p16 : ∀ t, Steps p.tables e below (T4.setTop (mkF m 48 #[.val (.int x0), .val (.int vc), .val (.int vw), .val (.int vb0), .val (.int vb1), .val (.int vb2), .val (.int vb3), .val (.int vc), .unset] [(.int (128 : Int32)), (.int vc)])) t → Steps p.tables e below (s₁.setTop (entryFrame m #[(.int x0)] maxLocals)) t := fun t k => p15 t (by
    show Steps p.tables e below (T4.setTop (mkF m 40 #[.val (.int x0), .val (.int vc), .val (.int vw), .val (.int vb0), .val (.int vb1), .val (.int vb2), .val (.int vb3), .unset, .unset] [])) _
    refine XS.iloadN X4.here hx rfl (hb hby at_40) rfl ?_
    show Steps p.tables e below (T4.setTop (mkF m 41 #[.val (.int x0), .val (.int vc), .val (.int vw), .val (.int vb0), .val (.int vb1), .val (.int vb2), .val (.int vb3), .unset, .unset] [(.int vc)])) _
    refine XS.istore X4.here hx rfl (hb hby at_41) rfl (l' := #[.val (.int x0), .val (.int vc), .val (.int vw), .val (.int vb0), .val (.int vb1), .val (.int vb2), .val (.int vb3), .val (.int vc), .unset]) rfl ?_
    show Steps p.tables e below (T4.setTop (mkF m 43 #[.val (.int x0), .val (.int vc), .val (.int vw), .val (.int vb0), .val (.int vb1), .val (.int vb2), .val (.int vb3), .val (.int vc), .unset] [])) _
    refine XS.iload X4.here hx rfl (hb hby at_43) rfl ?_
    show Steps p.tables e below (T4.setTop (mkF m 45 #[.val (.int x0), .val (.int vc), .val (.int vw), .val (.int vb0), .val (.int vb1), .val (.int vb2), .val (.int vb3), .val (.int vc), .unset] [(.int vc)])) _
    refine XS.sipush X4.here hx rfl (hb hby at_45) ?_
    exact k)
  by_cases hc48 : vc < (128 : Int32)
  · obtain ⟨u0, u1, u2, u3, u4⟩ := own_A hvc0 hvw hvb0 hvb1 hvb2 hvb3 hc48
    have p17 : ∀ t, Steps p.tables e below (T4.setTop (mkF m 84 #[.val (.int x0), .val (.int vc), .val (.int vw), .val (.int vb0), .val (.int vb1), .val (.int vb2), .val (.int vb3), .val (.int vc), .unset] [(.int (1 : Int32))])) t → Steps p.tables e below (s₁.setTop (entryFrame m #[(.int x0)] maxLocals)) t := fun t k => p16 t (by
      show Steps p.tables e below (T4.setTop (mkF m 48 #[.val (.int x0), .val (.int vc), .val (.int vw), .val (.int vb0), .val (.int vb1), .val (.int vb2), .val (.int vb3), .val (.int vc), .unset] [(.int (128 : Int32)), (.int vc)])) _
      refine XS.icmpNo X4.here hx rfl (hb hby at_48) rfl ((tlt (hc48)).2.1) ?_
      show Steps p.tables e below (T4.setTop (mkF m 51 #[.val (.int x0), .val (.int vc), .val (.int vw), .val (.int vb0), .val (.int vb1), .val (.int vb2), .val (.int vb3), .val (.int vc), .unset] [])) _
      refine XS.iloadN X4.here hx rfl (hb hby at_51) rfl ?_
      show Steps p.tables e below (T4.setTop (mkF m 52 #[.val (.int x0), .val (.int vc), .val (.int vw), .val (.int vb0), .val (.int vb1), .val (.int vb2), .val (.int vb3), .val (.int vc), .unset] [(.int vb0)])) _
      refine XS.sipush X4.here hx rfl (hb hby at_52) ?_
      show Steps p.tables e below (T4.setTop (mkF m 55 #[.val (.int x0), .val (.int vc), .val (.int vw), .val (.int vb0), .val (.int vb1), .val (.int vb2), .val (.int vb3), .val (.int vc), .unset] [(.int (128 : Int32)), (.int vb0)])) _
      refine XS.icmpNo X4.here hx rfl (hb hby at_55) rfl ((tlt (u0)).2.1) ?_
      show Steps p.tables e below (T4.setTop (mkF m 58 #[.val (.int x0), .val (.int vc), .val (.int vw), .val (.int vb0), .val (.int vb1), .val (.int vb2), .val (.int vb3), .val (.int vc), .unset] [])) _
      refine XS.iload X4.here hx rfl (hb hby at_58) rfl ?_
      show Steps p.tables e below (T4.setTop (mkF m 60 #[.val (.int x0), .val (.int vc), .val (.int vw), .val (.int vb0), .val (.int vb1), .val (.int vb2), .val (.int vb3), .val (.int vc), .unset] [(.int vb1)])) _
      refine XS.ifNo X4.here hx rfl (hb hby at_60) rfl ((if0 _ _).trans (teq (u1)).2) ?_
      show Steps p.tables e below (T4.setTop (mkF m 63 #[.val (.int x0), .val (.int vc), .val (.int vw), .val (.int vb0), .val (.int vb1), .val (.int vb2), .val (.int vb3), .val (.int vc), .unset] [])) _
      refine XS.iload X4.here hx rfl (hb hby at_63) rfl ?_
      show Steps p.tables e below (T4.setTop (mkF m 65 #[.val (.int x0), .val (.int vc), .val (.int vw), .val (.int vb0), .val (.int vb1), .val (.int vb2), .val (.int vb3), .val (.int vc), .unset] [(.int vb2)])) _
      refine XS.ifNo X4.here hx rfl (hb hby at_65) rfl ((if0 _ _).trans (teq (u2)).2) ?_
      show Steps p.tables e below (T4.setTop (mkF m 68 #[.val (.int x0), .val (.int vc), .val (.int vw), .val (.int vb0), .val (.int vb1), .val (.int vb2), .val (.int vb3), .val (.int vc), .unset] [])) _
      refine XS.iload X4.here hx rfl (hb hby at_68) rfl ?_
      show Steps p.tables e below (T4.setTop (mkF m 70 #[.val (.int x0), .val (.int vc), .val (.int vw), .val (.int vb0), .val (.int vb1), .val (.int vb2), .val (.int vb3), .val (.int vc), .unset] [(.int vb3)])) _
      refine XS.ifNo X4.here hx rfl (hb hby at_70) rfl ((if0 _ _).trans (teq (u3)).2) ?_
      show Steps p.tables e below (T4.setTop (mkF m 73 #[.val (.int x0), .val (.int vc), .val (.int vw), .val (.int vb0), .val (.int vb1), .val (.int vb2), .val (.int vb3), .val (.int vc), .unset] [])) _
      refine XS.iloadN X4.here hx rfl (hb hby at_73) rfl ?_
      show Steps p.tables e below (T4.setTop (mkF m 74 #[.val (.int x0), .val (.int vc), .val (.int vw), .val (.int vb0), .val (.int vb1), .val (.int vb2), .val (.int vb3), .val (.int vc), .unset] [(.int vb0)])) _
      refine XS.iload X4.here hx rfl (hb hby at_74) rfl ?_
      show Steps p.tables e below (T4.setTop (mkF m 76 #[.val (.int x0), .val (.int vc), .val (.int vw), .val (.int vb0), .val (.int vb1), .val (.int vb2), .val (.int vb3), .val (.int vc), .unset] [(.int vc), (.int vb0)])) _
      refine XS.icmpNo X4.here hx rfl (hb hby at_76) rfl ((teq (u4)).2) ?_
      show Steps p.tables e below (T4.setTop (mkF m 79 #[.val (.int x0), .val (.int vc), .val (.int vw), .val (.int vb0), .val (.int vb1), .val (.int vb2), .val (.int vb3), .val (.int vc), .unset] [])) _
      refine XS.iconst X4.here hx rfl (hb hby at_79) ?_
      show Steps p.tables e below (T4.setTop (mkF m 80 #[.val (.int x0), .val (.int vc), .val (.int vw), .val (.int vb0), .val (.int vb1), .val (.int vb2), .val (.int vb3), .val (.int vc), .unset] [(.int (1 : Int32))])) _
      refine XS.goto X4.here hx rfl (pc0 := 80) (pc' := 84) rfl (hb hby at_80) (by decide) (by decide) ?_
      exact k)
    obtain ⟨fs, hr, hrun, hended, hW, hsame⟩ := X4.leave (v := some (.int (1 : Int32))) (fun h => by rw [Bd.returns] at h; cases h)
    refine ⟨_, _, p17 _ ?_, hrun, hended, _, _, rfl, ?_, ⟨_, rfl⟩, hW, hsame.mono (by decide) (by decide)⟩
    · show Steps p.tables e below (T4.setTop (mkF m 84 #[.val (.int x0), .val (.int vc), .val (.int vw), .val (.int vb0), .val (.int vb1), .val (.int vb2), .val (.int vb3), .val (.int vc), .unset] [(.int (1 : Int32))])) _
      exact retN X4 hx (t := .boolean) Bd.returns (by simp) (hb hby at_84) hr
    · show Q0 Z x0 h0 n0 _ T4.heap _
      rw [e4]
      exact ⟨rfl, N4⟩
  · have p18 : ∀ t, Steps p.tables e below (T4.setTop (mkF m 90 #[.val (.int x0), .val (.int vc), .val (.int vw), .val (.int vb0), .val (.int vb1), .val (.int vb2), .val (.int vb3), .val (.int vc), .unset] [(.int (2048 : Int32)), (.int vc)])) t → Steps p.tables e below (s₁.setTop (entryFrame m #[(.int x0)] maxLocals)) t := fun t k => p16 t (by
      show Steps p.tables e below (T4.setTop (mkF m 48 #[.val (.int x0), .val (.int vc), .val (.int vw), .val (.int vb0), .val (.int vb1), .val (.int vb2), .val (.int vb3), .val (.int vc), .unset] [(.int (128 : Int32)), (.int vc)])) _
      refine XS.icmpYes X4.here hx rfl (pc0 := 48) (pc' := 85) rfl (hb hby at_48) rfl ((flt (hc48)).2.1) (by decide) (by decide) ?_
      show Steps p.tables e below (T4.setTop (mkF m 85 #[.val (.int x0), .val (.int vc), .val (.int vw), .val (.int vb0), .val (.int vb1), .val (.int vb2), .val (.int vb3), .val (.int vc), .unset] [])) _
      refine XS.iload X4.here hx rfl (hb hby at_85) rfl ?_
      show Steps p.tables e below (T4.setTop (mkF m 87 #[.val (.int x0), .val (.int vc), .val (.int vw), .val (.int vb0), .val (.int vb1), .val (.int vb2), .val (.int vb3), .val (.int vc), .unset] [(.int vc)])) _
      refine XS.sipush X4.here hx rfl (hb hby at_87) ?_
      exact k)
    by_cases hc90 : vc < (2048 : Int32)
    · obtain ⟨u0, u1, u2, u3, u4⟩ := own_B hvc0 hvw hvb0 hvb1 hvb2 hvb3 hc48 hc90
      have p19 : ∀ t, Steps p.tables e below (T4.setTop (mkF m 153 #[.val (.int x0), .val (.int vc), .val (.int vw), .val (.int vb0), .val (.int vb1), .val (.int vb2), .val (.int vb3), .val (.int vc), .val (.int (((vb0 &&& (31 : Int32)) <<< ((6 : Int32) &&& 31)) ||| (vb1 &&& (63 : Int32))))] [(.int (1 : Int32))])) t → Steps p.tables e below (s₁.setTop (entryFrame m #[(.int x0)] maxLocals)) t := fun t k => p18 t (by
        show Steps p.tables e below (T4.setTop (mkF m 90 #[.val (.int x0), .val (.int vc), .val (.int vw), .val (.int vb0), .val (.int vb1), .val (.int vb2), .val (.int vb3), .val (.int vc), .unset] [(.int (2048 : Int32)), (.int vc)])) _
        refine XS.icmpNo X4.here hx rfl (hb hby at_90) rfl ((tlt (hc90)).2.1) ?_
        show Steps p.tables e below (T4.setTop (mkF m 93 #[.val (.int x0), .val (.int vc), .val (.int vw), .val (.int vb0), .val (.int vb1), .val (.int vb2), .val (.int vb3), .val (.int vc), .unset] [])) _
        refine XS.iloadN X4.here hx rfl (hb hby at_93) rfl ?_
        show Steps p.tables e below (T4.setTop (mkF m 94 #[.val (.int x0), .val (.int vc), .val (.int vw), .val (.int vb0), .val (.int vb1), .val (.int vb2), .val (.int vb3), .val (.int vc), .unset] [(.int vb0)])) _
        refine XS.bipush X4.here hx rfl (hb hby at_94) ?_
        show Steps p.tables e below (T4.setTop (mkF m 96 #[.val (.int x0), .val (.int vc), .val (.int vw), .val (.int vb0), .val (.int vb1), .val (.int vb2), .val (.int vb3), .val (.int vc), .unset] [(.int (31 : Int32)), (.int vb0)])) _
        refine XS.iand X4.here hx rfl (hb hby at_96) rfl ?_
        show Steps p.tables e below (T4.setTop (mkF m 97 #[.val (.int x0), .val (.int vc), .val (.int vw), .val (.int vb0), .val (.int vb1), .val (.int vb2), .val (.int vb3), .val (.int vc), .unset] [(.int (vb0 &&& (31 : Int32)))])) _
        refine XS.bipush X4.here hx rfl (hb hby at_97) ?_
        show Steps p.tables e below (T4.setTop (mkF m 99 #[.val (.int x0), .val (.int vc), .val (.int vw), .val (.int vb0), .val (.int vb1), .val (.int vb2), .val (.int vb3), .val (.int vc), .unset] [(.int (6 : Int32)), (.int (vb0 &&& (31 : Int32)))])) _
        refine XS.ishl X4.here hx rfl (hb hby at_99) rfl ?_
        show Steps p.tables e below (T4.setTop (mkF m 100 #[.val (.int x0), .val (.int vc), .val (.int vw), .val (.int vb0), .val (.int vb1), .val (.int vb2), .val (.int vb3), .val (.int vc), .unset] [(.int ((vb0 &&& (31 : Int32)) <<< ((6 : Int32) &&& 31)))])) _
        refine XS.iload X4.here hx rfl (hb hby at_100) rfl ?_
        show Steps p.tables e below (T4.setTop (mkF m 102 #[.val (.int x0), .val (.int vc), .val (.int vw), .val (.int vb0), .val (.int vb1), .val (.int vb2), .val (.int vb3), .val (.int vc), .unset] [(.int vb1), (.int ((vb0 &&& (31 : Int32)) <<< ((6 : Int32) &&& 31)))])) _
        refine XS.bipush X4.here hx rfl (hb hby at_102) ?_
        show Steps p.tables e below (T4.setTop (mkF m 104 #[.val (.int x0), .val (.int vc), .val (.int vw), .val (.int vb0), .val (.int vb1), .val (.int vb2), .val (.int vb3), .val (.int vc), .unset] [(.int (63 : Int32)), (.int vb1), (.int ((vb0 &&& (31 : Int32)) <<< ((6 : Int32) &&& 31)))])) _
        refine XS.iand X4.here hx rfl (hb hby at_104) rfl ?_
        show Steps p.tables e below (T4.setTop (mkF m 105 #[.val (.int x0), .val (.int vc), .val (.int vw), .val (.int vb0), .val (.int vb1), .val (.int vb2), .val (.int vb3), .val (.int vc), .unset] [(.int (vb1 &&& (63 : Int32))), (.int ((vb0 &&& (31 : Int32)) <<< ((6 : Int32) &&& 31)))])) _
        refine XS.ior X4.here hx rfl (hb hby at_105) rfl ?_
        show Steps p.tables e below (T4.setTop (mkF m 106 #[.val (.int x0), .val (.int vc), .val (.int vw), .val (.int vb0), .val (.int vb1), .val (.int vb2), .val (.int vb3), .val (.int vc), .unset] [(.int (((vb0 &&& (31 : Int32)) <<< ((6 : Int32) &&& 31)) ||| (vb1 &&& (63 : Int32))))])) _
        refine XS.istore X4.here hx rfl (hb hby at_106) rfl (l' := #[.val (.int x0), .val (.int vc), .val (.int vw), .val (.int vb0), .val (.int vb1), .val (.int vb2), .val (.int vb3), .val (.int vc), .val (.int (((vb0 &&& (31 : Int32)) <<< ((6 : Int32) &&& 31)) ||| (vb1 &&& (63 : Int32))))]) rfl ?_
        show Steps p.tables e below (T4.setTop (mkF m 108 #[.val (.int x0), .val (.int vc), .val (.int vw), .val (.int vb0), .val (.int vb1), .val (.int vb2), .val (.int vb3), .val (.int vc), .val (.int (((vb0 &&& (31 : Int32)) <<< ((6 : Int32) &&& 31)) ||| (vb1 &&& (63 : Int32))))] [])) _
        refine XS.iloadN X4.here hx rfl (hb hby at_108) rfl ?_
        show Steps p.tables e below (T4.setTop (mkF m 109 #[.val (.int x0), .val (.int vc), .val (.int vw), .val (.int vb0), .val (.int vb1), .val (.int vb2), .val (.int vb3), .val (.int vc), .val (.int (((vb0 &&& (31 : Int32)) <<< ((6 : Int32) &&& 31)) ||| (vb1 &&& (63 : Int32))))] [(.int vb0)])) _
        refine XS.sipush X4.here hx rfl (hb hby at_109) ?_
        show Steps p.tables e below (T4.setTop (mkF m 112 #[.val (.int x0), .val (.int vc), .val (.int vw), .val (.int vb0), .val (.int vb1), .val (.int vb2), .val (.int vb3), .val (.int vc), .val (.int (((vb0 &&& (31 : Int32)) <<< ((6 : Int32) &&& 31)) ||| (vb1 &&& (63 : Int32))))] [(.int (224 : Int32)), (.int vb0)])) _
        refine XS.iand X4.here hx rfl (hb hby at_112) rfl ?_
        show Steps p.tables e below (T4.setTop (mkF m 113 #[.val (.int x0), .val (.int vc), .val (.int vw), .val (.int vb0), .val (.int vb1), .val (.int vb2), .val (.int vb3), .val (.int vc), .val (.int (((vb0 &&& (31 : Int32)) <<< ((6 : Int32) &&& 31)) ||| (vb1 &&& (63 : Int32))))] [(.int (vb0 &&& (224 : Int32)))])) _
        refine XS.sipush X4.here hx rfl (hb hby at_113) ?_
        show Steps p.tables e below (T4.setTop (mkF m 116 #[.val (.int x0), .val (.int vc), .val (.int vw), .val (.int vb0), .val (.int vb1), .val (.int vb2), .val (.int vb3), .val (.int vc), .val (.int (((vb0 &&& (31 : Int32)) <<< ((6 : Int32) &&& 31)) ||| (vb1 &&& (63 : Int32))))] [(.int (192 : Int32)), (.int (vb0 &&& (224 : Int32)))])) _
        refine XS.icmpNo X4.here hx rfl (hb hby at_116) rfl ((teq (u0)).2) ?_
        show Steps p.tables e below (T4.setTop (mkF m 119 #[.val (.int x0), .val (.int vc), .val (.int vw), .val (.int vb0), .val (.int vb1), .val (.int vb2), .val (.int vb3), .val (.int vc), .val (.int (((vb0 &&& (31 : Int32)) <<< ((6 : Int32) &&& 31)) ||| (vb1 &&& (63 : Int32))))] [])) _
        refine XS.iload X4.here hx rfl (hb hby at_119) rfl ?_
        show Steps p.tables e below (T4.setTop (mkF m 121 #[.val (.int x0), .val (.int vc), .val (.int vw), .val (.int vb0), .val (.int vb1), .val (.int vb2), .val (.int vb3), .val (.int vc), .val (.int (((vb0 &&& (31 : Int32)) <<< ((6 : Int32) &&& 31)) ||| (vb1 &&& (63 : Int32))))] [(.int vb1)])) _
        refine XS.sipush X4.here hx rfl (hb hby at_121) ?_
        show Steps p.tables e below (T4.setTop (mkF m 124 #[.val (.int x0), .val (.int vc), .val (.int vw), .val (.int vb0), .val (.int vb1), .val (.int vb2), .val (.int vb3), .val (.int vc), .val (.int (((vb0 &&& (31 : Int32)) <<< ((6 : Int32) &&& 31)) ||| (vb1 &&& (63 : Int32))))] [(.int (192 : Int32)), (.int vb1)])) _
        refine XS.iand X4.here hx rfl (hb hby at_124) rfl ?_
        show Steps p.tables e below (T4.setTop (mkF m 125 #[.val (.int x0), .val (.int vc), .val (.int vw), .val (.int vb0), .val (.int vb1), .val (.int vb2), .val (.int vb3), .val (.int vc), .val (.int (((vb0 &&& (31 : Int32)) <<< ((6 : Int32) &&& 31)) ||| (vb1 &&& (63 : Int32))))] [(.int (vb1 &&& (192 : Int32)))])) _
        refine XS.sipush X4.here hx rfl (hb hby at_125) ?_
        show Steps p.tables e below (T4.setTop (mkF m 128 #[.val (.int x0), .val (.int vc), .val (.int vw), .val (.int vb0), .val (.int vb1), .val (.int vb2), .val (.int vb3), .val (.int vc), .val (.int (((vb0 &&& (31 : Int32)) <<< ((6 : Int32) &&& 31)) ||| (vb1 &&& (63 : Int32))))] [(.int (128 : Int32)), (.int (vb1 &&& (192 : Int32)))])) _
        refine XS.icmpNo X4.here hx rfl (hb hby at_128) rfl ((teq (u1)).2) ?_
        show Steps p.tables e below (T4.setTop (mkF m 131 #[.val (.int x0), .val (.int vc), .val (.int vw), .val (.int vb0), .val (.int vb1), .val (.int vb2), .val (.int vb3), .val (.int vc), .val (.int (((vb0 &&& (31 : Int32)) <<< ((6 : Int32) &&& 31)) ||| (vb1 &&& (63 : Int32))))] [])) _
        refine XS.iload X4.here hx rfl (hb hby at_131) rfl ?_
        show Steps p.tables e below (T4.setTop (mkF m 133 #[.val (.int x0), .val (.int vc), .val (.int vw), .val (.int vb0), .val (.int vb1), .val (.int vb2), .val (.int vb3), .val (.int vc), .val (.int (((vb0 &&& (31 : Int32)) <<< ((6 : Int32) &&& 31)) ||| (vb1 &&& (63 : Int32))))] [(.int vb2)])) _
        refine XS.ifNo X4.here hx rfl (hb hby at_133) rfl ((if0 _ _).trans (teq (u2)).2) ?_
        show Steps p.tables e below (T4.setTop (mkF m 136 #[.val (.int x0), .val (.int vc), .val (.int vw), .val (.int vb0), .val (.int vb1), .val (.int vb2), .val (.int vb3), .val (.int vc), .val (.int (((vb0 &&& (31 : Int32)) <<< ((6 : Int32) &&& 31)) ||| (vb1 &&& (63 : Int32))))] [])) _
        refine XS.iload X4.here hx rfl (hb hby at_136) rfl ?_
        show Steps p.tables e below (T4.setTop (mkF m 138 #[.val (.int x0), .val (.int vc), .val (.int vw), .val (.int vb0), .val (.int vb1), .val (.int vb2), .val (.int vb3), .val (.int vc), .val (.int (((vb0 &&& (31 : Int32)) <<< ((6 : Int32) &&& 31)) ||| (vb1 &&& (63 : Int32))))] [(.int vb3)])) _
        refine XS.ifNo X4.here hx rfl (hb hby at_138) rfl ((if0 _ _).trans (teq (u3)).2) ?_
        show Steps p.tables e below (T4.setTop (mkF m 141 #[.val (.int x0), .val (.int vc), .val (.int vw), .val (.int vb0), .val (.int vb1), .val (.int vb2), .val (.int vb3), .val (.int vc), .val (.int (((vb0 &&& (31 : Int32)) <<< ((6 : Int32) &&& 31)) ||| (vb1 &&& (63 : Int32))))] [])) _
        refine XS.iload X4.here hx rfl (hb hby at_141) rfl ?_
        show Steps p.tables e below (T4.setTop (mkF m 143 #[.val (.int x0), .val (.int vc), .val (.int vw), .val (.int vb0), .val (.int vb1), .val (.int vb2), .val (.int vb3), .val (.int vc), .val (.int (((vb0 &&& (31 : Int32)) <<< ((6 : Int32) &&& 31)) ||| (vb1 &&& (63 : Int32))))] [(.int (((vb0 &&& (31 : Int32)) <<< ((6 : Int32) &&& 31)) ||| (vb1 &&& (63 : Int32))))])) _
        refine XS.iload X4.here hx rfl (hb hby at_143) rfl ?_
        show Steps p.tables e below (T4.setTop (mkF m 145 #[.val (.int x0), .val (.int vc), .val (.int vw), .val (.int vb0), .val (.int vb1), .val (.int vb2), .val (.int vb3), .val (.int vc), .val (.int (((vb0 &&& (31 : Int32)) <<< ((6 : Int32) &&& 31)) ||| (vb1 &&& (63 : Int32))))] [(.int vc), (.int (((vb0 &&& (31 : Int32)) <<< ((6 : Int32) &&& 31)) ||| (vb1 &&& (63 : Int32))))])) _
        refine XS.icmpNo X4.here hx rfl (hb hby at_145) rfl ((teq (u4)).2) ?_
        show Steps p.tables e below (T4.setTop (mkF m 148 #[.val (.int x0), .val (.int vc), .val (.int vw), .val (.int vb0), .val (.int vb1), .val (.int vb2), .val (.int vb3), .val (.int vc), .val (.int (((vb0 &&& (31 : Int32)) <<< ((6 : Int32) &&& 31)) ||| (vb1 &&& (63 : Int32))))] [])) _
        refine XS.iconst X4.here hx rfl (hb hby at_148) ?_
        show Steps p.tables e below (T4.setTop (mkF m 149 #[.val (.int x0), .val (.int vc), .val (.int vw), .val (.int vb0), .val (.int vb1), .val (.int vb2), .val (.int vb3), .val (.int vc), .val (.int (((vb0 &&& (31 : Int32)) <<< ((6 : Int32) &&& 31)) ||| (vb1 &&& (63 : Int32))))] [(.int (1 : Int32))])) _
        refine XS.goto X4.here hx rfl (pc0 := 149) (pc' := 153) rfl (hb hby at_149) (by decide) (by decide) ?_
        exact k)
      obtain ⟨fs, hr, hrun, hended, hW, hsame⟩ := X4.leave (v := some (.int (1 : Int32))) (fun h => by rw [Bd.returns] at h; cases h)
      refine ⟨_, _, p19 _ ?_, hrun, hended, _, _, rfl, ?_, ⟨_, rfl⟩, hW, hsame.mono (by decide) (by decide)⟩
      · show Steps p.tables e below (T4.setTop (mkF m 153 #[.val (.int x0), .val (.int vc), .val (.int vw), .val (.int vb0), .val (.int vb1), .val (.int vb2), .val (.int vb3), .val (.int vc), .val (.int (((vb0 &&& (31 : Int32)) <<< ((6 : Int32) &&& 31)) ||| (vb1 &&& (63 : Int32))))] [(.int (1 : Int32))])) _
        exact retN X4 hx (t := .boolean) Bd.returns (by simp) (hb hby at_153) hr
      · show Q0 Z x0 h0 n0 _ T4.heap _
        rw [e4]
        exact ⟨rfl, N4⟩
    · obtain ⟨u0, u1, u2, u3, u4⟩ := own_C hvc0 hvw hvb0 hvb1 hvb2 hvb3 hc48 hc90
      have p20 : ∀ t, Steps p.tables e below (T4.setTop (mkF m 230 #[.val (.int x0), .val (.int vc), .val (.int vw), .val (.int vb0), .val (.int vb1), .val (.int vb2), .val (.int vb3), .val (.int vc), .val (.int ((((vb0 &&& (15 : Int32)) <<< ((12 : Int32) &&& 31)) ||| ((vb1 &&& (63 : Int32)) <<< ((6 : Int32) &&& 31))) ||| (vb2 &&& (63 : Int32))))] [(.int (1 : Int32))])) t → Steps p.tables e below (s₁.setTop (entryFrame m #[(.int x0)] maxLocals)) t := fun t k => p18 t (by
        show Steps p.tables e below (T4.setTop (mkF m 90 #[.val (.int x0), .val (.int vc), .val (.int vw), .val (.int vb0), .val (.int vb1), .val (.int vb2), .val (.int vb3), .val (.int vc), .unset] [(.int (2048 : Int32)), (.int vc)])) _
        refine XS.icmpYes X4.here hx rfl (pc0 := 90) (pc' := 154) rfl (hb hby at_90) rfl ((flt (hc90)).2.1) (by decide) (by decide) ?_
        show Steps p.tables e below (T4.setTop (mkF m 154 #[.val (.int x0), .val (.int vc), .val (.int vw), .val (.int vb0), .val (.int vb1), .val (.int vb2), .val (.int vb3), .val (.int vc), .unset] [])) _
        refine XS.iloadN X4.here hx rfl (hb hby at_154) rfl ?_
        show Steps p.tables e below (T4.setTop (mkF m 155 #[.val (.int x0), .val (.int vc), .val (.int vw), .val (.int vb0), .val (.int vb1), .val (.int vb2), .val (.int vb3), .val (.int vc), .unset] [(.int vb0)])) _
        refine XS.bipush X4.here hx rfl (hb hby at_155) ?_
        show Steps p.tables e below (T4.setTop (mkF m 157 #[.val (.int x0), .val (.int vc), .val (.int vw), .val (.int vb0), .val (.int vb1), .val (.int vb2), .val (.int vb3), .val (.int vc), .unset] [(.int (15 : Int32)), (.int vb0)])) _
        refine XS.iand X4.here hx rfl (hb hby at_157) rfl ?_
        show Steps p.tables e below (T4.setTop (mkF m 158 #[.val (.int x0), .val (.int vc), .val (.int vw), .val (.int vb0), .val (.int vb1), .val (.int vb2), .val (.int vb3), .val (.int vc), .unset] [(.int (vb0 &&& (15 : Int32)))])) _
        refine XS.bipush X4.here hx rfl (hb hby at_158) ?_
        show Steps p.tables e below (T4.setTop (mkF m 160 #[.val (.int x0), .val (.int vc), .val (.int vw), .val (.int vb0), .val (.int vb1), .val (.int vb2), .val (.int vb3), .val (.int vc), .unset] [(.int (12 : Int32)), (.int (vb0 &&& (15 : Int32)))])) _
        refine XS.ishl X4.here hx rfl (hb hby at_160) rfl ?_
        show Steps p.tables e below (T4.setTop (mkF m 161 #[.val (.int x0), .val (.int vc), .val (.int vw), .val (.int vb0), .val (.int vb1), .val (.int vb2), .val (.int vb3), .val (.int vc), .unset] [(.int ((vb0 &&& (15 : Int32)) <<< ((12 : Int32) &&& 31)))])) _
        refine XS.iload X4.here hx rfl (hb hby at_161) rfl ?_
        show Steps p.tables e below (T4.setTop (mkF m 163 #[.val (.int x0), .val (.int vc), .val (.int vw), .val (.int vb0), .val (.int vb1), .val (.int vb2), .val (.int vb3), .val (.int vc), .unset] [(.int vb1), (.int ((vb0 &&& (15 : Int32)) <<< ((12 : Int32) &&& 31)))])) _
        refine XS.bipush X4.here hx rfl (hb hby at_163) ?_
        show Steps p.tables e below (T4.setTop (mkF m 165 #[.val (.int x0), .val (.int vc), .val (.int vw), .val (.int vb0), .val (.int vb1), .val (.int vb2), .val (.int vb3), .val (.int vc), .unset] [(.int (63 : Int32)), (.int vb1), (.int ((vb0 &&& (15 : Int32)) <<< ((12 : Int32) &&& 31)))])) _
        refine XS.iand X4.here hx rfl (hb hby at_165) rfl ?_
        show Steps p.tables e below (T4.setTop (mkF m 166 #[.val (.int x0), .val (.int vc), .val (.int vw), .val (.int vb0), .val (.int vb1), .val (.int vb2), .val (.int vb3), .val (.int vc), .unset] [(.int (vb1 &&& (63 : Int32))), (.int ((vb0 &&& (15 : Int32)) <<< ((12 : Int32) &&& 31)))])) _
        refine XS.bipush X4.here hx rfl (hb hby at_166) ?_
        show Steps p.tables e below (T4.setTop (mkF m 168 #[.val (.int x0), .val (.int vc), .val (.int vw), .val (.int vb0), .val (.int vb1), .val (.int vb2), .val (.int vb3), .val (.int vc), .unset] [(.int (6 : Int32)), (.int (vb1 &&& (63 : Int32))), (.int ((vb0 &&& (15 : Int32)) <<< ((12 : Int32) &&& 31)))])) _
        refine XS.ishl X4.here hx rfl (hb hby at_168) rfl ?_
        show Steps p.tables e below (T4.setTop (mkF m 169 #[.val (.int x0), .val (.int vc), .val (.int vw), .val (.int vb0), .val (.int vb1), .val (.int vb2), .val (.int vb3), .val (.int vc), .unset] [(.int ((vb1 &&& (63 : Int32)) <<< ((6 : Int32) &&& 31))), (.int ((vb0 &&& (15 : Int32)) <<< ((12 : Int32) &&& 31)))])) _
        refine XS.ior X4.here hx rfl (hb hby at_169) rfl ?_
        show Steps p.tables e below (T4.setTop (mkF m 170 #[.val (.int x0), .val (.int vc), .val (.int vw), .val (.int vb0), .val (.int vb1), .val (.int vb2), .val (.int vb3), .val (.int vc), .unset] [(.int (((vb0 &&& (15 : Int32)) <<< ((12 : Int32) &&& 31)) ||| ((vb1 &&& (63 : Int32)) <<< ((6 : Int32) &&& 31))))])) _
        refine XS.iload X4.here hx rfl (hb hby at_170) rfl ?_
        show Steps p.tables e below (T4.setTop (mkF m 172 #[.val (.int x0), .val (.int vc), .val (.int vw), .val (.int vb0), .val (.int vb1), .val (.int vb2), .val (.int vb3), .val (.int vc), .unset] [(.int vb2), (.int (((vb0 &&& (15 : Int32)) <<< ((12 : Int32) &&& 31)) ||| ((vb1 &&& (63 : Int32)) <<< ((6 : Int32) &&& 31))))])) _
        refine XS.bipush X4.here hx rfl (hb hby at_172) ?_
        show Steps p.tables e below (T4.setTop (mkF m 174 #[.val (.int x0), .val (.int vc), .val (.int vw), .val (.int vb0), .val (.int vb1), .val (.int vb2), .val (.int vb3), .val (.int vc), .unset] [(.int (63 : Int32)), (.int vb2), (.int (((vb0 &&& (15 : Int32)) <<< ((12 : Int32) &&& 31)) ||| ((vb1 &&& (63 : Int32)) <<< ((6 : Int32) &&& 31))))])) _
        refine XS.iand X4.here hx rfl (hb hby at_174) rfl ?_
        show Steps p.tables e below (T4.setTop (mkF m 175 #[.val (.int x0), .val (.int vc), .val (.int vw), .val (.int vb0), .val (.int vb1), .val (.int vb2), .val (.int vb3), .val (.int vc), .unset] [(.int (vb2 &&& (63 : Int32))), (.int (((vb0 &&& (15 : Int32)) <<< ((12 : Int32) &&& 31)) ||| ((vb1 &&& (63 : Int32)) <<< ((6 : Int32) &&& 31))))])) _
        refine XS.ior X4.here hx rfl (hb hby at_175) rfl ?_
        show Steps p.tables e below (T4.setTop (mkF m 176 #[.val (.int x0), .val (.int vc), .val (.int vw), .val (.int vb0), .val (.int vb1), .val (.int vb2), .val (.int vb3), .val (.int vc), .unset] [(.int ((((vb0 &&& (15 : Int32)) <<< ((12 : Int32) &&& 31)) ||| ((vb1 &&& (63 : Int32)) <<< ((6 : Int32) &&& 31))) ||| (vb2 &&& (63 : Int32))))])) _
        refine XS.istore X4.here hx rfl (hb hby at_176) rfl (l' := #[.val (.int x0), .val (.int vc), .val (.int vw), .val (.int vb0), .val (.int vb1), .val (.int vb2), .val (.int vb3), .val (.int vc), .val (.int ((((vb0 &&& (15 : Int32)) <<< ((12 : Int32) &&& 31)) ||| ((vb1 &&& (63 : Int32)) <<< ((6 : Int32) &&& 31))) ||| (vb2 &&& (63 : Int32))))]) rfl ?_
        show Steps p.tables e below (T4.setTop (mkF m 178 #[.val (.int x0), .val (.int vc), .val (.int vw), .val (.int vb0), .val (.int vb1), .val (.int vb2), .val (.int vb3), .val (.int vc), .val (.int ((((vb0 &&& (15 : Int32)) <<< ((12 : Int32) &&& 31)) ||| ((vb1 &&& (63 : Int32)) <<< ((6 : Int32) &&& 31))) ||| (vb2 &&& (63 : Int32))))] [])) _
        refine XS.iloadN X4.here hx rfl (hb hby at_178) rfl ?_
        show Steps p.tables e below (T4.setTop (mkF m 179 #[.val (.int x0), .val (.int vc), .val (.int vw), .val (.int vb0), .val (.int vb1), .val (.int vb2), .val (.int vb3), .val (.int vc), .val (.int ((((vb0 &&& (15 : Int32)) <<< ((12 : Int32) &&& 31)) ||| ((vb1 &&& (63 : Int32)) <<< ((6 : Int32) &&& 31))) ||| (vb2 &&& (63 : Int32))))] [(.int vb0)])) _
        refine XS.sipush X4.here hx rfl (hb hby at_179) ?_
        show Steps p.tables e below (T4.setTop (mkF m 182 #[.val (.int x0), .val (.int vc), .val (.int vw), .val (.int vb0), .val (.int vb1), .val (.int vb2), .val (.int vb3), .val (.int vc), .val (.int ((((vb0 &&& (15 : Int32)) <<< ((12 : Int32) &&& 31)) ||| ((vb1 &&& (63 : Int32)) <<< ((6 : Int32) &&& 31))) ||| (vb2 &&& (63 : Int32))))] [(.int (240 : Int32)), (.int vb0)])) _
        refine XS.iand X4.here hx rfl (hb hby at_182) rfl ?_
        show Steps p.tables e below (T4.setTop (mkF m 183 #[.val (.int x0), .val (.int vc), .val (.int vw), .val (.int vb0), .val (.int vb1), .val (.int vb2), .val (.int vb3), .val (.int vc), .val (.int ((((vb0 &&& (15 : Int32)) <<< ((12 : Int32) &&& 31)) ||| ((vb1 &&& (63 : Int32)) <<< ((6 : Int32) &&& 31))) ||| (vb2 &&& (63 : Int32))))] [(.int (vb0 &&& (240 : Int32)))])) _
        refine XS.sipush X4.here hx rfl (hb hby at_183) ?_
        show Steps p.tables e below (T4.setTop (mkF m 186 #[.val (.int x0), .val (.int vc), .val (.int vw), .val (.int vb0), .val (.int vb1), .val (.int vb2), .val (.int vb3), .val (.int vc), .val (.int ((((vb0 &&& (15 : Int32)) <<< ((12 : Int32) &&& 31)) ||| ((vb1 &&& (63 : Int32)) <<< ((6 : Int32) &&& 31))) ||| (vb2 &&& (63 : Int32))))] [(.int (224 : Int32)), (.int (vb0 &&& (240 : Int32)))])) _
        refine XS.icmpNo X4.here hx rfl (hb hby at_186) rfl ((teq (u0)).2) ?_
        show Steps p.tables e below (T4.setTop (mkF m 189 #[.val (.int x0), .val (.int vc), .val (.int vw), .val (.int vb0), .val (.int vb1), .val (.int vb2), .val (.int vb3), .val (.int vc), .val (.int ((((vb0 &&& (15 : Int32)) <<< ((12 : Int32) &&& 31)) ||| ((vb1 &&& (63 : Int32)) <<< ((6 : Int32) &&& 31))) ||| (vb2 &&& (63 : Int32))))] [])) _
        refine XS.iload X4.here hx rfl (hb hby at_189) rfl ?_
        show Steps p.tables e below (T4.setTop (mkF m 191 #[.val (.int x0), .val (.int vc), .val (.int vw), .val (.int vb0), .val (.int vb1), .val (.int vb2), .val (.int vb3), .val (.int vc), .val (.int ((((vb0 &&& (15 : Int32)) <<< ((12 : Int32) &&& 31)) ||| ((vb1 &&& (63 : Int32)) <<< ((6 : Int32) &&& 31))) ||| (vb2 &&& (63 : Int32))))] [(.int vb1)])) _
        refine XS.sipush X4.here hx rfl (hb hby at_191) ?_
        show Steps p.tables e below (T4.setTop (mkF m 194 #[.val (.int x0), .val (.int vc), .val (.int vw), .val (.int vb0), .val (.int vb1), .val (.int vb2), .val (.int vb3), .val (.int vc), .val (.int ((((vb0 &&& (15 : Int32)) <<< ((12 : Int32) &&& 31)) ||| ((vb1 &&& (63 : Int32)) <<< ((6 : Int32) &&& 31))) ||| (vb2 &&& (63 : Int32))))] [(.int (192 : Int32)), (.int vb1)])) _
        refine XS.iand X4.here hx rfl (hb hby at_194) rfl ?_
        show Steps p.tables e below (T4.setTop (mkF m 195 #[.val (.int x0), .val (.int vc), .val (.int vw), .val (.int vb0), .val (.int vb1), .val (.int vb2), .val (.int vb3), .val (.int vc), .val (.int ((((vb0 &&& (15 : Int32)) <<< ((12 : Int32) &&& 31)) ||| ((vb1 &&& (63 : Int32)) <<< ((6 : Int32) &&& 31))) ||| (vb2 &&& (63 : Int32))))] [(.int (vb1 &&& (192 : Int32)))])) _
        refine XS.sipush X4.here hx rfl (hb hby at_195) ?_
        show Steps p.tables e below (T4.setTop (mkF m 198 #[.val (.int x0), .val (.int vc), .val (.int vw), .val (.int vb0), .val (.int vb1), .val (.int vb2), .val (.int vb3), .val (.int vc), .val (.int ((((vb0 &&& (15 : Int32)) <<< ((12 : Int32) &&& 31)) ||| ((vb1 &&& (63 : Int32)) <<< ((6 : Int32) &&& 31))) ||| (vb2 &&& (63 : Int32))))] [(.int (128 : Int32)), (.int (vb1 &&& (192 : Int32)))])) _
        refine XS.icmpNo X4.here hx rfl (hb hby at_198) rfl ((teq (u1)).2) ?_
        show Steps p.tables e below (T4.setTop (mkF m 201 #[.val (.int x0), .val (.int vc), .val (.int vw), .val (.int vb0), .val (.int vb1), .val (.int vb2), .val (.int vb3), .val (.int vc), .val (.int ((((vb0 &&& (15 : Int32)) <<< ((12 : Int32) &&& 31)) ||| ((vb1 &&& (63 : Int32)) <<< ((6 : Int32) &&& 31))) ||| (vb2 &&& (63 : Int32))))] [])) _
        refine XS.iload X4.here hx rfl (hb hby at_201) rfl ?_
        show Steps p.tables e below (T4.setTop (mkF m 203 #[.val (.int x0), .val (.int vc), .val (.int vw), .val (.int vb0), .val (.int vb1), .val (.int vb2), .val (.int vb3), .val (.int vc), .val (.int ((((vb0 &&& (15 : Int32)) <<< ((12 : Int32) &&& 31)) ||| ((vb1 &&& (63 : Int32)) <<< ((6 : Int32) &&& 31))) ||| (vb2 &&& (63 : Int32))))] [(.int vb2)])) _
        refine XS.sipush X4.here hx rfl (hb hby at_203) ?_
        show Steps p.tables e below (T4.setTop (mkF m 206 #[.val (.int x0), .val (.int vc), .val (.int vw), .val (.int vb0), .val (.int vb1), .val (.int vb2), .val (.int vb3), .val (.int vc), .val (.int ((((vb0 &&& (15 : Int32)) <<< ((12 : Int32) &&& 31)) ||| ((vb1 &&& (63 : Int32)) <<< ((6 : Int32) &&& 31))) ||| (vb2 &&& (63 : Int32))))] [(.int (192 : Int32)), (.int vb2)])) _
        refine XS.iand X4.here hx rfl (hb hby at_206) rfl ?_
        show Steps p.tables e below (T4.setTop (mkF m 207 #[.val (.int x0), .val (.int vc), .val (.int vw), .val (.int vb0), .val (.int vb1), .val (.int vb2), .val (.int vb3), .val (.int vc), .val (.int ((((vb0 &&& (15 : Int32)) <<< ((12 : Int32) &&& 31)) ||| ((vb1 &&& (63 : Int32)) <<< ((6 : Int32) &&& 31))) ||| (vb2 &&& (63 : Int32))))] [(.int (vb2 &&& (192 : Int32)))])) _
        refine XS.sipush X4.here hx rfl (hb hby at_207) ?_
        show Steps p.tables e below (T4.setTop (mkF m 210 #[.val (.int x0), .val (.int vc), .val (.int vw), .val (.int vb0), .val (.int vb1), .val (.int vb2), .val (.int vb3), .val (.int vc), .val (.int ((((vb0 &&& (15 : Int32)) <<< ((12 : Int32) &&& 31)) ||| ((vb1 &&& (63 : Int32)) <<< ((6 : Int32) &&& 31))) ||| (vb2 &&& (63 : Int32))))] [(.int (128 : Int32)), (.int (vb2 &&& (192 : Int32)))])) _
        refine XS.icmpNo X4.here hx rfl (hb hby at_210) rfl ((teq (u2)).2) ?_
        show Steps p.tables e below (T4.setTop (mkF m 213 #[.val (.int x0), .val (.int vc), .val (.int vw), .val (.int vb0), .val (.int vb1), .val (.int vb2), .val (.int vb3), .val (.int vc), .val (.int ((((vb0 &&& (15 : Int32)) <<< ((12 : Int32) &&& 31)) ||| ((vb1 &&& (63 : Int32)) <<< ((6 : Int32) &&& 31))) ||| (vb2 &&& (63 : Int32))))] [])) _
        refine XS.iload X4.here hx rfl (hb hby at_213) rfl ?_
        show Steps p.tables e below (T4.setTop (mkF m 215 #[.val (.int x0), .val (.int vc), .val (.int vw), .val (.int vb0), .val (.int vb1), .val (.int vb2), .val (.int vb3), .val (.int vc), .val (.int ((((vb0 &&& (15 : Int32)) <<< ((12 : Int32) &&& 31)) ||| ((vb1 &&& (63 : Int32)) <<< ((6 : Int32) &&& 31))) ||| (vb2 &&& (63 : Int32))))] [(.int vb3)])) _
        refine XS.ifNo X4.here hx rfl (hb hby at_215) rfl ((if0 _ _).trans (teq (u3)).2) ?_
        show Steps p.tables e below (T4.setTop (mkF m 218 #[.val (.int x0), .val (.int vc), .val (.int vw), .val (.int vb0), .val (.int vb1), .val (.int vb2), .val (.int vb3), .val (.int vc), .val (.int ((((vb0 &&& (15 : Int32)) <<< ((12 : Int32) &&& 31)) ||| ((vb1 &&& (63 : Int32)) <<< ((6 : Int32) &&& 31))) ||| (vb2 &&& (63 : Int32))))] [])) _
        refine XS.iload X4.here hx rfl (hb hby at_218) rfl ?_
        show Steps p.tables e below (T4.setTop (mkF m 220 #[.val (.int x0), .val (.int vc), .val (.int vw), .val (.int vb0), .val (.int vb1), .val (.int vb2), .val (.int vb3), .val (.int vc), .val (.int ((((vb0 &&& (15 : Int32)) <<< ((12 : Int32) &&& 31)) ||| ((vb1 &&& (63 : Int32)) <<< ((6 : Int32) &&& 31))) ||| (vb2 &&& (63 : Int32))))] [(.int ((((vb0 &&& (15 : Int32)) <<< ((12 : Int32) &&& 31)) ||| ((vb1 &&& (63 : Int32)) <<< ((6 : Int32) &&& 31))) ||| (vb2 &&& (63 : Int32))))])) _
        refine XS.iload X4.here hx rfl (hb hby at_220) rfl ?_
        show Steps p.tables e below (T4.setTop (mkF m 222 #[.val (.int x0), .val (.int vc), .val (.int vw), .val (.int vb0), .val (.int vb1), .val (.int vb2), .val (.int vb3), .val (.int vc), .val (.int ((((vb0 &&& (15 : Int32)) <<< ((12 : Int32) &&& 31)) ||| ((vb1 &&& (63 : Int32)) <<< ((6 : Int32) &&& 31))) ||| (vb2 &&& (63 : Int32))))] [(.int vc), (.int ((((vb0 &&& (15 : Int32)) <<< ((12 : Int32) &&& 31)) ||| ((vb1 &&& (63 : Int32)) <<< ((6 : Int32) &&& 31))) ||| (vb2 &&& (63 : Int32))))])) _
        refine XS.icmpNo X4.here hx rfl (hb hby at_222) rfl ((teq (u4)).2) ?_
        show Steps p.tables e below (T4.setTop (mkF m 225 #[.val (.int x0), .val (.int vc), .val (.int vw), .val (.int vb0), .val (.int vb1), .val (.int vb2), .val (.int vb3), .val (.int vc), .val (.int ((((vb0 &&& (15 : Int32)) <<< ((12 : Int32) &&& 31)) ||| ((vb1 &&& (63 : Int32)) <<< ((6 : Int32) &&& 31))) ||| (vb2 &&& (63 : Int32))))] [])) _
        refine XS.iconst X4.here hx rfl (hb hby at_225) ?_
        show Steps p.tables e below (T4.setTop (mkF m 226 #[.val (.int x0), .val (.int vc), .val (.int vw), .val (.int vb0), .val (.int vb1), .val (.int vb2), .val (.int vb3), .val (.int vc), .val (.int ((((vb0 &&& (15 : Int32)) <<< ((12 : Int32) &&& 31)) ||| ((vb1 &&& (63 : Int32)) <<< ((6 : Int32) &&& 31))) ||| (vb2 &&& (63 : Int32))))] [(.int (1 : Int32))])) _
        refine XS.goto X4.here hx rfl (pc0 := 226) (pc' := 230) rfl (hb hby at_226) (by decide) (by decide) ?_
        exact k)
      obtain ⟨fs, hr, hrun, hended, hW, hsame⟩ := X4.leave (v := some (.int (1 : Int32))) (fun h => by rw [Bd.returns] at h; cases h)
      refine ⟨_, _, p20 _ ?_, hrun, hended, _, _, rfl, ?_, ⟨_, rfl⟩, hW, hsame.mono (by decide) (by decide)⟩
      · show Steps p.tables e below (T4.setTop (mkF m 230 #[.val (.int x0), .val (.int vc), .val (.int vw), .val (.int vb0), .val (.int vb1), .val (.int vb2), .val (.int vb3), .val (.int vc), .val (.int ((((vb0 &&& (15 : Int32)) <<< ((12 : Int32) &&& 31)) ||| ((vb1 &&& (63 : Int32)) <<< ((6 : Int32) &&& 31))) ||| (vb2 &&& (63 : Int32))))] [(.int (1 : Int32))])) _
        exact retN X4 hx (t := .boolean) Bd.returns (by simp) (hb hby at_230) hr
      · show Q0 Z x0 h0 n0 _ T4.heap _
        rw [e4]
        exact ⟨rfl, N4⟩
set_option maxRecDepth 65536 in
set_option maxHeartbeats 40000000 in
theorem comes_1 {Post : Tables → Env → Array Value → State → Outcome → State → Prop} (hpost : ∀ tb e args s v u, (limb_1_1.after args s (.returned v) u = true ∧ limb_1_2.after args s (.returned v) u = true ∧ True) → FrameEnd s (.returned v) u (Jvm.fieldLocs frame_1_writes args s ++ Jvm.arrayLocs frame_1_arrays args s ++ Jvm.staticLocs frame_1_statics s) 0 0 → Post tb e args s (.returned v) u) :
    ArmFor flags0 classFile x code maxLocals ret World_1 tables_1 room_1 Calls_1 rest_1 Pre_1 Post := by
  intro l hfl _ _ p e ha hc hk s m args below hf hA hF happ hP
  obtain ⟨hcalls, hrest, hpre⟩ := hP
  obtain ⟨-, -, -, hnamed, -, -, -, hat⟩ := (Spec.applies_iff hf).mp happ
  obtain ⟨hg, hn⟩ := and_e (Cond.before_iff.mp (show (Jvm.Cond.and given_1 narrow_1).before args s = true from hpre))
  obtain ⟨hcount, ga0⟩ := and_e hg
  obtain ⟨w0, rfl⟩ : ∃ w0 : Value, args = #[w0] := by
    have hs : args.size = 1 := by simpa [Cond.value, given_1] using hcount
    obtain ⟨L⟩ := args
    match L, hs with
    | [w0], _ => exact ⟨w0, rfl⟩
  have hw := fun d (hd : d ∈ tables_1) => atoms_spec (ws := Jvm.Cond.code x code maxLocals ret :: tables_1) hat d (List.mem_cons_of_mem _ hd)
  have hfit : Fit s := fun {y c} hc i hi => by
    obtain ⟨ha, rfl⟩ := Array.getElem?_eq_some_iff.mp hc
    have q := List.all_eq_true.mp ((Array.all_eq_true_iff_forall_mem.mp hF) _ (Array.getElem_mem ha)) i (List.mem_range.mpr hi)
    simpa [Array.getElem?_eq_getElem hi] using q
  obtain ⟨i0, ei0⟩ := is_v ga0
  obtain rfl : w0 = (.int i0) := Option.some.inj ei0
  obtain ⟨n, o, h1, h2, h3, _, L, rfl, ⟨rfl, N⟩, hq⟩ := rm0 l s _ hw tables_1 i0 s.heap s.heap.size (Nat.le_refl _) p e ha hc hk s m _ below hf ((Spec.applies_iff_loose hf).mp happ).1 ⟨rfl, State.Warmed39.refl s, rfl⟩ trivial
  refine ⟨n, _, h1, h2, h3, hpost _ _ _ _ _ _ ⟨Cond.after_iff.mpr rfl, Cond.after_iff.mpr (eq_i res_at (Term.int_eval (1)) rfl), trivial⟩ ⟨hq.1, hq.2.1, (hq.2.2.sift fun y hy => Or.inr (N y hy)).mono (by decide) (by decide)⟩⟩
theorem main_1_1 : Claimed_1_1 := comes_1 fun _ _ _ _ _ _ h hF => ⟨h.1, hF⟩
theorem main_1_2 : Claimed_1_2 := comes_1 fun _ _ _ _ _ _ h hF => ⟨h.2.1, hF⟩
end Jvm.Pilot.@@N@@
namespace Jvm.Pilot.@@N@@
open Jvm Jvm.ClassFile Sem Op Lib Jvm.Free Jvm.Stand Jvm.Pilot.@@N@@.Jvm.D
/-! MADE BY PROGRAM (witnessworld.py) out of the Statement's table words and the real class files: 7 classes; the members and pool entries that the words name. The judged class is class 1, her method 1. -/
namespace start1
open Jvm.ClassFile
def u (s : String) : CpInfo := .utf8 (stringToUtf16 s)
/-- a pool by its gaps: so many unusable entries, then the entry; so many at the end -/
def gap : Nat → List CpInfo → List CpInfo
  | 0, r => r
  | n + 1, r => .unusable :: gap n r
def poolList (es : List (Nat × CpInfo)) (last : Nat) : List CpInfo := es.foldr (fun e r => gap e.1 (e.2 :: r)) (gap last [])
def pool (es : List (Nat × CpInfo)) (last : Nat) : Array CpInfo := ⟨poolList es last⟩
def fileOf (pool : Array CpInfo) (this : Nat) (attrs : Array Attribute := #[]) (ms : Array MethodInfo := #[]) (fl : Nat := 33) (sup : Nat := 0) (ifs : Array Nat := #[]) (fds : Array FieldInfo := #[]) : ClassFile where
  minorVersion := 0
  majorVersion := 65
  constantPool := pool
  accessFlags := fl
  thisClass := this
  superClass := sup
  interfaces := ifs
  fields := fds
  methods := ms
  attributes := attrs
def plain (name : String) (sup : Option ClassId) : Class where
  name := name
  kind := .ordinary
  loader := none
  accessFlags := 33
  super := sup
  interfaces := #[]
  cf := none
  fields := #[]
  methods := #[]
  instanceTypes := #[]
  staticTypes := #[]
  resolved := #[]
  callSites := []
  init := .initialized
  statics := none
  mirror := none

def pool0 : Array CpInfo := pool [(5, u "<init>"), (0, u "()V"), (1, .class_ 10), (1, u "java/lang/Object")] 113

def k0m0 : Method := { name := "<init>", desc := "()V", sig := { parameters := [], returnType := none }, accessFlags := 1, code := none }
/-- java/lang/Object -/
def k0 : Class := { plain "java/lang/Object" none with
  accessFlags := 33
  interfaces := #[]
  cf := some (fileOf pool0 8 #[] #[{ accessFlags := 1, nameIndex := 5, descriptorIndex := 6, attributes := #[] }] 33 0 #[] #[])
  fields := #[]
  methods := #[k0m0]
  instanceTypes := #[]
  staticTypes := #[]
  resolved := Array.replicate 124 none
  statics := none }

def pool1 : Array CpInfo := pool [(2, .class_ 4), (1, u "java/lang/Object"), (0, u "<init>"), (0, u "()V"), (0, .methodref 8 9), (0, .class_ 10), (0, .nameAndType 11 12), (0, u "com/example/kinwarden/kinwarden/NameBytes"), (0, u "written"), (0, u "(C)I"), (0, .class_ 14), (0, u "com/example/kinwarden/kinwarden/NameBytesWrittenPinLaw"), (2, u "law"), (0, u "(I)Z")] 3

def k1m0 : Method := { name := "<init>", desc := "()V", sig := { parameters := [], returnType := none }, accessFlags := 1, code := none }
def k1c1 : Code := { maxStack := 3, maxLocals := 9, code := code, exceptionTable := #[], attributes := #[] }
def k1m1 : Method := { name := "law", desc := "(I)Z", sig := { parameters := [.int], returnType := some .boolean }, accessFlags := 9, code := some k1c1 }
/-- com/example/kinwarden/kinwarden/NameBytesWrittenPinLaw -/
def k1 : Class := { plain "com/example/kinwarden/kinwarden/NameBytesWrittenPinLaw" (some 0) with
  accessFlags := 49
  interfaces := #[]
  cf := some (fileOf pool1 13 #[] #[{ accessFlags := 1, nameIndex := 5, descriptorIndex := 6, attributes := #[] }, { accessFlags := 9, nameIndex := 17, descriptorIndex := 18, attributes := #[] }] 49 2 #[] #[])
  fields := #[]
  methods := #[k1m0, k1m1]
  instanceTypes := #[]
  staticTypes := #[]
  resolved := Array.replicate 22 none
  statics := none }

def pool2 : Array CpInfo := pool [(2, .class_ 4), (1, u "java/lang/Object"), (0, u "<init>"), (0, u "()V"), (1, .class_ 10), (1, u "com/example/kinwarden/kinwarden/NameBytes"), (0, u "EMPTY"), (0, u "[B"), (2, u "bytes"), (2, u "room"), (2, u "from"), (0, u "I"), (2, u "to"), (30, u "(C)I"), (2, u "written")] 38

def k2m0 : Method := { name := "<init>", desc := "()V", sig := { parameters := [], returnType := none }, accessFlags := 0, code := none }
def k2c1 : Code := { maxStack := 4, maxLocals := 1, code := prog_71_method_11_code, exceptionTable := #[], attributes := #[] }
def k2m1 : Method := { name := "written", desc := "(C)I", sig := { parameters := [.char], returnType := some .int }, accessFlags := 8, code := some k2c1 }
/-- com/example/kinwarden/kinwarden/NameBytes -/
def k2 : Class := { plain "com/example/kinwarden/kinwarden/NameBytes" (some 0) with
  accessFlags := 48
  interfaces := #[]
  cf := some (fileOf pool2 8 #[] #[{ accessFlags := 0, nameIndex := 5, descriptorIndex := 6, attributes := #[] }, { accessFlags := 8, nameIndex := 59, descriptorIndex := 56, attributes := #[] }] 48 2 #[] #[{ accessFlags := 26, nameIndex := 11, descriptorIndex := 12, attributes := #[] }, { accessFlags := 2, nameIndex := 15, descriptorIndex := 12, attributes := #[] }, { accessFlags := 2, nameIndex := 21, descriptorIndex := 22, attributes := #[] }, { accessFlags := 2, nameIndex := 25, descriptorIndex := 22, attributes := #[] }, { accessFlags := 2, nameIndex := 18, descriptorIndex := 12, attributes := #[] }])
  fields := #[{ name := "EMPTY", type := (.array .byte), accessFlags := 26, slot := 0, constantValue := 0 }, { name := "bytes", type := (.array .byte), accessFlags := 2, slot := 0, constantValue := 0 }, { name := "from", type := .int, accessFlags := 2, slot := 1, constantValue := 0 }, { name := "to", type := .int, accessFlags := 2, slot := 2, constantValue := 0 }, { name := "room", type := (.array .byte), accessFlags := 2, slot := 3, constantValue := 0 }]
  methods := #[k2m0, k2m1]
  instanceTypes := #[(.array .byte), .int, .int, (.array .byte)]
  staticTypes := #[(.array .byte)]
  resolved := Array.replicate 98 none
  statics := none }

def pool3 : Array CpInfo := pool [(1, u "java/lang/Cloneable"), (0, .class_ 1), (0, u "java/lang/Object"), (0, .class_ 3)] 3

/-- java/lang/Cloneable -/
def k3 : Class := { plain "java/lang/Cloneable" (some 0) with
  accessFlags := 1537
  interfaces := #[]
  cf := some (fileOf pool3 2 #[] #[] 1537 4 #[] #[])
  fields := #[]
  methods := #[]
  instanceTypes := #[]
  staticTypes := #[]
  resolved := Array.replicate 8 none
  statics := none }

def pool4 : Array CpInfo := pool [(1, u "java/io/Serializable"), (0, .class_ 1), (0, u "java/lang/Object"), (0, .class_ 3)] 3

/-- java/io/Serializable -/
def k4 : Class := { plain "java/io/Serializable" (some 0) with
  accessFlags := 1537
  interfaces := #[]
  cf := some (fileOf pool4 2 #[] #[] 1537 4 #[] #[])
  fields := #[]
  methods := #[]
  instanceTypes := #[]
  staticTypes := #[]
  resolved := Array.replicate 8 none
  statics := none }

/-- the primitive byte -/
def k5 : Class := { plain "byte" none with kind := .primitive 'B', accessFlags := 0x411 }
/-- [B -/
def k6 : Class := { plain "[B" (some 0) with kind := .array 5 .byte, interfaces := #[3, 4], accessFlags := 1041 }

def heap : Heap := #[]
def classes : Array Class := #[k0, k1, k2, k3, k4, k5, k6]
def interned : List (Array UInt16 × Addr) := []
def slotsUsed : Nat := 0
def theMethod : MethodId := ⟨1, 1⟩
def args0 : Array Value := #[.int 65]
def aboutOver (below : List Frame) : State where
  vm := { classes := classes, interned := interned.toArray }
  heap := heap
  slotsUsed := slotsUsed
  threads := #[{ frames := .invoking theMethod args0 :: below }]
def below0 : List Frame := [.native { method := ⟨0, 0⟩, args := #[] }]
def about1 : State := aboutOver below0
def p0 : Program := .bare "" "" ""
def e0 : Env := launch0.env 0 0 0
theorem w_frames : about1.frames = Frame.invoking theMethod args0 :: below0 := rfl
set_option maxRecDepth 65536 in
theorem w_args : argsFit about1.vm theMethod args0 = true := by decide +kernel
set_option maxRecDepth 65536 in
theorem w_heap : heapFits about1 = true := by decide +kernel
set_option maxRecDepth 65536 in
theorem w_runnable : about1.curStatus? = some .runnable := by decide +kernel
set_option maxRecDepth 65536 in
theorem w_alone : about1.alone = true := by decide +kernel
set_option maxRecDepth 65536 in
theorem w_named : about1.methodNamed? x = some theMethod := by decide +kernel
set_option maxRecDepth 65536 in
theorem w_hears : about1.hears theMethod below0 = true := by decide +kernel
set_option maxRecDepth 65536 in
theorem w_ripe : about1.ripe theMethod args0 below0 = true := by decide +kernel
theorem w_running : about1.status = .running := rfl
set_option maxRecDepth 65536 in
theorem w_room : about1.hasRoom e0.platform room_1 = true :=
  launch0.hasRoom_least _ room_1 (by decide +kernel) (by decide +kernel) (by decide +kernel) (by decide +kernel) (by decide +kernel) (by decide +kernel)
theorem allAtoms_all (ts : List Jvm.Cond) (a : Array Jvm.Value) (st : Jvm.State) : (allAtoms ts).before a st = ts.all (fun c => c.before a st) := by
  induction ts with
  | nil => rfl
  | cons c t ih =>
    show (Jvm.Cond.and c (allAtoms t)).before a st = _
    rw [Jvm.Cond.before_and, ih, List.all_cons]
def words1 : List Jvm.Cond := Jvm.Cond.code x code maxLocals ret :: tables_1
/-- a 'code' word, met by the world's own term for the bytes: nothing is compared byte by byte -/
theorem code_word {y : MethodName} {bytes : ByteArray} {mx : Nat} {rt : Option FieldType} {a : Array Value} {s : State} {m : MethodId} {meth : Method} {c : Code} (h1 : s.methodNamed? y = some m) (h2 : s.vm.method? m = some meth) (h3 : meth.code = some c) (h4 : c.code = bytes)
    (h5 : (c.maxLocals == mx && c.exceptionTable.isEmpty && decide (c.maxStack ≤ mostOperands) && decide (meth.sig.returnType = rt) && !meth.locks && decide (parseMethodDescriptor y.desc = some meth.sig)) = true) : (Jvm.Cond.code y bytes mx rt).before a s = true := by
  simp only [Bool.and_eq_true, beq_iff_eq, Bool.not_eq_true', decide_eq_true_eq] at h5
  obtain ⟨⟨⟨⟨⟨g1, g2⟩, g3⟩, g4⟩, g5⟩, g6⟩ := h5
  simp [Cond.before, Cond.holds, Cond.value, h1, h2, h3, h4, g1, g2, g3, g4, g5, g6]
def isCode : Jvm.Cond → Bool
  | .code _ _ _ _ => true
  | _ => false
theorem all_split {L : List Jvm.Cond} {P : Jvm.Cond → Bool} (h1 : L.all (fun c => isCode c || P c) = true) (h2 : ∀ c ∈ L.filter isCode, P c = true) : L.all P = true := by
  refine List.all_eq_true.mpr fun c hc => ?_
  have h := List.all_eq_true.mp h1 c hc
  rcases Bool.eq_false_or_eq_true (isCode c) with hi | hi
  · exact h2 c (List.mem_filter.mpr ⟨hc, hi⟩)
  · simpa [hi] using h
set_option maxRecDepth 65536 in
theorem w_c0 : (Jvm.Cond.code x code maxLocals ret).before args0 about1 = true := code_word (m := ⟨1, 1⟩) (meth := k1m1) (c := k1c1) (by decide +kernel) rfl rfl rfl (by decide +kernel)
set_option maxRecDepth 65536 in
theorem w_c1 : (Jvm.Cond.code ({ cls := "com/example/kinwarden/kinwarden/NameBytes", name := "written", desc := "(C)I" } : Jvm.MethodName) prog_71_method_11_code (1 : Nat) (Option.some Jvm.ClassFile.FieldType.int)).before args0 about1 = true := code_word (m := ⟨2, 1⟩) (meth := k2m1) (c := k2c1) (by decide +kernel) rfl rfl rfl (by decide +kernel)
def codes1 : List Jvm.Cond := [Jvm.Cond.code x code maxLocals ret, Jvm.Cond.code ({ cls := "com/example/kinwarden/kinwarden/NameBytes", name := "written", desc := "(C)I" } : Jvm.MethodName) prog_71_method_11_code (1 : Nat) (Option.some Jvm.ClassFile.FieldType.int)]
set_option maxRecDepth 65536 in
theorem codes_eq : words1.filter isCode = codes1 := rfl
theorem w_codes : ∀ c ∈ words1.filter isCode, c.before args0 about1 = true := by
  rw [codes_eq]
  intro c hc
  simp only [codes1, List.mem_cons, List.not_mem_nil, or_false] at hc
  rcases hc with rfl | rfl
  · exact w_c0
  · exact w_c1
set_option maxRecDepth 65536 in
theorem w_t1 : words1.all (fun c => isCode c || c.before args0 about1) = true := by decide +kernel
theorem w_tables : (allAtoms (Jvm.Cond.code x code maxLocals ret :: tables_1)).before args0 about1 = true := by
  rw [allAtoms_all]
  show words1.all (fun c => c.before args0 about1) = true
  refine all_split ?_ w_codes
  rw [w_t1]
set_option maxRecDepth 65536 in
theorem w_case : (Jvm.Cond.and given_1 narrow_1).before args0 about1 = true := by decide +kernel
theorem w_applies : (headSpec (Jvm.Cond.code x code maxLocals ret :: tables_1) room_1).applies x e0.platform about1 = true :=
  (Spec.applies_iff w_frames).mpr ⟨w_running, w_runnable, w_alone, w_named, w_hears, w_ripe, w_room, w_tables⟩
theorem atStart : AtStart classFile x code maxLocals ret World_1 tables_1 room_1 Calls_1 rest_1 Pre_1 launch0 p0 e0 about1 theMethod args0 below0 :=
  ⟨lists_1, trivial, launch0.admits_env _ _ _, launch0.least_env, fairChoices_fair.cas, fairChoices_fair.clock, w_frames, w_args, w_heap, w_applies, trivial, trivial, w_case⟩
end start1
theorem witness_1 : WitnessClaimed_1 := ⟨start1.p0, start1.e0, start1.about1, start1.theMethod, start1.args0, start1.below0, start1.atStart⟩
end Jvm.Pilot.@@N@@
