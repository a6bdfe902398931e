import JvmDerived
import JvmDerived.Pilot.@@N@@Statement
import JvmDerived.Pilot.@@N@@Code
set_option linter.unusedVariables false
set_option linter.unusedSimpArgs false
@@BLOCK:LamKit.lean.txt@@
namespace Jvm.RoadKit
open Sem ClassFile Op Lib Jvm.Stand Jvm.Free Jvm.LawKit
section New
variable {p : Program} {l : Launch} {e : Env} {R : Room} {s : State} {m : MethodId} {args : Array Value} {below : List Frame} {meth : Method} {c : Code} {T : State} {locs : List Loc} {cells slots : Nat}
theorem retI (X : Stand p l e R s m args below meth c T locs cells slots) (hx : p.tables.exec = Jvm.exec) {pc : Nat} {Ls : Array Slot} {z : Int32} {rest : List Value} (hret : meth.sig.returnType = some .int) (hd : decode c.code pc = .ok (.ireturn, 1)) {fs : List Frame}
    (hl : ∀ (f : JFrame) (acts : List Action), f.method = m → f.locked = none → f.entered = [] → (doReturn e (T.setTop f) acts (some (.int z))).1 = T.setFrames fs) : Steps p.tables e below (T.setTop (mkF m pc Ls (.int z :: rest))) (T.setFrames fs) :=
  retOut X hx hret rfl (Or.inl ⟨rfl, Or.inl rfl, z, rfl⟩) hd hl
end New
end Jvm.RoadKit
namespace Jvm.Pilot.@@N@@
open Jvm Jvm.ClassFile Sem Op Lib Jvm.Free Jvm.Stand Jvm.LawKit Jvm.RoadKit Bundle Jvm.Pilot.@@N@@.Jvm.D

abbrev own_W (p : Program) (e : Env) (b : List Frame) (m : MethodId) (T : State) (pc : Nat) (L : Array Slot) (S : List Value) (t : State) : Prop := Steps p.tables e b (T.setTop (mkF m pc L S)) t
def own_iv : Value → Int32
  | .int x => x
  | _ => 0
theorem own_int {v : Value} (h : fits .int v = true) : v = .int (own_iv v) := by
  cases v <;> first | rfl | (simp [fits] at h)
theorem own_sel {Z s : State} {a0 args : Array Value} (hZ : Z.Warmed39 s.vm) (hw : ∀ d ∈ tables_1, d.before a0 Z = true) {n d : String} (hi : (Cond.instanceMethod ⟨"com/example/kinwarden/kinwarden/IntMap", n, d⟩).before a0 Z = true) (hp : (Cond.privateMethod ⟨"com/example/kinwarden/kinwarden/IntMap", n, d⟩).before a0 Z = true) :
    (Cond.selects "com/example/kinwarden/kinwarden/IntMap" ⟨"com/example/kinwarden/kinwarden/IntMap", n, d⟩ ⟨"com/example/kinwarden/kinwarden/IntMap", n, d⟩).before args s = true := by
  have h41 : (Cond.selects "com/example/kinwarden/kinwarden/IntMap" ⟨"com/example/kinwarden/kinwarden/IntMap", "put", "(II)V"⟩ ⟨"com/example/kinwarden/kinwarden/IntMap", "put", "(II)V"⟩).before args s = true := mvT hZ (hw _ (List.mem_of_getElem? (i := 41) rfl))
  obtain ⟨c2, r2, m2, -, -, q3, -, kP, hkP, hkPi⟩ := Cond.selects_spec h41
  have hne : ("com/example/kinwarden/kinwarden/IntMap" : String) ≠ "java/lang/invoke/MethodHandle" ∧ ("com/example/kinwarden/kinwarden/IntMap" : String) ≠ "java/lang/invoke/VarHandle" := by decide
  have hfc : s.vm.findClass "com/example/kinwarden/kinwarden/IntMap" = some m2.cls := findClass_of_methodNamed q3
  exact selects_self_of_private (y := ⟨"com/example/kinwarden/kinwarden/IntMap", n, d⟩) hfc hkP hkPi (Cond.privateMethod_at (mvP (args := args) hZ hp)) (mvT hZ hi) hne
theorem own_inc {i N : Int32} (h0 : ¬ i < 0) (h : i < N) : ¬ (i + (1 : Int32)) < 0 ∧ ¬ N < (i + (1 : Int32)) ∧ (i + (1 : Int32)).toNatClampNeg = i.toNatClampNeg + 1 ∧ i.toNatClampNeg < N.toNatClampNeg := by
  have a := c_iadd i (1 : Int32); have r := rng32 (i + (1 : Int32)); have r2 := rng32 N
  have l0 : (0 : Int32).toInt = 0 := by decide
  have l1 : (1 : Int32).toInt = 1 := by decide
  rw [Int32.lt_iff_toInt_lt] at h0 h
  simp only [Int32.lt_iff_toInt_lt, Int32.toNatClampNeg]; omega
theorem own_set {ws : List Value} {i : Nat} {v d : Value} (hi : i < ws.length) (h : ∀ j, j < i → ws.getD j d = v) : ∀ j, j < i + 1 → (ws.set i v).getD j d = v := fun j hj => by
  by_cases q : i = j
  · subst q; simp [List.getD_eq_getElem?_getD, List.getElem?_set, hi]
  · have := h j (by omega)
    simpa [List.getD_eq_getElem?_getD, List.getElem?_set, q] using this
theorem own_end {i N : Int32} (h : 0 = N.toNatClampNeg - i.toNatClampNeg) (h0 : ¬ i < 0) : ¬ i < N := fun q => by
  rw [Int32.lt_iff_toInt_lt] at h0 q
  have l0 : (0 : Int32).toInt = 0 := by decide
  simp only [Int32.toNatClampNeg] at h; omega
theorem own_more {i N : Int32} {fu : Nat} (h : fu + 1 = N.toNatClampNeg - i.toNatClampNeg) (h0 : ¬ i < 0) (hN : ¬ N < i) : i < N := by
  rw [Int32.lt_iff_toInt_lt] at *
  have l0 : (0 : Int32).toInt = 0 := by decide
  simp only [Int32.toNatClampNeg] at h; omega
theorem own_full {i N : Int32} {P : Nat → Prop} (h0 : ¬ i < 0) (hc : ¬ i < N) (h : ∀ j, j < i.toNatClampNeg → P j) : ∀ j, j < N.toNatClampNeg → P j := fun j hj => h j (by
  rw [Int32.lt_iff_toInt_lt] at h0 hc
  have l0 : (0 : Int32).toInt = 0 := by decide
  simp only [Int32.toNatClampNeg] at *; omega)
theorem own_congr {Z : State} {h : Heap} {a : Addr} {k : ClassId} {n : Int32} {vs ws : List Value} {d : Value} (F : Arv Z h a k .int n vs d) (e : ∀ j, j < n.toNatClampNeg → ws.getD j d = vs.getD j d) : Arv Z h a k .int n ws d := by
  obtain ⟨c, A, q, S, Ng, H, Gf⟩ := F
  exact ⟨c, A, q, S, Ng, fun x hx => by rw [e x (S ▸ hx)]; exact H x hx, fun x hx => by rw [e x (S ▸ hx)]; exact Gf x hx⟩
theorem own_get {Z : State} {h : Heap} {a : Addr} {k : ClassId} {n j : Int32} {vs : List Value} {d : Value} (F : Arv Z h a k .int n vs d) (q : ¬ j < 0 ∧ j < n) : ∃ z : Int32, vs.getD j.toNatClampNeg d = .int z := by
  obtain ⟨c, A, -, S, Ng, H, Gf⟩ := F
  exact ⟨_, own_int (Gf _ (Nat.lt_of_not_le fun y => inb_of S q (Or.inr y)))⟩
theorem own_t0 : ∀ j, j < 16 → ([(.int (-1 : Int32)), (.int (-1 : Int32)), (.int (-1 : Int32)), (.int (-1 : Int32)), (.int (-1 : Int32)), (.int (-1 : Int32)), (.int (-1 : Int32)), (.int (-1 : Int32)), (.int (-1 : Int32)), (.int (-1 : Int32)), (.int (-1 : Int32)), (.int (-1 : Int32)), (.int (-1 : Int32)), (.int (-1 : Int32)), (.int (-1 : Int32)), (.int (-1 : Int32))] : List Value).getD j (.int (0 : Int32)) = .int (-1 : Int32) := fun j hj => by
  match j, hj with
  | 0, _ => rfl
  | 1, _ => rfl
  | 2, _ => rfl
  | 3, _ => rfl
  | 4, _ => rfl
  | 5, _ => rfl
  | 6, _ => rfl
  | 7, _ => rfl
  | 8, _ => rfl
  | 9, _ => rfl
  | 10, _ => rfl
  | 11, _ => rfl
  | 12, _ => rfl
  | 13, _ => rfl
  | 14, _ => rfl
  | 15, _ => rfl
  | (n + 16), hj => omega
theorem own_h8 {a x1 : Int32} (h : a = (((x1 * (-1640531527 : Int32)).toUInt32 >>> (((28 : Int32) + (1 : Int32)) &&& 31).toUInt32).toInt32)) : 0 ≤ a.toInt ∧ a.toInt < 8 := by
  have e := c_iushr (x1 * (-1640531527 : Int32)) ((28 : Int32) + (1 : Int32)) 29 (by decide) (by decide)
  rw [← h] at e; omega
theorem own_n8 {a b : Int32} (h : b = ((a + (1 : Int32)) &&& ((8 : Int32) - (1 : Int32)))) : 0 ≤ b.toInt ∧ b.toInt < 8 := by
  have e := c_mask (a + (1 : Int32)) ((8 : Int32) - (1 : Int32)) 3 (by decide) (by decide)
  rw [← h] at e; omega
theorem own_x8 {a : Int32} (h : 0 ≤ a.toInt ∧ a.toInt < 8) : (¬ ((2 : Int32) * a) < 0 ∧ ((2 : Int32) * a) < (16 : Int32)) ∧ (¬ (((2 : Int32) * a) + (1 : Int32)) < 0 ∧ (((2 : Int32) * a) + (1 : Int32)) < (16 : Int32)) := by
  have e := c_imul (2 : Int32) a; have r := rng32 ((2 : Int32) * a)
  have l2 : (2 : Int32).toInt = 2 := by decide
  rw [l2] at e
  have f := c_iadd ((2 : Int32) * a) (1 : Int32); have r2 := rng32 (((2 : Int32) * a) + (1 : Int32))
  have l0 : (0 : Int32).toInt = 0 := by decide
  have l1 : (1 : Int32).toInt = 1 := by decide
  have lN : (16 : Int32).toInt = 16 := by decide
  simp only [Int32.lt_iff_toInt_lt]; omega
theorem own_h16 {a x1 : Int32} (h : a = (((x1 * (-1640531527 : Int32)).toUInt32 >>> (((27 : Int32) + (1 : Int32)) &&& 31).toUInt32).toInt32)) : 0 ≤ a.toInt ∧ a.toInt < 16 := by
  have e := c_iushr (x1 * (-1640531527 : Int32)) ((27 : Int32) + (1 : Int32)) 28 (by decide) (by decide)
  rw [← h] at e; omega
theorem own_n16 {a b : Int32} (h : b = ((a + (1 : Int32)) &&& ((16 : Int32) - (1 : Int32)))) : 0 ≤ b.toInt ∧ b.toInt < 16 := by
  have e := c_mask (a + (1 : Int32)) ((16 : Int32) - (1 : Int32)) 4 (by decide) (by decide)
  rw [← h] at e; omega
theorem own_x16 {a : Int32} (h : 0 ≤ a.toInt ∧ a.toInt < 16) : (¬ ((2 : Int32) * a) < 0 ∧ ((2 : Int32) * a) < (32 : Int32)) ∧ (¬ (((2 : Int32) * a) + (1 : Int32)) < 0 ∧ (((2 : Int32) * a) + (1 : Int32)) < (32 : Int32)) := by
  have e := c_imul (2 : Int32) a; have r := rng32 ((2 : Int32) * a)
  have l2 : (2 : Int32).toInt = 2 := by decide
  rw [l2] at e
  have f := c_iadd ((2 : Int32) * a) (1 : Int32); have r2 := rng32 (((2 : Int32) * a) + (1 : Int32))
  have l0 : (0 : Int32).toInt = 0 := by decide
  have l1 : (1 : Int32).toInt = 1 := by decide
  have lN : (32 : Int32).toInt = 32 := by decide
  simp only [Int32.lt_iff_toInt_lt]; omega
def own_pr8 (vs : List Value) (x : Int32) : Nat → Int32 → Int32
  | 0, a => a
  | n + 1, a => if own_iv (vs.getD ((2 : Int32) * a).toNatClampNeg (.int (0 : Int32))) = x then a else if own_iv (vs.getD ((2 : Int32) * a).toNatClampNeg (.int (0 : Int32))) = (-1 : Int32) then a else own_pr8 vs x n ((a + (1 : Int32)) &&& ((8 : Int32) - (1 : Int32)))
theorem own_rg8 (vs : List Value) (x : Int32) : ∀ (n : Nat) (a : Int32), (0 ≤ a.toInt ∧ a.toInt < 8) → (0 ≤ (own_pr8 vs x n a).toInt ∧ (own_pr8 vs x n a).toInt < 8)
  | 0, a, h => h
  | n + 1, a, h => by
    unfold own_pr8
    split
    · exact h
    · split
      · exact h
      · exact own_rg8 vs x n _ (own_n8 rfl)
theorem own_sl8 {vs : List Value} {r x1 : Int32} (h : r = ((2 : Int32) * own_pr8 vs x1 7 (((x1 * (-1640531527 : Int32)).toUInt32 >>> (((28 : Int32) + (1 : Int32)) &&& 31).toUInt32).toInt32))) : (¬ r < 0 ∧ r < (16 : Int32)) ∧ (¬ (r + (1 : Int32)) < 0 ∧ (r + (1 : Int32)) < (16 : Int32)) := by rw [h]; exact own_x8 (own_rg8 vs x1 7 _ (own_h8 rfl))
def own_pr16 (vs : List Value) (x : Int32) : Nat → Int32 → Int32
  | 0, a => a
  | n + 1, a => if own_iv (vs.getD ((2 : Int32) * a).toNatClampNeg (.int (0 : Int32))) = x then a else if own_iv (vs.getD ((2 : Int32) * a).toNatClampNeg (.int (0 : Int32))) = (-1 : Int32) then a else own_pr16 vs x n ((a + (1 : Int32)) &&& ((16 : Int32) - (1 : Int32)))
theorem own_rg16 (vs : List Value) (x : Int32) : ∀ (n : Nat) (a : Int32), (0 ≤ a.toInt ∧ a.toInt < 16) → (0 ≤ (own_pr16 vs x n a).toInt ∧ (own_pr16 vs x n a).toInt < 16)
  | 0, a, h => h
  | n + 1, a, h => by
    unfold own_pr16
    split
    · exact h
    · split
      · exact h
      · exact own_rg16 vs x n _ (own_n16 rfl)
theorem own_sl16 {vs : List Value} {r x1 : Int32} (h : r = ((2 : Int32) * own_pr16 vs x1 15 (((x1 * (-1640531527 : Int32)).toUInt32 >>> (((27 : Int32) + (1 : Int32)) &&& 31).toUInt32).toInt32))) : (¬ r < 0 ∧ r < (32 : Int32)) ∧ (¬ (r + (1 : Int32)) < 0 ∧ (r + (1 : Int32)) < (32 : Int32)) := by rw [h]; exact own_x16 (own_rg16 vs x1 15 _ (own_h16 rfl))
theorem own_l0 {l : Int32} (h : 0 = l.toNatClampNeg) : ¬ (0 : Int32) < l := fun q => by
  rw [Int32.lt_iff_toInt_lt] at q
  have l0 : (0 : Int32).toInt = 0 := by decide
  simp only [Int32.toNatClampNeg] at h; omega
theorem own_l1 {l : Int32} {fu : Nat} (h : fu + 1 = l.toNatClampNeg) : (0 : Int32) < l ∧ fu = (l + (-1 : Int32)).toNatClampNeg := by
  have a := c_iadd l (-1 : Int32); have r := rng32 (l + (-1 : Int32)); have r2 := rng32 l
  have l0 : (0 : Int32).toInt = 0 := by decide
  have l1 : (-1 : Int32).toInt = -1 := by decide
  rw [Int32.lt_iff_toInt_lt]
  simp only [Int32.toNatClampNeg] at *; omega
theorem own_ivi {v : Value} {w : Int32} (h : v = .int w) : own_iv v = w := by rw [h]; rfl
def own_T0 (vv : Int32) : List Value := [(.int (-1 : Int32)), (.int (-1 : Int32)), (.int (-1 : Int32)), (.int (-1 : Int32)), (.int (-1 : Int32)), (.int (-1 : Int32)), (.int (-1 : Int32)), (.int (-1 : Int32)), (.int (-1 : Int32)), (.int (-1 : Int32)), (.int (-1 : Int32)), (.int (-1 : Int32)), (.int (-1 : Int32)), (.int (-1 : Int32)), (.int (-1 : Int32)), (.int (-1 : Int32))]
def own_T1 (vv : Int32) : List Value := [(.int (0 : Int32)), (.int vv), (.int (-1 : Int32)), (.int (-1 : Int32)), (.int (-1 : Int32)), (.int (-1 : Int32)), (.int (-1 : Int32)), (.int (-1 : Int32)), (.int (-1 : Int32)), (.int (-1 : Int32)), (.int (-1 : Int32)), (.int (-1 : Int32)), (.int (-1 : Int32)), (.int (-1 : Int32)), (.int (-1 : Int32)), (.int (-1 : Int32))]
def own_T2 (vv : Int32) : List Value := [(.int (0 : Int32)), (.int vv), (.int (-1 : Int32)), (.int (-1 : Int32)), (.int (-1 : Int32)), (.int (-1 : Int32)), (.int (-1 : Int32)), (.int (-1 : Int32)), (.int (1 : Int32)), (.int vv), (.int (-1 : Int32)), (.int (-1 : Int32)), (.int (-1 : Int32)), (.int (-1 : Int32)), (.int (-1 : Int32)), (.int (-1 : Int32))]
def own_T3 (vv : Int32) : List Value := [(.int (0 : Int32)), (.int vv), (.int (2 : Int32)), (.int vv), (.int (-1 : Int32)), (.int (-1 : Int32)), (.int (-1 : Int32)), (.int (-1 : Int32)), (.int (1 : Int32)), (.int vv), (.int (-1 : Int32)), (.int (-1 : Int32)), (.int (-1 : Int32)), (.int (-1 : Int32)), (.int (-1 : Int32)), (.int (-1 : Int32))]
def own_T4 (vv : Int32) : List Value := [(.int (0 : Int32)), (.int vv), (.int (2 : Int32)), (.int vv), (.int (-1 : Int32)), (.int (-1 : Int32)), (.int (-1 : Int32)), (.int (-1 : Int32)), (.int (1 : Int32)), (.int vv), (.int (-1 : Int32)), (.int (-1 : Int32)), (.int (3 : Int32)), (.int vv), (.int (-1 : Int32)), (.int (-1 : Int32))]
def own_T5 (vv : Int32) : List Value := [(.int (0 : Int32)), (.int vv), (.int (2 : Int32)), (.int vv), (.int (-1 : Int32)), (.int (-1 : Int32)), (.int (4 : Int32)), (.int vv), (.int (1 : Int32)), (.int vv), (.int (-1 : Int32)), (.int (-1 : Int32)), (.int (3 : Int32)), (.int vv), (.int (-1 : Int32)), (.int (-1 : Int32))]
def own_T6 (vv : Int32) : List Value := [(.int (0 : Int32)), (.int vv), (.int (2 : Int32)), (.int vv), (.int (5 : Int32)), (.int vv), (.int (4 : Int32)), (.int vv), (.int (1 : Int32)), (.int vv), (.int (-1 : Int32)), (.int (-1 : Int32)), (.int (3 : Int32)), (.int vv), (.int (-1 : Int32)), (.int (-1 : Int32))]
theorem own_ps (vs : List Value) (x : Int32) (n : Nat) {a b k : Int32} (e : own_iv (vs.getD ((2 : Int32) * a).toNatClampNeg (.int (0 : Int32))) = k) (h1 : ¬ k = x) (h2 : ¬ k = (-1 : Int32)) (h3 : ((a + (1 : Int32)) &&& ((8 : Int32) - (1 : Int32))) = b) : own_pr8 vs x (n + 1) a = own_pr8 vs x n b := by
  show (if _ then _ else if _ then _ else _) = _
  rw [e, if_neg h1, if_neg h2, h3]
theorem own_pe (vs : List Value) (x : Int32) (n : Nat) {a k : Int32} (e : own_iv (vs.getD ((2 : Int32) * a).toNatClampNeg (.int (0 : Int32))) = k) (h : k = x ∨ k = (-1 : Int32)) : own_pr8 vs x (n + 1) a = a := by
  show (if _ then _ else if _ then _ else _) = _
  rw [e]
  by_cases q : k = x
  · rw [if_pos q]
  · rw [if_neg q, if_pos (h.resolve_left q)]
theorem own_8 {a x1 : Int32} (h : a = (((x1 * (-1640531527 : Int32)).toUInt32 >>> (((28 : Int32) + (1 : Int32)) &&& 31).toUInt32).toInt32)) : a = (0 : Int32) ∨ a = (1 : Int32) ∨ a = (2 : Int32) ∨ a = (3 : Int32) ∨ a = (4 : Int32) ∨ a = (5 : Int32) ∨ a = (6 : Int32) ∨ a = (7 : Int32) := by
  have e := own_h8 h
  simp only [← Int32.toInt_inj]
  have l0 : (0 : Int32).toInt = 0 := by decide
  have l1 : (1 : Int32).toInt = 1 := by decide
  have l2 : (2 : Int32).toInt = 2 := by decide
  have l3 : (3 : Int32).toInt = 3 := by decide
  have l4 : (4 : Int32).toInt = 4 := by decide
  have l5 : (5 : Int32).toInt = 5 := by decide
  have l6 : (6 : Int32).toInt = 6 := by decide
  have l7 : (7 : Int32).toInt = 7 := by decide
  omega
theorem own_nk {x1 : Int32} (h : ¬ x1 < (6 : Int32)) : ¬ (-1 : Int32) = x1 ∧ ¬ (0 : Int32) = x1 ∧ ¬ (1 : Int32) = x1 ∧ ¬ (2 : Int32) = x1 ∧ ¬ (3 : Int32) = x1 ∧ ¬ (4 : Int32) = x1 ∧ ¬ (5 : Int32) = x1 := by
  rw [Int32.lt_iff_toInt_lt] at h
  have l6 : (6 : Int32).toInt = 6 := by decide
  have lm : (-1 : Int32).toInt = -1 := by decide
  have l0 : (0 : Int32).toInt = 0 := by decide
  have l1 : (1 : Int32).toInt = 1 := by decide
  have l2 : (2 : Int32).toInt = 2 := by decide
  have l3 : (3 : Int32).toInt = 3 := by decide
  have l4 : (4 : Int32).toInt = 4 := by decide
  have l5 : (5 : Int32).toInt = 5 := by decide
  simp only [← Int32.toInt_inj]; omega
theorem own_sc0 {r vv : Int32} (h : r = ((2 : Int32) * own_pr8 (own_T0 vv) (0 : Int32) 7 ((((0 : Int32) * (-1640531527 : Int32)).toUInt32 >>> (((28 : Int32) + (1 : Int32)) &&& 31).toUInt32).toInt32))) : r = (0 : Int32) := by
  rw [h, show ((((0 : Int32) * (-1640531527 : Int32)).toUInt32 >>> (((28 : Int32) + (1 : Int32)) &&& 31).toUInt32).toInt32) = (0 : Int32) from by decide, own_pe _ _ 6 (k := (-1 : Int32)) rfl (Or.inr rfl)]; decide
theorem own_sc1 {r vv : Int32} (h : r = ((2 : Int32) * own_pr8 (own_T1 vv) (1 : Int32) 7 ((((1 : Int32) * (-1640531527 : Int32)).toUInt32 >>> (((28 : Int32) + (1 : Int32)) &&& 31).toUInt32).toInt32))) : r = (8 : Int32) := by
  rw [h, show ((((1 : Int32) * (-1640531527 : Int32)).toUInt32 >>> (((28 : Int32) + (1 : Int32)) &&& 31).toUInt32).toInt32) = (4 : Int32) from by decide, own_pe _ _ 6 (k := (-1 : Int32)) rfl (Or.inr rfl)]; decide
theorem own_sc2 {r vv : Int32} (h : r = ((2 : Int32) * own_pr8 (own_T2 vv) (2 : Int32) 7 ((((2 : Int32) * (-1640531527 : Int32)).toUInt32 >>> (((28 : Int32) + (1 : Int32)) &&& 31).toUInt32).toInt32))) : r = (2 : Int32) := by
  rw [h, show ((((2 : Int32) * (-1640531527 : Int32)).toUInt32 >>> (((28 : Int32) + (1 : Int32)) &&& 31).toUInt32).toInt32) = (1 : Int32) from by decide, own_pe _ _ 6 (k := (-1 : Int32)) rfl (Or.inr rfl)]; decide
theorem own_sc3 {r vv : Int32} (h : r = ((2 : Int32) * own_pr8 (own_T3 vv) (3 : Int32) 7 ((((3 : Int32) * (-1640531527 : Int32)).toUInt32 >>> (((28 : Int32) + (1 : Int32)) &&& 31).toUInt32).toInt32))) : r = (12 : Int32) := by
  rw [h, show ((((3 : Int32) * (-1640531527 : Int32)).toUInt32 >>> (((28 : Int32) + (1 : Int32)) &&& 31).toUInt32).toInt32) = (6 : Int32) from by decide, own_pe _ _ 6 (k := (-1 : Int32)) rfl (Or.inr rfl)]; decide
theorem own_sc4 {r vv : Int32} (h : r = ((2 : Int32) * own_pr8 (own_T4 vv) (4 : Int32) 7 ((((4 : Int32) * (-1640531527 : Int32)).toUInt32 >>> (((28 : Int32) + (1 : Int32)) &&& 31).toUInt32).toInt32))) : r = (6 : Int32) := by
  rw [h, show ((((4 : Int32) * (-1640531527 : Int32)).toUInt32 >>> (((28 : Int32) + (1 : Int32)) &&& 31).toUInt32).toInt32) = (3 : Int32) from by decide, own_pe _ _ 6 (k := (-1 : Int32)) rfl (Or.inr rfl)]; decide
theorem own_sc5 {r vv : Int32} (h : r = ((2 : Int32) * own_pr8 (own_T5 vv) (5 : Int32) 7 ((((5 : Int32) * (-1640531527 : Int32)).toUInt32 >>> (((28 : Int32) + (1 : Int32)) &&& 31).toUInt32).toInt32))) : r = (4 : Int32) := by
  rw [h, show ((((5 : Int32) * (-1640531527 : Int32)).toUInt32 >>> (((28 : Int32) + (1 : Int32)) &&& 31).toUInt32).toInt32) = (0 : Int32) from by decide, own_ps _ _ 6 (k := (0 : Int32)) (b := (1 : Int32)) rfl (by decide) (by decide) (by decide), own_ps _ _ 5 (k := (2 : Int32)) (b := (2 : Int32)) rfl (by decide) (by decide) (by decide), own_pe _ _ 4 (k := (-1 : Int32)) rfl (Or.inr rfl)]; decide
theorem own_sx {r vv x1 : Int32} (h6 : ¬ x1 < (6 : Int32)) (h : r = ((2 : Int32) * own_pr8 (own_T6 vv) x1 7 (((x1 * (-1640531527 : Int32)).toUInt32 >>> (((28 : Int32) + (1 : Int32)) &&& 31).toUInt32).toInt32))) : r = (10 : Int32) ∨ r = (14 : Int32) := by
  obtain ⟨a, ha⟩ : ∃ z : Int32, z = (((x1 * (-1640531527 : Int32)).toUInt32 >>> (((28 : Int32) + (1 : Int32)) &&& 31).toUInt32).toInt32) := ⟨_, rfl⟩
  rw [← ha] at h
  rcases own_8 ha with q | q | q | q | q | q | q | q
  · rw [q, own_ps _ _ 6 (k := (0 : Int32)) (b := (1 : Int32)) rfl ((own_nk h6).2.1) (by decide) (by decide), own_ps _ _ 5 (k := (2 : Int32)) (b := (2 : Int32)) rfl ((own_nk h6).2.2.2.1) (by decide) (by decide), own_ps _ _ 4 (k := (5 : Int32)) (b := (3 : Int32)) rfl ((own_nk h6).2.2.2.2.2.2) (by decide) (by decide), own_ps _ _ 3 (k := (4 : Int32)) (b := (4 : Int32)) rfl ((own_nk h6).2.2.2.2.2.1) (by decide) (by decide), own_ps _ _ 2 (k := (1 : Int32)) (b := (5 : Int32)) rfl ((own_nk h6).2.2.1) (by decide) (by decide), own_pe _ _ 1 (k := (-1 : Int32)) rfl (Or.inr rfl)] at h; exact Or.inl (by rw [h]; decide)
  · rw [q, own_ps _ _ 6 (k := (2 : Int32)) (b := (2 : Int32)) rfl ((own_nk h6).2.2.2.1) (by decide) (by decide), own_ps _ _ 5 (k := (5 : Int32)) (b := (3 : Int32)) rfl ((own_nk h6).2.2.2.2.2.2) (by decide) (by decide), own_ps _ _ 4 (k := (4 : Int32)) (b := (4 : Int32)) rfl ((own_nk h6).2.2.2.2.2.1) (by decide) (by decide), own_ps _ _ 3 (k := (1 : Int32)) (b := (5 : Int32)) rfl ((own_nk h6).2.2.1) (by decide) (by decide), own_pe _ _ 2 (k := (-1 : Int32)) rfl (Or.inr rfl)] at h; exact Or.inl (by rw [h]; decide)
  · rw [q, own_ps _ _ 6 (k := (5 : Int32)) (b := (3 : Int32)) rfl ((own_nk h6).2.2.2.2.2.2) (by decide) (by decide), own_ps _ _ 5 (k := (4 : Int32)) (b := (4 : Int32)) rfl ((own_nk h6).2.2.2.2.2.1) (by decide) (by decide), own_ps _ _ 4 (k := (1 : Int32)) (b := (5 : Int32)) rfl ((own_nk h6).2.2.1) (by decide) (by decide), own_pe _ _ 3 (k := (-1 : Int32)) rfl (Or.inr rfl)] at h; exact Or.inl (by rw [h]; decide)
  · rw [q, own_ps _ _ 6 (k := (4 : Int32)) (b := (4 : Int32)) rfl ((own_nk h6).2.2.2.2.2.1) (by decide) (by decide), own_ps _ _ 5 (k := (1 : Int32)) (b := (5 : Int32)) rfl ((own_nk h6).2.2.1) (by decide) (by decide), own_pe _ _ 4 (k := (-1 : Int32)) rfl (Or.inr rfl)] at h; exact Or.inl (by rw [h]; decide)
  · rw [q, own_ps _ _ 6 (k := (1 : Int32)) (b := (5 : Int32)) rfl ((own_nk h6).2.2.1) (by decide) (by decide), own_pe _ _ 5 (k := (-1 : Int32)) rfl (Or.inr rfl)] at h; exact Or.inl (by rw [h]; decide)
  · rw [q, own_pe _ _ 6 (k := (-1 : Int32)) rfl (Or.inr rfl)] at h; exact Or.inl (by rw [h]; decide)
  · rw [q, own_ps _ _ 6 (k := (3 : Int32)) (b := (7 : Int32)) rfl ((own_nk h6).2.2.2.2.1) (by decide) (by decide), own_pe _ _ 5 (k := (-1 : Int32)) rfl (Or.inr rfl)] at h; exact Or.inr (by rw [h]; decide)
  · rw [q, own_pe _ _ 6 (k := (-1 : Int32)) rfl (Or.inr rfl)] at h; exact Or.inr (by rw [h]; decide)
theorem own_se {r vv x1 : Int32} (hkx : x1 = (0 : Int32) ∨ x1 = (1 : Int32) ∨ x1 = (2 : Int32) ∨ x1 = (3 : Int32) ∨ x1 = (4 : Int32) ∨ x1 = (5 : Int32)) (h : r = ((2 : Int32) * own_pr8 (own_T6 vv) x1 7 (((x1 * (-1640531527 : Int32)).toUInt32 >>> (((28 : Int32) + (1 : Int32)) &&& 31).toUInt32).toInt32))) : (¬ r < 0 ∧ r < (16 : Int32)) ∧ (own_T6 vv).getD r.toNatClampNeg (.int (0 : Int32)) = .int x1 := by
  rcases hkx with q | q | q | q | q | q
  · rw [q, show ((((0 : Int32) * (-1640531527 : Int32)).toUInt32 >>> (((28 : Int32) + (1 : Int32)) &&& 31).toUInt32).toInt32) = (0 : Int32) from by decide, own_pe _ _ 6 (k := (0 : Int32)) rfl (Or.inl rfl)] at h; rw [h, q]; exact ⟨⟨by decide, by decide⟩, rfl⟩
  · rw [q, show ((((1 : Int32) * (-1640531527 : Int32)).toUInt32 >>> (((28 : Int32) + (1 : Int32)) &&& 31).toUInt32).toInt32) = (4 : Int32) from by decide, own_pe _ _ 6 (k := (1 : Int32)) rfl (Or.inl rfl)] at h; rw [h, q]; exact ⟨⟨by decide, by decide⟩, rfl⟩
  · rw [q, show ((((2 : Int32) * (-1640531527 : Int32)).toUInt32 >>> (((28 : Int32) + (1 : Int32)) &&& 31).toUInt32).toInt32) = (1 : Int32) from by decide, own_pe _ _ 6 (k := (2 : Int32)) rfl (Or.inl rfl)] at h; rw [h, q]; exact ⟨⟨by decide, by decide⟩, rfl⟩
  · rw [q, show ((((3 : Int32) * (-1640531527 : Int32)).toUInt32 >>> (((28 : Int32) + (1 : Int32)) &&& 31).toUInt32).toInt32) = (6 : Int32) from by decide, own_pe _ _ 6 (k := (3 : Int32)) rfl (Or.inl rfl)] at h; rw [h, q]; exact ⟨⟨by decide, by decide⟩, rfl⟩
  · rw [q, show ((((4 : Int32) * (-1640531527 : Int32)).toUInt32 >>> (((28 : Int32) + (1 : Int32)) &&& 31).toUInt32).toInt32) = (3 : Int32) from by decide, own_pe _ _ 6 (k := (4 : Int32)) rfl (Or.inl rfl)] at h; rw [h, q]; exact ⟨⟨by decide, by decide⟩, rfl⟩
  · rw [q, show ((((5 : Int32) * (-1640531527 : Int32)).toUInt32 >>> (((28 : Int32) + (1 : Int32)) &&& 31).toUInt32).toInt32) = (0 : Int32) from by decide, own_ps _ _ 6 (k := (0 : Int32)) (b := (1 : Int32)) rfl (by decide) (by decide) (by decide), own_ps _ _ 5 (k := (2 : Int32)) (b := (2 : Int32)) rfl (by decide) (by decide) (by decide), own_pe _ _ 4 (k := (5 : Int32)) rfl (Or.inl rfl)] at h; rw [h, q]; exact ⟨⟨by decide, by decide⟩, rfl⟩
theorem own_km {x1 : Int32} (h : x1 = (0 : Int32) ∨ x1 = (1 : Int32) ∨ x1 = (2 : Int32) ∨ x1 = (3 : Int32) ∨ x1 = (4 : Int32) ∨ x1 = (5 : Int32)) : ¬ x1 = (-1 : Int32) := fun q => by subst q; revert h; decide
theorem own_r6 {r vv : Int32} (h : r = (10 : Int32) ∨ r = (14 : Int32)) : (¬ r < 0 ∧ r < (16 : Int32)) ∧ (own_T6 vv).getD r.toNatClampNeg (.int (0 : Int32)) = .int (-1 : Int32) := by rcases h with rfl | rfl <;> exact ⟨⟨by decide, by decide⟩, rfl⟩
theorem own_norm {Z : State} {h : Heap} {a : Addr} {k : ClassId} {n : Int32} {vs : List Value} {d : Value} (F : Arv Z h a k .int n vs d) : ∃ ws : List Value, ws.length = n.toNatClampNeg ∧ Arv Z h a k .int n ws d :=
  ⟨(List.range n.toNatClampNeg).map (fun j => vs.getD j d), by simp, own_congr F (fun j hj => by simp [List.getD_eq_getElem?_getD, hj])⟩
theorem own_ltl {r n : Int32} {k : Nat} (h : ¬ r < 0 ∧ r < n) (e : k = n.toNatClampNeg) : r.toNatClampNeg < k := by
  obtain ⟨a, b⟩ := h
  rw [Int32.lt_iff_toInt_lt] at a b
  have l0 : (0 : Int32).toInt = 0 := by decide
  rw [e]; simp only [Int32.toNatClampNeg]; omega

def own_sh : Lambda.Shape := (Jvm.Lambda.Shape.mk "com/example/kinwarden/kinwarden/IntMap$EntryConsumer" "accept" (Jvm.ClassFile.MethodDescriptor.mk ([Jvm.ClassFile.FieldType.int, Jvm.ClassFile.FieldType.int] : List Jvm.ClassFile.FieldType) (Option.none : Option Jvm.ClassFile.FieldType)) ([(Jvm.ClassFile.FieldType.object "com/example/kinwarden/kinwarden/IntMap")] : List Jvm.ClassFile.FieldType) (5 : Nat) "com/example/kinwarden/kinwarden/IntMap" "putInRoom" (Jvm.ClassFile.MethodDescriptor.mk ([Jvm.ClassFile.FieldType.int, Jvm.ClassFile.FieldType.int] : List Jvm.ClassFile.FieldType) (Option.none : Option Jvm.ClassFile.FieldType)) false (Jvm.ClassFile.MethodDescriptor.mk ([Jvm.ClassFile.FieldType.int, Jvm.ClassFile.FieldType.int] : List Jvm.ClassFile.FieldType) (Option.none : Option Jvm.ClassFile.FieldType)))
def own_x : MethodName := ⟨"com/example/kinwarden/kinwarden/IntMap", "moveToRoomFor", "(II)V"⟩
def own_y : MethodName := ⟨"com/example/kinwarden/kinwarden/IntMap", "putInRoom", "(II)V"⟩
def own_xi : MethodName := ⟨"com/example/kinwarden/kinwarden/IntMap$EntryConsumer", "accept", "(II)V"⟩
def own_fc : ByteArray := ⟨#[0x2a, 0xb4, 0x00, 0x0f, 0x1b, 0x1c, 0xb6, 0x00, 0x16, 0xb1]⟩
theorem own_fok : Jvm.LamKit.fwdOK own_sh "com/example/kinwarden/kinwarden/IntMap" own_fc 3 none 22 19 = true := by decide +kernel
theorem own_cok : Jvm.LamKit.capOK own_sh "com/example/kinwarden/kinwarden/IntMap" 15 0 = true := by decide +kernel
theorem own_f0 : decode own_fc 0 = .ok (.aload_n 0, 1) := by decide +kernel
theorem own_f1 : decode own_fc 1 = .ok (.getfield 15, 3) := by decide +kernel
theorem own_f4 : decode own_fc 4 = .ok (.iload_n 1, 1) := by decide +kernel
theorem own_f5 : decode own_fc 5 = .ok (.iload_n 2, 1) := by decide +kernel
theorem own_f6 : decode own_fc 6 = .ok (.invokevirtual 22, 3) := by decide +kernel
theorem own_f9 : decode own_fc 9 = .ok (.return_, 1) := by decide +kernel
theorem own_madeS {s T : State} {cK : ClassId} (hW : s.WarmedH T.vm) (h : Jvm.LamKit.Made s "com/example/kinwarden/kinwarden/IntMap" own_sh cK) : Jvm.LamKit.Made T "com/example/kinwarden/kinwarden/IntMap" own_sh cK := by
  obtain ⟨d, dk, h1, h2, h3, h4⟩ := h
  have hA := hW.alike
  obtain ⟨dk', h1', e⟩ := hA.2.2 _ _ h1
  refine ⟨d, dk', h1', by rw [e]; exact h2, Lambda.isMade_warmer hW h3, ?_⟩
  unfold State.lambdaCallable at h4 ⊢
  simp only [hA.findClass, hA.superclasses41, hA.assignable, hA.declaredIn]
  exact h4
theorem own_backOfH {l : Launch} {R : Room} {p : Program} {e : Env} {below : List Frame} {Z s : State} {a0 args : Array Value} {h : Heap} {y : MethodName} {bytes : ByteArray} {maxL : Nat} {ret : Option FieldType} {rm : Room} {len W : Nat} {as' : Array Value} {Q : Option Value → Heap → List Loc → Prop}
    (hM : MetFree l y (head1 [Cond.code y bytes maxL ret] rm) (fun a U => a = as' ∧ Z.Warmed39 U.vm ∧ U.heap = h ∧ Z.WarmedH U.vm) (fun _ _ _ _ _ => True) (fun _ U o U' => ∃ v L, o = .returned v ∧ Q v U'.heap L ∧ FrameEnd U o U' L rm.cells rm.slots))
    (hZ : Z.Warmed39 s.vm) (hH : Z.WarmedH s.vm) (wc : (Cond.code y bytes maxL ret).before a0 Z = true) (wz : (Cond.initialized y.cls).before a0 Z = true) (hf : rm.frames + 1 ≤ R.frames) (hl : W + (maxL + 11) + rm.locals ≤ R.locals) :
    Back l R p e below s args y len W (fun A a => a = as' ∧ A.U.heap = h ∧ A.cells + rm.cells ≤ R.cells ∧ A.slots + rm.slots ≤ R.slots)
      (fun A _ v B => ∃ L, Q v B.U.heap L ∧ B.locs = A.locs ++ L ∧ B.cells = A.cells + rm.cells ∧ B.slots = A.slots + rm.slots) := by
  refine Back.of_free (bytes := bytes) (maxL := maxL) (ret := ret) (E := fun _ _ o t L k n => k = rm.cells ∧ n = rm.slots ∧ ∃ v, o = .returned v ∧ Q v t.heap L) hM hf hl ?_ ?_ ?_ ?_ ?_
  · intro m meth c A a Y hp
    have hU : Z.Warmed39 A.U.vm := wtrans hZ Y.warmed
    exact ⟨by show (Cond.and _ .tt).before a A.U = true; rw [Cond.before_and, mvT hU wc]; rfl, mvT hU wc, mvT hU wz, hp.2.2.1, hp.2.2.2⟩
  · intro m meth c A a g mk Y hp
    exact ⟨hp.1, wtrans hZ Y.warmed, hp.2.1, State.WarmedH.trans hH Y.warmed⟩
  · intros; trivial
  · rintro a f o t ⟨v, L, h1, h2, h3⟩
    exact ⟨L, _, _, h3, rfl, rfl, v, h1, h2⟩
  · rintro m meth c A a g mk v t L k n Y hp _ _ ⟨e1, e2, v', e3, e4⟩
    cases e3; subst e1 e2; exact ⟨L, e4, rfl, rfl, rfl⟩
set_option maxHeartbeats 4000000 in
theorem own_fwd {p : Program} {l : Launch} {e : Env} {R : Room} {Z s : State} {m : MethodId} {a0 args : Array Value} {below : List Frame} {meth : Method} {c : Code} {T : State} {locs : List Loc} {cells slots : Nat}
    (X : Stand p l e R s m args below meth c T locs cells slots) (hx : p.tables.exec = Jvm.exec) (hZ : Z.Warmed39 s.vm) (hw : ∀ d ∈ tables_1, d.before a0 Z = true) {cK : ClassId} (hmd : Jvm.LamKit.Made s "com/example/kinwarden/kinwarden/IntMap" own_sh cK)
    {a fr : Addr} {k v : Int32} {h : Heap} (eT : T.heap = h) (hcell : h[a]? = some { cls := cK, slots := #[.ref fr], vm := .none }) {cq : Cell} (hfr : h[fr]? = some cq) (hob : ∀ q, cq.vm ≠ .statics q) {rm : Room} {Q : Option Value → Heap → List Loc → Prop}
    (hM : MetFree l own_y (head1 [Cond.code own_y prog_53_method_12_code 4 none] rm) (fun a' U => a' = #[.ref fr, .int k, .int v] ∧ Z.Warmed39 U.vm ∧ U.heap = h) (fun _ _ _ _ _ => True) (fun _ U o U' => ∃ v L, o = .returned v ∧ Q v U'.heap L ∧ FrameEnd U o U' L rm.cells rm.slots))
    (hQ : ∀ v h L, Q v h L → v = none) (hown : s.vm.findClass "com/example/kinwarden/kinwarden/IntMap" = some m.cls) {g : JFrame} (hg : g.method = m) (hsize : g.locals.size = c.maxLocals) {rest : List Value} (hstack : g.stack = [.int v, .int k, .ref a] ++ rest)
    (hdg : decode c.code g.pc = .ok (.invokeinterface 119 3, 5)) (hf : rm.frames + 2 ≤ R.frames) (hlo : 2 * g.monitorRoom + (rest.map fun v => v.category).sum + (3 + 11) + ((4 + 11) + rm.locals) ≤ R.locals) (hc : cells + rm.cells ≤ R.cells) (hs : slots + rm.slots ≤ R.slots) :
    ∃ (T' : State) (L : List Loc), Stand p l e R s m args below meth c T' (locs ++ L) (cells + rm.cells) (slots + rm.slots) ∧ Q none T'.heap L ∧ ∀ target, Steps p.tables e below (T'.setTop { g with pc := g.pc + 5, stack := rest }) target → Steps p.tables e below (T.setTop g) target := by
  have hface : (Cond.interfaceMethod own_xi.cls own_xi.cls own_xi.name own_xi.desc).before args s = true := mvT hZ (hw _ (List.mem_of_getElem? (i := 110) rfl))
  have hdecl : (Cond.declares own_xi).before args s = true := mvT hZ (hw _ (List.mem_of_getElem? (i := 109) rfl))
  have hlink : (Cond.methodLink "com/example/kinwarden/kinwarden/IntMap" 119 own_xi).before args s = true := mvT hZ (hw _ (List.mem_of_getElem? (i := 108) rfl))
  have wc : (Cond.code own_y prog_53_method_12_code 4 none).before a0 Z = true := hw _ (List.mem_of_getElem? (i := 66) rfl)
  have wz : (Cond.initialized own_y.cls).before a0 Z = true := hw _ (List.mem_of_getElem? (i := 3) rfl)
  have wi : (Cond.instanceMethod own_y).before args s = true := mvT hZ (hw _ (List.mem_of_getElem? (i := 64) rfl))
  have wp := Cond.privateMethod_at (mvP (args := args) hZ (hw _ (List.mem_of_getElem? (i := 65) rfl)))
  have wsel : (Cond.selects "com/example/kinwarden/kinwarden/IntMap" own_y own_y).before args s = true := own_sel hZ hw (hw _ (List.mem_of_getElem? (i := 64) rfl)) (hw _ (List.mem_of_getElem? (i := 65) rfl))
  obtain ⟨kK, methk, hkK, hmk, hpub, habs, hsel⟩ := Jvm.LamKit.madeSelects hmd own_fok hface ⟨rfl, rfl, by decide +kernel⟩
  obtain ⟨r0, r, hn, hrm, hstR, hsigR⟩ := Cond.declares_spec hdecl
  obtain ⟨cL, kL, r1, hcL, hkL, hiL, -, -⟩ := Cond.interfaceMethod_spec hface
  have hr0cls : r0.cls = cL := Option.some.inj ((findClass_of_methodNamed hn).symm.trans hcL)
  obtain ⟨hasg, hsel', hway⟩ := hsel r0 r hn hrm
  have hpar : parseMethodDescriptor own_xi.desc = some ⟨[.int, .int], none⟩ := by decide +kernel
  have hlen : [Value.int k, Value.int v].length = r.sig.parameters.length := by rw [hpar] at hsigR; rw [← Option.some.inj hsigR]; rfl
  obtain ⟨vm₁, X₁, hstep₁⟩ := X.invokeinterface hx hown hlink hn hrm hstR (by rw [hr0cls]; exact hkL) hiL (by decide) (a := a) (cell := { cls := cK, slots := #[.ref fr], vm := .none }) (kcell := kK) (by rw [eT]; exact hcell) (fun z q => by cases q) hkK hasg
    (m' := ⟨cK, 1⟩) (meth' := methk) (by rw [Launch.admits_selectMethod X.admits]; exact hsel') hmk hway hpub habs hg (argsL := [.int k, .int v]) (rest := rest) hlen (by rw [hstack]; rfl) hdg
  generalize hT1 : T.setVm vm₁ = T1 at X₁ hstep₁
  have hh1 : T1.heap = h := by rw [← hT1]; exact eT
  have hW₁ : s.WarmedH T1.vm := X₁.warmed
  obtain ⟨d, dk, hd, hdn, hmade, -⟩ := own_madeS hW₁ hmd
  obtain ⟨kK₁, tk₁, file₁, methk₁, ck₁, toy₁, t₁, nt, hkK₁, hpn₁, hfile₁, hidx₁, hnt₁, hmk₁, hck₁, hbytes₁, hml₁, hlk₁, -, hretk₁, htoy₁, htk₁, hlook₁, hready₁, hclsR₁⟩ := Jvm.LamKit.made_static own_fok hd hdn hmade
  obtain ⟨mT, methT, hmT, hmethT, hstT, habT⟩ := Cond.instanceMethod_spec wi
  have hfT₁ : T1.vm.findClass own_sh.implClass = some mT.cls := by rw [hW₁.alike.findClass]; exact findClass_of_methodNamed hmT
  cases htoy₁.symm.trans hfT₁
  have hpoly : own_y.cls ≠ "java/lang/invoke/MethodHandle" ∧ own_y.cls ≠ "java/lang/invoke/VarHandle" := by decide
  have ht₁ : t₁ = mT := by
    have h1 : (s.setVm T1.vm).methodFound? own_y.cls own_y.name own_y.desc = some mT := by rw [State.methodFound?_setVm hW₁.alike]; exact State.methodFound?_of_named hmT hpoly
    have e1 : own_sh.implDesc.toString = own_y.desc := by decide +kernel
    rw [e1] at hlook₁
    have hfT₂ : T1.vm.findClass own_y.cls = some mT.cls := hfT₁
    simp only [State.methodFound?, State.vm_setVm, hfT₂, htk₁, Option.bind_eq_bind, Option.bind_some] at h1
    have e2 : own_sh.implName = own_y.name := rfl
    rw [e2] at hlook₁
    rw [hlook₁] at h1
    exact Option.some.inj h1
  subst ht₁
  have hmethT₁ : T1.vm.method? t₁ = some methT := by rw [hW₁.alike.method?]; exact hmethT
  obtain ⟨c2, r2, m2, -, -, q3, -, kP, hkP, hkPi⟩ := Cond.selects_spec wsel
  cases hmT.symm.trans q3
  obtain ⟨kP₁, hkP₁, heP₁⟩ := hW₁.alike.2.2 _ _ hkP
  cases htk₁.symm.trans hkP₁
  have hni : tk₁.isInterface = false := by rw [heP₁]; exact hkPi
  obtain ⟨kN, hkN, hnameN⟩ := className_of_methodNamed hmT
  cases hkP.symm.trans hkN
  have hsp : signaturePolymorphic tk₁ methT = false := by
    have hn' : tk₁.name = own_y.cls := by rw [heP₁]; exact hnameN
    simp [signaturePolymorphic, hn', hpoly.1, hpoly.2]
  have hpk : T1.plainMethod ⟨cK, 1⟩ := State.plainMethod.of_name (fun k' hk' => by cases hkK₁.symm.trans hk'; exact hpn₁)
  obtain ⟨Y₀, hin⟩ := X₁.into (g := { g with stack := rest }) hg hsize hdg #[.ref a, .int k, .int v] (R' := { frames := rm.frames + 1, cells := rm.cells, slots := rm.slots, locals := (4 + 11) + rm.locals }) hmk₁ hck₁ hlk₁ hpk hf (by rw [hml₁]; exact hlo) hc hs
  have hL0 : entryFrame ⟨cK, 1⟩ #[.ref a, .int k, .int v] 3 = mkF ⟨cK, 1⟩ 0 #[.val (.ref a), .val (.int k), .val (.int v)] [] := by first | rfl | simp [entryFrame, mkF, argsToLocals, Value.category]
  rw [hml₁, hL0] at Y₀ hin
  generalize hU : (T1.setTop { g with stack := rest }).pushFrame (.java (mkF ⟨cK, 1⟩ 0 #[.val (.ref a), .val (.int k), .val (.int v)] [])) = U at Y₀ hin
  have hvmU : U.vm = T1.vm := by rw [← hU]; rfl
  have hheapU : U.heap = h := by rw [← hU]; exact hh1
  generalize hs' : T1.calling { g with stack := rest } ⟨cK, 1⟩ #[.ref a, .int k, .int v] = s' at Y₀
  have hvm' : s'.vm = T1.vm := by rw [← hs']; rfl
  have hZ' : Z.Warmed39 s'.vm := by rw [hvm']; exact wtrans hZ hW₁
  have hK : Back l { frames := rm.frames + 1, cells := rm.cells, slots := rm.slots, locals := (4 + 11) + rm.locals } p e (.java { g with stack := rest } :: below) s' #[.ref a, .int k, .int v] own_y 3 0 _ _ := backOf (W := 0) hM hZ' wc wz (Nat.le_refl _) (by show 0 + (4 + 11) + rm.locals ≤ (4 + 11) + rm.locals; omega)
  have hnamedU : U.methodNamed? own_y = some t₁ := by
    have q : (s.setVm T1.vm).methodNamed? own_y = some t₁ := by rw [State.methodNamed?_setVm hW₁.alike]; exact hmT
    rw [← hU]; exact q
  obtain ⟨vv, ⟨U', ls, cc, sl⟩, Y₁, ⟨Lc, hq, hl, hc', hs''⟩, hsteps⟩ := hK ⟨cK, 1⟩ methk₁ ck₁ ⟨U, [], 0, 0⟩ (mkF ⟨cK, 1⟩ 6 #[.val (.ref a), .val (.int k), .val (.int v)] []) (.invokevirtual 22) t₁ #[.ref fr, .int k, .int v] Y₀ rfl (by rw [hml₁]; rfl)
    (by rw [hbytes₁]; exact own_f6) (by show 2 * 0 + 0 ≤ 0; decide) hnamedU ⟨rfl, hheapU, by show 0 + rm.cells ≤ rm.cells; omega, by show 0 + rm.slots ≤ rm.slots; omega⟩
  dsimp only [Pt.U, Pt.locs, Pt.cells, Pt.slots] at Y₁ hq hl hc' hs'' hsteps
  subst hl; subst hc'; subst hs''
  obtain rfl := hQ _ _ _ hq
  obtain ⟨fs, hleave, -, hended, hWe, hsame⟩ := Y₁.leave (v := none) (fun _ => rfl) hlk₁
  subst hs'
  obtain ⟨T', X', -, -, ht⟩ := X₁.outOf (g := { g with stack := rest }) hg hdg hended hWe hsame
  have hheap' : T'.heap = U'.heap := by
    have q := congrArg State.heap ht
    exact (show T'.heap = U'.heap from q.symm)
  refine ⟨T', _, by simpa using X', by rw [hheap']; exact hq, fun target hk => hstep₁ _ fun acts => ?_⟩
  refine Steps.trans ?_ hk
  rw [hin acts]
  have hfin : U'.setFrames fs = T'.setTop { g with pc := g.pc + 5, stack := rest } := ht
  rw [← hfin]
  refine Steps.weaken (mid := [.java { g with stack := rest }]) ?_
  have hWU : s.WarmedH U.vm := by rw [hvmU]; exact hW₁
  refine XS.aloadN Y₀.here hx rfl (by rw [hbytes₁]; exact own_f0) rfl rfl ?_
  refine Jvm.LamKit.getCap (s := s) (args := args) (cell := { cls := cK, slots := #[.ref fr], vm := .none }) (i := 0) (v := .ref fr) (a := a) (rest := []) hx Y₀.here hWU hmd own_cok (mvT hZ (hw _ (List.mem_of_getElem? (i := 99) rfl))) (by rw [hheapU]; exact hcell) rfl rfl rfl rfl (by rw [hbytes₁]; exact own_f1) ?_
  refine XS.iloadN Y₀.here hx rfl (by rw [hbytes₁]; exact own_f4) rfl ?_
  refine XS.iloadN Y₀.here hx rfl (by rw [hbytes₁]; exact own_f5) rfl ?_
  have hdI' : decode ck₁.code 6 = .ok (.invokevirtual 22, 3) := by rw [hbytes₁]; exact own_f6
  obtain ⟨methM', cM, hmethM', -, -, -, -, -, -, hsigM⟩ := Cond.code_spec hmT (show (Cond.code own_y prog_53_method_12_code 4 none).before args s = true from mvT hZ wc)
  cases hmethT.symm.trans hmethM'
  have hparY : parseMethodDescriptor own_y.desc = some ⟨[.int, .int], none⟩ := by decide +kernel
  have hlenT : [Value.int k, Value.int v].length = methT.sig.parameters.length := by rw [hparY] at hsigM; rw [← Option.some.inj hsigM]; rfl
  have hselP : selectMethod e.platform U.vm cq.cls t₁ = .method t₁ := selectMethod_private (by rw [hvmU]; exact hmethT₁) (wp t₁ methT hmT hmethT)
  show Steps p.tables e _ (U.setTop (mkF ⟨cK, 1⟩ 6 #[.val (.ref a), .val (.int k), .val (.int v)] [.int v, .int k, .ref fr])) _
  jvm_step Y₀.here [hx, hdI', invokevirtual.wp_ready (e := e) (s := U) (index := 22) (a := fr) (r := t₁) (m := t₁) (k := tk₁) (mk := tk₁) (rmeth := methT) (meth := methT) (args := [.int k, .int v]) (rest := []) (cell := cq)
    (f := mkF ⟨cK, 1⟩ 6 #[.val (.ref a), .val (.int k), .val (.int v)] [.int v, .int k, .ref fr]) Y₀.here.top ⟨kK₁, file₁, 19, nt, t₁.cls, tk₁, by rw [hvmU]; exact hkK₁, hfile₁, hidx₁, by rw [hvmU]; exact hclsR₁, by rw [hvmU]; exact htk₁, hni⟩ (by rw [hvmU]; exact hready₁) (by rw [hvmU]; exact htk₁) (by rw [hvmU]; exact hmethT₁) hsp hstT hlenT rfl (by rw [hheapU]; exact hfr) hob hselP (by rw [hvmU]; exact hmethT₁) habT (by rw [hvmU]; exact htk₁) hni]
  intro acts'
  rw [doInvoke_state]
  refine hsteps.trans ?_
  exact Y₁.returnOut hx hretk₁ (by rw [hbytes₁]; exact own_f9) hleave
def own_LZ (Z : State) (cK : ClassId) : Prop := ∃ (m : MethodId) (k : Class) (cf : ClassFile) (i0 p0 : Nat), Z.methodNamed? own_x = some m ∧ Z.vm.classes[m.cls]? = some k ∧ k.cf = some cf ∧ Lambda.shapeOf? cf 106 = some own_sh ∧ (k.callSites.find? fun y => y.1 == m.idx && y.2.1 == 95) = some (i0, p0, .makes cK) ∧ Jvm.LamKit.Made Z "com/example/kinwarden/kinwarden/IntMap" own_sh cK
theorem own_lz {Z : State} {a0 : Array Value} (h : (Cond.lambdaSite own_x 95 106 own_sh).before a0 Z = true) : ∃ cK, own_LZ Z cK := by
  obtain ⟨cK, one, hat⟩ := Cond.lambdaSite_spec h
  obtain ⟨mD, kD, cfD, i0, p0, lk, hmD, hkD, hcf, hsh, -, hfind, hmade, hcan, hl⟩ := State.lambdaAt?_spec hat
  obtain ⟨kD', hkD', hnameD⟩ := className_of_methodNamed hmD
  cases hkD.symm.trans hkD'
  rcases hl with ⟨a, cell, -, -, hc0, -⟩ | ⟨rfl, -, -⟩
  · cases hc0
  · exact ⟨cK, mD, kD, cfD, i0, p0, hmD, hkD, hcf, hsh, hfind, _, kD, hkD, hnameD, hmade, hcan⟩
theorem own_site {p : Program} {l : Launch} {e : Env} {R : Room} {Z s : State} {m : MethodId} {a0 args : Array Value} {below : List Frame} {meth : Method} {c : Code} {T : State} {locs : List Loc} {cells slots : Nat}
    (X : Stand p l e R s m args below meth c T locs cells slots) (hx : p.tables.exec = Jvm.exec) (hZ : Z.Warmed39 s.vm) (hH : Z.WarmedH s.vm) (hw : ∀ d ∈ tables_1, d.before a0 Z = true) (hnamed : s.methodNamed? own_x = some m) {cK : ClassId} (hL : own_LZ Z cK)
    {g : JFrame} (hg : g.method = m) (hpc : g.pc = 95) (hsize : g.locals.size = c.maxLocals) (hdg : decode c.code g.pc = .ok (.invokedynamic 106, 5)) {fr : Addr} {rest : List Value} (hstack : g.stack = .ref fr :: rest)
    (hwords : 2 * g.monitorRoom + (g.stack.map fun v => v.category).sum + 3072 ≤ R.locals) (hcells : cells + 1 ≤ R.cells) (hslots : slots + 1 ≤ R.slots) :
    Stand p l e R s m args below meth c (T.pushCell { cls := cK, slots := #[.ref fr], vm := .none }) locs (cells + 1) (slots + 1) ∧
      ∀ target, Steps p.tables e below ((T.pushCell { cls := cK, slots := #[.ref fr], vm := .none }).setTop { g with pc := g.pc + 5, stack := .ref T.heap.size :: rest }) target → Steps p.tables e below (T.setTop g) target := by
  obtain ⟨mD, kD, cfD, i0, p0, hmD, hkD, hcfD, hsh, hfind, hmZ⟩ := hL
  have hms : s.methodNamed? own_x = some mD := by
    have q : (Z.setVm s.vm).methodNamed? own_x = some mD := by rw [State.methodNamed?_setVm hH.alike]; exact hmD
    exact q
  cases hnamed.symm.trans hms
  obtain ⟨kS, hkS, heS⟩ := hH.alike.2.2 _ _ hkD
  have hcfS : kS.cf = some cfD := by rw [heS]; exact hcfD
  have hfS : (kS.callSites.find? fun y => y.1 == m.idx && y.2.1 == 95) = some (i0, p0, .makes cK) := by rw [heS]; exact hfind
  obtain ⟨d, dk, hd, hdn, hmade, -⟩ := own_madeS hH hmZ
  have hO : (Cond.instantiable "java/lang/Object" 0).before args s = true := mvT hZ (hw _ (List.mem_of_getElem? (i := 99) rfl))
  obtain ⟨b, nt, desc, site, h1, h2, h3, h4⟩ := Lambda.shapeOf?_site hsh
  obtain ⟨kc, f, hkc, hkind, hty, -⟩ := Jvm.LamKit.made_cap own_cok hd hdn hmade (Jvm.LamKit.noFields hO (State.WarmedH.refl s))
  have hz : ((kc.instanceTypes.toList.zip [Value.ref fr]).map fun (t, v) => narrow t v) = [Value.ref fr] := by rw [hty]; rfl
  have hww : e.platform.lambdaLinkWords = 3072 := by rw [X.admits.platform]
  have q := X.lambdaMakes hx hg hsize hdg (vals := [.ref fr]) (rest := rest) hkS (by rw [hpc]; exact hfS) hcfS h1 h2 (parseLong_of_parse h3) (by rw [h4]; rfl) hstack hkc (by rw [hww]; exact hwords) hcells (by rw [hz]; exact hslots)
    (fun i v hv => by
      rw [hz] at hv
      match i, hv with
      | 0, hv => cases hv; simp [State.fitsSlot, State.slotType?, hkc, hkind, hty, own_sh, fits]
      | (n + 1), hv => simp at hv)
  rw [hz] at q
  exact ⟨by simpa using q.1, q.2⟩
def own_C (h : Heap) (a : Addr) (c : Cell) : Prop := h[a]? = some c
theorem own_C.ext {h h' : Heap} {a : Addr} {c : Cell} (F : own_C h a c) (E : Ext h h') : own_C h' a c := E.2 _ _ F
theorem own_C.keep {h h' : Heap} {a : Addr} {c : Cell} {ws : List Addr} (F : own_C h a c) (K : Keep h h' ws) (q : a ∉ ws) : own_C h' a c := K.2.1 _ _ F q
theorem own_C.other {h h' : Heap} {a b : Addr} {c : Cell} {sl : Nat} {v : Value} (F : own_C h b c) (W : Wr h h' a sl v) (q : b ≠ a) : own_C h' b c := (Keep.of_wr W).2.1 _ _ F (by simp [q])
theorem own_C.lt {h : Heap} {a : Addr} {c : Cell} (F : own_C h a c) : a < h.size := (Array.getElem?_eq_some_iff.mp F).1
theorem own_kn {N : Int32} (h : (5 : Int32) < N) (k : Nat) (hk : k < 6) : ¬ (Int32.ofNat k) < 0 ∧ (Int32.ofNat k) < N := by
  have l5 : (5 : Int32).toInt = 5 := by decide
  have l0 : (0 : Int32).toInt = 0 := by decide
  rw [Int32.lt_iff_toInt_lt] at h
  match k, hk with
  | 0, _ => have e : (Int32.ofNat 0).toInt = 0 := by decide
            rw [Int32.lt_iff_toInt_lt, Int32.lt_iff_toInt_lt]; omega
  | 1, _ => have e : (Int32.ofNat 1).toInt = 1 := by decide
            rw [Int32.lt_iff_toInt_lt, Int32.lt_iff_toInt_lt]; omega
  | 2, _ => have e : (Int32.ofNat 2).toInt = 2 := by decide
            rw [Int32.lt_iff_toInt_lt, Int32.lt_iff_toInt_lt]; omega
  | 3, _ => have e : (Int32.ofNat 3).toInt = 3 := by decide
            rw [Int32.lt_iff_toInt_lt, Int32.lt_iff_toInt_lt]; omega
  | 4, _ => have e : (Int32.ofNat 4).toInt = 4 := by decide
            rw [Int32.lt_iff_toInt_lt, Int32.lt_iff_toInt_lt]; omega
  | 5, _ => have e : (Int32.ofNat 5).toInt = 5 := by decide
            rw [Int32.lt_iff_toInt_lt, Int32.lt_iff_toInt_lt]; omega
  | (n + 6), hk => omega
theorem own_push (h : Heap) (c : Cell) : Ext h (h.push c) ∧ own_C (h.push c) h.size c := ⟨⟨by simp, fun a k q => by
  have hl := (Array.getElem?_eq_some_iff.mp q).1
  rw [Array.getElem?_push_lt hl]; exact (Array.getElem?_eq_getElem hl).symm.trans q⟩, by simp [own_C]⟩
theorem own_w6 {x : Int32} (h : ¬ x < (6 : Int32)) : 6 ≤ x.toInt ∧ ((x.toInt64) + (1 : Int64)).toInt = x.toInt + 1 := by
  rw [Int32.lt_iff_toInt_lt] at h
  have l6 : (6 : Int32).toInt = 6 := by decide
  have l1 : (1 : Int64).toInt = 1 := by decide
  have a := c_ladd (x.toInt64) (1 : Int64); have b := c_i2l x; have r := rng64 ((x.toInt64) + (1 : Int64)); have r2 := rng32 x
  omega
theorem own_wmax {x : Int32} {w : Int64} (h : ¬ x < (6 : Int32)) (hw : w = ((x.toInt64) + (1 : Int64))) : ¬ lcmpW w (0 : Int64) < (0 : Int32) := fun q => by
  have := own_w6 h; rw [← hw] at this
  have q2 := Int64.lt_iff_toInt_lt.mp ((lw_lt w 0).mp q)
  have l0 : (0 : Int64).toInt = 0 := by decide
  omega
theorem own_w32 {w : Int64} (h : w.toInt ≤ 32) : ¬ (0 : Int32) < lcmpW w ((2 : Int64) * (16 : Int64)) := fun q => by
  have q2 := Int64.lt_iff_toInt_lt.mp ((lw_gt w _).mp q)
  have l0 : ((2 : Int64) * (16 : Int64)).toInt = 32 := by decide
  omega
theorem own_w33 {w : Int64} (h : ¬ w.toInt ≤ 32) : (0 : Int32) < lcmpW w ((2 : Int64) * (16 : Int64)) := by
  refine (lw_gt w _).mpr (Int64.lt_iff_toInt_lt.mpr ?_)
  have l0 : ((2 : Int64) * (16 : Int64)).toInt = 32 := by decide
  omega
theorem own_wi {w : Int64} (h0 : 0 ≤ w.toInt) (h : w.toInt ≤ 32) : ((w.toInt32).toInt64) = w ∧ (w.toInt32).toInt = w.toInt := by
  have a := c_l2i w; have b := c_i2l (w.toInt32); have r := rng32 (w.toInt32)
  rw [← Int64.toInt_inj]; omega
theorem own_nl {n : Int32} {k : Int} (h : n.toInt = k) (h0 : 0 ≤ k) (h1 : k ≤ 32) : ¬ n < 0 ∧ n.toNatClampNeg ≤ 32 := by
  rw [Int32.lt_iff_toInt_lt]
  have l0 : (0 : Int32).toInt = 0 := by decide
  simp only [Int32.toNatClampNeg]; omega
theorem own_5n {n x : Int32} (h : n.toInt = x.toInt + 1) (h6 : ¬ x < (6 : Int32)) : (5 : Int32) < n ∧ (¬ x < 0 ∧ x < n) ∧ (5 : Int32) < x := by
  rw [Int32.lt_iff_toInt_lt] at h6
  have l6 : (6 : Int32).toInt = 6 := by decide
  have l5 : (5 : Int32).toInt = 5 := by decide
  have l0 : (0 : Int32).toInt = 0 := by decide
  simp only [Int32.lt_iff_toInt_lt]; omega
theorem own_5x {x : Int32} (h6 : ¬ x < (6 : Int32)) : (5 : Int32) < x := by
  rw [Int32.lt_iff_toInt_lt] at *
  have l6 : (6 : Int32).toInt = 6 := by decide
  have l5 : (5 : Int32).toInt = 5 := by decide
  omega
theorem own_nn (x : Int32) : ¬ (x &&& (2147483647 : Int32)) < (0 : Int32) ∧ ¬ (x &&& (63 : Int32)) < (0 : Int32) := by
  have a := c_mask x 2147483647 31 (by decide) (by decide); have b := c_mask x 63 6 (by decide) (by decide)
  have l0 : (0 : Int32).toInt = 0 := by decide
  simp only [Int32.lt_iff_toInt_lt]; omega
theorem own_l6 {m k : Int32} (h : ¬ k < m) (hk : k < (6 : Int32)) : m < (6 : Int32) := by
  rw [Int32.lt_iff_toInt_lt] at *; omega
theorem own_nlt {m k i : Int32} (h : ¬ k < m) (hk : ¬ i < k) : ¬ i < m := by
  rw [Int32.lt_iff_toInt_lt] at *; omega
theorem own_n6 {m : Int32} (h : (5 : Int32) < m) : ¬ m < (6 : Int32) := by
  rw [Int32.lt_iff_toInt_lt] at *
  have l5 : (5 : Int32).toInt = 5 := by decide
  have l6 : (6 : Int32).toInt = 6 := by decide
  omega
theorem own_k6 {x1 : Int32} (h0 : ¬ x1 < (0 : Int32)) (h : x1 < (6 : Int32)) : x1 = (0 : Int32) ∨ x1 = (1 : Int32) ∨ x1 = (2 : Int32) ∨ x1 = (3 : Int32) ∨ x1 = (4 : Int32) ∨ x1 = (5 : Int32) := by
  rw [Int32.lt_iff_toInt_lt] at *
  have l6 : (6 : Int32).toInt = 6 := by decide
  have l0 : (0 : Int32).toInt = 0 := by decide
  have l1 : (1 : Int32).toInt = 1 := by decide
  have l2 : (2 : Int32).toInt = 2 := by decide
  have l3 : (3 : Int32).toInt = 3 := by decide
  have l4 : (4 : Int32).toInt = 4 := by decide
  have l5 : (5 : Int32).toInt = 5 := by decide
  simp only [← Int32.toInt_inj]; omega
theorem own_by {x N : Int32} (h6 : ¬ x < (6 : Int32)) (hN : N.toInt = x.toInt + 1) : ((16 : Int64) + ((4 : Int64) * (N.toInt64))) = ((16 : Int64) + ((4 : Int64) * ((x.toInt64) + (1 : Int64)))) := by
  have e := (own_w6 h6).2
  have f := c_i2l N
  have : N.toInt64 = ((x.toInt64) + (1 : Int64)) := by rw [← Int64.toInt_inj]; omega
  rw [this]
theorem own_le32 {x : Int32} (h6 : ¬ x < (6 : Int32)) : ((0 : Int32) < lcmpW ((x.toInt64) + (1 : Int64)) (32 : Int64)) ↔ ¬ x.toInt + 1 ≤ 32 := by
  rw [lw_gt, Int64.lt_iff_toInt_lt, (own_w6 h6).2, show (32 : Int64).toInt = 32 by decide]; omega
theorem own_len0 (vv : Int32) : (own_T0 vv).length = 16 := rfl
theorem own_hs0 : ¬ ((3 : Int32) * ((16 : Int32) / (2 : Int32))) < ((4 : Int32) * ((0 : Int32) + (1 : Int32))) := by decide
theorem own_gd0 (vv : Int32) : (own_T0 vv).getD (0 : Int32).toNatClampNeg (.int (0 : Int32)) = .int (-1 : Int32) := by
  rw [show (0 : Int32).toNatClampNeg = 0 from by decide]; rfl
theorem own_st0 (vv : Int32) : (((own_T0 vv).set (0 : Int32).toNatClampNeg (.int (0 : Int32))).set ((0 : Int32) + (1 : Int32)).toNatClampNeg (.int vv)) = own_T1 vv := by
  rw [show (0 : Int32).toNatClampNeg = 0 from by decide, show ((0 : Int32) + (1 : Int32)).toNatClampNeg = 1 from by decide]; rfl
theorem own_p0 {vv r sz' : Int32} {vs' : List Value} (hr : r = ((2 : Int32) * own_pr8 (own_T0 vv) (0 : Int32) 7 ((((0 : Int32) * (-1640531527 : Int32)).toUInt32 >>> (((28 : Int32) + (1 : Int32)) &&& 31).toUInt32).toInt32))) (h : (own_T0 vv).getD r.toNatClampNeg (.int (0 : Int32)) = .int (-1 : Int32) → sz' = ((0 : Int32) + (1 : Int32)) ∧ vs' = (((own_T0 vv).set r.toNatClampNeg (.int (0 : Int32))).set (r + (1 : Int32)).toNatClampNeg (.int vv))) : sz' = (1 : Int32) ∧ vs' = own_T1 vv := by
  have q := own_sc0 hr
  rw [q] at h
  obtain ⟨a, b⟩ := h (own_gd0 vv)
  exact ⟨a.trans (by decide), b.trans (own_st0 vv)⟩
theorem own_len1 (vv : Int32) : (own_T1 vv).length = 16 := rfl
theorem own_hs1 : ¬ ((3 : Int32) * ((16 : Int32) / (2 : Int32))) < ((4 : Int32) * ((1 : Int32) + (1 : Int32))) := by decide
theorem own_gd1 (vv : Int32) : (own_T1 vv).getD (8 : Int32).toNatClampNeg (.int (0 : Int32)) = .int (-1 : Int32) := by
  rw [show (8 : Int32).toNatClampNeg = 8 from by decide]; rfl
theorem own_st1 (vv : Int32) : (((own_T1 vv).set (8 : Int32).toNatClampNeg (.int (1 : Int32))).set ((8 : Int32) + (1 : Int32)).toNatClampNeg (.int vv)) = own_T2 vv := by
  rw [show (8 : Int32).toNatClampNeg = 8 from by decide, show ((8 : Int32) + (1 : Int32)).toNatClampNeg = 9 from by decide]; rfl
theorem own_p1 {vv r sz' : Int32} {vs' : List Value} (hr : r = ((2 : Int32) * own_pr8 (own_T1 vv) (1 : Int32) 7 ((((1 : Int32) * (-1640531527 : Int32)).toUInt32 >>> (((28 : Int32) + (1 : Int32)) &&& 31).toUInt32).toInt32))) (h : (own_T1 vv).getD r.toNatClampNeg (.int (0 : Int32)) = .int (-1 : Int32) → sz' = ((1 : Int32) + (1 : Int32)) ∧ vs' = (((own_T1 vv).set r.toNatClampNeg (.int (1 : Int32))).set (r + (1 : Int32)).toNatClampNeg (.int vv))) : sz' = (2 : Int32) ∧ vs' = own_T2 vv := by
  have q := own_sc1 hr
  rw [q] at h
  obtain ⟨a, b⟩ := h (own_gd1 vv)
  exact ⟨a.trans (by decide), b.trans (own_st1 vv)⟩
theorem own_len2 (vv : Int32) : (own_T2 vv).length = 16 := rfl
theorem own_hs2 : ¬ ((3 : Int32) * ((16 : Int32) / (2 : Int32))) < ((4 : Int32) * ((2 : Int32) + (1 : Int32))) := by decide
theorem own_gd2 (vv : Int32) : (own_T2 vv).getD (2 : Int32).toNatClampNeg (.int (0 : Int32)) = .int (-1 : Int32) := by
  rw [show (2 : Int32).toNatClampNeg = 2 from by decide]; rfl
theorem own_st2 (vv : Int32) : (((own_T2 vv).set (2 : Int32).toNatClampNeg (.int (2 : Int32))).set ((2 : Int32) + (1 : Int32)).toNatClampNeg (.int vv)) = own_T3 vv := by
  rw [show (2 : Int32).toNatClampNeg = 2 from by decide, show ((2 : Int32) + (1 : Int32)).toNatClampNeg = 3 from by decide]; rfl
theorem own_p2 {vv r sz' : Int32} {vs' : List Value} (hr : r = ((2 : Int32) * own_pr8 (own_T2 vv) (2 : Int32) 7 ((((2 : Int32) * (-1640531527 : Int32)).toUInt32 >>> (((28 : Int32) + (1 : Int32)) &&& 31).toUInt32).toInt32))) (h : (own_T2 vv).getD r.toNatClampNeg (.int (0 : Int32)) = .int (-1 : Int32) → sz' = ((2 : Int32) + (1 : Int32)) ∧ vs' = (((own_T2 vv).set r.toNatClampNeg (.int (2 : Int32))).set (r + (1 : Int32)).toNatClampNeg (.int vv))) : sz' = (3 : Int32) ∧ vs' = own_T3 vv := by
  have q := own_sc2 hr
  rw [q] at h
  obtain ⟨a, b⟩ := h (own_gd2 vv)
  exact ⟨a.trans (by decide), b.trans (own_st2 vv)⟩
theorem own_len3 (vv : Int32) : (own_T3 vv).length = 16 := rfl
theorem own_hs3 : ¬ ((3 : Int32) * ((16 : Int32) / (2 : Int32))) < ((4 : Int32) * ((3 : Int32) + (1 : Int32))) := by decide
theorem own_gd3 (vv : Int32) : (own_T3 vv).getD (12 : Int32).toNatClampNeg (.int (0 : Int32)) = .int (-1 : Int32) := by
  rw [show (12 : Int32).toNatClampNeg = 12 from by decide]; rfl
theorem own_st3 (vv : Int32) : (((own_T3 vv).set (12 : Int32).toNatClampNeg (.int (3 : Int32))).set ((12 : Int32) + (1 : Int32)).toNatClampNeg (.int vv)) = own_T4 vv := by
  rw [show (12 : Int32).toNatClampNeg = 12 from by decide, show ((12 : Int32) + (1 : Int32)).toNatClampNeg = 13 from by decide]; rfl
theorem own_p3 {vv r sz' : Int32} {vs' : List Value} (hr : r = ((2 : Int32) * own_pr8 (own_T3 vv) (3 : Int32) 7 ((((3 : Int32) * (-1640531527 : Int32)).toUInt32 >>> (((28 : Int32) + (1 : Int32)) &&& 31).toUInt32).toInt32))) (h : (own_T3 vv).getD r.toNatClampNeg (.int (0 : Int32)) = .int (-1 : Int32) → sz' = ((3 : Int32) + (1 : Int32)) ∧ vs' = (((own_T3 vv).set r.toNatClampNeg (.int (3 : Int32))).set (r + (1 : Int32)).toNatClampNeg (.int vv))) : sz' = (4 : Int32) ∧ vs' = own_T4 vv := by
  have q := own_sc3 hr
  rw [q] at h
  obtain ⟨a, b⟩ := h (own_gd3 vv)
  exact ⟨a.trans (by decide), b.trans (own_st3 vv)⟩
theorem own_len4 (vv : Int32) : (own_T4 vv).length = 16 := rfl
theorem own_hs4 : ¬ ((3 : Int32) * ((16 : Int32) / (2 : Int32))) < ((4 : Int32) * ((4 : Int32) + (1 : Int32))) := by decide
theorem own_gd4 (vv : Int32) : (own_T4 vv).getD (6 : Int32).toNatClampNeg (.int (0 : Int32)) = .int (-1 : Int32) := by
  rw [show (6 : Int32).toNatClampNeg = 6 from by decide]; rfl
theorem own_st4 (vv : Int32) : (((own_T4 vv).set (6 : Int32).toNatClampNeg (.int (4 : Int32))).set ((6 : Int32) + (1 : Int32)).toNatClampNeg (.int vv)) = own_T5 vv := by
  rw [show (6 : Int32).toNatClampNeg = 6 from by decide, show ((6 : Int32) + (1 : Int32)).toNatClampNeg = 7 from by decide]; rfl
theorem own_p4 {vv r sz' : Int32} {vs' : List Value} (hr : r = ((2 : Int32) * own_pr8 (own_T4 vv) (4 : Int32) 7 ((((4 : Int32) * (-1640531527 : Int32)).toUInt32 >>> (((28 : Int32) + (1 : Int32)) &&& 31).toUInt32).toInt32))) (h : (own_T4 vv).getD r.toNatClampNeg (.int (0 : Int32)) = .int (-1 : Int32) → sz' = ((4 : Int32) + (1 : Int32)) ∧ vs' = (((own_T4 vv).set r.toNatClampNeg (.int (4 : Int32))).set (r + (1 : Int32)).toNatClampNeg (.int vv))) : sz' = (5 : Int32) ∧ vs' = own_T5 vv := by
  have q := own_sc4 hr
  rw [q] at h
  obtain ⟨a, b⟩ := h (own_gd4 vv)
  exact ⟨a.trans (by decide), b.trans (own_st4 vv)⟩
theorem own_len5 (vv : Int32) : (own_T5 vv).length = 16 := rfl
theorem own_hs5 : ¬ ((3 : Int32) * ((16 : Int32) / (2 : Int32))) < ((4 : Int32) * ((5 : Int32) + (1 : Int32))) := by decide
theorem own_gd5 (vv : Int32) : (own_T5 vv).getD (4 : Int32).toNatClampNeg (.int (0 : Int32)) = .int (-1 : Int32) := by
  rw [show (4 : Int32).toNatClampNeg = 4 from by decide]; rfl
theorem own_st5 (vv : Int32) : (((own_T5 vv).set (4 : Int32).toNatClampNeg (.int (5 : Int32))).set ((4 : Int32) + (1 : Int32)).toNatClampNeg (.int vv)) = own_T6 vv := by
  rw [show (4 : Int32).toNatClampNeg = 4 from by decide, show ((4 : Int32) + (1 : Int32)).toNatClampNeg = 5 from by decide]; rfl
theorem own_p5 {vv r sz' : Int32} {vs' : List Value} (hr : r = ((2 : Int32) * own_pr8 (own_T5 vv) (5 : Int32) 7 ((((5 : Int32) * (-1640531527 : Int32)).toUInt32 >>> (((28 : Int32) + (1 : Int32)) &&& 31).toUInt32).toInt32))) (h : (own_T5 vv).getD r.toNatClampNeg (.int (0 : Int32)) = .int (-1 : Int32) → sz' = ((5 : Int32) + (1 : Int32)) ∧ vs' = (((own_T5 vv).set r.toNatClampNeg (.int (5 : Int32))).set (r + (1 : Int32)).toNatClampNeg (.int vv))) : sz' = (6 : Int32) ∧ vs' = own_T6 vv := by
  have q := own_sc5 hr
  rw [q] at h
  obtain ⟨a, b⟩ := h (own_gd5 vv)
  exact ⟨a.trans (by decide), b.trans (own_st5 vv)⟩
theorem own_b80 : ((16 : Int64) + ((4 : Int64) * ((16 : Int32).toInt64))) = (80 : Int64) := by decide
theorem own_b144 : ((16 : Int64) + ((4 : Int64) * ((32 : Int32).toInt64))) = (144 : Int64) := by decide
theorem dmxr_0 : decode jdk_29_method_65_code 0 = .ok (.iload_n 0, 1) := by decide +kernel
theorem dmxr_1 : decode jdk_29_method_65_code 1 = .ok (.iload_n 1, 1) := by decide +kernel
theorem dmxr_2 : decode jdk_29_method_65_code 2 = .ok (.if_icmp .lt 7, 3) := by decide +kernel
theorem dmxr_9 : decode jdk_29_method_65_code 9 = .ok (.iload_n 1, 1) := by decide +kernel
theorem dmxr_10 : decode jdk_29_method_65_code 10 = .ok (.ireturn, 1) := by decide +kernel
theorem efmxr (m : MethodId) (x0 : Int32) (x1 : Int32) : entryFrame m #[(.int x0), (.int x1)] 2 = mkF m 0 #[.val (.int x0), .val (.int x1)] [] := by first | (simp [entryFrame, mkF, argsToLocals, Value.category]; done) | rfl
def Qmxr (Z : State) (x0 : Int32) (x1 : Int32) (h0 : Heap) (n0 : Nat) (v : Option Value) (h : Heap) (L : List Loc) : Prop := v = some (.int x1) ∧ Fr n0 L ∧ h = h0
set_option maxRecDepth 65536 in
set_option maxHeartbeats 40000000 in
theorem rmmxr (l : Launch) (Z : State) (a0 : Array Value) (hw : ∀ d ∈ tables_1, d.before a0 Z = true) (ws : List Jvm.Cond) (x0 : Int32) (x1 : Int32) (h0 : Heap) (n0 : Nat) (Z0 : n0 ≤ h0.size) (hlt : x0 < x1) :
    MetFree l (⟨"java/lang/Math", "max", "(II)I"⟩ : MethodName) (head1 (Jvm.Cond.code (⟨"java/lang/Math", "max", "(II)I"⟩ : MethodName) jdk_29_method_65_code 2 (some .int) :: ws) ({ frames := 0, cells := 0, slots := 0, locals := 0 } : Room)) (fun a U => a = #[(.int x0), (.int x1)] ∧ Z.Warmed39 U.vm ∧ U.heap = h0) (fun _ _ _ _ _ => True) (fun _ U o U' => ∃ v L, o = .returned v ∧ Qmxr Z x0 x1 h0 n0 v U'.heap L ∧ FrameEnd U o U' L ({ frames := 0, cells := 0, slots := 0, locals := 0 } : Room).cells ({ frames := 0, cells := 0, slots := 0, locals := 0 } : Room).slots) := by
  refine MetFree.of_bodySF (Jvm.Free.JP.mathPlain rfl (by decide +kernel)) hisR ?_
  intro p e s m args below meth c s₁ Bd hml0 hP hK
  obtain ⟨rfl, hZ, hh⟩ := hP
  have hx := Bd.exec
  have hby := Bd.bytes
  have hml : c.maxLocals = 2 := hml0
  have hown : s.vm.findClass "java/lang/Math" = some m.cls := findClass_of_methodNamed Bd.named
  have hnm := (name_of_methodNamed Bd.named Bd.method).1
  have X0 : Stand p l e ({ frames := 0, cells := 0, slots := 0, locals := 0 } : Room) s m #[(.int x0), (.int x1)] below meth c s₁ [] 0 0 := Stand.of_body Bd
  have e0 : s₁.heap = h0 := by rw [← hh, Bd.state]; rfl
  have N0 := Fr.nil n0
  have pre0 : ∀ t, Steps p.tables e below (s₁.setTop (mkF m 0 #[.val (.int x0), .val (.int x1)] [])) t → Steps p.tables e below (s₁.setTop (entryFrame m #[(.int x0), (.int x1)] 2)) t := fun t k => castTop (efmxr m x0 x1) k
  obtain ⟨S0, hS0⟩ : ∃ z, z = (s₁.setTop (entryFrame m #[(.int x0), (.int x1)] 2)) := ⟨_, rfl⟩
  rw [← hS0] at pre0
  have p1 : ∀ t, own_W p e below m s₁ 10 #[.val (.int x0), .val (.int x1)] [(.int x1)] t → Steps p.tables e below S0 t := fun t k => pre0 t (by
    show own_W p e below m s₁ 0 #[.val (.int x0), .val (.int x1)] [] _
    refine XS.iloadN X0.here hx rfl (hb hby dmxr_0) rfl ?_
    refine XS.iloadN X0.here hx rfl (hb hby dmxr_1) rfl ?_
    refine XS.icmpYes X0.here hx rfl (pc0 := 2) (pc' := 9) rfl (hb hby dmxr_2) rfl ((tlt (hlt)).1) (by decide) (by decide) ?_
    refine XS.iloadN X0.here hx rfl (hb hby dmxr_9) rfl ?_
    exact k)
  subst hS0
  obtain ⟨fs, hr, hrun, hended, hW, hsame⟩ := X0.leave (v := some (.int x1)) (fun h => by rw [Bd.returns] at h; cases h)
  refine ⟨_, _, p1 _ ?_, hrun, hended, _, _, rfl, ?_, ⟨_, rfl⟩, hW, hsame.mono (by decide) (by decide)⟩
  · show own_W p e below m s₁ 10 #[.val (.int x0), .val (.int x1)] [(.int x1)] _
    exact retI X0 hx Bd.returns (hb hby dmxr_10) hr
  · show Qmxr Z x0 x1 h0 n0 _ s₁.heap _
    rw [e0]
    exact ⟨rfl, N0, rfl⟩
theorem dmxg_0 : decode jdk_29_method_65_code 0 = .ok (.iload_n 0, 1) := by decide +kernel
theorem dmxg_1 : decode jdk_29_method_65_code 1 = .ok (.iload_n 1, 1) := by decide +kernel
theorem dmxg_2 : decode jdk_29_method_65_code 2 = .ok (.if_icmp .lt 7, 3) := by decide +kernel
theorem dmxg_5 : decode jdk_29_method_65_code 5 = .ok (.iload_n 0, 1) := by decide +kernel
theorem dmxg_6 : decode jdk_29_method_65_code 6 = .ok (.goto 4, 3) := by decide +kernel
theorem dmxg_9 : decode jdk_29_method_65_code 9 = .ok (.iload_n 1, 1) := by decide +kernel
theorem dmxg_10 : decode jdk_29_method_65_code 10 = .ok (.ireturn, 1) := by decide +kernel
theorem efmxg (m : MethodId) (x0 : Int32) (x1 : Int32) : entryFrame m #[(.int x0), (.int x1)] 2 = mkF m 0 #[.val (.int x0), .val (.int x1)] [] := by first | (simp [entryFrame, mkF, argsToLocals, Value.category]; done) | rfl
def Qmxg (Z : State) (x0 : Int32) (x1 : Int32) (h0 : Heap) (n0 : Nat) (v : Option Value) (h : Heap) (L : List Loc) : Prop := ∃ r : Int32, v = some (.int r) ∧ Fr n0 L ∧ h = h0 ∧ (x0 < x1 → r = x1)
set_option maxRecDepth 65536 in
set_option maxHeartbeats 40000000 in
theorem rmmxg (l : Launch) (Z : State) (a0 : Array Value) (hw : ∀ d ∈ tables_1, d.before a0 Z = true) (ws : List Jvm.Cond) (x0 : Int32) (x1 : Int32) (h0 : Heap) (n0 : Nat) (Z0 : n0 ≤ h0.size) :
    MetFree l (⟨"java/lang/Math", "max", "(II)I"⟩ : MethodName) (head1 (Jvm.Cond.code (⟨"java/lang/Math", "max", "(II)I"⟩ : MethodName) jdk_29_method_65_code 2 (some .int) :: ws) ({ frames := 0, cells := 0, slots := 0, locals := 0 } : Room)) (fun a U => a = #[(.int x0), (.int x1)] ∧ Z.Warmed39 U.vm ∧ U.heap = h0) (fun _ _ _ _ _ => True) (fun _ U o U' => ∃ v L, o = .returned v ∧ Qmxg Z x0 x1 h0 n0 v U'.heap L ∧ FrameEnd U o U' L ({ frames := 0, cells := 0, slots := 0, locals := 0 } : Room).cells ({ frames := 0, cells := 0, slots := 0, locals := 0 } : Room).slots) := by
  refine MetFree.of_bodySF (Jvm.Free.JP.mathPlain rfl (by decide +kernel)) hisR ?_
  intro p e s m args below meth c s₁ Bd hml0 hP hK
  obtain ⟨rfl, hZ, hh⟩ := hP
  have hx := Bd.exec
  have hby := Bd.bytes
  have hml : c.maxLocals = 2 := hml0
  have hown : s.vm.findClass "java/lang/Math" = some m.cls := findClass_of_methodNamed Bd.named
  have hnm := (name_of_methodNamed Bd.named Bd.method).1
  have X0 : Stand p l e ({ frames := 0, cells := 0, slots := 0, locals := 0 } : Room) s m #[(.int x0), (.int x1)] below meth c s₁ [] 0 0 := Stand.of_body Bd
  have e0 : s₁.heap = h0 := by rw [← hh, Bd.state]; rfl
  have N0 := Fr.nil n0
  have pre0 : ∀ t, Steps p.tables e below (s₁.setTop (mkF m 0 #[.val (.int x0), .val (.int x1)] [])) t → Steps p.tables e below (s₁.setTop (entryFrame m #[(.int x0), (.int x1)] 2)) t := fun t k => castTop (efmxg m x0 x1) k
  obtain ⟨S0, hS0⟩ : ∃ z, z = (s₁.setTop (entryFrame m #[(.int x0), (.int x1)] 2)) := ⟨_, rfl⟩
  rw [← hS0] at pre0
  have p1 : ∀ t, own_W p e below m s₁ 2 #[.val (.int x0), .val (.int x1)] [(.int x1), (.int x0)] t → Steps p.tables e below S0 t := fun t k => pre0 t (by
    show own_W p e below m s₁ 0 #[.val (.int x0), .val (.int x1)] [] _
    refine XS.iloadN X0.here hx rfl (hb hby dmxg_0) rfl ?_
    refine XS.iloadN X0.here hx rfl (hb hby dmxg_1) rfl ?_
    exact k)
  by_cases hc2 : x0 < x1
  · have p2 : ∀ t, own_W p e below m s₁ 10 #[.val (.int x0), .val (.int x1)] [(.int x1)] t → Steps p.tables e below S0 t := fun t k => p1 t (by
      show own_W p e below m s₁ 2 #[.val (.int x0), .val (.int x1)] [(.int x1), (.int x0)] _
      refine XS.icmpYes X0.here hx rfl (pc0 := 2) (pc' := 9) rfl (hb hby dmxg_2) rfl ((tlt (hc2)).1) (by decide) (by decide) ?_
      refine XS.iloadN X0.here hx rfl (hb hby dmxg_9) rfl ?_
      exact k)
    subst hS0
    obtain ⟨fs, hr, hrun, hended, hW, hsame⟩ := X0.leave (v := some (.int x1)) (fun h => by rw [Bd.returns] at h; cases h)
    refine ⟨_, _, p2 _ ?_, hrun, hended, _, _, rfl, ?_, ⟨_, rfl⟩, hW, hsame.mono (by decide) (by decide)⟩
    · show own_W p e below m s₁ 10 #[.val (.int x0), .val (.int x1)] [(.int x1)] _
      exact retI X0 hx Bd.returns (hb hby dmxg_10) hr
    · show Qmxg Z x0 x1 h0 n0 _ s₁.heap _
      rw [e0]
      exact ⟨_, rfl, N0, rfl, fun _ => rfl⟩
  · have p3 : ∀ t, own_W p e below m s₁ 10 #[.val (.int x0), .val (.int x1)] [(.int x0)] t → Steps p.tables e below S0 t := fun t k => p1 t (by
      show own_W p e below m s₁ 2 #[.val (.int x0), .val (.int x1)] [(.int x1), (.int x0)] _
      refine XS.icmpNo X0.here hx rfl (hb hby dmxg_2) rfl ((flt (hc2)).1) ?_
      refine XS.iloadN X0.here hx rfl (hb hby dmxg_5) rfl ?_
      refine XS.goto X0.here hx rfl (pc0 := 6) (pc' := 10) rfl (hb hby dmxg_6) (by decide) (by decide) ?_
      exact k)
    subst hS0
    obtain ⟨fs, hr, hrun, hended, hW, hsame⟩ := X0.leave (v := some (.int x0)) (fun h => by rw [Bd.returns] at h; cases h)
    refine ⟨_, _, p3 _ ?_, hrun, hended, _, _, rfl, ?_, ⟨_, rfl⟩, hW, hsame.mono (by decide) (by decide)⟩
    · show own_W p e below m s₁ 10 #[.val (.int x0), .val (.int x1)] [(.int x0)] _
      exact retI X0 hx Bd.returns (hb hby dmxg_10) hr
    · show Qmxg Z x0 x1 h0 n0 _ s₁.heap _
      rw [e0]
      exact ⟨_, rfl, N0, rfl, fun q => absurd q hc2⟩
theorem dmng_0 : decode jdk_29_method_69_code 0 = .ok (.iload_n 0, 1) := by decide +kernel
theorem dmng_1 : decode jdk_29_method_69_code 1 = .ok (.iload_n 1, 1) := by decide +kernel
theorem dmng_2 : decode jdk_29_method_69_code 2 = .ok (.if_icmp .gt 7, 3) := by decide +kernel
theorem dmng_5 : decode jdk_29_method_69_code 5 = .ok (.iload_n 0, 1) := by decide +kernel
theorem dmng_6 : decode jdk_29_method_69_code 6 = .ok (.goto 4, 3) := by decide +kernel
theorem dmng_9 : decode jdk_29_method_69_code 9 = .ok (.iload_n 1, 1) := by decide +kernel
theorem dmng_10 : decode jdk_29_method_69_code 10 = .ok (.ireturn, 1) := by decide +kernel
theorem efmng (m : MethodId) (x0 : Int32) (x1 : Int32) : entryFrame m #[(.int x0), (.int x1)] 2 = mkF m 0 #[.val (.int x0), .val (.int x1)] [] := by first | (simp [entryFrame, mkF, argsToLocals, Value.category]; done) | rfl
def Qmng (Z : State) (x0 : Int32) (x1 : Int32) (h0 : Heap) (n0 : Nat) (v : Option Value) (h : Heap) (L : List Loc) : Prop := ∃ r : Int32, v = some (.int r) ∧ Fr n0 L ∧ h = h0
set_option maxRecDepth 65536 in
set_option maxHeartbeats 40000000 in
theorem rmmng (l : Launch) (Z : State) (a0 : Array Value) (hw : ∀ d ∈ tables_1, d.before a0 Z = true) (ws : List Jvm.Cond) (x0 : Int32) (x1 : Int32) (h0 : Heap) (n0 : Nat) (Z0 : n0 ≤ h0.size) :
    MetFree l (⟨"java/lang/Math", "min", "(II)I"⟩ : MethodName) (head1 (Jvm.Cond.code (⟨"java/lang/Math", "min", "(II)I"⟩ : MethodName) jdk_29_method_69_code 2 (some .int) :: ws) ({ frames := 0, cells := 0, slots := 0, locals := 0 } : Room)) (fun a U => a = #[(.int x0), (.int x1)] ∧ Z.Warmed39 U.vm ∧ U.heap = h0) (fun _ _ _ _ _ => True) (fun _ U o U' => ∃ v L, o = .returned v ∧ Qmng Z x0 x1 h0 n0 v U'.heap L ∧ FrameEnd U o U' L ({ frames := 0, cells := 0, slots := 0, locals := 0 } : Room).cells ({ frames := 0, cells := 0, slots := 0, locals := 0 } : Room).slots) := by
  refine MetFree.of_bodySF (Jvm.Free.JP.mathPlain rfl (by decide +kernel)) hisR ?_
  intro p e s m args below meth c s₁ Bd hml0 hP hK
  obtain ⟨rfl, hZ, hh⟩ := hP
  have hx := Bd.exec
  have hby := Bd.bytes
  have hml : c.maxLocals = 2 := hml0
  have hown : s.vm.findClass "java/lang/Math" = some m.cls := findClass_of_methodNamed Bd.named
  have hnm := (name_of_methodNamed Bd.named Bd.method).1
  have X0 : Stand p l e ({ frames := 0, cells := 0, slots := 0, locals := 0 } : Room) s m #[(.int x0), (.int x1)] below meth c s₁ [] 0 0 := Stand.of_body Bd
  have e0 : s₁.heap = h0 := by rw [← hh, Bd.state]; rfl
  have N0 := Fr.nil n0
  have pre0 : ∀ t, Steps p.tables e below (s₁.setTop (mkF m 0 #[.val (.int x0), .val (.int x1)] [])) t → Steps p.tables e below (s₁.setTop (entryFrame m #[(.int x0), (.int x1)] 2)) t := fun t k => castTop (efmng m x0 x1) k
  obtain ⟨S0, hS0⟩ : ∃ z, z = (s₁.setTop (entryFrame m #[(.int x0), (.int x1)] 2)) := ⟨_, rfl⟩
  rw [← hS0] at pre0
  have p1 : ∀ t, own_W p e below m s₁ 2 #[.val (.int x0), .val (.int x1)] [(.int x1), (.int x0)] t → Steps p.tables e below S0 t := fun t k => pre0 t (by
    show own_W p e below m s₁ 0 #[.val (.int x0), .val (.int x1)] [] _
    refine XS.iloadN X0.here hx rfl (hb hby dmng_0) rfl ?_
    refine XS.iloadN X0.here hx rfl (hb hby dmng_1) rfl ?_
    exact k)
  by_cases hc2 : x1 < x0
  · have p2 : ∀ t, own_W p e below m s₁ 10 #[.val (.int x0), .val (.int x1)] [(.int x1)] t → Steps p.tables e below S0 t := fun t k => p1 t (by
      show own_W p e below m s₁ 2 #[.val (.int x0), .val (.int x1)] [(.int x1), (.int x0)] _
      refine XS.icmpYes X0.here hx rfl (pc0 := 2) (pc' := 9) rfl (hb hby dmng_2) rfl ((tlt (hc2)).2.2.1) (by decide) (by decide) ?_
      refine XS.iloadN X0.here hx rfl (hb hby dmng_9) rfl ?_
      exact k)
    subst hS0
    obtain ⟨fs, hr, hrun, hended, hW, hsame⟩ := X0.leave (v := some (.int x1)) (fun h => by rw [Bd.returns] at h; cases h)
    refine ⟨_, _, p2 _ ?_, hrun, hended, _, _, rfl, ?_, ⟨_, rfl⟩, hW, hsame.mono (by decide) (by decide)⟩
    · show own_W p e below m s₁ 10 #[.val (.int x0), .val (.int x1)] [(.int x1)] _
      exact retI X0 hx Bd.returns (hb hby dmng_10) hr
    · show Qmng Z x0 x1 h0 n0 _ s₁.heap _
      rw [e0]
      exact ⟨_, rfl, N0, rfl⟩
  · have p3 : ∀ t, own_W p e below m s₁ 10 #[.val (.int x0), .val (.int x1)] [(.int x0)] t → Steps p.tables e below S0 t := fun t k => p1 t (by
      show own_W p e below m s₁ 2 #[.val (.int x0), .val (.int x1)] [(.int x1), (.int x0)] _
      refine XS.icmpNo X0.here hx rfl (hb hby dmng_2) rfl ((flt (hc2)).2.2.1) ?_
      refine XS.iloadN X0.here hx rfl (hb hby dmng_5) rfl ?_
      refine XS.goto X0.here hx rfl (pc0 := 6) (pc' := 10) rfl (hb hby dmng_6) (by decide) (by decide) ?_
      exact k)
    subst hS0
    obtain ⟨fs, hr, hrun, hended, hW, hsame⟩ := X0.leave (v := some (.int x0)) (fun h => by rw [Bd.returns] at h; cases h)
    refine ⟨_, _, p3 _ ?_, hrun, hended, _, _, rfl, ?_, ⟨_, rfl⟩, hW, hsame.mono (by decide) (by decide)⟩
    · show own_W p e below m s₁ 10 #[.val (.int x0), .val (.int x1)] [(.int x0)] _
      exact retI X0 hx Bd.returns (hb hby dmng_10) hr
    · show Qmng Z x0 x1 h0 n0 _ s₁.heap _
      rw [e0]
      exact ⟨_, rfl, N0, rfl⟩
theorem dmjl_0 : decode jdk_29_method_66_code 0 = .ok (.lload_n 0, 1) := by decide +kernel
theorem dmjl_1 : decode jdk_29_method_66_code 1 = .ok (.lload_n 2, 1) := by decide +kernel
theorem dmjl_2 : decode jdk_29_method_66_code 2 = .ok (.lcmp, 1) := by decide +kernel
theorem dmjl_3 : decode jdk_29_method_66_code 3 = .ok (.ifCond .lt 7, 3) := by decide +kernel
theorem dmjl_6 : decode jdk_29_method_66_code 6 = .ok (.lload_n 0, 1) := by decide +kernel
theorem dmjl_7 : decode jdk_29_method_66_code 7 = .ok (.goto 4, 3) := by decide +kernel
theorem dmjl_11 : decode jdk_29_method_66_code 11 = .ok (.lreturn, 1) := by decide +kernel
theorem efmjl (m : MethodId) (x0 : Int64) (x1 : Int64) : entryFrame m #[(.long x0), (.long x1)] 4 = mkF m 0 #[.val (.long x0), .second, .val (.long x1), .second] [] := by first | (simp [entryFrame, mkF, argsToLocals, Value.category]; done) | rfl
def Qmjl (Z : State) (x0 : Int64) (x1 : Int64) (h0 : Heap) (n0 : Nat) (v : Option Value) (h : Heap) (L : List Loc) : Prop := v = some (.long x0) ∧ Fr n0 L ∧ h = h0
set_option maxRecDepth 65536 in
set_option maxHeartbeats 40000000 in
theorem rmmjl (l : Launch) (Z : State) (a0 : Array Value) (hw : ∀ d ∈ tables_1, d.before a0 Z = true) (ws : List Jvm.Cond) (x0 : Int64) (x1 : Int64) (h0 : Heap) (n0 : Nat) (Z0 : n0 ≤ h0.size) (hnl : ¬ lcmpW x0 x1 < (0 : Int32)) :
    MetFree l (⟨"java/lang/Math", "max", "(JJ)J"⟩ : MethodName) (head1 (Jvm.Cond.code (⟨"java/lang/Math", "max", "(JJ)J"⟩ : MethodName) jdk_29_method_66_code 4 (some .long) :: ws) ({ frames := 0, cells := 0, slots := 0, locals := 0 } : Room)) (fun a U => a = #[(.long x0), (.long x1)] ∧ Z.Warmed39 U.vm ∧ U.heap = h0) (fun _ _ _ _ _ => True) (fun _ U o U' => ∃ v L, o = .returned v ∧ Qmjl Z x0 x1 h0 n0 v U'.heap L ∧ FrameEnd U o U' L ({ frames := 0, cells := 0, slots := 0, locals := 0 } : Room).cells ({ frames := 0, cells := 0, slots := 0, locals := 0 } : Room).slots) := by
  refine MetFree.of_bodySF (Jvm.Free.JP.mathPlain rfl (by decide +kernel)) hisR ?_
  intro p e s m args below meth c s₁ Bd hml0 hP hK
  obtain ⟨rfl, hZ, hh⟩ := hP
  have hx := Bd.exec
  have hby := Bd.bytes
  have hml : c.maxLocals = 4 := hml0
  have hown : s.vm.findClass "java/lang/Math" = some m.cls := findClass_of_methodNamed Bd.named
  have hnm := (name_of_methodNamed Bd.named Bd.method).1
  have X0 : Stand p l e ({ frames := 0, cells := 0, slots := 0, locals := 0 } : Room) s m #[(.long x0), (.long x1)] below meth c s₁ [] 0 0 := Stand.of_body Bd
  have e0 : s₁.heap = h0 := by rw [← hh, Bd.state]; rfl
  have N0 := Fr.nil n0
  have pre0 : ∀ t, Steps p.tables e below (s₁.setTop (mkF m 0 #[.val (.long x0), .second, .val (.long x1), .second] [])) t → Steps p.tables e below (s₁.setTop (entryFrame m #[(.long x0), (.long x1)] 4)) t := fun t k => castTop (efmjl m x0 x1) k
  obtain ⟨S0, hS0⟩ : ∃ z, z = (s₁.setTop (entryFrame m #[(.long x0), (.long x1)] 4)) := ⟨_, rfl⟩
  rw [← hS0] at pre0
  have p1 : ∀ t, own_W p e below m s₁ 11 #[.val (.long x0), .second, .val (.long x1), .second] [(.long x0)] t → Steps p.tables e below S0 t := fun t k => pre0 t (by
    show own_W p e below m s₁ 0 #[.val (.long x0), .second, .val (.long x1), .second] [] _
    refine XS.lloadN X0.here hx rfl (hb hby dmjl_0) rfl ?_
    refine XS.lloadN X0.here hx rfl (hb hby dmjl_1) rfl ?_
    refine XS.lcmp X0.here hx rfl (hb hby dmjl_2) rfl ?_
    refine XS.ifNo X0.here hx rfl (hb hby dmjl_3) rfl ((if0 _ _).trans (flt (hnl)).1) ?_
    refine XS.lloadN X0.here hx rfl (hb hby dmjl_6) rfl ?_
    refine XS.goto X0.here hx rfl (pc0 := 7) (pc' := 11) rfl (hb hby dmjl_7) (by decide) (by decide) ?_
    exact k)
  subst hS0
  obtain ⟨fs, hr, hrun, hended, hW, hsame⟩ := X0.leave (v := some (.long x0)) (fun h => by rw [Bd.returns] at h; cases h)
  refine ⟨_, _, p1 _ ?_, hrun, hended, _, _, rfl, ?_, ⟨_, rfl⟩, hW, hsame.mono (by decide) (by decide)⟩
  · show own_W p e below m s₁ 11 #[.val (.long x0), .second, .val (.long x1), .second] [(.long x0)] _
    exact retOut X0 hx Bd.returns rfl (Or.inr (Or.inl ⟨rfl, rfl, _, rfl⟩)) (hb hby dmjl_11) hr
  · show Qmjl Z x0 x1 h0 n0 _ s₁.heap _
    rw [e0]
    exact ⟨rfl, N0, rfl⟩
theorem dtie_0 : decode jdk_29_method_43_code 0 = .ok (.lload_n 0, 1) := by decide +kernel
theorem dtie_1 : decode jdk_29_method_43_code 1 = .ok (.l2i, 1) := by decide +kernel
theorem dtie_2 : decode jdk_29_method_43_code 2 = .ok (.i2l, 1) := by decide +kernel
theorem dtie_3 : decode jdk_29_method_43_code 3 = .ok (.lload_n 0, 1) := by decide +kernel
theorem dtie_4 : decode jdk_29_method_43_code 4 = .ok (.lcmp, 1) := by decide +kernel
theorem dtie_5 : decode jdk_29_method_43_code 5 = .ok (.ifCond .eq 13, 3) := by decide +kernel
theorem dtie_18 : decode jdk_29_method_43_code 18 = .ok (.lload_n 0, 1) := by decide +kernel
theorem dtie_19 : decode jdk_29_method_43_code 19 = .ok (.l2i, 1) := by decide +kernel
theorem dtie_20 : decode jdk_29_method_43_code 20 = .ok (.ireturn, 1) := by decide +kernel
theorem eftie (m : MethodId) (x0 : Int64) : entryFrame m #[(.long x0)] 2 = mkF m 0 #[.val (.long x0), .second] [] := by first | (simp [entryFrame, mkF, argsToLocals, Value.category]; done) | rfl
def Qtie (Z : State) (x0 : Int64) (h0 : Heap) (n0 : Nat) (v : Option Value) (h : Heap) (L : List Loc) : Prop := v = some (.int (x0.toInt32)) ∧ Fr n0 L ∧ h = h0
set_option maxRecDepth 65536 in
set_option maxHeartbeats 40000000 in
theorem rmtie (l : Launch) (Z : State) (a0 : Array Value) (hw : ∀ d ∈ tables_1, d.before a0 Z = true) (ws : List Jvm.Cond) (x0 : Int64) (h0 : Heap) (n0 : Nat) (Z0 : n0 ≤ h0.size) (hti : ((x0.toInt32).toInt64) = x0) :
    MetFree l (⟨"java/lang/Math", "toIntExact", "(J)I"⟩ : MethodName) (head1 (Jvm.Cond.code (⟨"java/lang/Math", "toIntExact", "(J)I"⟩ : MethodName) jdk_29_method_43_code 2 (some .int) :: ws) ({ frames := 0, cells := 0, slots := 0, locals := 0 } : Room)) (fun a U => a = #[(.long x0)] ∧ Z.Warmed39 U.vm ∧ U.heap = h0) (fun _ _ _ _ _ => True) (fun _ U o U' => ∃ v L, o = .returned v ∧ Qtie Z x0 h0 n0 v U'.heap L ∧ FrameEnd U o U' L ({ frames := 0, cells := 0, slots := 0, locals := 0 } : Room).cells ({ frames := 0, cells := 0, slots := 0, locals := 0 } : Room).slots) := by
  refine MetFree.of_bodySF (Jvm.Free.JP.mathPlain rfl (by decide +kernel)) hisR ?_
  intro p e s m args below meth c s₁ Bd hml0 hP hK
  obtain ⟨rfl, hZ, hh⟩ := hP
  have hx := Bd.exec
  have hby := Bd.bytes
  have hml : c.maxLocals = 2 := hml0
  have hown : s.vm.findClass "java/lang/Math" = some m.cls := findClass_of_methodNamed Bd.named
  have hnm := (name_of_methodNamed Bd.named Bd.method).1
  have X0 : Stand p l e ({ frames := 0, cells := 0, slots := 0, locals := 0 } : Room) s m #[(.long x0)] below meth c s₁ [] 0 0 := Stand.of_body Bd
  have e0 : s₁.heap = h0 := by rw [← hh, Bd.state]; rfl
  have N0 := Fr.nil n0
  have pre0 : ∀ t, Steps p.tables e below (s₁.setTop (mkF m 0 #[.val (.long x0), .second] [])) t → Steps p.tables e below (s₁.setTop (entryFrame m #[(.long x0)] 2)) t := fun t k => castTop (eftie m x0) k
  obtain ⟨S0, hS0⟩ : ∃ z, z = (s₁.setTop (entryFrame m #[(.long x0)] 2)) := ⟨_, rfl⟩
  rw [← hS0] at pre0
  have p1 : ∀ t, own_W p e below m s₁ 20 #[.val (.long x0), .second] [(.int (x0.toInt32))] t → Steps p.tables e below S0 t := fun t k => pre0 t (by
    show own_W p e below m s₁ 0 #[.val (.long x0), .second] [] _
    refine XS.lloadN X0.here hx rfl (hb hby dtie_0) rfl ?_
    refine XS.l2i X0.here hx rfl (hb hby dtie_1) rfl ?_
    refine XS.i2l X0.here hx rfl (hb hby dtie_2) rfl ?_
    refine XS.lloadN X0.here hx rfl (hb hby dtie_3) rfl ?_
    refine XS.lcmp X0.here hx rfl (hb hby dtie_4) rfl ?_
    refine XS.ifYes X0.here hx rfl (pc0 := 5) (pc' := 18) rfl (hb hby dtie_5) rfl ((if0 _ _).trans (teq ((lw_eq _ _).mpr hti)).1) (by decide) (by decide) ?_
    refine XS.lloadN X0.here hx rfl (hb hby dtie_18) rfl ?_
    refine XS.l2i X0.here hx rfl (hb hby dtie_19) rfl ?_
    exact k)
  subst hS0
  obtain ⟨fs, hr, hrun, hended, hW, hsame⟩ := X0.leave (v := some (.int (x0.toInt32))) (fun h => by rw [Bd.returns] at h; cases h)
  refine ⟨_, _, p1 _ ?_, hrun, hended, _, _, rfl, ?_, ⟨_, rfl⟩, hW, hsame.mono (by decide) (by decide)⟩
  · show own_W p e below m s₁ 20 #[.val (.long x0), .second] [(.int (x0.toInt32))] _
    exact retI X0 hx Bd.returns (hb hby dtie_20) hr
  · show Qtie Z x0 h0 n0 _ s₁.heap _
    rw [e0]
    exact ⟨rfl, N0, rfl⟩
theorem drnn_0 : decode jdk_31_method_10_code 0 = .ok (.aload_n 0, 1) := by decide +kernel
theorem drnn_1 : decode jdk_31_method_10_code 1 = .ok (.ifnonnull 11, 3) := by decide +kernel
theorem drnn_12 : decode jdk_31_method_10_code 12 = .ok (.aload_n 0, 1) := by decide +kernel
theorem drnn_13 : decode jdk_31_method_10_code 13 = .ok (.areturn, 1) := by decide +kernel
theorem pnrnn : plainName "java/util/Objects" = true := by first | (simp [plainName, overriddenIn]; done) | decide +kernel
theorem efrnn (m : MethodId) (x0 : Addr) : entryFrame m #[(.ref x0)] 1 = mkF m 0 #[.val (.ref x0)] [] := by first | (simp [entryFrame, mkF, argsToLocals, Value.category]; done) | rfl
def Qrnn (Z : State) (x0 : Addr) (h0 : Heap) (n0 : Nat) (v : Option Value) (h : Heap) (L : List Loc) : Prop := v = some (.ref x0) ∧ Fr n0 L ∧ h = h0
set_option maxRecDepth 65536 in
set_option maxHeartbeats 40000000 in
theorem rmrnn (l : Launch) (Z : State) (a0 : Array Value) (hw : ∀ d ∈ tables_1, d.before a0 Z = true) (ws : List Jvm.Cond) (x0 : Addr) (h0 : Heap) (n0 : Nat) (Z0 : n0 ≤ h0.size) :
    MetFree l (⟨"java/util/Objects", "requireNonNull", "(Ljava/lang/Object;)Ljava/lang/Object;"⟩ : MethodName) (head1 (Jvm.Cond.code (⟨"java/util/Objects", "requireNonNull", "(Ljava/lang/Object;)Ljava/lang/Object;"⟩ : MethodName) jdk_31_method_10_code 1 (some (.object "java/lang/Object")) :: ws) ({ frames := 0, cells := 0, slots := 0, locals := 0 } : Room)) (fun a U => a = #[(.ref x0)] ∧ Z.Warmed39 U.vm ∧ U.heap = h0) (fun _ _ _ _ _ => True) (fun _ U o U' => ∃ v L, o = .returned v ∧ Qrnn Z x0 h0 n0 v U'.heap L ∧ FrameEnd U o U' L ({ frames := 0, cells := 0, slots := 0, locals := 0 } : Room).cells ({ frames := 0, cells := 0, slots := 0, locals := 0 } : Room).slots) := by
  refine MetFree.of_bodySF (plainFor_of_name pnrnn) hisR ?_
  intro p e s m args below meth c s₁ Bd hml0 hP hK
  obtain ⟨rfl, hZ, hh⟩ := hP
  have hx := Bd.exec
  have hby := Bd.bytes
  have hml : c.maxLocals = 1 := hml0
  have hown : s.vm.findClass "java/util/Objects" = some m.cls := findClass_of_methodNamed Bd.named
  have hnm := (name_of_methodNamed Bd.named Bd.method).1
  have X0 : Stand p l e ({ frames := 0, cells := 0, slots := 0, locals := 0 } : Room) s m #[(.ref x0)] below meth c s₁ [] 0 0 := Stand.of_body Bd
  have e0 : s₁.heap = h0 := by rw [← hh, Bd.state]; rfl
  have N0 := Fr.nil n0
  have pre0 : ∀ t, Steps p.tables e below (s₁.setTop (mkF m 0 #[.val (.ref x0)] [])) t → Steps p.tables e below (s₁.setTop (entryFrame m #[(.ref x0)] 1)) t := fun t k => castTop (efrnn m x0) k
  obtain ⟨S0, hS0⟩ : ∃ z, z = (s₁.setTop (entryFrame m #[(.ref x0)] 1)) := ⟨_, rfl⟩
  rw [← hS0] at pre0
  have p1 : ∀ t, own_W p e below m s₁ 13 #[.val (.ref x0)] [(.ref x0)] t → Steps p.tables e below S0 t := fun t k => pre0 t (by
    show own_W p e below m s₁ 0 #[.val (.ref x0)] [] _
    refine XS.aloadN X0.here hx rfl (hb hby drnn_0) rfl rfl ?_
    refine XS.ifnonnullYes X0.here hx rfl (pc0 := 1) (pc' := 12) rfl (hb hby drnn_1) rfl (by decide) (by decide) ?_
    refine XS.aloadN X0.here hx rfl (hb hby drnn_12) rfl rfl ?_
    exact k)
  subst hS0
  obtain ⟨fs, hr, hrun, hended, hW, hsame⟩ := X0.leave (v := some (.ref x0)) (fun h => by rw [Bd.returns] at h; cases h)
  refine ⟨_, _, p1 _ ?_, hrun, hended, _, _, rfl, ?_, ⟨_, rfl⟩, hW, hsame.mono (by decide) (by decide)⟩
  · show own_W p e below m s₁ 13 #[.val (.ref x0)] [(.ref x0)] _
    exact retOut X0 hx Bd.returns rfl (Or.inr (Or.inr (Or.inr (Or.inr ⟨rfl, rfl, rfl⟩)))) (hb hby drnn_13) hr
  · show Qrnn Z x0 h0 n0 _ s₁.heap _
    rw [e0]
    exact ⟨rfl, N0, rfl⟩
theorem dnz8_0 : decode jdk_33_method_47_code 0 = .ok (.iload_n 0, 1) := by decide +kernel
theorem dnz8_1 : decode jdk_33_method_47_code 1 = .ok (.ifCond .gt 14, 3) := by decide +kernel
theorem dnz8_15 : decode jdk_33_method_47_code 15 = .ok (.bipush 31, 2) := by decide +kernel
theorem dnz8_17 : decode jdk_33_method_47_code 17 = .ok (.istore_n 1, 1) := by decide +kernel
theorem dnz8_18 : decode jdk_33_method_47_code 18 = .ok (.iload_n 0, 1) := by decide +kernel
theorem dnz8_19 : decode jdk_33_method_47_code 19 = .ok (.ldc_w 264, 3) := by decide +kernel
theorem dnz8_22 : decode jdk_33_method_47_code 22 = .ok (.if_icmp .lt 11, 3) := by decide +kernel
theorem dnz8_33 : decode jdk_33_method_47_code 33 = .ok (.iload_n 0, 1) := by decide +kernel
theorem dnz8_34 : decode jdk_33_method_47_code 34 = .ok (.sipush 256, 3) := by decide +kernel
theorem dnz8_37 : decode jdk_33_method_47_code 37 = .ok (.if_icmp .lt 11, 3) := by decide +kernel
theorem dnz8_48 : decode jdk_33_method_47_code 48 = .ok (.iload_n 0, 1) := by decide +kernel
theorem dnz8_49 : decode jdk_33_method_47_code 49 = .ok (.bipush 16, 2) := by decide +kernel
theorem dnz8_51 : decode jdk_33_method_47_code 51 = .ok (.if_icmp .lt 10, 3) := by decide +kernel
theorem dnz8_61 : decode jdk_33_method_47_code 61 = .ok (.iload_n 0, 1) := by decide +kernel
theorem dnz8_62 : decode jdk_33_method_47_code 62 = .ok (.iconst 4, 1) := by decide +kernel
theorem dnz8_63 : decode jdk_33_method_47_code 63 = .ok (.if_icmp .lt 10, 3) := by decide +kernel
theorem dnz8_66 : decode jdk_33_method_47_code 66 = .ok (.iinc 1 (-2), 3) := by decide +kernel
theorem dnz8_69 : decode jdk_33_method_47_code 69 = .ok (.iload_n 0, 1) := by decide +kernel
theorem dnz8_70 : decode jdk_33_method_47_code 70 = .ok (.iconst 2, 1) := by decide +kernel
theorem dnz8_71 : decode jdk_33_method_47_code 71 = .ok (.iushr, 1) := by decide +kernel
theorem dnz8_72 : decode jdk_33_method_47_code 72 = .ok (.istore_n 0, 1) := by decide +kernel
theorem dnz8_73 : decode jdk_33_method_47_code 73 = .ok (.iload_n 1, 1) := by decide +kernel
theorem dnz8_74 : decode jdk_33_method_47_code 74 = .ok (.iload_n 0, 1) := by decide +kernel
theorem dnz8_75 : decode jdk_33_method_47_code 75 = .ok (.iconst 1, 1) := by decide +kernel
theorem dnz8_76 : decode jdk_33_method_47_code 76 = .ok (.iushr, 1) := by decide +kernel
theorem dnz8_77 : decode jdk_33_method_47_code 77 = .ok (.isub, 1) := by decide +kernel
theorem dnz8_78 : decode jdk_33_method_47_code 78 = .ok (.ireturn, 1) := by decide +kernel
theorem pnnz8 : plainName "java/lang/Integer" = true := by first | (simp [plainName, overriddenIn]; done) | decide +kernel
theorem efnz8 (m : MethodId)  : entryFrame m #[(.int (8 : Int32))] 2 = mkF m 0 #[.val (.int (8 : Int32)), .unset] [] := by first | (simp [entryFrame, mkF, argsToLocals, Value.category]; done) | rfl
def Qnz8 (Z : State)  (h0 : Heap) (n0 : Nat) (v : Option Value) (h : Heap) (L : List Loc) : Prop := v = some (.int (28 : Int32)) ∧ Fr n0 L ∧ h = h0
set_option maxRecDepth 65536 in
set_option maxHeartbeats 40000000 in
theorem rmnz8 (l : Launch) (Z : State) (a0 : Array Value) (hw : ∀ d ∈ tables_1, d.before a0 Z = true) (ws : List Jvm.Cond)  (h0 : Heap) (n0 : Nat) (Z0 : n0 ≤ h0.size) :
    MetFree l (⟨"java/lang/Integer", "numberOfLeadingZeros", "(I)I"⟩ : MethodName) (head1 (Jvm.Cond.code (⟨"java/lang/Integer", "numberOfLeadingZeros", "(I)I"⟩ : MethodName) jdk_33_method_47_code 2 (some .int) :: ws) ({ frames := 0, cells := 0, slots := 0, locals := 0 } : Room)) (fun a U => a = #[(.int (8 : Int32))] ∧ Z.Warmed39 U.vm ∧ U.heap = h0) (fun _ _ _ _ _ => True) (fun _ U o U' => ∃ v L, o = .returned v ∧ Qnz8 Z  h0 n0 v U'.heap L ∧ FrameEnd U o U' L ({ frames := 0, cells := 0, slots := 0, locals := 0 } : Room).cells ({ frames := 0, cells := 0, slots := 0, locals := 0 } : Room).slots) := by
  refine MetFree.of_bodySF (plainFor_of_name pnnz8) hisR ?_
  intro p e s m args below meth c s₁ Bd hml0 hP hK
  obtain ⟨rfl, hZ, hh⟩ := hP
  have hx := Bd.exec
  have hby := Bd.bytes
  have hml : c.maxLocals = 2 := hml0
  have hown : s.vm.findClass "java/lang/Integer" = some m.cls := findClass_of_methodNamed Bd.named
  have hnm := (name_of_methodNamed Bd.named Bd.method).1
  have X0 : Stand p l e ({ frames := 0, cells := 0, slots := 0, locals := 0 } : Room) s m #[(.int (8 : Int32))] below meth c s₁ [] 0 0 := Stand.of_body Bd
  have e0 : s₁.heap = h0 := by rw [← hh, Bd.state]; rfl
  have N0 := Fr.nil n0
  have pre0 : ∀ t, Steps p.tables e below (s₁.setTop (mkF m 0 #[.val (.int (8 : Int32)), .unset] [])) t → Steps p.tables e below (s₁.setTop (entryFrame m #[(.int (8 : Int32))] 2)) t := fun t k => castTop (efnz8 m ) k
  obtain ⟨S0, hS0⟩ : ∃ z, z = (s₁.setTop (entryFrame m #[(.int (8 : Int32))] 2)) := ⟨_, rfl⟩
  rw [← hS0] at pre0
  have p1 : ∀ t, own_W p e below m s₁ 78 #[.val (.int (((8 : Int32).toUInt32 >>> ((2 : Int32) &&& 31).toUInt32).toInt32)), .val (.int ((31 : Int32) + (-2 : Int32)))] [(.int (((31 : Int32) + (-2 : Int32)) - (((((8 : Int32).toUInt32 >>> ((2 : Int32) &&& 31).toUInt32).toInt32).toUInt32 >>> ((1 : Int32) &&& 31).toUInt32).toInt32)))] t → Steps p.tables e below S0 t := fun t k => pre0 t (by
    show own_W p e below m s₁ 0 #[.val (.int (8 : Int32)), .unset] [] _
    refine XS.iloadN X0.here hx rfl (hb hby dnz8_0) rfl ?_
    refine XS.ifYes X0.here hx rfl (pc0 := 1) (pc' := 15) rfl (hb hby dnz8_1) rfl ((if0 _ _).trans (tlt (by decide)).2.2.1) (by decide) (by decide) ?_
    refine XS.bipush X0.here hx rfl (hb hby dnz8_15) ?_
    refine XS.istoreN X0.here hx rfl (hb hby dnz8_17) rfl (l' := #[.val (.int (8 : Int32)), .val (.int (31 : Int32))]) rfl ?_
    refine XS.iloadN X0.here hx rfl (hb hby dnz8_18) rfl ?_
    show own_W p e below m s₁ 19 #[.val (.int (8 : Int32)), .val (.int (31 : Int32))] [(.int (8 : Int32))] _
    refine X0.ldcwInt hx hown (mvT hZ (hw _ (List.mem_of_getElem? (i := 60) rfl))) (g := (mkF m 19 #[.val (.int (8 : Int32)), .val (.int (31 : Int32))] [(.int (8 : Int32))])) rfl (hb hby dnz8_19) _ ?_
    refine XS.icmpYes X0.here hx rfl (pc0 := 22) (pc' := 33) rfl (hb hby dnz8_22) rfl ((tlt (by decide)).1) (by decide) (by decide) ?_
    refine XS.iloadN X0.here hx rfl (hb hby dnz8_33) rfl ?_
    refine XS.sipush X0.here hx rfl (hb hby dnz8_34) ?_
    refine XS.icmpYes X0.here hx rfl (pc0 := 37) (pc' := 48) rfl (hb hby dnz8_37) rfl ((tlt (by decide)).1) (by decide) (by decide) ?_
    refine XS.iloadN X0.here hx rfl (hb hby dnz8_48) rfl ?_
    refine XS.bipush X0.here hx rfl (hb hby dnz8_49) ?_
    refine XS.icmpYes X0.here hx rfl (pc0 := 51) (pc' := 61) rfl (hb hby dnz8_51) rfl ((tlt (by decide)).1) (by decide) (by decide) ?_
    refine XS.iloadN X0.here hx rfl (hb hby dnz8_61) rfl ?_
    refine XS.iconst X0.here hx rfl (hb hby dnz8_62) ?_
    refine XS.icmpNo X0.here hx rfl (hb hby dnz8_63) rfl ((flt (by decide)).1) ?_
    refine XS.iinc X0.here hx rfl (hb hby dnz8_66) rfl (l' := #[.val (.int (8 : Int32)), .val (.int ((31 : Int32) + (-2 : Int32)))]) rfl ?_
    refine XS.iloadN X0.here hx rfl (hb hby dnz8_69) rfl ?_
    refine XS.iconst X0.here hx rfl (hb hby dnz8_70) ?_
    refine XS.iushr X0.here hx rfl (hb hby dnz8_71) rfl ?_
    refine XS.istoreN X0.here hx rfl (hb hby dnz8_72) rfl (l' := #[.val (.int (((8 : Int32).toUInt32 >>> ((2 : Int32) &&& 31).toUInt32).toInt32)), .val (.int ((31 : Int32) + (-2 : Int32)))]) rfl ?_
    refine XS.iloadN X0.here hx rfl (hb hby dnz8_73) rfl ?_
    refine XS.iloadN X0.here hx rfl (hb hby dnz8_74) rfl ?_
    refine XS.iconst X0.here hx rfl (hb hby dnz8_75) ?_
    refine XS.iushr X0.here hx rfl (hb hby dnz8_76) rfl ?_
    refine XS.isub X0.here hx rfl (hb hby dnz8_77) rfl ?_
    exact k)
  subst hS0
  obtain ⟨fs, hr, hrun, hended, hW, hsame⟩ := X0.leave (v := some (.int (((31 : Int32) + (-2 : Int32)) - (((((8 : Int32).toUInt32 >>> ((2 : Int32) &&& 31).toUInt32).toInt32).toUInt32 >>> ((1 : Int32) &&& 31).toUInt32).toInt32)))) (fun h => by rw [Bd.returns] at h; cases h)
  refine ⟨_, _, p1 _ ?_, hrun, hended, _, _, rfl, ?_, ⟨_, rfl⟩, hW, hsame.mono (by decide) (by decide)⟩
  · show own_W p e below m s₁ 78 #[.val (.int (((8 : Int32).toUInt32 >>> ((2 : Int32) &&& 31).toUInt32).toInt32)), .val (.int ((31 : Int32) + (-2 : Int32)))] [(.int (((31 : Int32) + (-2 : Int32)) - (((((8 : Int32).toUInt32 >>> ((2 : Int32) &&& 31).toUInt32).toInt32).toUInt32 >>> ((1 : Int32) &&& 31).toUInt32).toInt32)))] _
    exact retI X0 hx Bd.returns (hb hby dnz8_78) hr
  · show Qnz8 Z  h0 n0 _ s₁.heap _
    rw [e0]
    exact ⟨congrArg (fun z => some (Value.int z)) (by decide : (((31 : Int32) + (-2 : Int32)) - (((((8 : Int32).toUInt32 >>> ((2 : Int32) &&& 31).toUInt32).toInt32).toUInt32 >>> ((1 : Int32) &&& 31).toUInt32).toInt32)) = (28 : Int32)), N0, rfl⟩
theorem dnz16_0 : decode jdk_33_method_47_code 0 = .ok (.iload_n 0, 1) := by decide +kernel
theorem dnz16_1 : decode jdk_33_method_47_code 1 = .ok (.ifCond .gt 14, 3) := by decide +kernel
theorem dnz16_15 : decode jdk_33_method_47_code 15 = .ok (.bipush 31, 2) := by decide +kernel
theorem dnz16_17 : decode jdk_33_method_47_code 17 = .ok (.istore_n 1, 1) := by decide +kernel
theorem dnz16_18 : decode jdk_33_method_47_code 18 = .ok (.iload_n 0, 1) := by decide +kernel
theorem dnz16_19 : decode jdk_33_method_47_code 19 = .ok (.ldc_w 264, 3) := by decide +kernel
theorem dnz16_22 : decode jdk_33_method_47_code 22 = .ok (.if_icmp .lt 11, 3) := by decide +kernel
theorem dnz16_33 : decode jdk_33_method_47_code 33 = .ok (.iload_n 0, 1) := by decide +kernel
theorem dnz16_34 : decode jdk_33_method_47_code 34 = .ok (.sipush 256, 3) := by decide +kernel
theorem dnz16_37 : decode jdk_33_method_47_code 37 = .ok (.if_icmp .lt 11, 3) := by decide +kernel
theorem dnz16_48 : decode jdk_33_method_47_code 48 = .ok (.iload_n 0, 1) := by decide +kernel
theorem dnz16_49 : decode jdk_33_method_47_code 49 = .ok (.bipush 16, 2) := by decide +kernel
theorem dnz16_51 : decode jdk_33_method_47_code 51 = .ok (.if_icmp .lt 10, 3) := by decide +kernel
theorem dnz16_54 : decode jdk_33_method_47_code 54 = .ok (.iinc 1 (-4), 3) := by decide +kernel
theorem dnz16_57 : decode jdk_33_method_47_code 57 = .ok (.iload_n 0, 1) := by decide +kernel
theorem dnz16_58 : decode jdk_33_method_47_code 58 = .ok (.iconst 4, 1) := by decide +kernel
theorem dnz16_59 : decode jdk_33_method_47_code 59 = .ok (.iushr, 1) := by decide +kernel
theorem dnz16_60 : decode jdk_33_method_47_code 60 = .ok (.istore_n 0, 1) := by decide +kernel
theorem dnz16_61 : decode jdk_33_method_47_code 61 = .ok (.iload_n 0, 1) := by decide +kernel
theorem dnz16_62 : decode jdk_33_method_47_code 62 = .ok (.iconst 4, 1) := by decide +kernel
theorem dnz16_63 : decode jdk_33_method_47_code 63 = .ok (.if_icmp .lt 10, 3) := by decide +kernel
theorem dnz16_73 : decode jdk_33_method_47_code 73 = .ok (.iload_n 1, 1) := by decide +kernel
theorem dnz16_74 : decode jdk_33_method_47_code 74 = .ok (.iload_n 0, 1) := by decide +kernel
theorem dnz16_75 : decode jdk_33_method_47_code 75 = .ok (.iconst 1, 1) := by decide +kernel
theorem dnz16_76 : decode jdk_33_method_47_code 76 = .ok (.iushr, 1) := by decide +kernel
theorem dnz16_77 : decode jdk_33_method_47_code 77 = .ok (.isub, 1) := by decide +kernel
theorem dnz16_78 : decode jdk_33_method_47_code 78 = .ok (.ireturn, 1) := by decide +kernel
theorem pnnz16 : plainName "java/lang/Integer" = true := by first | (simp [plainName, overriddenIn]; done) | decide +kernel
theorem efnz16 (m : MethodId)  : entryFrame m #[(.int (16 : Int32))] 2 = mkF m 0 #[.val (.int (16 : Int32)), .unset] [] := by first | (simp [entryFrame, mkF, argsToLocals, Value.category]; done) | rfl
def Qnz16 (Z : State)  (h0 : Heap) (n0 : Nat) (v : Option Value) (h : Heap) (L : List Loc) : Prop := v = some (.int (27 : Int32)) ∧ Fr n0 L ∧ h = h0
set_option maxRecDepth 65536 in
set_option maxHeartbeats 40000000 in
theorem rmnz16 (l : Launch) (Z : State) (a0 : Array Value) (hw : ∀ d ∈ tables_1, d.before a0 Z = true) (ws : List Jvm.Cond)  (h0 : Heap) (n0 : Nat) (Z0 : n0 ≤ h0.size) :
    MetFree l (⟨"java/lang/Integer", "numberOfLeadingZeros", "(I)I"⟩ : MethodName) (head1 (Jvm.Cond.code (⟨"java/lang/Integer", "numberOfLeadingZeros", "(I)I"⟩ : MethodName) jdk_33_method_47_code 2 (some .int) :: ws) ({ frames := 0, cells := 0, slots := 0, locals := 0 } : Room)) (fun a U => a = #[(.int (16 : Int32))] ∧ Z.Warmed39 U.vm ∧ U.heap = h0) (fun _ _ _ _ _ => True) (fun _ U o U' => ∃ v L, o = .returned v ∧ Qnz16 Z  h0 n0 v U'.heap L ∧ FrameEnd U o U' L ({ frames := 0, cells := 0, slots := 0, locals := 0 } : Room).cells ({ frames := 0, cells := 0, slots := 0, locals := 0 } : Room).slots) := by
  refine MetFree.of_bodySF (plainFor_of_name pnnz16) hisR ?_
  intro p e s m args below meth c s₁ Bd hml0 hP hK
  obtain ⟨rfl, hZ, hh⟩ := hP
  have hx := Bd.exec
  have hby := Bd.bytes
  have hml : c.maxLocals = 2 := hml0
  have hown : s.vm.findClass "java/lang/Integer" = some m.cls := findClass_of_methodNamed Bd.named
  have hnm := (name_of_methodNamed Bd.named Bd.method).1
  have X0 : Stand p l e ({ frames := 0, cells := 0, slots := 0, locals := 0 } : Room) s m #[(.int (16 : Int32))] below meth c s₁ [] 0 0 := Stand.of_body Bd
  have e0 : s₁.heap = h0 := by rw [← hh, Bd.state]; rfl
  have N0 := Fr.nil n0
  have pre0 : ∀ t, Steps p.tables e below (s₁.setTop (mkF m 0 #[.val (.int (16 : Int32)), .unset] [])) t → Steps p.tables e below (s₁.setTop (entryFrame m #[(.int (16 : Int32))] 2)) t := fun t k => castTop (efnz16 m ) k
  obtain ⟨S0, hS0⟩ : ∃ z, z = (s₁.setTop (entryFrame m #[(.int (16 : Int32))] 2)) := ⟨_, rfl⟩
  rw [← hS0] at pre0
  have p1 : ∀ t, own_W p e below m s₁ 78 #[.val (.int (((16 : Int32).toUInt32 >>> ((4 : Int32) &&& 31).toUInt32).toInt32)), .val (.int ((31 : Int32) + (-4 : Int32)))] [(.int (((31 : Int32) + (-4 : Int32)) - (((((16 : Int32).toUInt32 >>> ((4 : Int32) &&& 31).toUInt32).toInt32).toUInt32 >>> ((1 : Int32) &&& 31).toUInt32).toInt32)))] t → Steps p.tables e below S0 t := fun t k => pre0 t (by
    show own_W p e below m s₁ 0 #[.val (.int (16 : Int32)), .unset] [] _
    refine XS.iloadN X0.here hx rfl (hb hby dnz16_0) rfl ?_
    refine XS.ifYes X0.here hx rfl (pc0 := 1) (pc' := 15) rfl (hb hby dnz16_1) rfl ((if0 _ _).trans (tlt (by decide)).2.2.1) (by decide) (by decide) ?_
    refine XS.bipush X0.here hx rfl (hb hby dnz16_15) ?_
    refine XS.istoreN X0.here hx rfl (hb hby dnz16_17) rfl (l' := #[.val (.int (16 : Int32)), .val (.int (31 : Int32))]) rfl ?_
    refine XS.iloadN X0.here hx rfl (hb hby dnz16_18) rfl ?_
    show own_W p e below m s₁ 19 #[.val (.int (16 : Int32)), .val (.int (31 : Int32))] [(.int (16 : Int32))] _
    refine X0.ldcwInt hx hown (mvT hZ (hw _ (List.mem_of_getElem? (i := 60) rfl))) (g := (mkF m 19 #[.val (.int (16 : Int32)), .val (.int (31 : Int32))] [(.int (16 : Int32))])) rfl (hb hby dnz16_19) _ ?_
    refine XS.icmpYes X0.here hx rfl (pc0 := 22) (pc' := 33) rfl (hb hby dnz16_22) rfl ((tlt (by decide)).1) (by decide) (by decide) ?_
    refine XS.iloadN X0.here hx rfl (hb hby dnz16_33) rfl ?_
    refine XS.sipush X0.here hx rfl (hb hby dnz16_34) ?_
    refine XS.icmpYes X0.here hx rfl (pc0 := 37) (pc' := 48) rfl (hb hby dnz16_37) rfl ((tlt (by decide)).1) (by decide) (by decide) ?_
    refine XS.iloadN X0.here hx rfl (hb hby dnz16_48) rfl ?_
    refine XS.bipush X0.here hx rfl (hb hby dnz16_49) ?_
    refine XS.icmpNo X0.here hx rfl (hb hby dnz16_51) rfl ((flt (by decide)).1) ?_
    refine XS.iinc X0.here hx rfl (hb hby dnz16_54) rfl (l' := #[.val (.int (16 : Int32)), .val (.int ((31 : Int32) + (-4 : Int32)))]) rfl ?_
    refine XS.iloadN X0.here hx rfl (hb hby dnz16_57) rfl ?_
    refine XS.iconst X0.here hx rfl (hb hby dnz16_58) ?_
    refine XS.iushr X0.here hx rfl (hb hby dnz16_59) rfl ?_
    refine XS.istoreN X0.here hx rfl (hb hby dnz16_60) rfl (l' := #[.val (.int (((16 : Int32).toUInt32 >>> ((4 : Int32) &&& 31).toUInt32).toInt32)), .val (.int ((31 : Int32) + (-4 : Int32)))]) rfl ?_
    refine XS.iloadN X0.here hx rfl (hb hby dnz16_61) rfl ?_
    refine XS.iconst X0.here hx rfl (hb hby dnz16_62) ?_
    refine XS.icmpYes X0.here hx rfl (pc0 := 63) (pc' := 73) rfl (hb hby dnz16_63) rfl ((tlt (by decide)).1) (by decide) (by decide) ?_
    refine XS.iloadN X0.here hx rfl (hb hby dnz16_73) rfl ?_
    refine XS.iloadN X0.here hx rfl (hb hby dnz16_74) rfl ?_
    refine XS.iconst X0.here hx rfl (hb hby dnz16_75) ?_
    refine XS.iushr X0.here hx rfl (hb hby dnz16_76) rfl ?_
    refine XS.isub X0.here hx rfl (hb hby dnz16_77) rfl ?_
    exact k)
  subst hS0
  obtain ⟨fs, hr, hrun, hended, hW, hsame⟩ := X0.leave (v := some (.int (((31 : Int32) + (-4 : Int32)) - (((((16 : Int32).toUInt32 >>> ((4 : Int32) &&& 31).toUInt32).toInt32).toUInt32 >>> ((1 : Int32) &&& 31).toUInt32).toInt32)))) (fun h => by rw [Bd.returns] at h; cases h)
  refine ⟨_, _, p1 _ ?_, hrun, hended, _, _, rfl, ?_, ⟨_, rfl⟩, hW, hsame.mono (by decide) (by decide)⟩
  · show own_W p e below m s₁ 78 #[.val (.int (((16 : Int32).toUInt32 >>> ((4 : Int32) &&& 31).toUInt32).toInt32)), .val (.int ((31 : Int32) + (-4 : Int32)))] [(.int (((31 : Int32) + (-4 : Int32)) - (((((16 : Int32).toUInt32 >>> ((4 : Int32) &&& 31).toUInt32).toInt32).toUInt32 >>> ((1 : Int32) &&& 31).toUInt32).toInt32)))] _
    exact retI X0 hx Bd.returns (hb hby dnz16_78) hr
  · show Qnz16 Z  h0 n0 _ s₁.heap _
    rw [e0]
    exact ⟨congrArg (fun z => some (Value.int z)) (by decide : (((31 : Int32) + (-4 : Int32)) - (((((16 : Int32).toUInt32 >>> ((4 : Int32) &&& 31).toUInt32).toInt32).toUInt32 >>> ((1 : Int32) &&& 31).toUInt32).toInt32)) = (27 : Int32)), N0, rfl⟩
theorem dsf_0 : decode prog_53_method_14_code 0 = .ok (.ldc2_w 50, 3) := by decide +kernel
theorem dsf_3 : decode prog_53_method_14_code 3 = .ok (.lstore_n 2, 1) := by decide +kernel
theorem dsf_4 : decode prog_53_method_14_code 4 = .ok (.ldc2_w 114, 3) := by decide +kernel
theorem dsf_7 : decode prog_53_method_14_code 7 = .ok (.lload_n 2, 1) := by decide +kernel
theorem dsf_8 : decode prog_53_method_14_code 8 = .ok (.lmul, 1) := by decide +kernel
theorem dsf_9 : decode prog_53_method_14_code 9 = .ok (.ldc2_w 41, 3) := by decide +kernel
theorem dsf_12 : decode prog_53_method_14_code 12 = .ok (.lload_n 0, 1) := by decide +kernel
theorem dsf_13 : decode prog_53_method_14_code 13 = .ok (.lmul, 1) := by decide +kernel
theorem dsf_14 : decode prog_53_method_14_code 14 = .ok (.lcmp, 1) := by decide +kernel
theorem dsf_15 : decode prog_53_method_14_code 15 = .ok (.ifCond .ge 12, 3) := by decide +kernel
theorem dsf_18 : decode prog_53_method_14_code 18 = .ok (.lload_n 2, 1) := by decide +kernel
theorem dsf_19 : decode prog_53_method_14_code 19 = .ok (.ldc2_w 91, 3) := by decide +kernel
theorem dsf_22 : decode prog_53_method_14_code 22 = .ok (.lmul, 1) := by decide +kernel
theorem dsf_23 : decode prog_53_method_14_code 23 = .ok (.lstore_n 2, 1) := by decide +kernel
theorem dsf_24 : decode prog_53_method_14_code 24 = .ok (.goto (-20), 3) := by decide +kernel
theorem dsf_27 : decode prog_53_method_14_code 27 = .ok (.lload_n 2, 1) := by decide +kernel
theorem dsf_28 : decode prog_53_method_14_code 28 = .ok (.lreturn, 1) := by decide +kernel
theorem pnsf : plainName "com/example/kinwarden/kinwarden/IntMap" = true := by first | (simp [plainName, overriddenIn]; done) | decide +kernel
theorem efsf (m : MethodId)  : entryFrame m #[(.long (7 : Int64))] 4 = mkF m 0 #[.val (.long (7 : Int64)), .second, .unset, .unset] [] := by first | (simp [entryFrame, mkF, argsToLocals, Value.category]; done) | rfl
def Qsf (Z : State)  (h0 : Heap) (n0 : Nat) (v : Option Value) (h : Heap) (L : List Loc) : Prop := v = some (.long (16 : Int64)) ∧ Fr n0 L ∧ h = h0
set_option maxRecDepth 65536 in
set_option maxHeartbeats 40000000 in
theorem rmsf (l : Launch) (Z : State) (a0 : Array Value) (hw : ∀ d ∈ tables_1, d.before a0 Z = true) (ws : List Jvm.Cond)  (h0 : Heap) (n0 : Nat) (Z0 : n0 ≤ h0.size) :
    MetFree l (⟨"com/example/kinwarden/kinwarden/IntMap", "slotsFor", "(J)J"⟩ : MethodName) (head1 (Jvm.Cond.code (⟨"com/example/kinwarden/kinwarden/IntMap", "slotsFor", "(J)J"⟩ : MethodName) prog_53_method_14_code 4 (some .long) :: ws) ({ frames := 0, cells := 0, slots := 0, locals := 0 } : Room)) (fun a U => a = #[(.long (7 : Int64))] ∧ Z.Warmed39 U.vm ∧ U.heap = h0) (fun _ _ _ _ _ => True) (fun _ U o U' => ∃ v L, o = .returned v ∧ Qsf Z  h0 n0 v U'.heap L ∧ FrameEnd U o U' L ({ frames := 0, cells := 0, slots := 0, locals := 0 } : Room).cells ({ frames := 0, cells := 0, slots := 0, locals := 0 } : Room).slots) := by
  refine MetFree.of_bodySF (plainFor_of_name pnsf) hisR ?_
  intro p e s m args below meth c s₁ Bd hml0 hP hK
  obtain ⟨rfl, hZ, hh⟩ := hP
  have hx := Bd.exec
  have hby := Bd.bytes
  have hml : c.maxLocals = 4 := hml0
  have hown : s.vm.findClass "com/example/kinwarden/kinwarden/IntMap" = some m.cls := findClass_of_methodNamed Bd.named
  have hnm := (name_of_methodNamed Bd.named Bd.method).1
  have X0 : Stand p l e ({ frames := 0, cells := 0, slots := 0, locals := 0 } : Room) s m #[(.long (7 : Int64))] below meth c s₁ [] 0 0 := Stand.of_body Bd
  have e0 : s₁.heap = h0 := by rw [← hh, Bd.state]; rfl
  have N0 := Fr.nil n0
  have pre0 : ∀ t, Steps p.tables e below (s₁.setTop (mkF m 0 #[.val (.long (7 : Int64)), .second, .unset, .unset] [])) t → Steps p.tables e below (s₁.setTop (entryFrame m #[(.long (7 : Int64))] 4)) t := fun t k => castTop (efsf m ) k
  obtain ⟨S0, hS0⟩ : ∃ z, z = (s₁.setTop (entryFrame m #[(.long (7 : Int64))] 4)) := ⟨_, rfl⟩
  rw [← hS0] at pre0
  have p1 : ∀ t, own_W p e below m s₁ 4 #[.val (.long (7 : Int64)), .second, .val (.long (8 : Int64)), .second] [] t → Steps p.tables e below S0 t := fun t k => pre0 t (by
    show own_W p e below m s₁ 0 #[.val (.long (7 : Int64)), .second, .unset, .unset] [] _
    refine X0.ldc2Long hx hown (mvT hZ (hw _ (List.mem_of_getElem? (i := 82) rfl))) (g := (mkF m 0 #[.val (.long (7 : Int64)), .second, .unset, .unset] [])) rfl (hb hby dsf_0) _ ?_
    refine XS.lstoreN X0.here hx rfl (hb hby dsf_3) rfl (l' := #[.val (.long (7 : Int64)), .second, .val (.long (8 : Int64)), .second]) rfl ?_
    exact k)
  have p2 : ∀ t, own_W p e below m s₁ 4 #[.val (.long (7 : Int64)), .second, .val (.long ((8 : Int64) * (2 : Int64))), .second] [] t → Steps p.tables e below S0 t := fun t k => p1 t (by
    show own_W p e below m s₁ 4 #[.val (.long (7 : Int64)), .second, .val (.long (8 : Int64)), .second] [] _
    refine X0.ldc2Long hx hown (mvT hZ (hw _ (List.mem_of_getElem? (i := 83) rfl))) (g := (mkF m 4 #[.val (.long (7 : Int64)), .second, .val (.long (8 : Int64)), .second] [])) rfl (hb hby dsf_4) _ ?_
    refine XS.lloadN X0.here hx rfl (hb hby dsf_7) rfl ?_
    refine XS.lmul X0.here hx rfl (hb hby dsf_8) rfl ?_
    show own_W p e below m s₁ 9 #[.val (.long (7 : Int64)), .second, .val (.long (8 : Int64)), .second] [(.long ((3 : Int64) * (8 : Int64)))] _
    refine X0.ldc2Long hx hown (mvT hZ (hw _ (List.mem_of_getElem? (i := 37) rfl))) (g := (mkF m 9 #[.val (.long (7 : Int64)), .second, .val (.long (8 : Int64)), .second] [(.long ((3 : Int64) * (8 : Int64)))])) rfl (hb hby dsf_9) _ ?_
    refine XS.lloadN X0.here hx rfl (hb hby dsf_12) rfl ?_
    refine XS.lmul X0.here hx rfl (hb hby dsf_13) rfl ?_
    refine XS.lcmp X0.here hx rfl (hb hby dsf_14) rfl ?_
    refine XS.ifNo X0.here hx rfl (hb hby dsf_15) rfl ((if0 _ _).trans (tlt (by decide)).2.1) ?_
    refine XS.lloadN X0.here hx rfl (hb hby dsf_18) rfl ?_
    show own_W p e below m s₁ 19 #[.val (.long (7 : Int64)), .second, .val (.long (8 : Int64)), .second] [(.long (8 : Int64))] _
    refine X0.ldc2Long hx hown (mvT hZ (hw _ (List.mem_of_getElem? (i := 84) rfl))) (g := (mkF m 19 #[.val (.long (7 : Int64)), .second, .val (.long (8 : Int64)), .second] [(.long (8 : Int64))])) rfl (hb hby dsf_19) _ ?_
    refine XS.lmul X0.here hx rfl (hb hby dsf_22) rfl ?_
    refine XS.lstoreN X0.here hx rfl (hb hby dsf_23) rfl (l' := #[.val (.long (7 : Int64)), .second, .val (.long ((8 : Int64) * (2 : Int64))), .second]) rfl ?_
    refine XS.goto X0.here hx rfl (pc0 := 24) (pc' := 4) rfl (hb hby dsf_24) (by decide) (by decide) ?_
    exact k)
  have p3 : ∀ t, own_W p e below m s₁ 4 #[.val (.long (7 : Int64)), .second, .val (.long (16 : Int64)), .second] [] t → Steps p.tables e below S0 t := by
    have k := p2
    rw [show ((8 : Int64) * (2 : Int64)) = (16 : Int64) from by decide] at k
    exact k
  have p4 : ∀ t, own_W p e below m s₁ 28 #[.val (.long (7 : Int64)), .second, .val (.long (16 : Int64)), .second] [(.long (16 : Int64))] t → Steps p.tables e below S0 t := fun t k => p3 t (by
    show own_W p e below m s₁ 4 #[.val (.long (7 : Int64)), .second, .val (.long (16 : Int64)), .second] [] _
    refine X0.ldc2Long hx hown (mvT hZ (hw _ (List.mem_of_getElem? (i := 83) rfl))) (g := (mkF m 4 #[.val (.long (7 : Int64)), .second, .val (.long (16 : Int64)), .second] [])) rfl (hb hby dsf_4) _ ?_
    refine XS.lloadN X0.here hx rfl (hb hby dsf_7) rfl ?_
    refine XS.lmul X0.here hx rfl (hb hby dsf_8) rfl ?_
    show own_W p e below m s₁ 9 #[.val (.long (7 : Int64)), .second, .val (.long (16 : Int64)), .second] [(.long ((3 : Int64) * (16 : Int64)))] _
    refine X0.ldc2Long hx hown (mvT hZ (hw _ (List.mem_of_getElem? (i := 37) rfl))) (g := (mkF m 9 #[.val (.long (7 : Int64)), .second, .val (.long (16 : Int64)), .second] [(.long ((3 : Int64) * (16 : Int64)))])) rfl (hb hby dsf_9) _ ?_
    refine XS.lloadN X0.here hx rfl (hb hby dsf_12) rfl ?_
    refine XS.lmul X0.here hx rfl (hb hby dsf_13) rfl ?_
    refine XS.lcmp X0.here hx rfl (hb hby dsf_14) rfl ?_
    refine XS.ifYes X0.here hx rfl (pc0 := 15) (pc' := 27) rfl (hb hby dsf_15) rfl ((if0 _ _).trans (flt (by decide)).2.1) (by decide) (by decide) ?_
    refine XS.lloadN X0.here hx rfl (hb hby dsf_27) rfl ?_
    exact k)
  subst hS0
  obtain ⟨fs, hr, hrun, hended, hW, hsame⟩ := X0.leave (v := some (.long (16 : Int64))) (fun h => by rw [Bd.returns] at h; cases h)
  refine ⟨_, _, p4 _ ?_, hrun, hended, _, _, rfl, ?_, ⟨_, rfl⟩, hW, hsame.mono (by decide) (by decide)⟩
  · show own_W p e below m s₁ 28 #[.val (.long (7 : Int64)), .second, .val (.long (16 : Int64)), .second] [(.long (16 : Int64))] _
    exact retOut X0 hx Bd.returns rfl (Or.inr (Or.inl ⟨rfl, rfl, _, rfl⟩)) (hb hby dsf_28) hr
  · show Qsf Z  h0 n0 _ s₁.heap _
    rw [e0]
    exact ⟨rfl, N0, rfl⟩
theorem dfl_0 : decode jdk_65_method_103_code 0 = .ok (.iconst 0, 1) := by decide +kernel
theorem dfl_1 : decode jdk_65_method_103_code 1 = .ok (.istore_n 2, 1) := by decide +kernel
theorem dfl_2 : decode jdk_65_method_103_code 2 = .ok (.aload_n 0, 1) := by decide +kernel
theorem dfl_3 : decode jdk_65_method_103_code 3 = .ok (.arraylength, 1) := by decide +kernel
theorem dfl_4 : decode jdk_65_method_103_code 4 = .ok (.istore_n 3, 1) := by decide +kernel
theorem dfl_5 : decode jdk_65_method_103_code 5 = .ok (.iload_n 2, 1) := by decide +kernel
theorem dfl_6 : decode jdk_65_method_103_code 6 = .ok (.iload_n 3, 1) := by decide +kernel
theorem dfl_7 : decode jdk_65_method_103_code 7 = .ok (.if_icmp .ge 13, 3) := by decide +kernel
theorem dfl_10 : decode jdk_65_method_103_code 10 = .ok (.aload_n 0, 1) := by decide +kernel
theorem dfl_11 : decode jdk_65_method_103_code 11 = .ok (.iload_n 2, 1) := by decide +kernel
theorem dfl_12 : decode jdk_65_method_103_code 12 = .ok (.iload_n 1, 1) := by decide +kernel
theorem dfl_13 : decode jdk_65_method_103_code 13 = .ok (.iastore, 1) := by decide +kernel
theorem dfl_14 : decode jdk_65_method_103_code 14 = .ok (.iinc 2 1, 3) := by decide +kernel
theorem dfl_17 : decode jdk_65_method_103_code 17 = .ok (.goto (-12), 3) := by decide +kernel
theorem dfl_20 : decode jdk_65_method_103_code 20 = .ok (.return_, 1) := by decide +kernel
theorem pnfl : plainName "java/util/Arrays" = true := by first | (simp [plainName, overriddenIn]; done) | decide +kernel
theorem effl (m : MethodId) (x0 : Addr) (x1 : Int32) : entryFrame m #[(.ref x0), (.int x1)] 4 = mkF m 0 #[.val (.ref x0), .val (.int x1), .unset, .unset] [] := by first | (simp [entryFrame, mkF, argsToLocals, Value.category]; done) | rfl
def Qfl (Z : State) (x0 : Addr) (x1 : Int32) (kk : ClassId) (N : Int32) (vs : List Value) (h0 : Heap) (n0 : Nat) (v : Option Value) (h : Heap) (L : List Loc) : Prop := v = none ∧ Fr n0 L ∧ Keep h0 h [x0] ∧ ∃ ws : List Value, Arv Z h x0 kk .int N ws (.int (0 : Int32)) ∧ ∀ j, j < N.toNatClampNeg → ws.getD j (.int (0 : Int32)) = .int x1
set_option maxRecDepth 65536 in
set_option maxHeartbeats 40000000 in
theorem rmfl (l : Launch) (Z : State) (a0 : Array Value) (hw : ∀ d ∈ tables_1, d.before a0 Z = true) (ws : List Jvm.Cond) (x0 : Addr) (x1 : Int32) (kk : ClassId) (N : Int32) (vs : List Value) (h0 : Heap) (n0 : Nat) (Z0 : n0 ≤ h0.size) (V0 : Arv Z h0 x0 kk .int N vs (.int (0 : Int32))) (hl : N.toNatClampNeg ≤ vs.length) (hN0 : ¬ N.toInt < (0 : Int32).toInt) (g0 : n0 ≤ x0) :
    MetFree l (⟨"java/util/Arrays", "fill", "([II)V"⟩ : MethodName) (head1 (Jvm.Cond.code (⟨"java/util/Arrays", "fill", "([II)V"⟩ : MethodName) jdk_65_method_103_code 4 none :: ws) ({ frames := 0, cells := 0, slots := 0, locals := 0 } : Room)) (fun a U => a = #[(.ref x0), (.int x1)] ∧ Z.Warmed39 U.vm ∧ U.heap = h0) (fun _ _ _ _ _ => True) (fun _ U o U' => ∃ v L, o = .returned v ∧ Qfl Z x0 x1 kk N vs h0 n0 v U'.heap L ∧ FrameEnd U o U' L ({ frames := 0, cells := 0, slots := 0, locals := 0 } : Room).cells ({ frames := 0, cells := 0, slots := 0, locals := 0 } : Room).slots) := by
  refine MetFree.of_bodySF (plainFor_of_name pnfl) hisR ?_
  intro p e s m args below meth c s₁ Bd hml0 hP hK
  obtain ⟨rfl, hZ, hh⟩ := hP
  have hx := Bd.exec
  have hby := Bd.bytes
  have hml : c.maxLocals = 4 := hml0
  have hown : s.vm.findClass "java/util/Arrays" = some m.cls := findClass_of_methodNamed Bd.named
  have hnm := (name_of_methodNamed Bd.named Bd.method).1
  have X0 : Stand p l e ({ frames := 0, cells := 0, slots := 0, locals := 0 } : Room) s m #[(.ref x0), (.int x1)] below meth c s₁ [] 0 0 := Stand.of_body Bd
  have e0 : s₁.heap = h0 := by rw [← hh, Bd.state]; rfl
  have N0 := Fr.nil n0
  have pre0 : ∀ t, Steps p.tables e below (s₁.setTop (mkF m 0 #[.val (.ref x0), .val (.int x1), .unset, .unset] [])) t → Steps p.tables e below (s₁.setTop (entryFrame m #[(.ref x0), (.int x1)] 4)) t := fun t k => castTop (effl m x0 x1) k
  obtain ⟨S0, hS0⟩ : ∃ z, z = (s₁.setTop (entryFrame m #[(.ref x0), (.int x1)] 4)) := ⟨_, rfl⟩
  rw [← hS0] at pre0
  have K0 := Keep.refl h0 [x0]
  have p1 : ∀ t, own_W p e below m s₁ 3 #[.val (.ref x0), .val (.int x1), .val (.int (0 : Int32)), .unset] [(.ref x0)] t → Steps p.tables e below S0 t := fun t k => pre0 t (by
    show own_W p e below m s₁ 0 #[.val (.ref x0), .val (.int x1), .unset, .unset] [] _
    refine XS.iconst X0.here hx rfl (hb hby dfl_0) ?_
    refine XS.istoreN X0.here hx rfl (hb hby dfl_1) rfl (l' := #[.val (.ref x0), .val (.int x1), .val (.int (0 : Int32)), .unset]) rfl ?_
    refine XS.aloadN X0.here hx rfl (hb hby dfl_2) rfl rfl ?_
    exact k)
  obtain ⟨cl2, Ar2, -, Sz2, Ng2, -, -⟩ := id V0
  have p3 : ∀ t, own_W p e below m s₁ 5 #[.val (.ref x0), .val (.int x1), .val (.int (0 : Int32)), .val (.int N)] [] t → Steps p.tables e below S0 t := fun t k => p1 t (by
    show own_W p e below m s₁ 3 #[.val (.ref x0), .val (.int x1), .val (.int (0 : Int32)), .unset] [(.ref x0)] _
    refine X0.arraylength hx (by rw [e0]; exact Ar2.1) (State.isArrayOf_alike hZ.alike Ar2.2.1) (g := (mkF m 3 #[.val (.ref x0), .val (.int x1), .val (.int (0 : Int32)), .unset] [(.ref x0)])) rfl rfl (hb hby dfl_3) _ ?_
    rw [len_of Sz2 Ng2]
    refine XS.istoreN X0.here hx rfl (hb hby dfl_4) rfl (l' := #[.val (.ref x0), .val (.int x1), .val (.int (0 : Int32)), .val (.int N)]) rfl ?_
    exact k)
  have loop : ∀ (fu : Nat) (i : Int32) (T : State) (Lc : List Loc) (hh : Heap) (ws : List Value), fu = N.toNatClampNeg - i.toNatClampNeg → ¬ i < 0 → ¬ N < i → Stand p l e ({ frames := 0, cells := 0, slots := 0, locals := 0 } : Room) s m #[(.ref x0), (.int x1)] below meth c T Lc 0 0 → T.heap = hh → n0 ≤ hh.size → Fr n0 Lc → Keep h0 hh [x0] → Arv Z hh x0 kk .int N ws (.int (0 : Int32)) → N.toNatClampNeg ≤ ws.length → (∀ j, j < i.toNatClampNeg → ws.getD j (.int (0 : Int32)) = .int x1) →
      ∃ (i' : Int32) (T' : State) (Lc' : List Loc) (h' : Heap) (ws' : List Value), Stand p l e ({ frames := 0, cells := 0, slots := 0, locals := 0 } : Room) s m #[(.ref x0), (.int x1)] below meth c T' Lc' 0 0 ∧ T'.heap = h' ∧ Fr n0 Lc' ∧ Keep h0 h' [x0] ∧ Arv Z h' x0 kk .int N ws' (.int (0 : Int32)) ∧ (∀ j, j < N.toNatClampNeg → ws'.getD j (.int (0 : Int32)) = .int x1) ∧ ∀ t, own_W p e below m T' 20 #[.val (.ref x0), .val (.int x1), .val (.int i'), .val (.int N)] [] t → own_W p e below m T 5 #[.val (.ref x0), .val (.int x1), .val (.int i), .val (.int N)] [] t := by
    intro fu
    induction fu with
    | zero =>
      intro i T Lc hh ws hfu hi0 hiN X eT zT nT kT vT hle hall
      have hc : ¬ i < N := own_end hfu hi0
      have own_id : ∀ t, own_W p e below m T 5 #[.val (.ref x0), .val (.int x1), .val (.int i), .val (.int N)] [] t → Steps p.tables e below (T.setTop (mkF m 5 #[.val (.ref x0), .val (.int x1), .val (.int i), .val (.int N)] [])) t := fun t k => k
      have p4 : ∀ t, own_W p e below m T 20 #[.val (.ref x0), .val (.int x1), .val (.int i), .val (.int N)] [] t → Steps p.tables e below (T.setTop (mkF m 5 #[.val (.ref x0), .val (.int x1), .val (.int i), .val (.int N)] [])) t := fun t k => own_id t (by
        show own_W p e below m T 5 #[.val (.ref x0), .val (.int x1), .val (.int i), .val (.int N)] [] _
        refine XS.iloadN X.here hx rfl (hb hby dfl_5) rfl ?_
        refine XS.iloadN X.here hx rfl (hb hby dfl_6) rfl ?_
        refine XS.icmpYes X.here hx rfl (pc0 := 7) (pc' := 20) rfl (hb hby dfl_7) rfl ((flt (hc)).2.1) (by decide) (by decide) ?_
        exact k)
      exact ⟨_, _, _, _, _, X, eT, nT, kT, vT, own_full hi0 hc hall, p4⟩
    | succ fu ih =>
      intro i T Lc hh ws hfu hi0 hiN X eT zT nT kT vT hle hall
      have hc : i < N := own_more hfu hi0 hiN
      obtain ⟨j0, jN, jS, jl⟩ := own_inc hi0 hc
      have own_id : ∀ t, own_W p e below m T 5 #[.val (.ref x0), .val (.int x1), .val (.int i), .val (.int N)] [] t → Steps p.tables e below (T.setTop (mkF m 5 #[.val (.ref x0), .val (.int x1), .val (.int i), .val (.int N)] [])) t := fun t k => k
      have p5 : ∀ t, own_W p e below m T 13 #[.val (.ref x0), .val (.int x1), .val (.int i), .val (.int N)] [(.int x1), (.int i), (.ref x0)] t → Steps p.tables e below (T.setTop (mkF m 5 #[.val (.ref x0), .val (.int x1), .val (.int i), .val (.int N)] [])) t := fun t k => own_id t (by
        show own_W p e below m T 5 #[.val (.ref x0), .val (.int x1), .val (.int i), .val (.int N)] [] _
        refine XS.iloadN X.here hx rfl (hb hby dfl_5) rfl ?_
        refine XS.iloadN X.here hx rfl (hb hby dfl_6) rfl ?_
        refine XS.icmpNo X.here hx rfl (hb hby dfl_7) rfl ((tlt (hc)).2.1) ?_
        refine XS.aloadN X.here hx rfl (hb hby dfl_10) rfl rfl ?_
        refine XS.iloadN X.here hx rfl (hb hby dfl_11) rfl ?_
        refine XS.iloadN X.here hx rfl (hb hby dfl_12) rfl ?_
        exact k)
      obtain ⟨cl6, Ar6, q6, Sz6, Ng6, Hs6, G6⟩ := id vT
      have hin6 : ¬ (i < 0 ∨ cl6.slots.size ≤ (i).toNatClampNeg) := inb_of Sz6 (⟨hi0, hc⟩)
      obtain ⟨T6, h6, X6, e6, W6, st6⟩ := stI X hx hZ eT Ar6 (j := i) hin6 (g := (mkF m 13 #[.val (.ref x0), .val (.int x1), .val (.int i), .val (.int N)] [(.int x1), (.int i), (.ref x0)])) rfl rfl (hb hby dfl_13)
      have VV6 : Arv Z h6 x0 kk .int N (ws.set (i.toNatClampNeg) (.int x1)) (.int (0 : Int32)) := Arv.set Ar6 q6 Sz6 Ng6 Hs6 G6 rfl W6 (i.toNatClampNeg) (rfl) (Nat.lt_of_lt_of_le jl hle)
      have Z6 := Nat.le_trans zT (Keep.of_wr W6).1
      have N6 := Fr.snoc X6 nT g0
      have KK6 := kT.wr W6 (Or.inl (List.mem_singleton.mpr rfl))
      have p7 : ∀ t, own_W p e below m T6 14 #[.val (.ref x0), .val (.int x1), .val (.int i), .val (.int N)] [] t → Steps p.tables e below (T.setTop (mkF m 5 #[.val (.ref x0), .val (.int x1), .val (.int i), .val (.int N)] [])) t := fun t k => p5 t (st6 t k)
      have p8 : ∀ t, own_W p e below m T6 5 #[.val (.ref x0), .val (.int x1), .val (.int (i + (1 : Int32))), .val (.int N)] [] t → Steps p.tables e below (T.setTop (mkF m 5 #[.val (.ref x0), .val (.int x1), .val (.int i), .val (.int N)] [])) t := fun t k => p7 t (by
        show own_W p e below m T6 14 #[.val (.ref x0), .val (.int x1), .val (.int i), .val (.int N)] [] _
        refine XS.iinc X6.here hx rfl (hb hby dfl_14) rfl (l' := #[.val (.ref x0), .val (.int x1), .val (.int (i + (1 : Int32))), .val (.int N)]) rfl ?_
        refine XS.goto X6.here hx rfl (pc0 := 17) (pc' := 5) rfl (hb hby dfl_17) (by decide) (by decide) ?_
        exact k)
      obtain ⟨i', T', L', h', ws', a1, a2, a3, a4, a5, a6, a7⟩ := ih (i + (1 : Int32)) T6 _ h6 _ (by omega) j0 jN X6 e6 Z6 N6 KK6 VV6 (by rw [List.length_set]; exact hle) (fun j hj => own_set (Nat.lt_of_lt_of_le jl hle) hall j (by omega))
      exact ⟨i', T', L', h', ws', a1, a2, a3, a4, a5, a6, fun t k => p8 t (a7 t k)⟩
  obtain ⟨ie, T20, L20, h20, ws20, X20, e20, N20, K20, V20, hall20, s20⟩ := loop _ (0 : Int32) s₁ _ h0 vs rfl (by decide) (by rw [Int32.lt_iff_toInt_lt] at *; exact hN0) X0 e0 Z0 N0 K0 V0 hl (fun j hj => absurd hj (Nat.not_lt_zero j))
  have p20 : ∀ t, own_W p e below m T20 20 #[.val (.ref x0), .val (.int x1), .val (.int ie), .val (.int N)] [] t → Steps p.tables e below S0 t := fun t k => p3 t (s20 t k)
  subst hS0
  obtain ⟨fs, hr, hrun, hended, hW, hsame⟩ := X20.leave (v := none) (fun _ => rfl)
  refine ⟨_, _, p20 _ ?_, hrun, hended, _, _, rfl, ?_, ⟨_, rfl⟩, hW, hsame.mono (by decide) (by decide)⟩
  · show own_W p e below m T20 20 #[.val (.ref x0), .val (.int x1), .val (.int ie), .val (.int N)] [] _
    exact X20.returnOut hx Bd.returns (hb hby dfl_20) hr
  · show Qfl Z x0 x1 kk N vs h0 n0 _ T20.heap _
    rw [e20]
    exact ⟨rfl, N20, K20, _, V20, hall20⟩
theorem der_0 : decode prog_53_method_17_code 0 = .ok (.iload_n 0, 1) := by decide +kernel
theorem der_1 : decode prog_53_method_17_code 1 = .ok (.newarray .int, 2) := by decide +kernel
theorem der_3 : decode prog_53_method_17_code 3 = .ok (.astore_n 1, 1) := by decide +kernel
theorem der_4 : decode prog_53_method_17_code 4 = .ok (.aload_n 1, 1) := by decide +kernel
theorem der_5 : decode prog_53_method_17_code 5 = .ok (.iconst (-1), 1) := by decide +kernel
theorem der_6 : decode prog_53_method_17_code 6 = .ok (.invokestatic 123, 3) := by decide +kernel
theorem der_9 : decode prog_53_method_17_code 9 = .ok (.aload_n 1, 1) := by decide +kernel
theorem der_10 : decode prog_53_method_17_code 10 = .ok (.areturn, 1) := by decide +kernel
theorem pner : plainName "com/example/kinwarden/kinwarden/IntMap" = true := by first | (simp [plainName, overriddenIn]; done) | decide +kernel
theorem pder_0 : parseMethodDescriptor "([II)V" = some ⟨[(.array .int), .int], none⟩ := by decide +kernel
theorem efer (m : MethodId) (x0 : Int32) : entryFrame m #[(.int x0)] 2 = mkF m 0 #[.val (.int x0), .unset] [] := by first | (simp [entryFrame, mkF, argsToLocals, Value.category]; done) | rfl
def Qer (Z : State) (x0 : Int32) (h0 : Heap) (n0 : Nat) (v : Option Value) (h : Heap) (L : List Loc) : Prop := ∃ (r : Addr) (kk : ClassId) (ws : List Value), v = some (.ref r) ∧ Fr n0 L ∧ Keep h0 h [] ∧ h0.size ≤ r ∧ Arv Z h r kk .int x0 ws (.int (0 : Int32)) ∧ ∀ j, j < x0.toNatClampNeg → ws.getD j (.int (0 : Int32)) = .int (-1 : Int32)
set_option maxRecDepth 65536 in
set_option maxHeartbeats 40000000 in
theorem rmer (l : Launch) (Z : State) (a0 : Array Value) (hw : ∀ d ∈ tables_1, d.before a0 Z = true) (ws : List Jvm.Cond) (x0 : Int32) (h0 : Heap) (n0 : Nat) (Z0 : n0 ≤ h0.size) (hN0 : ¬ x0 < 0) (h32 : x0.toNatClampNeg ≤ 32) :
    MetFree l (⟨"com/example/kinwarden/kinwarden/IntMap", "emptyRoom", "(I)[I"⟩ : MethodName) (head1 (Jvm.Cond.code (⟨"com/example/kinwarden/kinwarden/IntMap", "emptyRoom", "(I)[I"⟩ : MethodName) prog_53_method_17_code 2 (some (.array .int)) :: ws) ({ frames := 1, cells := 1, slots := 32, locals := 15 } : Room)) (fun a U => a = #[(.int x0)] ∧ Z.Warmed39 U.vm ∧ U.heap = h0) (fun _ _ _ _ _ => True) (fun _ U o U' => ∃ v L, o = .returned v ∧ Qer Z x0 h0 n0 v U'.heap L ∧ FrameEnd U o U' L ({ frames := 1, cells := 1, slots := 32, locals := 15 } : Room).cells ({ frames := 1, cells := 1, slots := 32, locals := 15 } : Room).slots) := by
  refine MetFree.of_bodySF (plainFor_of_name pner) hisR ?_
  intro p e s m args below meth c s₁ Bd hml0 hP hK
  obtain ⟨rfl, hZ, hh⟩ := hP
  have hx := Bd.exec
  have hby := Bd.bytes
  have hml : c.maxLocals = 2 := hml0
  have hown : s.vm.findClass "com/example/kinwarden/kinwarden/IntMap" = some m.cls := findClass_of_methodNamed Bd.named
  have hnm := (name_of_methodNamed Bd.named Bd.method).1
  have X0 : Stand p l e ({ frames := 1, cells := 1, slots := 32, locals := 15 } : Room) s m #[(.int x0)] below meth c s₁ [] 0 0 := Stand.of_body Bd
  have e0 : s₁.heap = h0 := by rw [← hh, Bd.state]; rfl
  have N0 := Fr.nil n0
  have pre0 : ∀ t, Steps p.tables e below (s₁.setTop (mkF m 0 #[.val (.int x0), .unset] [])) t → Steps p.tables e below (s₁.setTop (entryFrame m #[(.int x0)] 2)) t := fun t k => castTop (efer m x0) k
  obtain ⟨S0, hS0⟩ : ∃ z, z = (s₁.setTop (entryFrame m #[(.int x0)] 2)) := ⟨_, rfl⟩
  rw [← hS0] at pre0
  have K0 := Keep.refl h0 []
  have p1 : ∀ t, own_W p e below m s₁ 1 #[.val (.int x0), .unset] [(.int x0)] t → Steps p.tables e below S0 t := fun t k => pre0 t (by
    show own_W p e below m s₁ 0 #[.val (.int x0), .unset] [] _
    refine XS.iloadN X0.here hx rfl (hb hby der_0) rfl ?_
    exact k)
  obtain ⟨T2, h2, k2, X2, e2, E2, A2, st2⟩ := newP X0 hx hZ (hw _ (List.mem_of_getElem? (i := 10) rfl)) e0 (g := (mkF m 1 #[.val (.int x0), .unset] [(.int x0)])) rfl (hb hby der_1) rfl (hN0) (cap := 32) (h32) (by decide) (by decide) (by decide)
  obtain ⟨b2, g2⟩ : ∃ z, z = h0.size := ⟨_, rfl⟩
  rw [← g2] at A2 st2
  have gn_b2 : n0 ≤ b2 := Nat.le_trans Z0 (Nat.le_of_eq g2.symm)
  have gk_b2 : h0.size ≤ b2 := Nat.le_trans K0.1 (Nat.le_of_eq g2.symm)
  have Z2 := Nat.le_trans Z0 E2.1
  have KK2 := K0.ext E2
  have VV2 : Arv Z h2 b2 k2 .int x0 [(.int (0 : Int32)), (.int (0 : Int32)), (.int (0 : Int32)), (.int (0 : Int32)), (.int (0 : Int32)), (.int (0 : Int32)), (.int (0 : Int32)), (.int (0 : Int32)), (.int (0 : Int32)), (.int (0 : Int32)), (.int (0 : Int32)), (.int (0 : Int32)), (.int (0 : Int32)), (.int (0 : Int32)), (.int (0 : Int32)), (.int (0 : Int32)), (.int (0 : Int32)), (.int (0 : Int32)), (.int (0 : Int32)), (.int (0 : Int32)), (.int (0 : Int32)), (.int (0 : Int32)), (.int (0 : Int32)), (.int (0 : Int32)), (.int (0 : Int32)), (.int (0 : Int32)), (.int (0 : Int32)), (.int (0 : Int32)), (.int (0 : Int32)), (.int (0 : Int32)), (.int (0 : Int32)), (.int (0 : Int32))] (.int (0 : Int32)) := (Arv.new A2 (hN0)).pad (pad_rep [] (.int (0 : Int32)) 32)
  have p3 : ∀ t, own_W p e below m T2 3 #[.val (.int x0), .unset] [(.ref b2)] t → Steps p.tables e below S0 t := fun t k => p1 t (st2 t k)
  have p4 : ∀ t, own_W p e below m T2 6 #[.val (.int x0), .val (.ref b2)] [(.int (-1 : Int32)), (.ref b2)] t → Steps p.tables e below S0 t := fun t k => p3 t (by
    show own_W p e below m T2 3 #[.val (.int x0), .unset] [(.ref b2)] _
    refine XS.astoreN X2.here hx rfl (hb hby der_3) rfl rfl (l' := #[.val (.int x0), .val (.ref b2)]) rfl ?_
    refine XS.aloadN X2.here hx rfl (hb hby der_4) rfl rfl ?_
    refine XS.iconst X2.here hx rfl (hb hby der_5) ?_
    exact k)
  obtain ⟨_, _, ⟨T5, L5, k5, n5⟩, -, X5, ⟨Lc5, hQ5, l5, y5, z5⟩, st5⟩ := Jvm.LawKit.callS X2 hx (y := (⟨"java/util/Arrays", "fill", "([II)V"⟩ : MethodName)) hown (mvT hZ (hw _ (List.mem_of_getElem? (i := 11) rfl))) (mvT hZ (hw _ (List.mem_of_getElem? (i := 12) rfl))) (mvT hZ (hw _ (List.mem_of_getElem? (i := 13) rfl))) (mvT hZ (hw _ (List.mem_of_getElem? (i := 14) rfl))) (by decide) (backOf (W := 0) (rmfl l Z a0 hw [] b2 (-1 : Int32) k2 x0 [(.int (0 : Int32)), (.int (0 : Int32)), (.int (0 : Int32)), (.int (0 : Int32)), (.int (0 : Int32)), (.int (0 : Int32)), (.int (0 : Int32)), (.int (0 : Int32)), (.int (0 : Int32)), (.int (0 : Int32)), (.int (0 : Int32)), (.int (0 : Int32)), (.int (0 : Int32)), (.int (0 : Int32)), (.int (0 : Int32)), (.int (0 : Int32)), (.int (0 : Int32)), (.int (0 : Int32)), (.int (0 : Int32)), (.int (0 : Int32)), (.int (0 : Int32)), (.int (0 : Int32)), (.int (0 : Int32)), (.int (0 : Int32)), (.int (0 : Int32)), (.int (0 : Int32)), (.int (0 : Int32)), (.int (0 : Int32)), (.int (0 : Int32)), (.int (0 : Int32)), (.int (0 : Int32)), (.int (0 : Int32))] h2 n0 Z2 VV2 (Nat.le_trans h32 (Nat.le_of_ble_eq_true rfl)) (fun q => hN0 (Int32.lt_iff_toInt_lt.mpr q)) gn_b2) hZ (hw _ (List.mem_of_getElem? (i := 14) rfl)) (hw _ (List.mem_of_getElem? (i := 13) rfl)) (by decide) (by decide)) (g := (mkF m 6 #[.val (.int x0), .val (.ref b2)] [(.int (-1 : Int32)), (.ref b2)])) rfl (by rw [hml]; rfl) (argsL := [(.ref b2), (.int (-1 : Int32))]) (rest := []) (lenOf pder_0 rfl) rfl (by show 2 * 0 + _ ≤ _; exact Nat.le_of_eq rfl) (hb hby der_6) (fun _ _ => ⟨rfl, e2, (by decide : 1 + 0 ≤ _), (by decide : 32 + 0 ≤ _)⟩)
  dsimp only [Pt.U, Pt.locs, Pt.cells, Pt.slots] at X5 l5 y5 z5 st5 hQ5
  subst l5 y5 z5
  obtain ⟨rfl, Nq5, K5, HF5⟩ := hQ5
  have N5 := Fr.app N0 Nq5
  have Z5 := Nat.le_trans Z2 K5.1
  have KK5 := KK2.trans K5 (allS (Or.inr gk_b2) all0)
  have p6 : ∀ t, own_W p e below m T5 9 #[.val (.int x0), .val (.ref b2)] [] t → Steps p.tables e below S0 t := fun t k => p4 t (st5 _ k)
  obtain ⟨ws5, VF5, hall5⟩ := HF5
  have p7 : ∀ t, own_W p e below m T5 10 #[.val (.int x0), .val (.ref b2)] [(.ref b2)] t → Steps p.tables e below S0 t := fun t k => p6 t (by
    show own_W p e below m T5 9 #[.val (.int x0), .val (.ref b2)] [] _
    refine XS.aloadN X5.here hx rfl (hb hby der_9) rfl rfl ?_
    exact k)
  subst hS0
  obtain ⟨fs, hr, hrun, hended, hW, hsame⟩ := X5.leave (v := some (.ref b2)) (fun h => by rw [Bd.returns] at h; cases h)
  refine ⟨_, _, p7 _ ?_, hrun, hended, _, _, rfl, ?_, ⟨_, rfl⟩, hW, hsame.mono (by decide) (by decide)⟩
  · show own_W p e below m T5 10 #[.val (.int x0), .val (.ref b2)] [(.ref b2)] _
    exact retOut X5 hx Bd.returns rfl (Or.inr (Or.inr (Or.inr (Or.inr ⟨rfl, rfl, rfl⟩)))) (hb hby der_10) hr
  · show Qer Z x0 h0 n0 _ T5.heap _
    skip
    exact ⟨_, _, _, rfl, N5, KK5, gk_b2, VF5, hall5⟩
theorem din2t_0 : decode prog_53_method_2_code 0 = .ok (.aload_n 0, 1) := by decide +kernel
theorem din2t_1 : decode prog_53_method_2_code 1 = .ok (.invokespecial 11, 3) := by decide +kernel
theorem din2t_4 : decode prog_53_method_2_code 4 = .ok (.aload_n 0, 1) := by decide +kernel
theorem din2t_5 : decode prog_53_method_2_code 5 = .ok (.iconst (-1), 1) := by decide +kernel
theorem din2t_6 : decode prog_53_method_2_code 6 = .ok (.putfield 16, 3) := by decide +kernel
theorem din2t_9 : decode prog_53_method_2_code 9 = .ok (.aload_n 0, 1) := by decide +kernel
theorem din2t_10 : decode prog_53_method_2_code 10 = .ok (.iconst (-1), 1) := by decide +kernel
theorem din2t_11 : decode prog_53_method_2_code 11 = .ok (.putfield 20, 3) := by decide +kernel
theorem din2t_14 : decode prog_53_method_2_code 14 = .ok (.aload_n 0, 1) := by decide +kernel
theorem din2t_15 : decode prog_53_method_2_code 15 = .ok (.iconst (-1), 1) := by decide +kernel
theorem din2t_16 : decode prog_53_method_2_code 16 = .ok (.putfield 23, 3) := by decide +kernel
theorem din2t_19 : decode prog_53_method_2_code 19 = .ok (.aload_n 0, 1) := by decide +kernel
theorem din2t_20 : decode prog_53_method_2_code 20 = .ok (.aload_n 1, 1) := by decide +kernel
theorem din2t_21 : decode prog_53_method_2_code 21 = .ok (.putfield 26, 3) := by decide +kernel
theorem din2t_24 : decode prog_53_method_2_code 24 = .ok (.aload_n 0, 1) := by decide +kernel
theorem din2t_25 : decode prog_53_method_2_code 25 = .ok (.aload_n 2, 1) := by decide +kernel
theorem din2t_26 : decode prog_53_method_2_code 26 = .ok (.putfield 30, 3) := by decide +kernel
theorem din2t_29 : decode prog_53_method_2_code 29 = .ok (.return_, 1) := by decide +kernel
theorem pnin2t : plainName "com/example/kinwarden/kinwarden/IntMap" = true := by first | (simp [plainName, overriddenIn]; done) | decide +kernel
theorem efin2t (m : MethodId) (x0 : Addr) (x1 : Addr) : entryFrame m #[(.ref x0), (.ref x1), .null] 3 = mkF m 0 #[.val (.ref x0), .val (.ref x1), .val .null] [] := by first | (simp [entryFrame, mkF, argsToLocals, Value.category]; done) | rfl
def Qin2t (Z : State) (x0 : Addr) (x1 : Addr) (h0 : Heap) (n0 : Nat) (v : Option Value) (h : Heap) (L : List Loc) : Prop := v = none ∧ Fr n0 L ∧ Keep h0 h [x0] ∧ Fld Z h x0 "com/example/kinwarden/kinwarden/IntMap" "highest" "I" (.int (-1 : Int32)) ∧ Fld Z h x0 "com/example/kinwarden/kinwarden/IntMap" "lowestValue" "I" (.int (-1 : Int32)) ∧ Fld Z h x0 "com/example/kinwarden/kinwarden/IntMap" "highestValue" "I" (.int (-1 : Int32)) ∧ Fld Z h x0 "com/example/kinwarden/kinwarden/IntMap" "table" "[I" (.ref x1) ∧ Fld Z h x0 "com/example/kinwarden/kinwarden/IntMap" "byKey" "[I" .null ∧ Fld Z h x0 "com/example/kinwarden/kinwarden/IntMap" "size" "I" (.int (0 : Int32))
set_option maxRecDepth 65536 in
set_option maxHeartbeats 40000000 in
theorem rmin2t (l : Launch) (Z : State) (a0 : Array Value) (hw : ∀ d ∈ tables_1, d.before a0 Z = true) (ws : List Jvm.Cond) (x0 : Addr) (x1 : Addr) (h0 : Heap) (n0 : Nat) (Z0 : n0 ≤ h0.size) (E0 : Exa Z h0 x0 "com/example/kinwarden/kinwarden/IntMap") (Fh : Fld Z h0 x0 "com/example/kinwarden/kinwarden/IntMap" "highest" "I" (.int (0 : Int32))) (Fl : Fld Z h0 x0 "com/example/kinwarden/kinwarden/IntMap" "lowestValue" "I" (.int (0 : Int32))) (Fv : Fld Z h0 x0 "com/example/kinwarden/kinwarden/IntMap" "highestValue" "I" (.int (0 : Int32))) (Ft : Fld Z h0 x0 "com/example/kinwarden/kinwarden/IntMap" "table" "[I" .null) (Fb : Fld Z h0 x0 "com/example/kinwarden/kinwarden/IntMap" "byKey" "[I" .null) (Fs : Fld Z h0 x0 "com/example/kinwarden/kinwarden/IntMap" "size" "I" (.int (0 : Int32))) (g0 : n0 ≤ x0) :
    MetFree l (⟨"com/example/kinwarden/kinwarden/IntMap", "<init>", "([I[I)V"⟩ : MethodName) (head1 (Jvm.Cond.code (⟨"com/example/kinwarden/kinwarden/IntMap", "<init>", "([I[I)V"⟩ : MethodName) prog_53_method_2_code 3 none :: ws) ({ frames := 1, cells := 0, slots := 0, locals := 12 } : Room)) (fun a U => a = #[(.ref x0), (.ref x1), .null] ∧ Z.Warmed39 U.vm ∧ U.heap = h0) (fun _ _ _ _ _ => True) (fun _ U o U' => ∃ v L, o = .returned v ∧ Qin2t Z x0 x1 h0 n0 v U'.heap L ∧ FrameEnd U o U' L ({ frames := 1, cells := 0, slots := 0, locals := 12 } : Room).cells ({ frames := 1, cells := 0, slots := 0, locals := 12 } : Room).slots) := by
  refine MetFree.of_bodySF (plainFor_of_name pnin2t) hisR ?_
  intro p e s m args below meth c s₁ Bd hml0 hP hK
  obtain ⟨rfl, hZ, hh⟩ := hP
  have hx := Bd.exec
  have hby := Bd.bytes
  have hml : c.maxLocals = 3 := hml0
  have hown : s.vm.findClass "com/example/kinwarden/kinwarden/IntMap" = some m.cls := findClass_of_methodNamed Bd.named
  have hnm := (name_of_methodNamed Bd.named Bd.method).1
  have X0 : Stand p l e ({ frames := 1, cells := 0, slots := 0, locals := 12 } : Room) s m #[(.ref x0), (.ref x1), .null] below meth c s₁ [] 0 0 := Stand.of_body Bd
  have e0 : s₁.heap = h0 := by rw [← hh, Bd.state]; rfl
  have N0 := Fr.nil n0
  have pre0 : ∀ t, Steps p.tables e below (s₁.setTop (mkF m 0 #[.val (.ref x0), .val (.ref x1), .val .null] [])) t → Steps p.tables e below (s₁.setTop (entryFrame m #[(.ref x0), (.ref x1), .null] 3)) t := fun t k => castTop (efin2t m x0 x1) k
  obtain ⟨S0, hS0⟩ : ∃ z, z = (s₁.setTop (entryFrame m #[(.ref x0), (.ref x1), .null] 3)) := ⟨_, rfl⟩
  rw [← hS0] at pre0
  have K0 := Keep.refl h0 [x0]
  have p1 : ∀ t, own_W p e below m s₁ 1 #[.val (.ref x0), .val (.ref x1), .val .null] [(.ref x0)] t → Steps p.tables e below S0 t := fun t k => pre0 t (by
    show own_W p e below m s₁ 0 #[.val (.ref x0), .val (.ref x1), .val .null] [] _
    refine XS.aloadN X0.here hx rfl (hb hby din2t_0) rfl rfl ?_
    exact k)
  obtain ⟨T2, X2, e2, st2⟩ := initO X0 hx hZ hown (hw _ (List.mem_of_getElem? (i := 18) rfl)) (hw _ (List.mem_of_getElem? (i := 19) rfl)) (hw _ (List.mem_of_getElem? (i := 20) rfl)) e0 (g := (mkF m 1 #[.val (.ref x0), .val (.ref x1), .val .null] [(.ref x0)])) rfl (by rw [hml]; rfl) rfl (hb hby din2t_1) (by decide) (W := 0) (by show 2 * 0 + _ ≤ _; exact Nat.le_of_eq rfl) (by decide)
  have p3 : ∀ t, own_W p e below m T2 4 #[.val (.ref x0), .val (.ref x1), .val .null] [] t → Steps p.tables e below S0 t := fun t k => p1 t (st2 t k)
  have p4 : ∀ t, own_W p e below m T2 6 #[.val (.ref x0), .val (.ref x1), .val .null] [(.int (-1 : Int32)), (.ref x0)] t → Steps p.tables e below S0 t := fun t k => p3 t (by
    show own_W p e below m T2 4 #[.val (.ref x0), .val (.ref x1), .val .null] [] _
    refine XS.aloadN X2.here hx rfl (hb hby din2t_4) rfl rfl ?_
    refine XS.iconst X2.here hx rfl (hb hby din2t_5) ?_
    exact k)
  obtain ⟨T5, h5, X5, e5, W5, st5⟩ := putF X2 hx hZ hown (host := "") (Or.inl (hw _ (List.mem_of_getElem? (i := 21) rfl))) Via.refl e2 Fh E0 (Or.inl (hw _ (List.mem_of_getElem? (i := 22) rfl))) (hw _ (List.mem_of_getElem? (i := 2) rfl)) (ty := .int) (by decide) rfl rfl (g := (mkF m 6 #[.val (.ref x0), .val (.ref x1), .val .null] [(.int (-1 : Int32)), (.ref x0)])) rfl rfl (hb hby din2t_6)
  have f6 := Fh.same W5
  have f7 := E0.wr W5
  have f8 := Fl.other W5 (Or.inr (slot_ne (Or.inl (hw _ (List.mem_of_getElem? (i := 24) rfl))) (Or.inl (hw _ (List.mem_of_getElem? (i := 22) rfl))) (by decide) (t := .int) (t' := .int) (by decide) (by decide)))
  have f9 := Fv.other W5 (Or.inr (slot_ne (Or.inl (hw _ (List.mem_of_getElem? (i := 26) rfl))) (Or.inl (hw _ (List.mem_of_getElem? (i := 22) rfl))) (by decide) (t := .int) (t' := .int) (by decide) (by decide)))
  have f10 := Ft.other W5 (Or.inr (slot_ne (Or.inl (hw _ (List.mem_of_getElem? (i := 28) rfl))) (Or.inl (hw _ (List.mem_of_getElem? (i := 22) rfl))) (by decide) (t := (.array .int)) (t' := .int) (by decide) (by decide)))
  have f11 := Fb.other W5 (Or.inr (slot_ne (Or.inl (hw _ (List.mem_of_getElem? (i := 30) rfl))) (Or.inl (hw _ (List.mem_of_getElem? (i := 22) rfl))) (by decide) (t := (.array .int)) (t' := .int) (by decide) (by decide)))
  have f12 := Fs.other W5 (Or.inr (slot_ne (Or.inl (hw _ (List.mem_of_getElem? (i := 62) rfl))) (Or.inl (hw _ (List.mem_of_getElem? (i := 22) rfl))) (by decide) (t := .int) (t' := .int) (by decide) (by decide)))
  have Z5 := Nat.le_trans Z0 (Keep.of_wr W5).1
  have N5 := Fr.snoc X5 N0 g0
  have KK5 := K0.wr W5 (Or.inl (List.mem_singleton.mpr rfl))
  have p13 : ∀ t, own_W p e below m T5 9 #[.val (.ref x0), .val (.ref x1), .val .null] [] t → Steps p.tables e below S0 t := fun t k => p4 t (st5 t k)
  have p14 : ∀ t, own_W p e below m T5 11 #[.val (.ref x0), .val (.ref x1), .val .null] [(.int (-1 : Int32)), (.ref x0)] t → Steps p.tables e below S0 t := fun t k => p13 t (by
    show own_W p e below m T5 9 #[.val (.ref x0), .val (.ref x1), .val .null] [] _
    refine XS.aloadN X5.here hx rfl (hb hby din2t_9) rfl rfl ?_
    refine XS.iconst X5.here hx rfl (hb hby din2t_10) ?_
    exact k)
  obtain ⟨T15, h15, X15, e15, W15, st15⟩ := putF X5 hx hZ hown (host := "") (Or.inl (hw _ (List.mem_of_getElem? (i := 23) rfl))) Via.refl e5 f8 f7 (Or.inl (hw _ (List.mem_of_getElem? (i := 24) rfl))) (hw _ (List.mem_of_getElem? (i := 2) rfl)) (ty := .int) (by decide) rfl rfl (g := (mkF m 11 #[.val (.ref x0), .val (.ref x1), .val .null] [(.int (-1 : Int32)), (.ref x0)])) rfl rfl (hb hby din2t_11)
  have f16 := f8.same W15
  have f17 := f7.wr W15
  have f18 := f9.other W15 (Or.inr (slot_ne (Or.inl (hw _ (List.mem_of_getElem? (i := 26) rfl))) (Or.inl (hw _ (List.mem_of_getElem? (i := 24) rfl))) (by decide) (t := .int) (t' := .int) (by decide) (by decide)))
  have f19 := f10.other W15 (Or.inr (slot_ne (Or.inl (hw _ (List.mem_of_getElem? (i := 28) rfl))) (Or.inl (hw _ (List.mem_of_getElem? (i := 24) rfl))) (by decide) (t := (.array .int)) (t' := .int) (by decide) (by decide)))
  have f20 := f11.other W15 (Or.inr (slot_ne (Or.inl (hw _ (List.mem_of_getElem? (i := 30) rfl))) (Or.inl (hw _ (List.mem_of_getElem? (i := 24) rfl))) (by decide) (t := (.array .int)) (t' := .int) (by decide) (by decide)))
  have f21 := f12.other W15 (Or.inr (slot_ne (Or.inl (hw _ (List.mem_of_getElem? (i := 62) rfl))) (Or.inl (hw _ (List.mem_of_getElem? (i := 24) rfl))) (by decide) (t := .int) (t' := .int) (by decide) (by decide)))
  have f22 := f6.other W15 (Or.inr (slot_ne (Or.inl (hw _ (List.mem_of_getElem? (i := 22) rfl))) (Or.inl (hw _ (List.mem_of_getElem? (i := 24) rfl))) (by decide) (t := .int) (t' := .int) (by decide) (by decide)))
  have Z15 := Nat.le_trans Z5 (Keep.of_wr W15).1
  have N15 := Fr.snoc X15 N5 g0
  have KK15 := KK5.wr W15 (Or.inl (List.mem_singleton.mpr rfl))
  have p23 : ∀ t, own_W p e below m T15 14 #[.val (.ref x0), .val (.ref x1), .val .null] [] t → Steps p.tables e below S0 t := fun t k => p14 t (st15 t k)
  have p24 : ∀ t, own_W p e below m T15 16 #[.val (.ref x0), .val (.ref x1), .val .null] [(.int (-1 : Int32)), (.ref x0)] t → Steps p.tables e below S0 t := fun t k => p23 t (by
    show own_W p e below m T15 14 #[.val (.ref x0), .val (.ref x1), .val .null] [] _
    refine XS.aloadN X15.here hx rfl (hb hby din2t_14) rfl rfl ?_
    refine XS.iconst X15.here hx rfl (hb hby din2t_15) ?_
    exact k)
  obtain ⟨T25, h25, X25, e25, W25, st25⟩ := putF X15 hx hZ hown (host := "") (Or.inl (hw _ (List.mem_of_getElem? (i := 25) rfl))) Via.refl e15 f18 f17 (Or.inl (hw _ (List.mem_of_getElem? (i := 26) rfl))) (hw _ (List.mem_of_getElem? (i := 2) rfl)) (ty := .int) (by decide) rfl rfl (g := (mkF m 16 #[.val (.ref x0), .val (.ref x1), .val .null] [(.int (-1 : Int32)), (.ref x0)])) rfl rfl (hb hby din2t_16)
  have f26 := f18.same W25
  have f27 := f17.wr W25
  have f28 := f19.other W25 (Or.inr (slot_ne (Or.inl (hw _ (List.mem_of_getElem? (i := 28) rfl))) (Or.inl (hw _ (List.mem_of_getElem? (i := 26) rfl))) (by decide) (t := (.array .int)) (t' := .int) (by decide) (by decide)))
  have f29 := f20.other W25 (Or.inr (slot_ne (Or.inl (hw _ (List.mem_of_getElem? (i := 30) rfl))) (Or.inl (hw _ (List.mem_of_getElem? (i := 26) rfl))) (by decide) (t := (.array .int)) (t' := .int) (by decide) (by decide)))
  have f30 := f21.other W25 (Or.inr (slot_ne (Or.inl (hw _ (List.mem_of_getElem? (i := 62) rfl))) (Or.inl (hw _ (List.mem_of_getElem? (i := 26) rfl))) (by decide) (t := .int) (t' := .int) (by decide) (by decide)))
  have f31 := f22.other W25 (Or.inr (slot_ne (Or.inl (hw _ (List.mem_of_getElem? (i := 22) rfl))) (Or.inl (hw _ (List.mem_of_getElem? (i := 26) rfl))) (by decide) (t := .int) (t' := .int) (by decide) (by decide)))
  have f32 := f16.other W25 (Or.inr (slot_ne (Or.inl (hw _ (List.mem_of_getElem? (i := 24) rfl))) (Or.inl (hw _ (List.mem_of_getElem? (i := 26) rfl))) (by decide) (t := .int) (t' := .int) (by decide) (by decide)))
  have Z25 := Nat.le_trans Z15 (Keep.of_wr W25).1
  have N25 := Fr.snoc X25 N15 g0
  have KK25 := KK15.wr W25 (Or.inl (List.mem_singleton.mpr rfl))
  have p33 : ∀ t, own_W p e below m T25 19 #[.val (.ref x0), .val (.ref x1), .val .null] [] t → Steps p.tables e below S0 t := fun t k => p24 t (st25 t k)
  have p34 : ∀ t, own_W p e below m T25 21 #[.val (.ref x0), .val (.ref x1), .val .null] [(.ref x1), (.ref x0)] t → Steps p.tables e below S0 t := fun t k => p33 t (by
    show own_W p e below m T25 19 #[.val (.ref x0), .val (.ref x1), .val .null] [] _
    refine XS.aloadN X25.here hx rfl (hb hby din2t_19) rfl rfl ?_
    refine XS.aloadN X25.here hx rfl (hb hby din2t_20) rfl rfl ?_
    exact k)
  obtain ⟨T35, h35, X35, e35, W35, st35⟩ := putF X25 hx hZ hown (host := "") (Or.inl (hw _ (List.mem_of_getElem? (i := 27) rfl))) Via.refl e25 f28 f27 (Or.inl (hw _ (List.mem_of_getElem? (i := 28) rfl))) (hw _ (List.mem_of_getElem? (i := 2) rfl)) (ty := (.array .int)) (by decide) rfl rfl (g := (mkF m 21 #[.val (.ref x0), .val (.ref x1), .val .null] [(.ref x1), (.ref x0)])) rfl rfl (hb hby din2t_21)
  have f36 := f28.same W35
  have f37 := f27.wr W35
  have f38 := f29.other W35 (Or.inr (slot_ne (Or.inl (hw _ (List.mem_of_getElem? (i := 30) rfl))) (Or.inl (hw _ (List.mem_of_getElem? (i := 28) rfl))) (by decide) (t := (.array .int)) (t' := (.array .int)) (by decide) (by decide)))
  have f39 := f30.other W35 (Or.inr (slot_ne (Or.inl (hw _ (List.mem_of_getElem? (i := 62) rfl))) (Or.inl (hw _ (List.mem_of_getElem? (i := 28) rfl))) (by decide) (t := .int) (t' := (.array .int)) (by decide) (by decide)))
  have f40 := f31.other W35 (Or.inr (slot_ne (Or.inl (hw _ (List.mem_of_getElem? (i := 22) rfl))) (Or.inl (hw _ (List.mem_of_getElem? (i := 28) rfl))) (by decide) (t := .int) (t' := (.array .int)) (by decide) (by decide)))
  have f41 := f32.other W35 (Or.inr (slot_ne (Or.inl (hw _ (List.mem_of_getElem? (i := 24) rfl))) (Or.inl (hw _ (List.mem_of_getElem? (i := 28) rfl))) (by decide) (t := .int) (t' := (.array .int)) (by decide) (by decide)))
  have f42 := f26.other W35 (Or.inr (slot_ne (Or.inl (hw _ (List.mem_of_getElem? (i := 26) rfl))) (Or.inl (hw _ (List.mem_of_getElem? (i := 28) rfl))) (by decide) (t := .int) (t' := (.array .int)) (by decide) (by decide)))
  have Z35 := Nat.le_trans Z25 (Keep.of_wr W35).1
  have N35 := Fr.snoc X35 N25 g0
  have KK35 := KK25.wr W35 (Or.inl (List.mem_singleton.mpr rfl))
  have p43 : ∀ t, own_W p e below m T35 24 #[.val (.ref x0), .val (.ref x1), .val .null] [] t → Steps p.tables e below S0 t := fun t k => p34 t (st35 t k)
  have p44 : ∀ t, own_W p e below m T35 26 #[.val (.ref x0), .val (.ref x1), .val .null] [.null, (.ref x0)] t → Steps p.tables e below S0 t := fun t k => p43 t (by
    show own_W p e below m T35 24 #[.val (.ref x0), .val (.ref x1), .val .null] [] _
    refine XS.aloadN X35.here hx rfl (hb hby din2t_24) rfl rfl ?_
    refine XS.aloadN X35.here hx rfl (hb hby din2t_25) rfl rfl ?_
    exact k)
  obtain ⟨T45, h45, X45, e45, W45, st45⟩ := putF X35 hx hZ hown (host := "") (Or.inl (hw _ (List.mem_of_getElem? (i := 29) rfl))) Via.refl e35 f38 f37 (Or.inl (hw _ (List.mem_of_getElem? (i := 30) rfl))) (hw _ (List.mem_of_getElem? (i := 2) rfl)) (ty := (.array .int)) (by decide) rfl rfl (g := (mkF m 26 #[.val (.ref x0), .val (.ref x1), .val .null] [.null, (.ref x0)])) rfl rfl (hb hby din2t_26)
  have f46 := f38.same W45
  have f47 := f37.wr W45
  have f48 := f39.other W45 (Or.inr (slot_ne (Or.inl (hw _ (List.mem_of_getElem? (i := 62) rfl))) (Or.inl (hw _ (List.mem_of_getElem? (i := 30) rfl))) (by decide) (t := .int) (t' := (.array .int)) (by decide) (by decide)))
  have f49 := f40.other W45 (Or.inr (slot_ne (Or.inl (hw _ (List.mem_of_getElem? (i := 22) rfl))) (Or.inl (hw _ (List.mem_of_getElem? (i := 30) rfl))) (by decide) (t := .int) (t' := (.array .int)) (by decide) (by decide)))
  have f50 := f41.other W45 (Or.inr (slot_ne (Or.inl (hw _ (List.mem_of_getElem? (i := 24) rfl))) (Or.inl (hw _ (List.mem_of_getElem? (i := 30) rfl))) (by decide) (t := .int) (t' := (.array .int)) (by decide) (by decide)))
  have f51 := f42.other W45 (Or.inr (slot_ne (Or.inl (hw _ (List.mem_of_getElem? (i := 26) rfl))) (Or.inl (hw _ (List.mem_of_getElem? (i := 30) rfl))) (by decide) (t := .int) (t' := (.array .int)) (by decide) (by decide)))
  have f52 := f36.other W45 (Or.inr (slot_ne (Or.inl (hw _ (List.mem_of_getElem? (i := 28) rfl))) (Or.inl (hw _ (List.mem_of_getElem? (i := 30) rfl))) (by decide) (t := (.array .int)) (t' := (.array .int)) (by decide) (by decide)))
  have Z45 := Nat.le_trans Z35 (Keep.of_wr W45).1
  have N45 := Fr.snoc X45 N35 g0
  have KK45 := KK35.wr W45 (Or.inl (List.mem_singleton.mpr rfl))
  have p53 : ∀ t, own_W p e below m T45 29 #[.val (.ref x0), .val (.ref x1), .val .null] [] t → Steps p.tables e below S0 t := fun t k => p44 t (st45 t k)
  subst hS0
  obtain ⟨fs, hr, hrun, hended, hW, hsame⟩ := X45.leave (v := none) (fun _ => rfl)
  refine ⟨_, _, p53 _ ?_, hrun, hended, _, _, rfl, ?_, ⟨_, rfl⟩, hW, hsame.mono (by decide) (by decide)⟩
  · show own_W p e below m T45 29 #[.val (.ref x0), .val (.ref x1), .val .null] [] _
    exact X45.returnOut hx Bd.returns (hb hby din2t_29) hr
  · show Qin2t Z x0 x1 h0 n0 _ T45.heap _
    rw [e45]
    exact ⟨rfl, N45, KK45, f49, f50, f51, f52, f46, f48⟩
theorem din2b_0 : decode prog_53_method_2_code 0 = .ok (.aload_n 0, 1) := by decide +kernel
theorem din2b_1 : decode prog_53_method_2_code 1 = .ok (.invokespecial 11, 3) := by decide +kernel
theorem din2b_4 : decode prog_53_method_2_code 4 = .ok (.aload_n 0, 1) := by decide +kernel
theorem din2b_5 : decode prog_53_method_2_code 5 = .ok (.iconst (-1), 1) := by decide +kernel
theorem din2b_6 : decode prog_53_method_2_code 6 = .ok (.putfield 16, 3) := by decide +kernel
theorem din2b_9 : decode prog_53_method_2_code 9 = .ok (.aload_n 0, 1) := by decide +kernel
theorem din2b_10 : decode prog_53_method_2_code 10 = .ok (.iconst (-1), 1) := by decide +kernel
theorem din2b_11 : decode prog_53_method_2_code 11 = .ok (.putfield 20, 3) := by decide +kernel
theorem din2b_14 : decode prog_53_method_2_code 14 = .ok (.aload_n 0, 1) := by decide +kernel
theorem din2b_15 : decode prog_53_method_2_code 15 = .ok (.iconst (-1), 1) := by decide +kernel
theorem din2b_16 : decode prog_53_method_2_code 16 = .ok (.putfield 23, 3) := by decide +kernel
theorem din2b_19 : decode prog_53_method_2_code 19 = .ok (.aload_n 0, 1) := by decide +kernel
theorem din2b_20 : decode prog_53_method_2_code 20 = .ok (.aload_n 1, 1) := by decide +kernel
theorem din2b_21 : decode prog_53_method_2_code 21 = .ok (.putfield 26, 3) := by decide +kernel
theorem din2b_24 : decode prog_53_method_2_code 24 = .ok (.aload_n 0, 1) := by decide +kernel
theorem din2b_25 : decode prog_53_method_2_code 25 = .ok (.aload_n 2, 1) := by decide +kernel
theorem din2b_26 : decode prog_53_method_2_code 26 = .ok (.putfield 30, 3) := by decide +kernel
theorem din2b_29 : decode prog_53_method_2_code 29 = .ok (.return_, 1) := by decide +kernel
theorem pnin2b : plainName "com/example/kinwarden/kinwarden/IntMap" = true := by first | (simp [plainName, overriddenIn]; done) | decide +kernel
theorem efin2b (m : MethodId) (x0 : Addr) (x2 : Addr) : entryFrame m #[(.ref x0), .null, (.ref x2)] 3 = mkF m 0 #[.val (.ref x0), .val .null, .val (.ref x2)] [] := by first | (simp [entryFrame, mkF, argsToLocals, Value.category]; done) | rfl
def Qin2b (Z : State) (x0 : Addr) (x2 : Addr) (h0 : Heap) (n0 : Nat) (v : Option Value) (h : Heap) (L : List Loc) : Prop := v = none ∧ Fr n0 L ∧ Keep h0 h [x0] ∧ Fld Z h x0 "com/example/kinwarden/kinwarden/IntMap" "highest" "I" (.int (-1 : Int32)) ∧ Fld Z h x0 "com/example/kinwarden/kinwarden/IntMap" "lowestValue" "I" (.int (-1 : Int32)) ∧ Fld Z h x0 "com/example/kinwarden/kinwarden/IntMap" "highestValue" "I" (.int (-1 : Int32)) ∧ Fld Z h x0 "com/example/kinwarden/kinwarden/IntMap" "table" "[I" .null ∧ Fld Z h x0 "com/example/kinwarden/kinwarden/IntMap" "byKey" "[I" (.ref x2) ∧ Fld Z h x0 "com/example/kinwarden/kinwarden/IntMap" "size" "I" (.int (0 : Int32))
set_option maxRecDepth 65536 in
set_option maxHeartbeats 40000000 in
theorem rmin2b (l : Launch) (Z : State) (a0 : Array Value) (hw : ∀ d ∈ tables_1, d.before a0 Z = true) (ws : List Jvm.Cond) (x0 : Addr) (x2 : Addr) (h0 : Heap) (n0 : Nat) (Z0 : n0 ≤ h0.size) (E0 : Exa Z h0 x0 "com/example/kinwarden/kinwarden/IntMap") (Fh : Fld Z h0 x0 "com/example/kinwarden/kinwarden/IntMap" "highest" "I" (.int (0 : Int32))) (Fl : Fld Z h0 x0 "com/example/kinwarden/kinwarden/IntMap" "lowestValue" "I" (.int (0 : Int32))) (Fv : Fld Z h0 x0 "com/example/kinwarden/kinwarden/IntMap" "highestValue" "I" (.int (0 : Int32))) (Ft : Fld Z h0 x0 "com/example/kinwarden/kinwarden/IntMap" "table" "[I" .null) (Fb : Fld Z h0 x0 "com/example/kinwarden/kinwarden/IntMap" "byKey" "[I" .null) (Fs : Fld Z h0 x0 "com/example/kinwarden/kinwarden/IntMap" "size" "I" (.int (0 : Int32))) (g0 : n0 ≤ x0) :
    MetFree l (⟨"com/example/kinwarden/kinwarden/IntMap", "<init>", "([I[I)V"⟩ : MethodName) (head1 (Jvm.Cond.code (⟨"com/example/kinwarden/kinwarden/IntMap", "<init>", "([I[I)V"⟩ : MethodName) prog_53_method_2_code 3 none :: ws) ({ frames := 1, cells := 0, slots := 0, locals := 12 } : Room)) (fun a U => a = #[(.ref x0), .null, (.ref x2)] ∧ Z.Warmed39 U.vm ∧ U.heap = h0) (fun _ _ _ _ _ => True) (fun _ U o U' => ∃ v L, o = .returned v ∧ Qin2b Z x0 x2 h0 n0 v U'.heap L ∧ FrameEnd U o U' L ({ frames := 1, cells := 0, slots := 0, locals := 12 } : Room).cells ({ frames := 1, cells := 0, slots := 0, locals := 12 } : Room).slots) := by
  refine MetFree.of_bodySF (plainFor_of_name pnin2b) hisR ?_
  intro p e s m args below meth c s₁ Bd hml0 hP hK
  obtain ⟨rfl, hZ, hh⟩ := hP
  have hx := Bd.exec
  have hby := Bd.bytes
  have hml : c.maxLocals = 3 := hml0
  have hown : s.vm.findClass "com/example/kinwarden/kinwarden/IntMap" = some m.cls := findClass_of_methodNamed Bd.named
  have hnm := (name_of_methodNamed Bd.named Bd.method).1
  have X0 : Stand p l e ({ frames := 1, cells := 0, slots := 0, locals := 12 } : Room) s m #[(.ref x0), .null, (.ref x2)] below meth c s₁ [] 0 0 := Stand.of_body Bd
  have e0 : s₁.heap = h0 := by rw [← hh, Bd.state]; rfl
  have N0 := Fr.nil n0
  have pre0 : ∀ t, Steps p.tables e below (s₁.setTop (mkF m 0 #[.val (.ref x0), .val .null, .val (.ref x2)] [])) t → Steps p.tables e below (s₁.setTop (entryFrame m #[(.ref x0), .null, (.ref x2)] 3)) t := fun t k => castTop (efin2b m x0 x2) k
  obtain ⟨S0, hS0⟩ : ∃ z, z = (s₁.setTop (entryFrame m #[(.ref x0), .null, (.ref x2)] 3)) := ⟨_, rfl⟩
  rw [← hS0] at pre0
  have K0 := Keep.refl h0 [x0]
  have p1 : ∀ t, own_W p e below m s₁ 1 #[.val (.ref x0), .val .null, .val (.ref x2)] [(.ref x0)] t → Steps p.tables e below S0 t := fun t k => pre0 t (by
    show own_W p e below m s₁ 0 #[.val (.ref x0), .val .null, .val (.ref x2)] [] _
    refine XS.aloadN X0.here hx rfl (hb hby din2b_0) rfl rfl ?_
    exact k)
  obtain ⟨T2, X2, e2, st2⟩ := initO X0 hx hZ hown (hw _ (List.mem_of_getElem? (i := 18) rfl)) (hw _ (List.mem_of_getElem? (i := 19) rfl)) (hw _ (List.mem_of_getElem? (i := 20) rfl)) e0 (g := (mkF m 1 #[.val (.ref x0), .val .null, .val (.ref x2)] [(.ref x0)])) rfl (by rw [hml]; rfl) rfl (hb hby din2b_1) (by decide) (W := 0) (by show 2 * 0 + _ ≤ _; exact Nat.le_of_eq rfl) (by decide)
  have p3 : ∀ t, own_W p e below m T2 4 #[.val (.ref x0), .val .null, .val (.ref x2)] [] t → Steps p.tables e below S0 t := fun t k => p1 t (st2 t k)
  have p4 : ∀ t, own_W p e below m T2 6 #[.val (.ref x0), .val .null, .val (.ref x2)] [(.int (-1 : Int32)), (.ref x0)] t → Steps p.tables e below S0 t := fun t k => p3 t (by
    show own_W p e below m T2 4 #[.val (.ref x0), .val .null, .val (.ref x2)] [] _
    refine XS.aloadN X2.here hx rfl (hb hby din2b_4) rfl rfl ?_
    refine XS.iconst X2.here hx rfl (hb hby din2b_5) ?_
    exact k)
  obtain ⟨T5, h5, X5, e5, W5, st5⟩ := putF X2 hx hZ hown (host := "") (Or.inl (hw _ (List.mem_of_getElem? (i := 21) rfl))) Via.refl e2 Fh E0 (Or.inl (hw _ (List.mem_of_getElem? (i := 22) rfl))) (hw _ (List.mem_of_getElem? (i := 2) rfl)) (ty := .int) (by decide) rfl rfl (g := (mkF m 6 #[.val (.ref x0), .val .null, .val (.ref x2)] [(.int (-1 : Int32)), (.ref x0)])) rfl rfl (hb hby din2b_6)
  have f6 := Fh.same W5
  have f7 := E0.wr W5
  have f8 := Fl.other W5 (Or.inr (slot_ne (Or.inl (hw _ (List.mem_of_getElem? (i := 24) rfl))) (Or.inl (hw _ (List.mem_of_getElem? (i := 22) rfl))) (by decide) (t := .int) (t' := .int) (by decide) (by decide)))
  have f9 := Fv.other W5 (Or.inr (slot_ne (Or.inl (hw _ (List.mem_of_getElem? (i := 26) rfl))) (Or.inl (hw _ (List.mem_of_getElem? (i := 22) rfl))) (by decide) (t := .int) (t' := .int) (by decide) (by decide)))
  have f10 := Ft.other W5 (Or.inr (slot_ne (Or.inl (hw _ (List.mem_of_getElem? (i := 28) rfl))) (Or.inl (hw _ (List.mem_of_getElem? (i := 22) rfl))) (by decide) (t := (.array .int)) (t' := .int) (by decide) (by decide)))
  have f11 := Fb.other W5 (Or.inr (slot_ne (Or.inl (hw _ (List.mem_of_getElem? (i := 30) rfl))) (Or.inl (hw _ (List.mem_of_getElem? (i := 22) rfl))) (by decide) (t := (.array .int)) (t' := .int) (by decide) (by decide)))
  have f12 := Fs.other W5 (Or.inr (slot_ne (Or.inl (hw _ (List.mem_of_getElem? (i := 62) rfl))) (Or.inl (hw _ (List.mem_of_getElem? (i := 22) rfl))) (by decide) (t := .int) (t' := .int) (by decide) (by decide)))
  have Z5 := Nat.le_trans Z0 (Keep.of_wr W5).1
  have N5 := Fr.snoc X5 N0 g0
  have KK5 := K0.wr W5 (Or.inl (List.mem_singleton.mpr rfl))
  have p13 : ∀ t, own_W p e below m T5 9 #[.val (.ref x0), .val .null, .val (.ref x2)] [] t → Steps p.tables e below S0 t := fun t k => p4 t (st5 t k)
  have p14 : ∀ t, own_W p e below m T5 11 #[.val (.ref x0), .val .null, .val (.ref x2)] [(.int (-1 : Int32)), (.ref x0)] t → Steps p.tables e below S0 t := fun t k => p13 t (by
    show own_W p e below m T5 9 #[.val (.ref x0), .val .null, .val (.ref x2)] [] _
    refine XS.aloadN X5.here hx rfl (hb hby din2b_9) rfl rfl ?_
    refine XS.iconst X5.here hx rfl (hb hby din2b_10) ?_
    exact k)
  obtain ⟨T15, h15, X15, e15, W15, st15⟩ := putF X5 hx hZ hown (host := "") (Or.inl (hw _ (List.mem_of_getElem? (i := 23) rfl))) Via.refl e5 f8 f7 (Or.inl (hw _ (List.mem_of_getElem? (i := 24) rfl))) (hw _ (List.mem_of_getElem? (i := 2) rfl)) (ty := .int) (by decide) rfl rfl (g := (mkF m 11 #[.val (.ref x0), .val .null, .val (.ref x2)] [(.int (-1 : Int32)), (.ref x0)])) rfl rfl (hb hby din2b_11)
  have f16 := f8.same W15
  have f17 := f7.wr W15
  have f18 := f9.other W15 (Or.inr (slot_ne (Or.inl (hw _ (List.mem_of_getElem? (i := 26) rfl))) (Or.inl (hw _ (List.mem_of_getElem? (i := 24) rfl))) (by decide) (t := .int) (t' := .int) (by decide) (by decide)))
  have f19 := f10.other W15 (Or.inr (slot_ne (Or.inl (hw _ (List.mem_of_getElem? (i := 28) rfl))) (Or.inl (hw _ (List.mem_of_getElem? (i := 24) rfl))) (by decide) (t := (.array .int)) (t' := .int) (by decide) (by decide)))
  have f20 := f11.other W15 (Or.inr (slot_ne (Or.inl (hw _ (List.mem_of_getElem? (i := 30) rfl))) (Or.inl (hw _ (List.mem_of_getElem? (i := 24) rfl))) (by decide) (t := (.array .int)) (t' := .int) (by decide) (by decide)))
  have f21 := f12.other W15 (Or.inr (slot_ne (Or.inl (hw _ (List.mem_of_getElem? (i := 62) rfl))) (Or.inl (hw _ (List.mem_of_getElem? (i := 24) rfl))) (by decide) (t := .int) (t' := .int) (by decide) (by decide)))
  have f22 := f6.other W15 (Or.inr (slot_ne (Or.inl (hw _ (List.mem_of_getElem? (i := 22) rfl))) (Or.inl (hw _ (List.mem_of_getElem? (i := 24) rfl))) (by decide) (t := .int) (t' := .int) (by decide) (by decide)))
  have Z15 := Nat.le_trans Z5 (Keep.of_wr W15).1
  have N15 := Fr.snoc X15 N5 g0
  have KK15 := KK5.wr W15 (Or.inl (List.mem_singleton.mpr rfl))
  have p23 : ∀ t, own_W p e below m T15 14 #[.val (.ref x0), .val .null, .val (.ref x2)] [] t → Steps p.tables e below S0 t := fun t k => p14 t (st15 t k)
  have p24 : ∀ t, own_W p e below m T15 16 #[.val (.ref x0), .val .null, .val (.ref x2)] [(.int (-1 : Int32)), (.ref x0)] t → Steps p.tables e below S0 t := fun t k => p23 t (by
    show own_W p e below m T15 14 #[.val (.ref x0), .val .null, .val (.ref x2)] [] _
    refine XS.aloadN X15.here hx rfl (hb hby din2b_14) rfl rfl ?_
    refine XS.iconst X15.here hx rfl (hb hby din2b_15) ?_
    exact k)
  obtain ⟨T25, h25, X25, e25, W25, st25⟩ := putF X15 hx hZ hown (host := "") (Or.inl (hw _ (List.mem_of_getElem? (i := 25) rfl))) Via.refl e15 f18 f17 (Or.inl (hw _ (List.mem_of_getElem? (i := 26) rfl))) (hw _ (List.mem_of_getElem? (i := 2) rfl)) (ty := .int) (by decide) rfl rfl (g := (mkF m 16 #[.val (.ref x0), .val .null, .val (.ref x2)] [(.int (-1 : Int32)), (.ref x0)])) rfl rfl (hb hby din2b_16)
  have f26 := f18.same W25
  have f27 := f17.wr W25
  have f28 := f19.other W25 (Or.inr (slot_ne (Or.inl (hw _ (List.mem_of_getElem? (i := 28) rfl))) (Or.inl (hw _ (List.mem_of_getElem? (i := 26) rfl))) (by decide) (t := (.array .int)) (t' := .int) (by decide) (by decide)))
  have f29 := f20.other W25 (Or.inr (slot_ne (Or.inl (hw _ (List.mem_of_getElem? (i := 30) rfl))) (Or.inl (hw _ (List.mem_of_getElem? (i := 26) rfl))) (by decide) (t := (.array .int)) (t' := .int) (by decide) (by decide)))
  have f30 := f21.other W25 (Or.inr (slot_ne (Or.inl (hw _ (List.mem_of_getElem? (i := 62) rfl))) (Or.inl (hw _ (List.mem_of_getElem? (i := 26) rfl))) (by decide) (t := .int) (t' := .int) (by decide) (by decide)))
  have f31 := f22.other W25 (Or.inr (slot_ne (Or.inl (hw _ (List.mem_of_getElem? (i := 22) rfl))) (Or.inl (hw _ (List.mem_of_getElem? (i := 26) rfl))) (by decide) (t := .int) (t' := .int) (by decide) (by decide)))
  have f32 := f16.other W25 (Or.inr (slot_ne (Or.inl (hw _ (List.mem_of_getElem? (i := 24) rfl))) (Or.inl (hw _ (List.mem_of_getElem? (i := 26) rfl))) (by decide) (t := .int) (t' := .int) (by decide) (by decide)))
  have Z25 := Nat.le_trans Z15 (Keep.of_wr W25).1
  have N25 := Fr.snoc X25 N15 g0
  have KK25 := KK15.wr W25 (Or.inl (List.mem_singleton.mpr rfl))
  have p33 : ∀ t, own_W p e below m T25 19 #[.val (.ref x0), .val .null, .val (.ref x2)] [] t → Steps p.tables e below S0 t := fun t k => p24 t (st25 t k)
  have p34 : ∀ t, own_W p e below m T25 21 #[.val (.ref x0), .val .null, .val (.ref x2)] [.null, (.ref x0)] t → Steps p.tables e below S0 t := fun t k => p33 t (by
    show own_W p e below m T25 19 #[.val (.ref x0), .val .null, .val (.ref x2)] [] _
    refine XS.aloadN X25.here hx rfl (hb hby din2b_19) rfl rfl ?_
    refine XS.aloadN X25.here hx rfl (hb hby din2b_20) rfl rfl ?_
    exact k)
  obtain ⟨T35, h35, X35, e35, W35, st35⟩ := putF X25 hx hZ hown (host := "") (Or.inl (hw _ (List.mem_of_getElem? (i := 27) rfl))) Via.refl e25 f28 f27 (Or.inl (hw _ (List.mem_of_getElem? (i := 28) rfl))) (hw _ (List.mem_of_getElem? (i := 2) rfl)) (ty := (.array .int)) (by decide) rfl rfl (g := (mkF m 21 #[.val (.ref x0), .val .null, .val (.ref x2)] [.null, (.ref x0)])) rfl rfl (hb hby din2b_21)
  have f36 := f28.same W35
  have f37 := f27.wr W35
  have f38 := f29.other W35 (Or.inr (slot_ne (Or.inl (hw _ (List.mem_of_getElem? (i := 30) rfl))) (Or.inl (hw _ (List.mem_of_getElem? (i := 28) rfl))) (by decide) (t := (.array .int)) (t' := (.array .int)) (by decide) (by decide)))
  have f39 := f30.other W35 (Or.inr (slot_ne (Or.inl (hw _ (List.mem_of_getElem? (i := 62) rfl))) (Or.inl (hw _ (List.mem_of_getElem? (i := 28) rfl))) (by decide) (t := .int) (t' := (.array .int)) (by decide) (by decide)))
  have f40 := f31.other W35 (Or.inr (slot_ne (Or.inl (hw _ (List.mem_of_getElem? (i := 22) rfl))) (Or.inl (hw _ (List.mem_of_getElem? (i := 28) rfl))) (by decide) (t := .int) (t' := (.array .int)) (by decide) (by decide)))
  have f41 := f32.other W35 (Or.inr (slot_ne (Or.inl (hw _ (List.mem_of_getElem? (i := 24) rfl))) (Or.inl (hw _ (List.mem_of_getElem? (i := 28) rfl))) (by decide) (t := .int) (t' := (.array .int)) (by decide) (by decide)))
  have f42 := f26.other W35 (Or.inr (slot_ne (Or.inl (hw _ (List.mem_of_getElem? (i := 26) rfl))) (Or.inl (hw _ (List.mem_of_getElem? (i := 28) rfl))) (by decide) (t := .int) (t' := (.array .int)) (by decide) (by decide)))
  have Z35 := Nat.le_trans Z25 (Keep.of_wr W35).1
  have N35 := Fr.snoc X35 N25 g0
  have KK35 := KK25.wr W35 (Or.inl (List.mem_singleton.mpr rfl))
  have p43 : ∀ t, own_W p e below m T35 24 #[.val (.ref x0), .val .null, .val (.ref x2)] [] t → Steps p.tables e below S0 t := fun t k => p34 t (st35 t k)
  have p44 : ∀ t, own_W p e below m T35 26 #[.val (.ref x0), .val .null, .val (.ref x2)] [(.ref x2), (.ref x0)] t → Steps p.tables e below S0 t := fun t k => p43 t (by
    show own_W p e below m T35 24 #[.val (.ref x0), .val .null, .val (.ref x2)] [] _
    refine XS.aloadN X35.here hx rfl (hb hby din2b_24) rfl rfl ?_
    refine XS.aloadN X35.here hx rfl (hb hby din2b_25) rfl rfl ?_
    exact k)
  obtain ⟨T45, h45, X45, e45, W45, st45⟩ := putF X35 hx hZ hown (host := "") (Or.inl (hw _ (List.mem_of_getElem? (i := 29) rfl))) Via.refl e35 f38 f37 (Or.inl (hw _ (List.mem_of_getElem? (i := 30) rfl))) (hw _ (List.mem_of_getElem? (i := 2) rfl)) (ty := (.array .int)) (by decide) rfl rfl (g := (mkF m 26 #[.val (.ref x0), .val .null, .val (.ref x2)] [(.ref x2), (.ref x0)])) rfl rfl (hb hby din2b_26)
  have f46 := f38.same W45
  have f47 := f37.wr W45
  have f48 := f39.other W45 (Or.inr (slot_ne (Or.inl (hw _ (List.mem_of_getElem? (i := 62) rfl))) (Or.inl (hw _ (List.mem_of_getElem? (i := 30) rfl))) (by decide) (t := .int) (t' := (.array .int)) (by decide) (by decide)))
  have f49 := f40.other W45 (Or.inr (slot_ne (Or.inl (hw _ (List.mem_of_getElem? (i := 22) rfl))) (Or.inl (hw _ (List.mem_of_getElem? (i := 30) rfl))) (by decide) (t := .int) (t' := (.array .int)) (by decide) (by decide)))
  have f50 := f41.other W45 (Or.inr (slot_ne (Or.inl (hw _ (List.mem_of_getElem? (i := 24) rfl))) (Or.inl (hw _ (List.mem_of_getElem? (i := 30) rfl))) (by decide) (t := .int) (t' := (.array .int)) (by decide) (by decide)))
  have f51 := f42.other W45 (Or.inr (slot_ne (Or.inl (hw _ (List.mem_of_getElem? (i := 26) rfl))) (Or.inl (hw _ (List.mem_of_getElem? (i := 30) rfl))) (by decide) (t := .int) (t' := (.array .int)) (by decide) (by decide)))
  have f52 := f36.other W45 (Or.inr (slot_ne (Or.inl (hw _ (List.mem_of_getElem? (i := 28) rfl))) (Or.inl (hw _ (List.mem_of_getElem? (i := 30) rfl))) (by decide) (t := (.array .int)) (t' := (.array .int)) (by decide) (by decide)))
  have Z45 := Nat.le_trans Z35 (Keep.of_wr W45).1
  have N45 := Fr.snoc X45 N35 g0
  have KK45 := KK35.wr W45 (Or.inl (List.mem_singleton.mpr rfl))
  have p53 : ∀ t, own_W p e below m T45 29 #[.val (.ref x0), .val .null, .val (.ref x2)] [] t → Steps p.tables e below S0 t := fun t k => p44 t (st45 t k)
  subst hS0
  obtain ⟨fs, hr, hrun, hended, hW, hsame⟩ := X45.leave (v := none) (fun _ => rfl)
  refine ⟨_, _, p53 _ ?_, hrun, hended, _, _, rfl, ?_, ⟨_, rfl⟩, hW, hsame.mono (by decide) (by decide)⟩
  · show own_W p e below m T45 29 #[.val (.ref x0), .val .null, .val (.ref x2)] [] _
    exact X45.returnOut hx Bd.returns (hb hby din2b_29) hr
  · show Qin2b Z x0 x2 h0 n0 _ T45.heap _
    rw [e45]
    exact ⟨rfl, N45, KK45, f49, f50, f51, f52, f46, f48⟩
theorem din0_0 : decode prog_53_method_1_code 0 = .ok (.aload_n 0, 1) := by decide +kernel
theorem din0_1 : decode prog_53_method_1_code 1 = .ok (.bipush 16, 2) := by decide +kernel
theorem din0_3 : decode prog_53_method_1_code 3 = .ok (.invokestatic 3, 3) := by decide +kernel
theorem din0_6 : decode prog_53_method_1_code 6 = .ok (.aconst_null, 1) := by decide +kernel
theorem din0_7 : decode prog_53_method_1_code 7 = .ok (.invokespecial 7, 3) := by decide +kernel
theorem din0_10 : decode prog_53_method_1_code 10 = .ok (.return_, 1) := by decide +kernel
theorem pnin0 : plainName "com/example/kinwarden/kinwarden/IntMap" = true := by first | (simp [plainName, overriddenIn]; done) | decide +kernel
theorem pdin0_0 : parseMethodDescriptor "(I)[I" = some ⟨[.int], some (.array .int)⟩ := by decide +kernel
theorem pdin0_1 : parseMethodDescriptor "([I[I)V" = some ⟨[(.array .int), (.array .int)], none⟩ := by decide +kernel
theorem efin0 (m : MethodId) (x0 : Addr) : entryFrame m #[(.ref x0)] 1 = mkF m 0 #[.val (.ref x0)] [] := by first | (simp [entryFrame, mkF, argsToLocals, Value.category]; done) | rfl
def Qin0 (Z : State) (x0 : Addr) (h0 : Heap) (n0 : Nat) (v : Option Value) (h : Heap) (L : List Loc) : Prop := v = none ∧ Fr n0 L ∧ Keep h0 h [x0] ∧ ∃ (t : Addr) (kk : ClassId), h0.size ≤ t ∧ Exa Z h x0 "com/example/kinwarden/kinwarden/IntMap" ∧ Fld Z h x0 "com/example/kinwarden/kinwarden/IntMap" "table" "[I" (.ref t) ∧ Fld Z h x0 "com/example/kinwarden/kinwarden/IntMap" "byKey" "[I" .null ∧ Fld Z h x0 "com/example/kinwarden/kinwarden/IntMap" "size" "I" (.int (0 : Int32)) ∧ Fld Z h x0 "com/example/kinwarden/kinwarden/IntMap" "highest" "I" (.int (-1 : Int32)) ∧ Fld Z h x0 "com/example/kinwarden/kinwarden/IntMap" "lowestValue" "I" (.int (-1 : Int32)) ∧ Fld Z h x0 "com/example/kinwarden/kinwarden/IntMap" "highestValue" "I" (.int (-1 : Int32)) ∧ Arv Z h t kk .int (16 : Int32) [(.int (-1 : Int32)), (.int (-1 : Int32)), (.int (-1 : Int32)), (.int (-1 : Int32)), (.int (-1 : Int32)), (.int (-1 : Int32)), (.int (-1 : Int32)), (.int (-1 : Int32)), (.int (-1 : Int32)), (.int (-1 : Int32)), (.int (-1 : Int32)), (.int (-1 : Int32)), (.int (-1 : Int32)), (.int (-1 : Int32)), (.int (-1 : Int32)), (.int (-1 : Int32))] (.int (0 : Int32))
set_option maxRecDepth 65536 in
set_option maxHeartbeats 40000000 in
theorem rmin0 (l : Launch) (Z : State) (a0 : Array Value) (hw : ∀ d ∈ tables_1, d.before a0 Z = true) (ws : List Jvm.Cond) (x0 : Addr) (h0 : Heap) (n0 : Nat) (Z0 : n0 ≤ h0.size) (E0 : Exa Z h0 x0 "com/example/kinwarden/kinwarden/IntMap") (Fh : Fld Z h0 x0 "com/example/kinwarden/kinwarden/IntMap" "highest" "I" (.int (0 : Int32))) (Fl : Fld Z h0 x0 "com/example/kinwarden/kinwarden/IntMap" "lowestValue" "I" (.int (0 : Int32))) (Fv : Fld Z h0 x0 "com/example/kinwarden/kinwarden/IntMap" "highestValue" "I" (.int (0 : Int32))) (Ft : Fld Z h0 x0 "com/example/kinwarden/kinwarden/IntMap" "table" "[I" .null) (Fb : Fld Z h0 x0 "com/example/kinwarden/kinwarden/IntMap" "byKey" "[I" .null) (Fs : Fld Z h0 x0 "com/example/kinwarden/kinwarden/IntMap" "size" "I" (.int (0 : Int32))) (g0 : n0 ≤ x0) :
    MetFree l (⟨"com/example/kinwarden/kinwarden/IntMap", "<init>", "()V"⟩ : MethodName) (head1 (Jvm.Cond.code (⟨"com/example/kinwarden/kinwarden/IntMap", "<init>", "()V"⟩ : MethodName) prog_53_method_1_code 1 none :: ws) ({ frames := 2, cells := 1, slots := 32, locals := 29 } : Room)) (fun a U => a = #[(.ref x0)] ∧ Z.Warmed39 U.vm ∧ U.heap = h0) (fun _ _ _ _ _ => True) (fun _ U o U' => ∃ v L, o = .returned v ∧ Qin0 Z x0 h0 n0 v U'.heap L ∧ FrameEnd U o U' L ({ frames := 2, cells := 1, slots := 32, locals := 29 } : Room).cells ({ frames := 2, cells := 1, slots := 32, locals := 29 } : Room).slots) := by
  refine MetFree.of_bodySF (plainFor_of_name pnin0) hisR ?_
  intro p e s m args below meth c s₁ Bd hml0 hP hK
  obtain ⟨rfl, hZ, hh⟩ := hP
  have hx := Bd.exec
  have hby := Bd.bytes
  have hml : c.maxLocals = 1 := hml0
  have hown : s.vm.findClass "com/example/kinwarden/kinwarden/IntMap" = some m.cls := findClass_of_methodNamed Bd.named
  have hnm := (name_of_methodNamed Bd.named Bd.method).1
  have X0 : Stand p l e ({ frames := 2, cells := 1, slots := 32, locals := 29 } : Room) s m #[(.ref x0)] below meth c s₁ [] 0 0 := Stand.of_body Bd
  have e0 : s₁.heap = h0 := by rw [← hh, Bd.state]; rfl
  have N0 := Fr.nil n0
  have pre0 : ∀ t, Steps p.tables e below (s₁.setTop (mkF m 0 #[.val (.ref x0)] [])) t → Steps p.tables e below (s₁.setTop (entryFrame m #[(.ref x0)] 1)) t := fun t k => castTop (efin0 m x0) k
  obtain ⟨S0, hS0⟩ : ∃ z, z = (s₁.setTop (entryFrame m #[(.ref x0)] 1)) := ⟨_, rfl⟩
  rw [← hS0] at pre0
  have K0 := Keep.refl h0 [x0]
  have p1 : ∀ t, own_W p e below m s₁ 3 #[.val (.ref x0)] [(.int (16 : Int32)), (.ref x0)] t → Steps p.tables e below S0 t := fun t k => pre0 t (by
    show own_W p e below m s₁ 0 #[.val (.ref x0)] [] _
    refine XS.aloadN X0.here hx rfl (hb hby din0_0) rfl rfl ?_
    refine XS.bipush X0.here hx rfl (hb hby din0_1) ?_
    exact k)
  obtain ⟨_, _, ⟨T2, L2, k2, n2⟩, -, X2, ⟨Lc2, hQ2, l2, y2, z2⟩, st2⟩ := Jvm.LawKit.callS X0 hx (y := (⟨"com/example/kinwarden/kinwarden/IntMap", "emptyRoom", "(I)[I"⟩ : MethodName)) hown (mvT hZ (hw _ (List.mem_of_getElem? (i := 7) rfl))) (mvT hZ (hw _ (List.mem_of_getElem? (i := 8) rfl))) (mvT hZ (hw _ (List.mem_of_getElem? (i := 3) rfl))) (mvT hZ (hw _ (List.mem_of_getElem? (i := 9) rfl))) (by decide) (backOf (W := 1) (rmer l Z a0 hw [] (16 : Int32)  h0 n0 Z0 (by decide) (by decide)) hZ (hw _ (List.mem_of_getElem? (i := 9) rfl)) (hw _ (List.mem_of_getElem? (i := 3) rfl)) (by decide) (by decide)) (g := (mkF m 3 #[.val (.ref x0)] [(.int (16 : Int32)), (.ref x0)])) rfl (by rw [hml]; rfl) (argsL := [(.int (16 : Int32))]) (rest := [(.ref x0)]) (lenOf pdin0_0 rfl) rfl (by show 2 * 0 + _ ≤ _; exact Nat.le_of_eq rfl) (hb hby din0_3) (fun _ _ => ⟨rfl, e0, (by decide : 0 + 1 ≤ _), (by decide : 0 + 32 ≤ _)⟩)
  dsimp only [Pt.U, Pt.locs, Pt.cells, Pt.slots] at X2 l2 y2 z2 st2 hQ2
  subst l2 y2 z2
  obtain ⟨r2, kk2, ws2, rfl, Nq2, K2, gr2, VR2, hall2⟩ := hQ2
  have N2 := Fr.app N0 Nq2
  have f3 := E0.keep K2
  have f4 := Fh.keep K2 nin0
  have f5 := Fl.keep K2 nin0
  have f6 := Fv.keep K2 nin0
  have f7 := Ft.keep K2 nin0
  have f8 := Fb.keep K2 nin0
  have f9 := Fs.keep K2 nin0
  have Z2 := Nat.le_trans Z0 K2.1
  have KK2 := K0.trans K2 (all0)
  have p10 : ∀ t, own_W p e below m T2 6 #[.val (.ref x0)] [(.ref r2), (.ref x0)] t → Steps p.tables e below S0 t := fun t k => p1 t (st2 _ k)
  have Zb2 := Z0
  have Kb2 := K0
  have gn_r2 : n0 ≤ r2 := Nat.le_trans Zb2 gr2
  have gk_r2 : h0.size ≤ r2 := Nat.le_trans Kb2.1 gr2
  have ne_x0_r2 : x0 ≠ r2 := Nat.ne_of_lt (Nat.lt_of_lt_of_le Fs.lt gr2)
  have VT2 : Arv Z T2.heap r2 kk2 .int (16 : Int32) [(.int (-1 : Int32)), (.int (-1 : Int32)), (.int (-1 : Int32)), (.int (-1 : Int32)), (.int (-1 : Int32)), (.int (-1 : Int32)), (.int (-1 : Int32)), (.int (-1 : Int32)), (.int (-1 : Int32)), (.int (-1 : Int32)), (.int (-1 : Int32)), (.int (-1 : Int32)), (.int (-1 : Int32)), (.int (-1 : Int32)), (.int (-1 : Int32)), (.int (-1 : Int32))] (.int (0 : Int32)) := own_congr VR2 (fun j hj => (own_t0 j hj).trans (hall2 j hj).symm)
  have p11 : ∀ t, own_W p e below m T2 7 #[.val (.ref x0)] [.null, (.ref r2), (.ref x0)] t → Steps p.tables e below S0 t := fun t k => p10 t (by
    show own_W p e below m T2 6 #[.val (.ref x0)] [(.ref r2), (.ref x0)] _
    refine XS.aconstNull X2.here hx rfl (hb hby din0_6) ?_
    exact k)
  obtain ⟨_, _, ⟨T12, L12, k12, n12⟩, -, X12, ⟨Lc12, hQ12, l12, y12, z12⟩, st12⟩ := X2.specialBack hx (y := (⟨"com/example/kinwarden/kinwarden/IntMap", "<init>", "([I[I)V"⟩ : MethodName)) rfl hown (mvT hZ (hw _ (List.mem_of_getElem? (i := 15) rfl))) (mvT hZ (hw _ (List.mem_of_getElem? (i := 16) rfl))) (mvT hZ (hw _ (List.mem_of_getElem? (i := 17) rfl))) (by decide) (backOf (W := 0) (rmin2t l Z a0 hw [] x0 r2  T2.heap n0 Z2 f3 f4 f5 f6 f7 f8 f9 g0) hZ (hw _ (List.mem_of_getElem? (i := 17) rfl)) (hw _ (List.mem_of_getElem? (i := 3) rfl)) (by decide) (by decide)) (g := (mkF m 7 #[.val (.ref x0)] [.null, (.ref r2), (.ref x0)])) rfl (by rw [hml]; rfl) (Steps.refl _) (a := x0) (argsL := [(.ref r2), .null]) (rest := []) (lenOf pdin0_1 rfl) rfl (by show 2 * 0 + _ ≤ _; exact Nat.le_of_eq rfl) (hb hby din0_7) (fun _ _ => ⟨rfl, rfl, (by decide : 1 + 0 ≤ _), (by decide : 32 + 0 ≤ _)⟩)
  dsimp only [Pt.U, Pt.locs, Pt.cells, Pt.slots] at X12 l12 y12 z12 st12 hQ12
  subst l12 y12 z12
  obtain ⟨rfl, Nq12, K12, Fh12, Fl12, Fv12, Ft12, Fb12, Fs12⟩ := hQ12
  have N12 := Fr.app N2 Nq12
  have f13 := f3.keep K12
  have f14 := VT2.keep K12 (ninS (Ne.symm ne_x0_r2) nin0)
  have Z12 := Nat.le_trans Z2 K12.1
  have KK12 := KK2.trans K12 (allS (Or.inl (List.mem_singleton.mpr rfl)) all0)
  have p15 : ∀ t, own_W p e below m T12 10 #[.val (.ref x0)] [] t → Steps p.tables e below S0 t := fun t k => p11 t (st12.trans k)
  subst hS0
  obtain ⟨fs, hr, hrun, hended, hW, hsame⟩ := X12.leave (v := none) (fun _ => rfl)
  refine ⟨_, _, p15 _ ?_, hrun, hended, _, _, rfl, ?_, ⟨_, rfl⟩, hW, hsame.mono (by decide) (by decide)⟩
  · show own_W p e below m T12 10 #[.val (.ref x0)] [] _
    exact X12.returnOut hx Bd.returns (hb hby din0_10) hr
  · show Qin0 Z x0 h0 n0 _ T12.heap _
    skip
    exact ⟨rfl, N12, KK12, _, _, gk_r2, f13, Ft12, Fb12, Fs12, Fh12, Fl12, Fv12, f14⟩
theorem dbyt_0 : decode prog_53_method_4_code 0 = .ok (.aload_n 0, 1) := by decide +kernel
theorem dbyt_1 : decode prog_53_method_4_code 1 = .ok (.getfield 30, 3) := by decide +kernel
theorem dbyt_4 : decode prog_53_method_4_code 4 = .ok (.ifnonnull 10, 3) := by decide +kernel
theorem dbyt_7 : decode prog_53_method_4_code 7 = .ok (.aload_n 0, 1) := by decide +kernel
theorem dbyt_8 : decode prog_53_method_4_code 8 = .ok (.getfield 26, 3) := by decide +kernel
theorem dbyt_11 : decode prog_53_method_4_code 11 = .ok (.goto 7, 3) := by decide +kernel
theorem dbyt_18 : decode prog_53_method_4_code 18 = .ok (.astore_n 1, 1) := by decide +kernel
theorem dbyt_19 : decode prog_53_method_4_code 19 = .ok (.ldc2_w 37, 3) := by decide +kernel
theorem dbyt_22 : decode prog_53_method_4_code 22 = .ok (.ldc2_w 41, 3) := by decide +kernel
theorem dbyt_25 : decode prog_53_method_4_code 25 = .ok (.aload_n 1, 1) := by decide +kernel
theorem dbyt_26 : decode prog_53_method_4_code 26 = .ok (.arraylength, 1) := by decide +kernel
theorem dbyt_27 : decode prog_53_method_4_code 27 = .ok (.i2l, 1) := by decide +kernel
theorem dbyt_28 : decode prog_53_method_4_code 28 = .ok (.lmul, 1) := by decide +kernel
theorem dbyt_29 : decode prog_53_method_4_code 29 = .ok (.ladd, 1) := by decide +kernel
theorem dbyt_30 : decode prog_53_method_4_code 30 = .ok (.lreturn, 1) := by decide +kernel
theorem pnbyt : plainName "com/example/kinwarden/kinwarden/IntMap" = true := by first | (simp [plainName, overriddenIn]; done) | decide +kernel
theorem efbyt (m : MethodId) (x0 : Addr) : entryFrame m #[(.ref x0)] 2 = mkF m 0 #[.val (.ref x0), .unset] [] := by first | (simp [entryFrame, mkF, argsToLocals, Value.category]; done) | rfl
def Qbyt (Z : State) (x0 : Addr) (tb : Addr) (kt : ClassId) (N : Int32) (vs : List Value) (h0 : Heap) (n0 : Nat) (v : Option Value) (h : Heap) (L : List Loc) : Prop := v = some (.long ((16 : Int64) + ((4 : Int64) * (N.toInt64)))) ∧ Fr n0 L ∧ h = h0
set_option maxRecDepth 65536 in
set_option maxHeartbeats 40000000 in
theorem rmbyt (l : Launch) (Z : State) (a0 : Array Value) (hw : ∀ d ∈ tables_1, d.before a0 Z = true) (ws : List Jvm.Cond) (x0 : Addr) (tb : Addr) (kt : ClassId) (N : Int32) (vs : List Value) (h0 : Heap) (n0 : Nat) (Z0 : n0 ≤ h0.size) (Ft : Fld Z h0 x0 "com/example/kinwarden/kinwarden/IntMap" "table" "[I" (.ref tb)) (Fb : Fld Z h0 x0 "com/example/kinwarden/kinwarden/IntMap" "byKey" "[I" .null) (V0 : Arv Z h0 tb kt .int N vs (.int (0 : Int32))) :
    MetFree l (⟨"com/example/kinwarden/kinwarden/IntMap", "bytes", "()J"⟩ : MethodName) (head1 (Jvm.Cond.code (⟨"com/example/kinwarden/kinwarden/IntMap", "bytes", "()J"⟩ : MethodName) prog_53_method_4_code 2 (some .long) :: ws) ({ frames := 0, cells := 0, slots := 0, locals := 0 } : Room)) (fun a U => a = #[(.ref x0)] ∧ Z.Warmed39 U.vm ∧ U.heap = h0) (fun _ _ _ _ _ => True) (fun _ U o U' => ∃ v L, o = .returned v ∧ Qbyt Z x0 tb kt N vs h0 n0 v U'.heap L ∧ FrameEnd U o U' L ({ frames := 0, cells := 0, slots := 0, locals := 0 } : Room).cells ({ frames := 0, cells := 0, slots := 0, locals := 0 } : Room).slots) := by
  refine MetFree.of_bodySF (plainFor_of_name pnbyt) hisR ?_
  intro p e s m args below meth c s₁ Bd hml0 hP hK
  obtain ⟨rfl, hZ, hh⟩ := hP
  have hx := Bd.exec
  have hby := Bd.bytes
  have hml : c.maxLocals = 2 := hml0
  have hown : s.vm.findClass "com/example/kinwarden/kinwarden/IntMap" = some m.cls := findClass_of_methodNamed Bd.named
  have hnm := (name_of_methodNamed Bd.named Bd.method).1
  have X0 : Stand p l e ({ frames := 0, cells := 0, slots := 0, locals := 0 } : Room) s m #[(.ref x0)] below meth c s₁ [] 0 0 := Stand.of_body Bd
  have e0 : s₁.heap = h0 := by rw [← hh, Bd.state]; rfl
  have N0 := Fr.nil n0
  have pre0 : ∀ t, Steps p.tables e below (s₁.setTop (mkF m 0 #[.val (.ref x0), .unset] [])) t → Steps p.tables e below (s₁.setTop (entryFrame m #[(.ref x0)] 2)) t := fun t k => castTop (efbyt m x0) k
  obtain ⟨S0, hS0⟩ : ∃ z, z = (s₁.setTop (entryFrame m #[(.ref x0)] 2)) := ⟨_, rfl⟩
  rw [← hS0] at pre0
  have p1 : ∀ t, own_W p e below m s₁ 1 #[.val (.ref x0), .unset] [(.ref x0)] t → Steps p.tables e below S0 t := fun t k => pre0 t (by
    show own_W p e below m s₁ 0 #[.val (.ref x0), .unset] [] _
    refine XS.aloadN X0.here hx rfl (hb hby dbyt_0) rfl rfl ?_
    exact k)
  obtain ⟨T2, X2, e2, st2⟩ := getF X0 hx hZ hown (host := "") (Or.inl (hw _ (List.mem_of_getElem? (i := 29) rfl))) Via.refl e0 Fb (g := (mkF m 1 #[.val (.ref x0), .unset] [(.ref x0)])) rfl rfl (hb hby dbyt_1)
  have p3 : ∀ t, own_W p e below m T2 4 #[.val (.ref x0), .unset] [.null] t → Steps p.tables e below S0 t := fun t k => p1 t (st2 t k)
  have p4 : ∀ t, own_W p e below m T2 8 #[.val (.ref x0), .unset] [(.ref x0)] t → Steps p.tables e below S0 t := fun t k => p3 t (by
    show own_W p e below m T2 4 #[.val (.ref x0), .unset] [.null] _
    refine XS.ifnonnullNo X2.here hx rfl (hb hby dbyt_4) rfl ?_
    refine XS.aloadN X2.here hx rfl (hb hby dbyt_7) rfl rfl ?_
    exact k)
  obtain ⟨T5, X5, e5, st5⟩ := getF X2 hx hZ hown (host := "") (Or.inl (hw _ (List.mem_of_getElem? (i := 27) rfl))) Via.refl e2 Ft (g := (mkF m 8 #[.val (.ref x0), .unset] [(.ref x0)])) rfl rfl (hb hby dbyt_8)
  have p6 : ∀ t, own_W p e below m T5 11 #[.val (.ref x0), .unset] [(.ref tb)] t → Steps p.tables e below S0 t := fun t k => p4 t (st5 t k)
  have p7 : ∀ t, own_W p e below m T5 26 #[.val (.ref x0), .val (.ref tb)] [(.ref tb), (.long (4 : Int64)), (.long (16 : Int64))] t → Steps p.tables e below S0 t := fun t k => p6 t (by
    show own_W p e below m T5 11 #[.val (.ref x0), .unset] [(.ref tb)] _
    refine XS.goto X5.here hx rfl (pc0 := 11) (pc' := 18) rfl (hb hby dbyt_11) (by decide) (by decide) ?_
    refine XS.astoreN X5.here hx rfl (hb hby dbyt_18) rfl rfl (l' := #[.val (.ref x0), .val (.ref tb)]) rfl ?_
    show own_W p e below m T5 19 #[.val (.ref x0), .val (.ref tb)] [] _
    refine X5.ldc2Long hx hown (mvT hZ (hw _ (List.mem_of_getElem? (i := 36) rfl))) (g := (mkF m 19 #[.val (.ref x0), .val (.ref tb)] [])) rfl (hb hby dbyt_19) _ ?_
    show own_W p e below m T5 22 #[.val (.ref x0), .val (.ref tb)] [(.long (16 : Int64))] _
    refine X5.ldc2Long hx hown (mvT hZ (hw _ (List.mem_of_getElem? (i := 37) rfl))) (g := (mkF m 22 #[.val (.ref x0), .val (.ref tb)] [(.long (16 : Int64))])) rfl (hb hby dbyt_22) _ ?_
    refine XS.aloadN X5.here hx rfl (hb hby dbyt_25) rfl rfl ?_
    exact k)
  obtain ⟨cl8, Ar8, -, Sz8, Ng8, -, -⟩ := id V0
  have p9 : ∀ t, own_W p e below m T5 30 #[.val (.ref x0), .val (.ref tb)] [(.long ((16 : Int64) + ((4 : Int64) * (N.toInt64))))] t → Steps p.tables e below S0 t := fun t k => p7 t (by
    show own_W p e below m T5 26 #[.val (.ref x0), .val (.ref tb)] [(.ref tb), (.long (4 : Int64)), (.long (16 : Int64))] _
    refine X5.arraylength hx (by rw [e5]; exact Ar8.1) (State.isArrayOf_alike hZ.alike Ar8.2.1) (g := (mkF m 26 #[.val (.ref x0), .val (.ref tb)] [(.ref tb), (.long (4 : Int64)), (.long (16 : Int64))])) rfl rfl (hb hby dbyt_26) _ ?_
    rw [len_of Sz8 Ng8]
    refine XS.i2l X5.here hx rfl (hb hby dbyt_27) rfl ?_
    refine XS.lmul X5.here hx rfl (hb hby dbyt_28) rfl ?_
    refine XS.ladd X5.here hx rfl (hb hby dbyt_29) rfl ?_
    exact k)
  subst hS0
  obtain ⟨fs, hr, hrun, hended, hW, hsame⟩ := X5.leave (v := some (.long ((16 : Int64) + ((4 : Int64) * (N.toInt64))))) (fun h => by rw [Bd.returns] at h; cases h)
  refine ⟨_, _, p9 _ ?_, hrun, hended, _, _, rfl, ?_, ⟨_, rfl⟩, hW, hsame.mono (by decide) (by decide)⟩
  · show own_W p e below m T5 30 #[.val (.ref x0), .val (.ref tb)] [(.long ((16 : Int64) + ((4 : Int64) * (N.toInt64))))] _
    exact retOut X5 hx Bd.returns rfl (Or.inr (Or.inl ⟨rfl, rfl, _, rfl⟩)) (hb hby dbyt_30) hr
  · show Qbyt Z x0 tb kt N vs h0 n0 _ T5.heap _
    rw [e5]
    exact ⟨rfl, N0, rfl⟩
theorem dbyb_0 : decode prog_53_method_4_code 0 = .ok (.aload_n 0, 1) := by decide +kernel
theorem dbyb_1 : decode prog_53_method_4_code 1 = .ok (.getfield 30, 3) := by decide +kernel
theorem dbyb_4 : decode prog_53_method_4_code 4 = .ok (.ifnonnull 10, 3) := by decide +kernel
theorem dbyb_14 : decode prog_53_method_4_code 14 = .ok (.aload_n 0, 1) := by decide +kernel
theorem dbyb_15 : decode prog_53_method_4_code 15 = .ok (.getfield 30, 3) := by decide +kernel
theorem dbyb_18 : decode prog_53_method_4_code 18 = .ok (.astore_n 1, 1) := by decide +kernel
theorem dbyb_19 : decode prog_53_method_4_code 19 = .ok (.ldc2_w 37, 3) := by decide +kernel
theorem dbyb_22 : decode prog_53_method_4_code 22 = .ok (.ldc2_w 41, 3) := by decide +kernel
theorem dbyb_25 : decode prog_53_method_4_code 25 = .ok (.aload_n 1, 1) := by decide +kernel
theorem dbyb_26 : decode prog_53_method_4_code 26 = .ok (.arraylength, 1) := by decide +kernel
theorem dbyb_27 : decode prog_53_method_4_code 27 = .ok (.i2l, 1) := by decide +kernel
theorem dbyb_28 : decode prog_53_method_4_code 28 = .ok (.lmul, 1) := by decide +kernel
theorem dbyb_29 : decode prog_53_method_4_code 29 = .ok (.ladd, 1) := by decide +kernel
theorem dbyb_30 : decode prog_53_method_4_code 30 = .ok (.lreturn, 1) := by decide +kernel
theorem pnbyb : plainName "com/example/kinwarden/kinwarden/IntMap" = true := by first | (simp [plainName, overriddenIn]; done) | decide +kernel
theorem efbyb (m : MethodId) (x0 : Addr) : entryFrame m #[(.ref x0)] 2 = mkF m 0 #[.val (.ref x0), .unset] [] := by first | (simp [entryFrame, mkF, argsToLocals, Value.category]; done) | rfl
def Qbyb (Z : State) (x0 : Addr) (tb : Addr) (kt : ClassId) (N : Int32) (vs : List Value) (h0 : Heap) (n0 : Nat) (v : Option Value) (h : Heap) (L : List Loc) : Prop := v = some (.long ((16 : Int64) + ((4 : Int64) * (N.toInt64)))) ∧ Fr n0 L ∧ h = h0
set_option maxRecDepth 65536 in
set_option maxHeartbeats 40000000 in
theorem rmbyb (l : Launch) (Z : State) (a0 : Array Value) (hw : ∀ d ∈ tables_1, d.before a0 Z = true) (ws : List Jvm.Cond) (x0 : Addr) (tb : Addr) (kt : ClassId) (N : Int32) (vs : List Value) (h0 : Heap) (n0 : Nat) (Z0 : n0 ≤ h0.size) (Fb : Fld Z h0 x0 "com/example/kinwarden/kinwarden/IntMap" "byKey" "[I" (.ref tb)) (V0 : Arv Z h0 tb kt .int N vs (.int (0 : Int32))) :
    MetFree l (⟨"com/example/kinwarden/kinwarden/IntMap", "bytes", "()J"⟩ : MethodName) (head1 (Jvm.Cond.code (⟨"com/example/kinwarden/kinwarden/IntMap", "bytes", "()J"⟩ : MethodName) prog_53_method_4_code 2 (some .long) :: ws) ({ frames := 0, cells := 0, slots := 0, locals := 0 } : Room)) (fun a U => a = #[(.ref x0)] ∧ Z.Warmed39 U.vm ∧ U.heap = h0) (fun _ _ _ _ _ => True) (fun _ U o U' => ∃ v L, o = .returned v ∧ Qbyb Z x0 tb kt N vs h0 n0 v U'.heap L ∧ FrameEnd U o U' L ({ frames := 0, cells := 0, slots := 0, locals := 0 } : Room).cells ({ frames := 0, cells := 0, slots := 0, locals := 0 } : Room).slots) := by
  refine MetFree.of_bodySF (plainFor_of_name pnbyb) hisR ?_
  intro p e s m args below meth c s₁ Bd hml0 hP hK
  obtain ⟨rfl, hZ, hh⟩ := hP
  have hx := Bd.exec
  have hby := Bd.bytes
  have hml : c.maxLocals = 2 := hml0
  have hown : s.vm.findClass "com/example/kinwarden/kinwarden/IntMap" = some m.cls := findClass_of_methodNamed Bd.named
  have hnm := (name_of_methodNamed Bd.named Bd.method).1
  have X0 : Stand p l e ({ frames := 0, cells := 0, slots := 0, locals := 0 } : Room) s m #[(.ref x0)] below meth c s₁ [] 0 0 := Stand.of_body Bd
  have e0 : s₁.heap = h0 := by rw [← hh, Bd.state]; rfl
  have N0 := Fr.nil n0
  have pre0 : ∀ t, Steps p.tables e below (s₁.setTop (mkF m 0 #[.val (.ref x0), .unset] [])) t → Steps p.tables e below (s₁.setTop (entryFrame m #[(.ref x0)] 2)) t := fun t k => castTop (efbyb m x0) k
  obtain ⟨S0, hS0⟩ : ∃ z, z = (s₁.setTop (entryFrame m #[(.ref x0)] 2)) := ⟨_, rfl⟩
  rw [← hS0] at pre0
  have p1 : ∀ t, own_W p e below m s₁ 1 #[.val (.ref x0), .unset] [(.ref x0)] t → Steps p.tables e below S0 t := fun t k => pre0 t (by
    show own_W p e below m s₁ 0 #[.val (.ref x0), .unset] [] _
    refine XS.aloadN X0.here hx rfl (hb hby dbyb_0) rfl rfl ?_
    exact k)
  obtain ⟨T2, X2, e2, st2⟩ := getF X0 hx hZ hown (host := "") (Or.inl (hw _ (List.mem_of_getElem? (i := 29) rfl))) Via.refl e0 Fb (g := (mkF m 1 #[.val (.ref x0), .unset] [(.ref x0)])) rfl rfl (hb hby dbyb_1)
  have p3 : ∀ t, own_W p e below m T2 4 #[.val (.ref x0), .unset] [(.ref tb)] t → Steps p.tables e below S0 t := fun t k => p1 t (st2 t k)
  have p4 : ∀ t, own_W p e below m T2 15 #[.val (.ref x0), .unset] [(.ref x0)] t → Steps p.tables e below S0 t := fun t k => p3 t (by
    show own_W p e below m T2 4 #[.val (.ref x0), .unset] [(.ref tb)] _
    refine XS.ifnonnullYes X2.here hx rfl (pc0 := 4) (pc' := 14) rfl (hb hby dbyb_4) rfl (by decide) (by decide) ?_
    refine XS.aloadN X2.here hx rfl (hb hby dbyb_14) rfl rfl ?_
    exact k)
  obtain ⟨T5, X5, e5, st5⟩ := getF X2 hx hZ hown (host := "") (Or.inl (hw _ (List.mem_of_getElem? (i := 29) rfl))) Via.refl e2 Fb (g := (mkF m 15 #[.val (.ref x0), .unset] [(.ref x0)])) rfl rfl (hb hby dbyb_15)
  have p6 : ∀ t, own_W p e below m T5 18 #[.val (.ref x0), .unset] [(.ref tb)] t → Steps p.tables e below S0 t := fun t k => p4 t (st5 t k)
  have p7 : ∀ t, own_W p e below m T5 26 #[.val (.ref x0), .val (.ref tb)] [(.ref tb), (.long (4 : Int64)), (.long (16 : Int64))] t → Steps p.tables e below S0 t := fun t k => p6 t (by
    show own_W p e below m T5 18 #[.val (.ref x0), .unset] [(.ref tb)] _
    refine XS.astoreN X5.here hx rfl (hb hby dbyb_18) rfl rfl (l' := #[.val (.ref x0), .val (.ref tb)]) rfl ?_
    show own_W p e below m T5 19 #[.val (.ref x0), .val (.ref tb)] [] _
    refine X5.ldc2Long hx hown (mvT hZ (hw _ (List.mem_of_getElem? (i := 36) rfl))) (g := (mkF m 19 #[.val (.ref x0), .val (.ref tb)] [])) rfl (hb hby dbyb_19) _ ?_
    show own_W p e below m T5 22 #[.val (.ref x0), .val (.ref tb)] [(.long (16 : Int64))] _
    refine X5.ldc2Long hx hown (mvT hZ (hw _ (List.mem_of_getElem? (i := 37) rfl))) (g := (mkF m 22 #[.val (.ref x0), .val (.ref tb)] [(.long (16 : Int64))])) rfl (hb hby dbyb_22) _ ?_
    refine XS.aloadN X5.here hx rfl (hb hby dbyb_25) rfl rfl ?_
    exact k)
  obtain ⟨cl8, Ar8, -, Sz8, Ng8, -, -⟩ := id V0
  have p9 : ∀ t, own_W p e below m T5 30 #[.val (.ref x0), .val (.ref tb)] [(.long ((16 : Int64) + ((4 : Int64) * (N.toInt64))))] t → Steps p.tables e below S0 t := fun t k => p7 t (by
    show own_W p e below m T5 26 #[.val (.ref x0), .val (.ref tb)] [(.ref tb), (.long (4 : Int64)), (.long (16 : Int64))] _
    refine X5.arraylength hx (by rw [e5]; exact Ar8.1) (State.isArrayOf_alike hZ.alike Ar8.2.1) (g := (mkF m 26 #[.val (.ref x0), .val (.ref tb)] [(.ref tb), (.long (4 : Int64)), (.long (16 : Int64))])) rfl rfl (hb hby dbyb_26) _ ?_
    rw [len_of Sz8 Ng8]
    refine XS.i2l X5.here hx rfl (hb hby dbyb_27) rfl ?_
    refine XS.lmul X5.here hx rfl (hb hby dbyb_28) rfl ?_
    refine XS.ladd X5.here hx rfl (hb hby dbyb_29) rfl ?_
    exact k)
  subst hS0
  obtain ⟨fs, hr, hrun, hended, hW, hsame⟩ := X5.leave (v := some (.long ((16 : Int64) + ((4 : Int64) * (N.toInt64))))) (fun h => by rw [Bd.returns] at h; cases h)
  refine ⟨_, _, p9 _ ?_, hrun, hended, _, _, rfl, ?_, ⟨_, rfl⟩, hW, hsame.mono (by decide) (by decide)⟩
  · show own_W p e below m T5 30 #[.val (.ref x0), .val (.ref tb)] [(.long ((16 : Int64) + ((4 : Int64) * (N.toInt64))))] _
    exact retOut X5 hx Bd.returns rfl (Or.inr (Or.inl ⟨rfl, rfl, _, rfl⟩)) (hb hby dbyb_30) hr
  · show Qbyb Z x0 tb kt N vs h0 n0 _ T5.heap _
    rw [e5]
    exact ⟨rfl, N0, rfl⟩
theorem dsg8_0 : decode prog_53_method_18_code 0 = .ok (.aload_n 0, 1) := by decide +kernel
theorem dsg8_1 : decode prog_53_method_18_code 1 = .ok (.arraylength, 1) := by decide +kernel
theorem dsg8_2 : decode prog_53_method_18_code 2 = .ok (.iconst 2, 1) := by decide +kernel
theorem dsg8_3 : decode prog_53_method_18_code 3 = .ok (.idiv, 1) := by decide +kernel
theorem dsg8_4 : decode prog_53_method_18_code 4 = .ok (.istore_n 2, 1) := by decide +kernel
theorem dsg8_5 : decode prog_53_method_18_code 5 = .ok (.iload_n 1, 1) := by decide +kernel
theorem dsg8_6 : decode prog_53_method_18_code 6 = .ok (.ldc 129, 2) := by decide +kernel
theorem dsg8_8 : decode prog_53_method_18_code 8 = .ok (.imul, 1) := by decide +kernel
theorem dsg8_9 : decode prog_53_method_18_code 9 = .ok (.iload_n 2, 1) := by decide +kernel
theorem dsg8_10 : decode prog_53_method_18_code 10 = .ok (.invokestatic 130, 3) := by decide +kernel
theorem dsg8_13 : decode prog_53_method_18_code 13 = .ok (.iconst 1, 1) := by decide +kernel
theorem dsg8_14 : decode prog_53_method_18_code 14 = .ok (.iadd, 1) := by decide +kernel
theorem dsg8_15 : decode prog_53_method_18_code 15 = .ok (.iushr, 1) := by decide +kernel
theorem dsg8_16 : decode prog_53_method_18_code 16 = .ok (.istore_n 3, 1) := by decide +kernel
theorem dsg8_17 : decode prog_53_method_18_code 17 = .ok (.iload_n 2, 1) := by decide +kernel
theorem dsg8_18 : decode prog_53_method_18_code 18 = .ok (.iconst 1, 1) := by decide +kernel
theorem dsg8_19 : decode prog_53_method_18_code 19 = .ok (.isub, 1) := by decide +kernel
theorem dsg8_20 : decode prog_53_method_18_code 20 = .ok (.istore 4, 2) := by decide +kernel
theorem dsg8_22 : decode prog_53_method_18_code 22 = .ok (.iload 4, 2) := by decide +kernel
theorem dsg8_24 : decode prog_53_method_18_code 24 = .ok (.ifCond .le 35, 3) := by decide +kernel
theorem dsg8_27 : decode prog_53_method_18_code 27 = .ok (.aload_n 0, 1) := by decide +kernel
theorem dsg8_28 : decode prog_53_method_18_code 28 = .ok (.iconst 2, 1) := by decide +kernel
theorem dsg8_29 : decode prog_53_method_18_code 29 = .ok (.iload_n 3, 1) := by decide +kernel
theorem dsg8_30 : decode prog_53_method_18_code 30 = .ok (.imul, 1) := by decide +kernel
theorem dsg8_31 : decode prog_53_method_18_code 31 = .ok (.iaload, 1) := by decide +kernel
theorem dsg8_32 : decode prog_53_method_18_code 32 = .ok (.iload_n 1, 1) := by decide +kernel
theorem dsg8_33 : decode prog_53_method_18_code 33 = .ok (.if_icmp .eq 26, 3) := by decide +kernel
theorem dsg8_36 : decode prog_53_method_18_code 36 = .ok (.aload_n 0, 1) := by decide +kernel
theorem dsg8_37 : decode prog_53_method_18_code 37 = .ok (.iconst 2, 1) := by decide +kernel
theorem dsg8_38 : decode prog_53_method_18_code 38 = .ok (.iload_n 3, 1) := by decide +kernel
theorem dsg8_39 : decode prog_53_method_18_code 39 = .ok (.imul, 1) := by decide +kernel
theorem dsg8_40 : decode prog_53_method_18_code 40 = .ok (.iaload, 1) := by decide +kernel
theorem dsg8_41 : decode prog_53_method_18_code 41 = .ok (.iconst (-1), 1) := by decide +kernel
theorem dsg8_42 : decode prog_53_method_18_code 42 = .ok (.if_icmp .eq 17, 3) := by decide +kernel
theorem dsg8_45 : decode prog_53_method_18_code 45 = .ok (.iload_n 3, 1) := by decide +kernel
theorem dsg8_46 : decode prog_53_method_18_code 46 = .ok (.iconst 1, 1) := by decide +kernel
theorem dsg8_47 : decode prog_53_method_18_code 47 = .ok (.iadd, 1) := by decide +kernel
theorem dsg8_48 : decode prog_53_method_18_code 48 = .ok (.iload_n 2, 1) := by decide +kernel
theorem dsg8_49 : decode prog_53_method_18_code 49 = .ok (.iconst 1, 1) := by decide +kernel
theorem dsg8_50 : decode prog_53_method_18_code 50 = .ok (.isub, 1) := by decide +kernel
theorem dsg8_51 : decode prog_53_method_18_code 51 = .ok (.iand, 1) := by decide +kernel
theorem dsg8_52 : decode prog_53_method_18_code 52 = .ok (.istore_n 3, 1) := by decide +kernel
theorem dsg8_53 : decode prog_53_method_18_code 53 = .ok (.iinc 4 (-1), 3) := by decide +kernel
theorem dsg8_56 : decode prog_53_method_18_code 56 = .ok (.goto (-34), 3) := by decide +kernel
theorem dsg8_59 : decode prog_53_method_18_code 59 = .ok (.iconst 2, 1) := by decide +kernel
theorem dsg8_60 : decode prog_53_method_18_code 60 = .ok (.iload_n 3, 1) := by decide +kernel
theorem dsg8_61 : decode prog_53_method_18_code 61 = .ok (.imul, 1) := by decide +kernel
theorem dsg8_62 : decode prog_53_method_18_code 62 = .ok (.ireturn, 1) := by decide +kernel
theorem pnsg8 : plainName "com/example/kinwarden/kinwarden/IntMap" = true := by first | (simp [plainName, overriddenIn]; done) | decide +kernel
theorem pdsg8_0 : parseMethodDescriptor "(I)I" = some ⟨[.int], some .int⟩ := by decide +kernel
theorem efsg8 (m : MethodId) (x0 : Addr) (x1 : Int32) : entryFrame m #[(.ref x0), (.int x1)] 5 = mkF m 0 #[.val (.ref x0), .val (.int x1), .unset, .unset, .unset] [] := by first | (simp [entryFrame, mkF, argsToLocals, Value.category]; done) | rfl
def Qsg8 (Z : State) (x0 : Addr) (x1 : Int32) (kt : ClassId) (vs : List Value) (h0 : Heap) (n0 : Nat) (v : Option Value) (h : Heap) (L : List Loc) : Prop := ∃ r : Int32, v = some (.int r) ∧ Fr n0 L ∧ h = h0 ∧ r = ((2 : Int32) * own_pr8 vs x1 7 (((x1 * (-1640531527 : Int32)).toUInt32 >>> (((28 : Int32) + (1 : Int32)) &&& 31).toUInt32).toInt32))
set_option maxRecDepth 65536 in
set_option maxHeartbeats 40000000 in
theorem rmsg8 (l : Launch) (Z : State) (a0 : Array Value) (hw : ∀ d ∈ tables_1, d.before a0 Z = true) (ws : List Jvm.Cond) (x0 : Addr) (x1 : Int32) (kt : ClassId) (vs : List Value) (h0 : Heap) (n0 : Nat) (Z0 : n0 ≤ h0.size) (V0 : Arv Z h0 x0 kt .int (16 : Int32) vs (.int (0 : Int32))) :
    MetFree l (⟨"com/example/kinwarden/kinwarden/IntMap", "slot", "([II)I"⟩ : MethodName) (head1 (Jvm.Cond.code (⟨"com/example/kinwarden/kinwarden/IntMap", "slot", "([II)I"⟩ : MethodName) prog_53_method_18_code 5 (some .int) :: ws) ({ frames := 1, cells := 0, slots := 0, locals := 14 } : Room)) (fun a U => a = #[(.ref x0), (.int x1)] ∧ Z.Warmed39 U.vm ∧ U.heap = h0) (fun _ _ _ _ _ => True) (fun _ U o U' => ∃ v L, o = .returned v ∧ Qsg8 Z x0 x1 kt vs h0 n0 v U'.heap L ∧ FrameEnd U o U' L ({ frames := 1, cells := 0, slots := 0, locals := 14 } : Room).cells ({ frames := 1, cells := 0, slots := 0, locals := 14 } : Room).slots) := by
  refine MetFree.of_bodySF (plainFor_of_name pnsg8) hisR ?_
  intro p e s m args below meth c s₁ Bd hml0 hP hK
  obtain ⟨rfl, hZ, hh⟩ := hP
  have hx := Bd.exec
  have hby := Bd.bytes
  have hml : c.maxLocals = 5 := hml0
  have hown : s.vm.findClass "com/example/kinwarden/kinwarden/IntMap" = some m.cls := findClass_of_methodNamed Bd.named
  have hnm := (name_of_methodNamed Bd.named Bd.method).1
  have X0 : Stand p l e ({ frames := 1, cells := 0, slots := 0, locals := 14 } : Room) s m #[(.ref x0), (.int x1)] below meth c s₁ [] 0 0 := Stand.of_body Bd
  have e0 : s₁.heap = h0 := by rw [← hh, Bd.state]; rfl
  have N0 := Fr.nil n0
  have pre0 : ∀ t, Steps p.tables e below (s₁.setTop (mkF m 0 #[.val (.ref x0), .val (.int x1), .unset, .unset, .unset] [])) t → Steps p.tables e below (s₁.setTop (entryFrame m #[(.ref x0), (.int x1)] 5)) t := fun t k => castTop (efsg8 m x0 x1) k
  obtain ⟨S0, hS0⟩ : ∃ z, z = (s₁.setTop (entryFrame m #[(.ref x0), (.int x1)] 5)) := ⟨_, rfl⟩
  rw [← hS0] at pre0
  have p1 : ∀ t, own_W p e below m s₁ 1 #[.val (.ref x0), .val (.int x1), .unset, .unset, .unset] [(.ref x0)] t → Steps p.tables e below S0 t := fun t k => pre0 t (by
    show own_W p e below m s₁ 0 #[.val (.ref x0), .val (.int x1), .unset, .unset, .unset] [] _
    refine XS.aloadN X0.here hx rfl (hb hby dsg8_0) rfl rfl ?_
    exact k)
  obtain ⟨cl2, Ar2, -, Sz2, Ng2, -, -⟩ := id V0
  have p3 : ∀ t, own_W p e below m s₁ 5 #[.val (.ref x0), .val (.int x1), .val (.int ((16 : Int32) / (2 : Int32))), .unset, .unset] [] t → Steps p.tables e below S0 t := fun t k => p1 t (by
    show own_W p e below m s₁ 1 #[.val (.ref x0), .val (.int x1), .unset, .unset, .unset] [(.ref x0)] _
    refine X0.arraylength hx (by rw [e0]; exact Ar2.1) (State.isArrayOf_alike hZ.alike Ar2.2.1) (g := (mkF m 1 #[.val (.ref x0), .val (.int x1), .unset, .unset, .unset] [(.ref x0)])) rfl rfl (hb hby dsg8_1) _ ?_
    rw [len_of Sz2 Ng2]
    refine XS.iconst X0.here hx rfl (hb hby dsg8_2) ?_
    refine XS.idiv X0.here hx rfl (hb hby dsg8_3) rfl (by decide) ?_
    refine XS.istoreN X0.here hx rfl (hb hby dsg8_4) rfl (l' := #[.val (.ref x0), .val (.int x1), .val (.int ((16 : Int32) / (2 : Int32))), .unset, .unset]) rfl ?_
    exact k)
  have p4 : ∀ t, own_W p e below m s₁ 5 #[.val (.ref x0), .val (.int x1), .val (.int (8 : Int32)), .unset, .unset] [] t → Steps p.tables e below S0 t := by
    have k := p3
    rw [show ((16 : Int32) / (2 : Int32)) = (8 : Int32) from by decide] at k
    exact k
  have p5 : ∀ t, own_W p e below m s₁ 10 #[.val (.ref x0), .val (.int x1), .val (.int (8 : Int32)), .unset, .unset] [(.int (8 : Int32)), (.int (x1 * (-1640531527 : Int32)))] t → Steps p.tables e below S0 t := fun t k => p4 t (by
    show own_W p e below m s₁ 5 #[.val (.ref x0), .val (.int x1), .val (.int (8 : Int32)), .unset, .unset] [] _
    refine XS.iloadN X0.here hx rfl (hb hby dsg8_5) rfl ?_
    show own_W p e below m s₁ 6 #[.val (.ref x0), .val (.int x1), .val (.int (8 : Int32)), .unset, .unset] [(.int x1)] _
    refine X0.ldcInt hx hown (mvT hZ (hw _ (List.mem_of_getElem? (i := 55) rfl))) (g := (mkF m 6 #[.val (.ref x0), .val (.int x1), .val (.int (8 : Int32)), .unset, .unset] [(.int x1)])) rfl (hb hby dsg8_6) _ ?_
    refine XS.imul X0.here hx rfl (hb hby dsg8_8) rfl ?_
    refine XS.iloadN X0.here hx rfl (hb hby dsg8_9) rfl ?_
    exact k)
  obtain ⟨_, _, ⟨T6, L6, k6, n6⟩, -, X6, ⟨Lc6, hQ6, l6, y6, z6⟩, st6⟩ := Jvm.LawKit.callS X0 hx (y := (⟨"java/lang/Integer", "numberOfLeadingZeros", "(I)I"⟩ : MethodName)) hown (mvT hZ (hw _ (List.mem_of_getElem? (i := 56) rfl))) (mvT hZ (hw _ (List.mem_of_getElem? (i := 57) rfl))) (mvT hZ (hw _ (List.mem_of_getElem? (i := 58) rfl))) (mvT hZ (hw _ (List.mem_of_getElem? (i := 59) rfl))) (by decide) (backOf (W := 1) (rmnz8 l Z a0 hw []   h0 n0 Z0 ) hZ (hw _ (List.mem_of_getElem? (i := 59) rfl)) (hw _ (List.mem_of_getElem? (i := 58) rfl)) (by decide) (by decide)) (g := (mkF m 10 #[.val (.ref x0), .val (.int x1), .val (.int (8 : Int32)), .unset, .unset] [(.int (8 : Int32)), (.int (x1 * (-1640531527 : Int32)))])) rfl (by rw [hml]; rfl) (argsL := [(.int (8 : Int32))]) (rest := [(.int (x1 * (-1640531527 : Int32)))]) (lenOf pdsg8_0 rfl) rfl (by show 2 * 0 + _ ≤ _; exact Nat.le_of_eq rfl) (hb hby dsg8_10) (fun _ _ => ⟨rfl, e0, (by decide : 0 + 0 ≤ _), (by decide : 0 + 0 ≤ _)⟩)
  dsimp only [Pt.U, Pt.locs, Pt.cells, Pt.slots] at X6 l6 y6 z6 st6 hQ6
  subst l6 y6 z6
  obtain ⟨rfl, Nq6, e6⟩ := hQ6
  have N6 := Fr.app N0 Nq6
  have p7 : ∀ t, own_W p e below m T6 13 #[.val (.ref x0), .val (.int x1), .val (.int (8 : Int32)), .unset, .unset] [(.int (28 : Int32)), (.int (x1 * (-1640531527 : Int32)))] t → Steps p.tables e below S0 t := fun t k => p5 t (st6 _ k)
  have p8 : ∀ t, own_W p e below m T6 17 #[.val (.ref x0), .val (.int x1), .val (.int (8 : Int32)), .val (.int (((x1 * (-1640531527 : Int32)).toUInt32 >>> (((28 : Int32) + (1 : Int32)) &&& 31).toUInt32).toInt32)), .unset] [] t → Steps p.tables e below S0 t := fun t k => p7 t (by
    show own_W p e below m T6 13 #[.val (.ref x0), .val (.int x1), .val (.int (8 : Int32)), .unset, .unset] [(.int (28 : Int32)), (.int (x1 * (-1640531527 : Int32)))] _
    refine XS.iconst X6.here hx rfl (hb hby dsg8_13) ?_
    refine XS.iadd X6.here hx rfl (hb hby dsg8_14) rfl ?_
    refine XS.iushr X6.here hx rfl (hb hby dsg8_15) rfl ?_
    refine XS.istoreN X6.here hx rfl (hb hby dsg8_16) rfl (l' := #[.val (.ref x0), .val (.int x1), .val (.int (8 : Int32)), .val (.int (((x1 * (-1640531527 : Int32)).toUInt32 >>> (((28 : Int32) + (1 : Int32)) &&& 31).toUInt32).toInt32)), .unset]) rfl ?_
    exact k)
  obtain ⟨at0, hat0⟩ : ∃ z : Int32, z = (((x1 * (-1640531527 : Int32)).toUInt32 >>> (((28 : Int32) + (1 : Int32)) &&& 31).toUInt32).toInt32) := ⟨_, rfl⟩
  have p9 : ∀ t, own_W p e below m T6 17 #[.val (.ref x0), .val (.int x1), .val (.int (8 : Int32)), .val (.int at0), .unset] [] t → Steps p.tables e below S0 t := by
    intro t k; subst hat0; exact p8 t k
  have ra0 := own_h8 hat0
  have p10 : ∀ t, own_W p e below m T6 22 #[.val (.ref x0), .val (.int x1), .val (.int (8 : Int32)), .val (.int at0), .val (.int ((8 : Int32) - (1 : Int32)))] [] t → Steps p.tables e below S0 t := fun t k => p9 t (by
    show own_W p e below m T6 17 #[.val (.ref x0), .val (.int x1), .val (.int (8 : Int32)), .val (.int at0), .unset] [] _
    refine XS.iloadN X6.here hx rfl (hb hby dsg8_17) rfl ?_
    refine XS.iconst X6.here hx rfl (hb hby dsg8_18) ?_
    refine XS.isub X6.here hx rfl (hb hby dsg8_19) rfl ?_
    refine XS.istore X6.here hx rfl (hb hby dsg8_20) rfl (l' := #[.val (.ref x0), .val (.int x1), .val (.int (8 : Int32)), .val (.int at0), .val (.int ((8 : Int32) - (1 : Int32)))]) rfl ?_
    exact k)
  have loop : ∀ (fu : Nat) (a li : Int32), fu = li.toNatClampNeg → (0 ≤ a.toInt ∧ a.toInt < 8) → ∃ (l' : Int32), ∀ t, own_W p e below m T6 59 #[.val (.ref x0), .val (.int x1), .val (.int (8 : Int32)), .val (.int (own_pr8 vs x1 fu a)), .val (.int l')] [] t → own_W p e below m T6 22 #[.val (.ref x0), .val (.int x1), .val (.int (8 : Int32)), .val (.int a), .val (.int li)] [] t := by
    intro fu
    induction fu with
    | zero =>
      intro a li hfu ra
      have own_id : ∀ t, own_W p e below m T6 22 #[.val (.ref x0), .val (.int x1), .val (.int (8 : Int32)), .val (.int a), .val (.int li)] [] t → Steps p.tables e below (T6.setTop (mkF m 22 #[.val (.ref x0), .val (.int x1), .val (.int (8 : Int32)), .val (.int a), .val (.int li)] [])) t := fun t k => k
      have p11 : ∀ t, own_W p e below m T6 59 #[.val (.ref x0), .val (.int x1), .val (.int (8 : Int32)), .val (.int a), .val (.int li)] [] t → Steps p.tables e below (T6.setTop (mkF m 22 #[.val (.ref x0), .val (.int x1), .val (.int (8 : Int32)), .val (.int a), .val (.int li)] [])) t := fun t k => own_id t (by
        show own_W p e below m T6 22 #[.val (.ref x0), .val (.int x1), .val (.int (8 : Int32)), .val (.int a), .val (.int li)] [] _
        refine XS.iload X6.here hx rfl (hb hby dsg8_22) rfl ?_
        refine XS.ifYes X6.here hx rfl (pc0 := 24) (pc' := 59) rfl (hb hby dsg8_24) rfl ((if0 _ _).trans (flt (own_l0 hfu)).2.2.2) (by decide) (by decide) ?_
        exact k)
      exact ⟨_, fun t k => p11 t (by rw [show (own_pr8 vs x1 0 a) = a from rfl] at k; exact k)⟩
    | succ fu ih =>
      intro a li hfu ra
      obtain ⟨hl, hfu'⟩ := own_l1 hfu
      obtain ⟨w, hw'⟩ := own_get V0 (own_x8 ra).1
      have eP : (own_pr8 vs x1 (fu + 1) a) = if w = x1 then a else if w = (-1 : Int32) then a else (own_pr8 vs x1 fu ((a + (1 : Int32)) &&& ((8 : Int32) - (1 : Int32)))) := by
        show (if own_iv (vs.getD ((2 : Int32) * a).toNatClampNeg (.int (0 : Int32))) = x1 then a else if own_iv (vs.getD ((2 : Int32) * a).toNatClampNeg (.int (0 : Int32))) = (-1 : Int32) then a else _) = _
        rw [own_ivi hw']
      have own_id : ∀ t, own_W p e below m T6 22 #[.val (.ref x0), .val (.int x1), .val (.int (8 : Int32)), .val (.int a), .val (.int li)] [] t → Steps p.tables e below (T6.setTop (mkF m 22 #[.val (.ref x0), .val (.int x1), .val (.int (8 : Int32)), .val (.int a), .val (.int li)] [])) t := fun t k => k
      have p12 : ∀ t, own_W p e below m T6 31 #[.val (.ref x0), .val (.int x1), .val (.int (8 : Int32)), .val (.int a), .val (.int li)] [(.int ((2 : Int32) * a)), (.ref x0)] t → Steps p.tables e below (T6.setTop (mkF m 22 #[.val (.ref x0), .val (.int x1), .val (.int (8 : Int32)), .val (.int a), .val (.int li)] [])) t := fun t k => own_id t (by
        show own_W p e below m T6 22 #[.val (.ref x0), .val (.int x1), .val (.int (8 : Int32)), .val (.int a), .val (.int li)] [] _
        refine XS.iload X6.here hx rfl (hb hby dsg8_22) rfl ?_
        refine XS.ifNo X6.here hx rfl (hb hby dsg8_24) rfl ((if0 _ _).trans (tlt (hl)).2.2.2) ?_
        refine XS.aloadN X6.here hx rfl (hb hby dsg8_27) rfl rfl ?_
        refine XS.iconst X6.here hx rfl (hb hby dsg8_28) ?_
        refine XS.iloadN X6.here hx rfl (hb hby dsg8_29) rfl ?_
        refine XS.imul X6.here hx rfl (hb hby dsg8_30) rfl ?_
        exact k)
      obtain ⟨cl13, Ar13, q13, Sz13, Ng13, Hs13, G13⟩ := id V0
      have hin13 : ¬ (((2 : Int32) * a) < 0 ∨ cl13.slots.size ≤ (((2 : Int32) * a)).toNatClampNeg) := inb_of Sz13 (own_x8 ra).1
      have hat13 : cl13.slots[(((2 : Int32) * a)).toNatClampNeg]? = some (.int w) := Hs13.at hin13 (hw')
      have p14 : ∀ t, own_W p e below m T6 33 #[.val (.ref x0), .val (.int x1), .val (.int (8 : Int32)), .val (.int a), .val (.int li)] [(.int x1), (.int w)] t → Steps p.tables e below (T6.setTop (mkF m 22 #[.val (.ref x0), .val (.int x1), .val (.int (8 : Int32)), .val (.int a), .val (.int li)] [])) t := fun t k => p12 t (by
        show own_W p e below m T6 31 #[.val (.ref x0), .val (.int x1), .val (.int (8 : Int32)), .val (.int a), .val (.int li)] [(.int ((2 : Int32) * a)), (.ref x0)] _
        refine X6.iaload hx (j := ((2 : Int32) * a)) (v := (.int w)) (by rw [e6]; exact Ar13.1) (State.isArrayOf_alike hZ.alike Ar13.2.1) Ar13.2.2 hin13 hat13 (g := (mkF m 31 #[.val (.ref x0), .val (.int x1), .val (.int (8 : Int32)), .val (.int a), .val (.int li)] [(.int ((2 : Int32) * a)), (.ref x0)])) rfl rfl (hb hby dsg8_31) _ ?_
        refine XS.iloadN X6.here hx rfl (hb hby dsg8_32) rfl ?_
        exact k)
      by_cases hk : w = x1
      · have p15 : ∀ t, own_W p e below m T6 59 #[.val (.ref x0), .val (.int x1), .val (.int (8 : Int32)), .val (.int a), .val (.int li)] [] t → Steps p.tables e below (T6.setTop (mkF m 22 #[.val (.ref x0), .val (.int x1), .val (.int (8 : Int32)), .val (.int a), .val (.int li)] [])) t := fun t k => p14 t (by
          show own_W p e below m T6 33 #[.val (.ref x0), .val (.int x1), .val (.int (8 : Int32)), .val (.int a), .val (.int li)] [(.int x1), (.int w)] _
          refine XS.icmpYes X6.here hx rfl (pc0 := 33) (pc' := 59) rfl (hb hby dsg8_33) rfl ((teq (hk)).1) (by decide) (by decide) ?_
          exact k)
        exact ⟨_, fun t k => p15 t (by rw [eP, if_pos hk] at k; exact k)⟩
      · have p16 : ∀ t, own_W p e below m T6 40 #[.val (.ref x0), .val (.int x1), .val (.int (8 : Int32)), .val (.int a), .val (.int li)] [(.int ((2 : Int32) * a)), (.ref x0)] t → Steps p.tables e below (T6.setTop (mkF m 22 #[.val (.ref x0), .val (.int x1), .val (.int (8 : Int32)), .val (.int a), .val (.int li)] [])) t := fun t k => p14 t (by
          show own_W p e below m T6 33 #[.val (.ref x0), .val (.int x1), .val (.int (8 : Int32)), .val (.int a), .val (.int li)] [(.int x1), (.int w)] _
          refine XS.icmpNo X6.here hx rfl (hb hby dsg8_33) rfl ((feq (hk)).1) ?_
          refine XS.aloadN X6.here hx rfl (hb hby dsg8_36) rfl rfl ?_
          refine XS.iconst X6.here hx rfl (hb hby dsg8_37) ?_
          refine XS.iloadN X6.here hx rfl (hb hby dsg8_38) rfl ?_
          refine XS.imul X6.here hx rfl (hb hby dsg8_39) rfl ?_
          exact k)
        obtain ⟨cl17, Ar17, q17, Sz17, Ng17, Hs17, G17⟩ := id V0
        have hin17 : ¬ (((2 : Int32) * a) < 0 ∨ cl17.slots.size ≤ (((2 : Int32) * a)).toNatClampNeg) := inb_of Sz17 (own_x8 ra).1
        have hat17 : cl17.slots[(((2 : Int32) * a)).toNatClampNeg]? = some (.int w) := Hs17.at hin17 (hw')
        have p18 : ∀ t, own_W p e below m T6 42 #[.val (.ref x0), .val (.int x1), .val (.int (8 : Int32)), .val (.int a), .val (.int li)] [(.int (-1 : Int32)), (.int w)] t → Steps p.tables e below (T6.setTop (mkF m 22 #[.val (.ref x0), .val (.int x1), .val (.int (8 : Int32)), .val (.int a), .val (.int li)] [])) t := fun t k => p16 t (by
          show own_W p e below m T6 40 #[.val (.ref x0), .val (.int x1), .val (.int (8 : Int32)), .val (.int a), .val (.int li)] [(.int ((2 : Int32) * a)), (.ref x0)] _
          refine X6.iaload hx (j := ((2 : Int32) * a)) (v := (.int w)) (by rw [e6]; exact Ar17.1) (State.isArrayOf_alike hZ.alike Ar17.2.1) Ar17.2.2 hin17 hat17 (g := (mkF m 40 #[.val (.ref x0), .val (.int x1), .val (.int (8 : Int32)), .val (.int a), .val (.int li)] [(.int ((2 : Int32) * a)), (.ref x0)])) rfl rfl (hb hby dsg8_40) _ ?_
          refine XS.iconst X6.here hx rfl (hb hby dsg8_41) ?_
          exact k)
        by_cases hm : w = (-1 : Int32)
        · have p19 : ∀ t, own_W p e below m T6 59 #[.val (.ref x0), .val (.int x1), .val (.int (8 : Int32)), .val (.int a), .val (.int li)] [] t → Steps p.tables e below (T6.setTop (mkF m 22 #[.val (.ref x0), .val (.int x1), .val (.int (8 : Int32)), .val (.int a), .val (.int li)] [])) t := fun t k => p18 t (by
            show own_W p e below m T6 42 #[.val (.ref x0), .val (.int x1), .val (.int (8 : Int32)), .val (.int a), .val (.int li)] [(.int (-1 : Int32)), (.int w)] _
            refine XS.icmpYes X6.here hx rfl (pc0 := 42) (pc' := 59) rfl (hb hby dsg8_42) rfl ((teq (hm)).1) (by decide) (by decide) ?_
            exact k)
          exact ⟨_, fun t k => p19 t (by rw [eP, if_neg hk, if_pos hm] at k; exact k)⟩
        · have p20 : ∀ t, own_W p e below m T6 22 #[.val (.ref x0), .val (.int x1), .val (.int (8 : Int32)), .val (.int ((a + (1 : Int32)) &&& ((8 : Int32) - (1 : Int32)))), .val (.int (li + (-1 : Int32)))] [] t → Steps p.tables e below (T6.setTop (mkF m 22 #[.val (.ref x0), .val (.int x1), .val (.int (8 : Int32)), .val (.int a), .val (.int li)] [])) t := fun t k => p18 t (by
            show own_W p e below m T6 42 #[.val (.ref x0), .val (.int x1), .val (.int (8 : Int32)), .val (.int a), .val (.int li)] [(.int (-1 : Int32)), (.int w)] _
            refine XS.icmpNo X6.here hx rfl (hb hby dsg8_42) rfl ((feq (hm)).1) ?_
            refine XS.iloadN X6.here hx rfl (hb hby dsg8_45) rfl ?_
            refine XS.iconst X6.here hx rfl (hb hby dsg8_46) ?_
            refine XS.iadd X6.here hx rfl (hb hby dsg8_47) rfl ?_
            refine XS.iloadN X6.here hx rfl (hb hby dsg8_48) rfl ?_
            refine XS.iconst X6.here hx rfl (hb hby dsg8_49) ?_
            refine XS.isub X6.here hx rfl (hb hby dsg8_50) rfl ?_
            refine XS.iand X6.here hx rfl (hb hby dsg8_51) rfl ?_
            refine XS.istoreN X6.here hx rfl (hb hby dsg8_52) rfl (l' := #[.val (.ref x0), .val (.int x1), .val (.int (8 : Int32)), .val (.int ((a + (1 : Int32)) &&& ((8 : Int32) - (1 : Int32)))), .val (.int li)]) rfl ?_
            refine XS.iinc X6.here hx rfl (hb hby dsg8_53) rfl (l' := #[.val (.ref x0), .val (.int x1), .val (.int (8 : Int32)), .val (.int ((a + (1 : Int32)) &&& ((8 : Int32) - (1 : Int32)))), .val (.int (li + (-1 : Int32)))]) rfl ?_
            refine XS.goto X6.here hx rfl (pc0 := 56) (pc' := 22) rfl (hb hby dsg8_56) (by decide) (by decide) ?_
            exact k)
          obtain ⟨l', k'⟩ := ih _ (li + (-1 : Int32)) hfu' (own_n8 rfl)
          exact ⟨l', fun t k => p20 t (k' t (by rw [eP, if_neg hk, if_neg hm] at k; exact k))⟩
  obtain ⟨le, ke⟩ := loop 7 at0 ((8 : Int32) - (1 : Int32)) (by decide) ra0
  have p59 : ∀ t, own_W p e below m T6 59 #[.val (.ref x0), .val (.int x1), .val (.int (8 : Int32)), .val (.int (own_pr8 vs x1 7 at0)), .val (.int le)] [] t → Steps p.tables e below S0 t := fun t k => p10 t (ke t k)
  have p21 : ∀ t, own_W p e below m T6 62 #[.val (.ref x0), .val (.int x1), .val (.int (8 : Int32)), .val (.int (own_pr8 vs x1 7 at0)), .val (.int le)] [(.int ((2 : Int32) * (own_pr8 vs x1 7 at0)))] t → Steps p.tables e below S0 t := fun t k => p59 t (by
    show own_W p e below m T6 59 #[.val (.ref x0), .val (.int x1), .val (.int (8 : Int32)), .val (.int (own_pr8 vs x1 7 at0)), .val (.int le)] [] _
    refine XS.iconst X6.here hx rfl (hb hby dsg8_59) ?_
    refine XS.iloadN X6.here hx rfl (hb hby dsg8_60) rfl ?_
    refine XS.imul X6.here hx rfl (hb hby dsg8_61) rfl ?_
    exact k)
  subst hS0
  obtain ⟨fs, hr, hrun, hended, hW, hsame⟩ := X6.leave (v := some (.int ((2 : Int32) * (own_pr8 vs x1 7 at0)))) (fun h => by rw [Bd.returns] at h; cases h)
  refine ⟨_, _, p21 _ ?_, hrun, hended, _, _, rfl, ?_, ⟨_, rfl⟩, hW, hsame.mono (by decide) (by decide)⟩
  · show own_W p e below m T6 62 #[.val (.ref x0), .val (.int x1), .val (.int (8 : Int32)), .val (.int (own_pr8 vs x1 7 at0)), .val (.int le)] [(.int ((2 : Int32) * (own_pr8 vs x1 7 at0)))] _
    exact retI X6 hx Bd.returns (hb hby dsg8_62) hr
  · show Qsg8 Z x0 x1 kt vs h0 n0 _ T6.heap _
    rw [e6]
    exact ⟨_, rfl, N6, rfl, by rw [hat0]⟩
theorem dsg16_0 : decode prog_53_method_18_code 0 = .ok (.aload_n 0, 1) := by decide +kernel
theorem dsg16_1 : decode prog_53_method_18_code 1 = .ok (.arraylength, 1) := by decide +kernel
theorem dsg16_2 : decode prog_53_method_18_code 2 = .ok (.iconst 2, 1) := by decide +kernel
theorem dsg16_3 : decode prog_53_method_18_code 3 = .ok (.idiv, 1) := by decide +kernel
theorem dsg16_4 : decode prog_53_method_18_code 4 = .ok (.istore_n 2, 1) := by decide +kernel
theorem dsg16_5 : decode prog_53_method_18_code 5 = .ok (.iload_n 1, 1) := by decide +kernel
theorem dsg16_6 : decode prog_53_method_18_code 6 = .ok (.ldc 129, 2) := by decide +kernel
theorem dsg16_8 : decode prog_53_method_18_code 8 = .ok (.imul, 1) := by decide +kernel
theorem dsg16_9 : decode prog_53_method_18_code 9 = .ok (.iload_n 2, 1) := by decide +kernel
theorem dsg16_10 : decode prog_53_method_18_code 10 = .ok (.invokestatic 130, 3) := by decide +kernel
theorem dsg16_13 : decode prog_53_method_18_code 13 = .ok (.iconst 1, 1) := by decide +kernel
theorem dsg16_14 : decode prog_53_method_18_code 14 = .ok (.iadd, 1) := by decide +kernel
theorem dsg16_15 : decode prog_53_method_18_code 15 = .ok (.iushr, 1) := by decide +kernel
theorem dsg16_16 : decode prog_53_method_18_code 16 = .ok (.istore_n 3, 1) := by decide +kernel
theorem dsg16_17 : decode prog_53_method_18_code 17 = .ok (.iload_n 2, 1) := by decide +kernel
theorem dsg16_18 : decode prog_53_method_18_code 18 = .ok (.iconst 1, 1) := by decide +kernel
theorem dsg16_19 : decode prog_53_method_18_code 19 = .ok (.isub, 1) := by decide +kernel
theorem dsg16_20 : decode prog_53_method_18_code 20 = .ok (.istore 4, 2) := by decide +kernel
theorem dsg16_22 : decode prog_53_method_18_code 22 = .ok (.iload 4, 2) := by decide +kernel
theorem dsg16_24 : decode prog_53_method_18_code 24 = .ok (.ifCond .le 35, 3) := by decide +kernel
theorem dsg16_27 : decode prog_53_method_18_code 27 = .ok (.aload_n 0, 1) := by decide +kernel
theorem dsg16_28 : decode prog_53_method_18_code 28 = .ok (.iconst 2, 1) := by decide +kernel
theorem dsg16_29 : decode prog_53_method_18_code 29 = .ok (.iload_n 3, 1) := by decide +kernel
theorem dsg16_30 : decode prog_53_method_18_code 30 = .ok (.imul, 1) := by decide +kernel
theorem dsg16_31 : decode prog_53_method_18_code 31 = .ok (.iaload, 1) := by decide +kernel
theorem dsg16_32 : decode prog_53_method_18_code 32 = .ok (.iload_n 1, 1) := by decide +kernel
theorem dsg16_33 : decode prog_53_method_18_code 33 = .ok (.if_icmp .eq 26, 3) := by decide +kernel
theorem dsg16_36 : decode prog_53_method_18_code 36 = .ok (.aload_n 0, 1) := by decide +kernel
theorem dsg16_37 : decode prog_53_method_18_code 37 = .ok (.iconst 2, 1) := by decide +kernel
theorem dsg16_38 : decode prog_53_method_18_code 38 = .ok (.iload_n 3, 1) := by decide +kernel
theorem dsg16_39 : decode prog_53_method_18_code 39 = .ok (.imul, 1) := by decide +kernel
theorem dsg16_40 : decode prog_53_method_18_code 40 = .ok (.iaload, 1) := by decide +kernel
theorem dsg16_41 : decode prog_53_method_18_code 41 = .ok (.iconst (-1), 1) := by decide +kernel
theorem dsg16_42 : decode prog_53_method_18_code 42 = .ok (.if_icmp .eq 17, 3) := by decide +kernel
theorem dsg16_45 : decode prog_53_method_18_code 45 = .ok (.iload_n 3, 1) := by decide +kernel
theorem dsg16_46 : decode prog_53_method_18_code 46 = .ok (.iconst 1, 1) := by decide +kernel
theorem dsg16_47 : decode prog_53_method_18_code 47 = .ok (.iadd, 1) := by decide +kernel
theorem dsg16_48 : decode prog_53_method_18_code 48 = .ok (.iload_n 2, 1) := by decide +kernel
theorem dsg16_49 : decode prog_53_method_18_code 49 = .ok (.iconst 1, 1) := by decide +kernel
theorem dsg16_50 : decode prog_53_method_18_code 50 = .ok (.isub, 1) := by decide +kernel
theorem dsg16_51 : decode prog_53_method_18_code 51 = .ok (.iand, 1) := by decide +kernel
theorem dsg16_52 : decode prog_53_method_18_code 52 = .ok (.istore_n 3, 1) := by decide +kernel
theorem dsg16_53 : decode prog_53_method_18_code 53 = .ok (.iinc 4 (-1), 3) := by decide +kernel
theorem dsg16_56 : decode prog_53_method_18_code 56 = .ok (.goto (-34), 3) := by decide +kernel
theorem dsg16_59 : decode prog_53_method_18_code 59 = .ok (.iconst 2, 1) := by decide +kernel
theorem dsg16_60 : decode prog_53_method_18_code 60 = .ok (.iload_n 3, 1) := by decide +kernel
theorem dsg16_61 : decode prog_53_method_18_code 61 = .ok (.imul, 1) := by decide +kernel
theorem dsg16_62 : decode prog_53_method_18_code 62 = .ok (.ireturn, 1) := by decide +kernel
theorem pnsg16 : plainName "com/example/kinwarden/kinwarden/IntMap" = true := by first | (simp [plainName, overriddenIn]; done) | decide +kernel
theorem pdsg16_0 : parseMethodDescriptor "(I)I" = some ⟨[.int], some .int⟩ := by decide +kernel
theorem efsg16 (m : MethodId) (x0 : Addr) (x1 : Int32) : entryFrame m #[(.ref x0), (.int x1)] 5 = mkF m 0 #[.val (.ref x0), .val (.int x1), .unset, .unset, .unset] [] := by first | (simp [entryFrame, mkF, argsToLocals, Value.category]; done) | rfl
def Qsg16 (Z : State) (x0 : Addr) (x1 : Int32) (kt : ClassId) (vs : List Value) (h0 : Heap) (n0 : Nat) (v : Option Value) (h : Heap) (L : List Loc) : Prop := ∃ r : Int32, v = some (.int r) ∧ Fr n0 L ∧ h = h0 ∧ r = ((2 : Int32) * own_pr16 vs x1 15 (((x1 * (-1640531527 : Int32)).toUInt32 >>> (((27 : Int32) + (1 : Int32)) &&& 31).toUInt32).toInt32))
set_option maxRecDepth 65536 in
set_option maxHeartbeats 40000000 in
theorem rmsg16 (l : Launch) (Z : State) (a0 : Array Value) (hw : ∀ d ∈ tables_1, d.before a0 Z = true) (ws : List Jvm.Cond) (x0 : Addr) (x1 : Int32) (kt : ClassId) (vs : List Value) (h0 : Heap) (n0 : Nat) (Z0 : n0 ≤ h0.size) (V0 : Arv Z h0 x0 kt .int (32 : Int32) vs (.int (0 : Int32))) :
    MetFree l (⟨"com/example/kinwarden/kinwarden/IntMap", "slot", "([II)I"⟩ : MethodName) (head1 (Jvm.Cond.code (⟨"com/example/kinwarden/kinwarden/IntMap", "slot", "([II)I"⟩ : MethodName) prog_53_method_18_code 5 (some .int) :: ws) ({ frames := 1, cells := 0, slots := 0, locals := 14 } : Room)) (fun a U => a = #[(.ref x0), (.int x1)] ∧ Z.Warmed39 U.vm ∧ U.heap = h0) (fun _ _ _ _ _ => True) (fun _ U o U' => ∃ v L, o = .returned v ∧ Qsg16 Z x0 x1 kt vs h0 n0 v U'.heap L ∧ FrameEnd U o U' L ({ frames := 1, cells := 0, slots := 0, locals := 14 } : Room).cells ({ frames := 1, cells := 0, slots := 0, locals := 14 } : Room).slots) := by
  refine MetFree.of_bodySF (plainFor_of_name pnsg16) hisR ?_
  intro p e s m args below meth c s₁ Bd hml0 hP hK
  obtain ⟨rfl, hZ, hh⟩ := hP
  have hx := Bd.exec
  have hby := Bd.bytes
  have hml : c.maxLocals = 5 := hml0
  have hown : s.vm.findClass "com/example/kinwarden/kinwarden/IntMap" = some m.cls := findClass_of_methodNamed Bd.named
  have hnm := (name_of_methodNamed Bd.named Bd.method).1
  have X0 : Stand p l e ({ frames := 1, cells := 0, slots := 0, locals := 14 } : Room) s m #[(.ref x0), (.int x1)] below meth c s₁ [] 0 0 := Stand.of_body Bd
  have e0 : s₁.heap = h0 := by rw [← hh, Bd.state]; rfl
  have N0 := Fr.nil n0
  have pre0 : ∀ t, Steps p.tables e below (s₁.setTop (mkF m 0 #[.val (.ref x0), .val (.int x1), .unset, .unset, .unset] [])) t → Steps p.tables e below (s₁.setTop (entryFrame m #[(.ref x0), (.int x1)] 5)) t := fun t k => castTop (efsg16 m x0 x1) k
  obtain ⟨S0, hS0⟩ : ∃ z, z = (s₁.setTop (entryFrame m #[(.ref x0), (.int x1)] 5)) := ⟨_, rfl⟩
  rw [← hS0] at pre0
  have p1 : ∀ t, own_W p e below m s₁ 1 #[.val (.ref x0), .val (.int x1), .unset, .unset, .unset] [(.ref x0)] t → Steps p.tables e below S0 t := fun t k => pre0 t (by
    show own_W p e below m s₁ 0 #[.val (.ref x0), .val (.int x1), .unset, .unset, .unset] [] _
    refine XS.aloadN X0.here hx rfl (hb hby dsg16_0) rfl rfl ?_
    exact k)
  obtain ⟨cl2, Ar2, -, Sz2, Ng2, -, -⟩ := id V0
  have p3 : ∀ t, own_W p e below m s₁ 5 #[.val (.ref x0), .val (.int x1), .val (.int ((32 : Int32) / (2 : Int32))), .unset, .unset] [] t → Steps p.tables e below S0 t := fun t k => p1 t (by
    show own_W p e below m s₁ 1 #[.val (.ref x0), .val (.int x1), .unset, .unset, .unset] [(.ref x0)] _
    refine X0.arraylength hx (by rw [e0]; exact Ar2.1) (State.isArrayOf_alike hZ.alike Ar2.2.1) (g := (mkF m 1 #[.val (.ref x0), .val (.int x1), .unset, .unset, .unset] [(.ref x0)])) rfl rfl (hb hby dsg16_1) _ ?_
    rw [len_of Sz2 Ng2]
    refine XS.iconst X0.here hx rfl (hb hby dsg16_2) ?_
    refine XS.idiv X0.here hx rfl (hb hby dsg16_3) rfl (by decide) ?_
    refine XS.istoreN X0.here hx rfl (hb hby dsg16_4) rfl (l' := #[.val (.ref x0), .val (.int x1), .val (.int ((32 : Int32) / (2 : Int32))), .unset, .unset]) rfl ?_
    exact k)
  have p4 : ∀ t, own_W p e below m s₁ 5 #[.val (.ref x0), .val (.int x1), .val (.int (16 : Int32)), .unset, .unset] [] t → Steps p.tables e below S0 t := by
    have k := p3
    rw [show ((32 : Int32) / (2 : Int32)) = (16 : Int32) from by decide] at k
    exact k
  have p5 : ∀ t, own_W p e below m s₁ 10 #[.val (.ref x0), .val (.int x1), .val (.int (16 : Int32)), .unset, .unset] [(.int (16 : Int32)), (.int (x1 * (-1640531527 : Int32)))] t → Steps p.tables e below S0 t := fun t k => p4 t (by
    show own_W p e below m s₁ 5 #[.val (.ref x0), .val (.int x1), .val (.int (16 : Int32)), .unset, .unset] [] _
    refine XS.iloadN X0.here hx rfl (hb hby dsg16_5) rfl ?_
    show own_W p e below m s₁ 6 #[.val (.ref x0), .val (.int x1), .val (.int (16 : Int32)), .unset, .unset] [(.int x1)] _
    refine X0.ldcInt hx hown (mvT hZ (hw _ (List.mem_of_getElem? (i := 55) rfl))) (g := (mkF m 6 #[.val (.ref x0), .val (.int x1), .val (.int (16 : Int32)), .unset, .unset] [(.int x1)])) rfl (hb hby dsg16_6) _ ?_
    refine XS.imul X0.here hx rfl (hb hby dsg16_8) rfl ?_
    refine XS.iloadN X0.here hx rfl (hb hby dsg16_9) rfl ?_
    exact k)
  obtain ⟨_, _, ⟨T6, L6, k6, n6⟩, -, X6, ⟨Lc6, hQ6, l6, y6, z6⟩, st6⟩ := Jvm.LawKit.callS X0 hx (y := (⟨"java/lang/Integer", "numberOfLeadingZeros", "(I)I"⟩ : MethodName)) hown (mvT hZ (hw _ (List.mem_of_getElem? (i := 56) rfl))) (mvT hZ (hw _ (List.mem_of_getElem? (i := 57) rfl))) (mvT hZ (hw _ (List.mem_of_getElem? (i := 58) rfl))) (mvT hZ (hw _ (List.mem_of_getElem? (i := 59) rfl))) (by decide) (backOf (W := 1) (rmnz16 l Z a0 hw []   h0 n0 Z0 ) hZ (hw _ (List.mem_of_getElem? (i := 59) rfl)) (hw _ (List.mem_of_getElem? (i := 58) rfl)) (by decide) (by decide)) (g := (mkF m 10 #[.val (.ref x0), .val (.int x1), .val (.int (16 : Int32)), .unset, .unset] [(.int (16 : Int32)), (.int (x1 * (-1640531527 : Int32)))])) rfl (by rw [hml]; rfl) (argsL := [(.int (16 : Int32))]) (rest := [(.int (x1 * (-1640531527 : Int32)))]) (lenOf pdsg16_0 rfl) rfl (by show 2 * 0 + _ ≤ _; exact Nat.le_of_eq rfl) (hb hby dsg16_10) (fun _ _ => ⟨rfl, e0, (by decide : 0 + 0 ≤ _), (by decide : 0 + 0 ≤ _)⟩)
  dsimp only [Pt.U, Pt.locs, Pt.cells, Pt.slots] at X6 l6 y6 z6 st6 hQ6
  subst l6 y6 z6
  obtain ⟨rfl, Nq6, e6⟩ := hQ6
  have N6 := Fr.app N0 Nq6
  have p7 : ∀ t, own_W p e below m T6 13 #[.val (.ref x0), .val (.int x1), .val (.int (16 : Int32)), .unset, .unset] [(.int (27 : Int32)), (.int (x1 * (-1640531527 : Int32)))] t → Steps p.tables e below S0 t := fun t k => p5 t (st6 _ k)
  have p8 : ∀ t, own_W p e below m T6 17 #[.val (.ref x0), .val (.int x1), .val (.int (16 : Int32)), .val (.int (((x1 * (-1640531527 : Int32)).toUInt32 >>> (((27 : Int32) + (1 : Int32)) &&& 31).toUInt32).toInt32)), .unset] [] t → Steps p.tables e below S0 t := fun t k => p7 t (by
    show own_W p e below m T6 13 #[.val (.ref x0), .val (.int x1), .val (.int (16 : Int32)), .unset, .unset] [(.int (27 : Int32)), (.int (x1 * (-1640531527 : Int32)))] _
    refine XS.iconst X6.here hx rfl (hb hby dsg16_13) ?_
    refine XS.iadd X6.here hx rfl (hb hby dsg16_14) rfl ?_
    refine XS.iushr X6.here hx rfl (hb hby dsg16_15) rfl ?_
    refine XS.istoreN X6.here hx rfl (hb hby dsg16_16) rfl (l' := #[.val (.ref x0), .val (.int x1), .val (.int (16 : Int32)), .val (.int (((x1 * (-1640531527 : Int32)).toUInt32 >>> (((27 : Int32) + (1 : Int32)) &&& 31).toUInt32).toInt32)), .unset]) rfl ?_
    exact k)
  obtain ⟨at0, hat0⟩ : ∃ z : Int32, z = (((x1 * (-1640531527 : Int32)).toUInt32 >>> (((27 : Int32) + (1 : Int32)) &&& 31).toUInt32).toInt32) := ⟨_, rfl⟩
  have p9 : ∀ t, own_W p e below m T6 17 #[.val (.ref x0), .val (.int x1), .val (.int (16 : Int32)), .val (.int at0), .unset] [] t → Steps p.tables e below S0 t := by
    intro t k; subst hat0; exact p8 t k
  have ra0 := own_h16 hat0
  have p10 : ∀ t, own_W p e below m T6 22 #[.val (.ref x0), .val (.int x1), .val (.int (16 : Int32)), .val (.int at0), .val (.int ((16 : Int32) - (1 : Int32)))] [] t → Steps p.tables e below S0 t := fun t k => p9 t (by
    show own_W p e below m T6 17 #[.val (.ref x0), .val (.int x1), .val (.int (16 : Int32)), .val (.int at0), .unset] [] _
    refine XS.iloadN X6.here hx rfl (hb hby dsg16_17) rfl ?_
    refine XS.iconst X6.here hx rfl (hb hby dsg16_18) ?_
    refine XS.isub X6.here hx rfl (hb hby dsg16_19) rfl ?_
    refine XS.istore X6.here hx rfl (hb hby dsg16_20) rfl (l' := #[.val (.ref x0), .val (.int x1), .val (.int (16 : Int32)), .val (.int at0), .val (.int ((16 : Int32) - (1 : Int32)))]) rfl ?_
    exact k)
  have loop : ∀ (fu : Nat) (a li : Int32), fu = li.toNatClampNeg → (0 ≤ a.toInt ∧ a.toInt < 16) → ∃ (l' : Int32), ∀ t, own_W p e below m T6 59 #[.val (.ref x0), .val (.int x1), .val (.int (16 : Int32)), .val (.int (own_pr16 vs x1 fu a)), .val (.int l')] [] t → own_W p e below m T6 22 #[.val (.ref x0), .val (.int x1), .val (.int (16 : Int32)), .val (.int a), .val (.int li)] [] t := by
    intro fu
    induction fu with
    | zero =>
      intro a li hfu ra
      have own_id : ∀ t, own_W p e below m T6 22 #[.val (.ref x0), .val (.int x1), .val (.int (16 : Int32)), .val (.int a), .val (.int li)] [] t → Steps p.tables e below (T6.setTop (mkF m 22 #[.val (.ref x0), .val (.int x1), .val (.int (16 : Int32)), .val (.int a), .val (.int li)] [])) t := fun t k => k
      have p11 : ∀ t, own_W p e below m T6 59 #[.val (.ref x0), .val (.int x1), .val (.int (16 : Int32)), .val (.int a), .val (.int li)] [] t → Steps p.tables e below (T6.setTop (mkF m 22 #[.val (.ref x0), .val (.int x1), .val (.int (16 : Int32)), .val (.int a), .val (.int li)] [])) t := fun t k => own_id t (by
        show own_W p e below m T6 22 #[.val (.ref x0), .val (.int x1), .val (.int (16 : Int32)), .val (.int a), .val (.int li)] [] _
        refine XS.iload X6.here hx rfl (hb hby dsg16_22) rfl ?_
        refine XS.ifYes X6.here hx rfl (pc0 := 24) (pc' := 59) rfl (hb hby dsg16_24) rfl ((if0 _ _).trans (flt (own_l0 hfu)).2.2.2) (by decide) (by decide) ?_
        exact k)
      exact ⟨_, fun t k => p11 t (by rw [show (own_pr16 vs x1 0 a) = a from rfl] at k; exact k)⟩
    | succ fu ih =>
      intro a li hfu ra
      obtain ⟨hl, hfu'⟩ := own_l1 hfu
      obtain ⟨w, hw'⟩ := own_get V0 (own_x16 ra).1
      have eP : (own_pr16 vs x1 (fu + 1) a) = if w = x1 then a else if w = (-1 : Int32) then a else (own_pr16 vs x1 fu ((a + (1 : Int32)) &&& ((16 : Int32) - (1 : Int32)))) := by
        show (if own_iv (vs.getD ((2 : Int32) * a).toNatClampNeg (.int (0 : Int32))) = x1 then a else if own_iv (vs.getD ((2 : Int32) * a).toNatClampNeg (.int (0 : Int32))) = (-1 : Int32) then a else _) = _
        rw [own_ivi hw']
      have own_id : ∀ t, own_W p e below m T6 22 #[.val (.ref x0), .val (.int x1), .val (.int (16 : Int32)), .val (.int a), .val (.int li)] [] t → Steps p.tables e below (T6.setTop (mkF m 22 #[.val (.ref x0), .val (.int x1), .val (.int (16 : Int32)), .val (.int a), .val (.int li)] [])) t := fun t k => k
      have p12 : ∀ t, own_W p e below m T6 31 #[.val (.ref x0), .val (.int x1), .val (.int (16 : Int32)), .val (.int a), .val (.int li)] [(.int ((2 : Int32) * a)), (.ref x0)] t → Steps p.tables e below (T6.setTop (mkF m 22 #[.val (.ref x0), .val (.int x1), .val (.int (16 : Int32)), .val (.int a), .val (.int li)] [])) t := fun t k => own_id t (by
        show own_W p e below m T6 22 #[.val (.ref x0), .val (.int x1), .val (.int (16 : Int32)), .val (.int a), .val (.int li)] [] _
        refine XS.iload X6.here hx rfl (hb hby dsg16_22) rfl ?_
        refine XS.ifNo X6.here hx rfl (hb hby dsg16_24) rfl ((if0 _ _).trans (tlt (hl)).2.2.2) ?_
        refine XS.aloadN X6.here hx rfl (hb hby dsg16_27) rfl rfl ?_
        refine XS.iconst X6.here hx rfl (hb hby dsg16_28) ?_
        refine XS.iloadN X6.here hx rfl (hb hby dsg16_29) rfl ?_
        refine XS.imul X6.here hx rfl (hb hby dsg16_30) rfl ?_
        exact k)
      obtain ⟨cl13, Ar13, q13, Sz13, Ng13, Hs13, G13⟩ := id V0
      have hin13 : ¬ (((2 : Int32) * a) < 0 ∨ cl13.slots.size ≤ (((2 : Int32) * a)).toNatClampNeg) := inb_of Sz13 (own_x16 ra).1
      have hat13 : cl13.slots[(((2 : Int32) * a)).toNatClampNeg]? = some (.int w) := Hs13.at hin13 (hw')
      have p14 : ∀ t, own_W p e below m T6 33 #[.val (.ref x0), .val (.int x1), .val (.int (16 : Int32)), .val (.int a), .val (.int li)] [(.int x1), (.int w)] t → Steps p.tables e below (T6.setTop (mkF m 22 #[.val (.ref x0), .val (.int x1), .val (.int (16 : Int32)), .val (.int a), .val (.int li)] [])) t := fun t k => p12 t (by
        show own_W p e below m T6 31 #[.val (.ref x0), .val (.int x1), .val (.int (16 : Int32)), .val (.int a), .val (.int li)] [(.int ((2 : Int32) * a)), (.ref x0)] _
        refine X6.iaload hx (j := ((2 : Int32) * a)) (v := (.int w)) (by rw [e6]; exact Ar13.1) (State.isArrayOf_alike hZ.alike Ar13.2.1) Ar13.2.2 hin13 hat13 (g := (mkF m 31 #[.val (.ref x0), .val (.int x1), .val (.int (16 : Int32)), .val (.int a), .val (.int li)] [(.int ((2 : Int32) * a)), (.ref x0)])) rfl rfl (hb hby dsg16_31) _ ?_
        refine XS.iloadN X6.here hx rfl (hb hby dsg16_32) rfl ?_
        exact k)
      by_cases hk : w = x1
      · have p15 : ∀ t, own_W p e below m T6 59 #[.val (.ref x0), .val (.int x1), .val (.int (16 : Int32)), .val (.int a), .val (.int li)] [] t → Steps p.tables e below (T6.setTop (mkF m 22 #[.val (.ref x0), .val (.int x1), .val (.int (16 : Int32)), .val (.int a), .val (.int li)] [])) t := fun t k => p14 t (by
          show own_W p e below m T6 33 #[.val (.ref x0), .val (.int x1), .val (.int (16 : Int32)), .val (.int a), .val (.int li)] [(.int x1), (.int w)] _
          refine XS.icmpYes X6.here hx rfl (pc0 := 33) (pc' := 59) rfl (hb hby dsg16_33) rfl ((teq (hk)).1) (by decide) (by decide) ?_
          exact k)
        exact ⟨_, fun t k => p15 t (by rw [eP, if_pos hk] at k; exact k)⟩
      · have p16 : ∀ t, own_W p e below m T6 40 #[.val (.ref x0), .val (.int x1), .val (.int (16 : Int32)), .val (.int a), .val (.int li)] [(.int ((2 : Int32) * a)), (.ref x0)] t → Steps p.tables e below (T6.setTop (mkF m 22 #[.val (.ref x0), .val (.int x1), .val (.int (16 : Int32)), .val (.int a), .val (.int li)] [])) t := fun t k => p14 t (by
          show own_W p e below m T6 33 #[.val (.ref x0), .val (.int x1), .val (.int (16 : Int32)), .val (.int a), .val (.int li)] [(.int x1), (.int w)] _
          refine XS.icmpNo X6.here hx rfl (hb hby dsg16_33) rfl ((feq (hk)).1) ?_
          refine XS.aloadN X6.here hx rfl (hb hby dsg16_36) rfl rfl ?_
          refine XS.iconst X6.here hx rfl (hb hby dsg16_37) ?_
          refine XS.iloadN X6.here hx rfl (hb hby dsg16_38) rfl ?_
          refine XS.imul X6.here hx rfl (hb hby dsg16_39) rfl ?_
          exact k)
        obtain ⟨cl17, Ar17, q17, Sz17, Ng17, Hs17, G17⟩ := id V0
        have hin17 : ¬ (((2 : Int32) * a) < 0 ∨ cl17.slots.size ≤ (((2 : Int32) * a)).toNatClampNeg) := inb_of Sz17 (own_x16 ra).1
        have hat17 : cl17.slots[(((2 : Int32) * a)).toNatClampNeg]? = some (.int w) := Hs17.at hin17 (hw')
        have p18 : ∀ t, own_W p e below m T6 42 #[.val (.ref x0), .val (.int x1), .val (.int (16 : Int32)), .val (.int a), .val (.int li)] [(.int (-1 : Int32)), (.int w)] t → Steps p.tables e below (T6.setTop (mkF m 22 #[.val (.ref x0), .val (.int x1), .val (.int (16 : Int32)), .val (.int a), .val (.int li)] [])) t := fun t k => p16 t (by
          show own_W p e below m T6 40 #[.val (.ref x0), .val (.int x1), .val (.int (16 : Int32)), .val (.int a), .val (.int li)] [(.int ((2 : Int32) * a)), (.ref x0)] _
          refine X6.iaload hx (j := ((2 : Int32) * a)) (v := (.int w)) (by rw [e6]; exact Ar17.1) (State.isArrayOf_alike hZ.alike Ar17.2.1) Ar17.2.2 hin17 hat17 (g := (mkF m 40 #[.val (.ref x0), .val (.int x1), .val (.int (16 : Int32)), .val (.int a), .val (.int li)] [(.int ((2 : Int32) * a)), (.ref x0)])) rfl rfl (hb hby dsg16_40) _ ?_
          refine XS.iconst X6.here hx rfl (hb hby dsg16_41) ?_
          exact k)
        by_cases hm : w = (-1 : Int32)
        · have p19 : ∀ t, own_W p e below m T6 59 #[.val (.ref x0), .val (.int x1), .val (.int (16 : Int32)), .val (.int a), .val (.int li)] [] t → Steps p.tables e below (T6.setTop (mkF m 22 #[.val (.ref x0), .val (.int x1), .val (.int (16 : Int32)), .val (.int a), .val (.int li)] [])) t := fun t k => p18 t (by
            show own_W p e below m T6 42 #[.val (.ref x0), .val (.int x1), .val (.int (16 : Int32)), .val (.int a), .val (.int li)] [(.int (-1 : Int32)), (.int w)] _
            refine XS.icmpYes X6.here hx rfl (pc0 := 42) (pc' := 59) rfl (hb hby dsg16_42) rfl ((teq (hm)).1) (by decide) (by decide) ?_
            exact k)
          exact ⟨_, fun t k => p19 t (by rw [eP, if_neg hk, if_pos hm] at k; exact k)⟩
        · have p20 : ∀ t, own_W p e below m T6 22 #[.val (.ref x0), .val (.int x1), .val (.int (16 : Int32)), .val (.int ((a + (1 : Int32)) &&& ((16 : Int32) - (1 : Int32)))), .val (.int (li + (-1 : Int32)))] [] t → Steps p.tables e below (T6.setTop (mkF m 22 #[.val (.ref x0), .val (.int x1), .val (.int (16 : Int32)), .val (.int a), .val (.int li)] [])) t := fun t k => p18 t (by
            show own_W p e below m T6 42 #[.val (.ref x0), .val (.int x1), .val (.int (16 : Int32)), .val (.int a), .val (.int li)] [(.int (-1 : Int32)), (.int w)] _
            refine XS.icmpNo X6.here hx rfl (hb hby dsg16_42) rfl ((feq (hm)).1) ?_
            refine XS.iloadN X6.here hx rfl (hb hby dsg16_45) rfl ?_
            refine XS.iconst X6.here hx rfl (hb hby dsg16_46) ?_
            refine XS.iadd X6.here hx rfl (hb hby dsg16_47) rfl ?_
            refine XS.iloadN X6.here hx rfl (hb hby dsg16_48) rfl ?_
            refine XS.iconst X6.here hx rfl (hb hby dsg16_49) ?_
            refine XS.isub X6.here hx rfl (hb hby dsg16_50) rfl ?_
            refine XS.iand X6.here hx rfl (hb hby dsg16_51) rfl ?_
            refine XS.istoreN X6.here hx rfl (hb hby dsg16_52) rfl (l' := #[.val (.ref x0), .val (.int x1), .val (.int (16 : Int32)), .val (.int ((a + (1 : Int32)) &&& ((16 : Int32) - (1 : Int32)))), .val (.int li)]) rfl ?_
            refine XS.iinc X6.here hx rfl (hb hby dsg16_53) rfl (l' := #[.val (.ref x0), .val (.int x1), .val (.int (16 : Int32)), .val (.int ((a + (1 : Int32)) &&& ((16 : Int32) - (1 : Int32)))), .val (.int (li + (-1 : Int32)))]) rfl ?_
            refine XS.goto X6.here hx rfl (pc0 := 56) (pc' := 22) rfl (hb hby dsg16_56) (by decide) (by decide) ?_
            exact k)
          obtain ⟨l', k'⟩ := ih _ (li + (-1 : Int32)) hfu' (own_n16 rfl)
          exact ⟨l', fun t k => p20 t (k' t (by rw [eP, if_neg hk, if_neg hm] at k; exact k))⟩
  obtain ⟨le, ke⟩ := loop 15 at0 ((16 : Int32) - (1 : Int32)) (by decide) ra0
  have p59 : ∀ t, own_W p e below m T6 59 #[.val (.ref x0), .val (.int x1), .val (.int (16 : Int32)), .val (.int (own_pr16 vs x1 15 at0)), .val (.int le)] [] t → Steps p.tables e below S0 t := fun t k => p10 t (ke t k)
  have p21 : ∀ t, own_W p e below m T6 62 #[.val (.ref x0), .val (.int x1), .val (.int (16 : Int32)), .val (.int (own_pr16 vs x1 15 at0)), .val (.int le)] [(.int ((2 : Int32) * (own_pr16 vs x1 15 at0)))] t → Steps p.tables e below S0 t := fun t k => p59 t (by
    show own_W p e below m T6 59 #[.val (.ref x0), .val (.int x1), .val (.int (16 : Int32)), .val (.int (own_pr16 vs x1 15 at0)), .val (.int le)] [] _
    refine XS.iconst X6.here hx rfl (hb hby dsg16_59) ?_
    refine XS.iloadN X6.here hx rfl (hb hby dsg16_60) rfl ?_
    refine XS.imul X6.here hx rfl (hb hby dsg16_61) rfl ?_
    exact k)
  subst hS0
  obtain ⟨fs, hr, hrun, hended, hW, hsame⟩ := X6.leave (v := some (.int ((2 : Int32) * (own_pr16 vs x1 15 at0)))) (fun h => by rw [Bd.returns] at h; cases h)
  refine ⟨_, _, p21 _ ?_, hrun, hended, _, _, rfl, ?_, ⟨_, rfl⟩, hW, hsame.mono (by decide) (by decide)⟩
  · show own_W p e below m T6 62 #[.val (.ref x0), .val (.int x1), .val (.int (16 : Int32)), .val (.int (own_pr16 vs x1 15 at0)), .val (.int le)] [(.int ((2 : Int32) * (own_pr16 vs x1 15 at0)))] _
    exact retI X6 hx Bd.returns (hb hby dsg16_62) hr
  · show Qsg16 Z x0 x1 kt vs h0 n0 _ T6.heap _
    rw [e6]
    exact ⟨_, rfl, N6, rfl, by rw [hat0]⟩
theorem dhg_0 : decode prog_53_method_11_code 0 = .ok (.aload_n 0, 1) := by decide +kernel
theorem dhg_1 : decode prog_53_method_11_code 1 = .ok (.getfield 30, 3) := by decide +kernel
theorem dhg_4 : decode prog_53_method_11_code 4 = .ok (.ifnull 18, 3) := by decide +kernel
theorem dhg_22 : decode prog_53_method_11_code 22 = .ok (.aload_n 0, 1) := by decide +kernel
theorem dhg_23 : decode prog_53_method_11_code 23 = .ok (.getfield 26, 3) := by decide +kernel
theorem dhg_26 : decode prog_53_method_11_code 26 = .ok (.aload_n 0, 1) := by decide +kernel
theorem dhg_27 : decode prog_53_method_11_code 27 = .ok (.getfield 26, 3) := by decide +kernel
theorem dhg_30 : decode prog_53_method_11_code 30 = .ok (.iload_n 1, 1) := by decide +kernel
theorem dhg_31 : decode prog_53_method_11_code 31 = .ok (.invokestatic 33, 3) := by decide +kernel
theorem dhg_34 : decode prog_53_method_11_code 34 = .ok (.iaload, 1) := by decide +kernel
theorem dhg_35 : decode prog_53_method_11_code 35 = .ok (.iconst (-1), 1) := by decide +kernel
theorem dhg_36 : decode prog_53_method_11_code 36 = .ok (.if_icmp .ne 23, 3) := by decide +kernel
theorem dhg_39 : decode prog_53_method_11_code 39 = .ok (.iconst 4, 1) := by decide +kernel
theorem dhg_40 : decode prog_53_method_11_code 40 = .ok (.aload_n 0, 1) := by decide +kernel
theorem dhg_41 : decode prog_53_method_11_code 41 = .ok (.getfield 43, 3) := by decide +kernel
theorem dhg_44 : decode prog_53_method_11_code 44 = .ok (.iconst 1, 1) := by decide +kernel
theorem dhg_45 : decode prog_53_method_11_code 45 = .ok (.iadd, 1) := by decide +kernel
theorem dhg_46 : decode prog_53_method_11_code 46 = .ok (.imul, 1) := by decide +kernel
theorem dhg_47 : decode prog_53_method_11_code 47 = .ok (.iconst 3, 1) := by decide +kernel
theorem dhg_48 : decode prog_53_method_11_code 48 = .ok (.aload_n 0, 1) := by decide +kernel
theorem dhg_49 : decode prog_53_method_11_code 49 = .ok (.getfield 26, 3) := by decide +kernel
theorem dhg_52 : decode prog_53_method_11_code 52 = .ok (.arraylength, 1) := by decide +kernel
theorem dhg_53 : decode prog_53_method_11_code 53 = .ok (.iconst 2, 1) := by decide +kernel
theorem dhg_54 : decode prog_53_method_11_code 54 = .ok (.idiv, 1) := by decide +kernel
theorem dhg_55 : decode prog_53_method_11_code 55 = .ok (.imul, 1) := by decide +kernel
theorem dhg_56 : decode prog_53_method_11_code 56 = .ok (.if_icmp .gt 7, 3) := by decide +kernel
theorem dhg_59 : decode prog_53_method_11_code 59 = .ok (.iconst 1, 1) := by decide +kernel
theorem dhg_60 : decode prog_53_method_11_code 60 = .ok (.goto 4, 3) := by decide +kernel
theorem dhg_64 : decode prog_53_method_11_code 64 = .ok (.ireturn, 1) := by decide +kernel
theorem pnhg : plainName "com/example/kinwarden/kinwarden/IntMap" = true := by first | (simp [plainName, overriddenIn]; done) | decide +kernel
theorem pdhg_0 : parseMethodDescriptor "([II)I" = some ⟨[(.array .int), .int], some .int⟩ := by decide +kernel
theorem efhg (m : MethodId) (x0 : Addr) (x1 : Int32) : entryFrame m #[(.ref x0), (.int x1)] 2 = mkF m 0 #[.val (.ref x0), .val (.int x1)] [] := by first | (simp [entryFrame, mkF, argsToLocals, Value.category]; done) | rfl
def Qhg (Z : State) (x0 : Addr) (x1 : Int32) (tb : Addr) (kt : ClassId) (vs : List Value) (sz : Int32) (h0 : Heap) (n0 : Nat) (v : Option Value) (h : Heap) (L : List Loc) : Prop := v = some (.int (1 : Int32)) ∧ Fr n0 L ∧ h = h0
set_option maxRecDepth 65536 in
set_option maxHeartbeats 40000000 in
theorem rmhg (l : Launch) (Z : State) (a0 : Array Value) (hw : ∀ d ∈ tables_1, d.before a0 Z = true) (ws : List Jvm.Cond) (x0 : Addr) (x1 : Int32) (tb : Addr) (kt : ClassId) (vs : List Value) (sz : Int32) (h0 : Heap) (n0 : Nat) (Z0 : n0 ≤ h0.size) (E0 : Exa Z h0 x0 "com/example/kinwarden/kinwarden/IntMap") (Ft : Fld Z h0 x0 "com/example/kinwarden/kinwarden/IntMap" "table" "[I" (.ref tb)) (Fb : Fld Z h0 x0 "com/example/kinwarden/kinwarden/IntMap" "byKey" "[I" .null) (Fs : Fld Z h0 x0 "com/example/kinwarden/kinwarden/IntMap" "size" "I" (.int sz)) (V0 : Arv Z h0 tb kt .int (16 : Int32) vs (.int (0 : Int32))) (hsz : ¬ ((3 : Int32) * ((16 : Int32) / (2 : Int32))) < ((4 : Int32) * (sz + (1 : Int32)))) :
    MetFree l (⟨"com/example/kinwarden/kinwarden/IntMap", "hasRoomFor", "(I)Z"⟩ : MethodName) (head1 (Jvm.Cond.code (⟨"com/example/kinwarden/kinwarden/IntMap", "hasRoomFor", "(I)Z"⟩ : MethodName) prog_53_method_11_code 2 (some .boolean) :: ws) ({ frames := 2, cells := 0, slots := 0, locals := 32 } : Room)) (fun a U => a = #[(.ref x0), (.int x1)] ∧ Z.Warmed39 U.vm ∧ U.heap = h0) (fun _ _ _ _ _ => True) (fun _ U o U' => ∃ v L, o = .returned v ∧ Qhg Z x0 x1 tb kt vs sz h0 n0 v U'.heap L ∧ FrameEnd U o U' L ({ frames := 2, cells := 0, slots := 0, locals := 32 } : Room).cells ({ frames := 2, cells := 0, slots := 0, locals := 32 } : Room).slots) := by
  refine MetFree.of_bodySF (plainFor_of_name pnhg) hisR ?_
  intro p e s m args below meth c s₁ Bd hml0 hP hK
  obtain ⟨rfl, hZ, hh⟩ := hP
  have hx := Bd.exec
  have hby := Bd.bytes
  have hml : c.maxLocals = 2 := hml0
  have hown : s.vm.findClass "com/example/kinwarden/kinwarden/IntMap" = some m.cls := findClass_of_methodNamed Bd.named
  have hnm := (name_of_methodNamed Bd.named Bd.method).1
  have X0 : Stand p l e ({ frames := 2, cells := 0, slots := 0, locals := 32 } : Room) s m #[(.ref x0), (.int x1)] below meth c s₁ [] 0 0 := Stand.of_body Bd
  have e0 : s₁.heap = h0 := by rw [← hh, Bd.state]; rfl
  have N0 := Fr.nil n0
  have pre0 : ∀ t, Steps p.tables e below (s₁.setTop (mkF m 0 #[.val (.ref x0), .val (.int x1)] [])) t → Steps p.tables e below (s₁.setTop (entryFrame m #[(.ref x0), (.int x1)] 2)) t := fun t k => castTop (efhg m x0 x1) k
  obtain ⟨S0, hS0⟩ : ∃ z, z = (s₁.setTop (entryFrame m #[(.ref x0), (.int x1)] 2)) := ⟨_, rfl⟩
  rw [← hS0] at pre0
  have p1 : ∀ t, own_W p e below m s₁ 1 #[.val (.ref x0), .val (.int x1)] [(.ref x0)] t → Steps p.tables e below S0 t := fun t k => pre0 t (by
    show own_W p e below m s₁ 0 #[.val (.ref x0), .val (.int x1)] [] _
    refine XS.aloadN X0.here hx rfl (hb hby dhg_0) rfl rfl ?_
    exact k)
  obtain ⟨T2, X2, e2, st2⟩ := getF X0 hx hZ hown (host := "") (Or.inl (hw _ (List.mem_of_getElem? (i := 29) rfl))) Via.refl e0 Fb (g := (mkF m 1 #[.val (.ref x0), .val (.int x1)] [(.ref x0)])) rfl rfl (hb hby dhg_1)
  have p3 : ∀ t, own_W p e below m T2 4 #[.val (.ref x0), .val (.int x1)] [.null] t → Steps p.tables e below S0 t := fun t k => p1 t (st2 t k)
  have p4 : ∀ t, own_W p e below m T2 23 #[.val (.ref x0), .val (.int x1)] [(.ref x0)] t → Steps p.tables e below S0 t := fun t k => p3 t (by
    show own_W p e below m T2 4 #[.val (.ref x0), .val (.int x1)] [.null] _
    refine XS.ifnullYes X2.here hx rfl (pc0 := 4) (pc' := 22) rfl (hb hby dhg_4) rfl (by decide) (by decide) ?_
    refine XS.aloadN X2.here hx rfl (hb hby dhg_22) rfl rfl ?_
    exact k)
  obtain ⟨T5, X5, e5, st5⟩ := getF X2 hx hZ hown (host := "") (Or.inl (hw _ (List.mem_of_getElem? (i := 27) rfl))) Via.refl e2 Ft (g := (mkF m 23 #[.val (.ref x0), .val (.int x1)] [(.ref x0)])) rfl rfl (hb hby dhg_23)
  have p6 : ∀ t, own_W p e below m T5 26 #[.val (.ref x0), .val (.int x1)] [(.ref tb)] t → Steps p.tables e below S0 t := fun t k => p4 t (st5 t k)
  have p7 : ∀ t, own_W p e below m T5 27 #[.val (.ref x0), .val (.int x1)] [(.ref x0), (.ref tb)] t → Steps p.tables e below S0 t := fun t k => p6 t (by
    show own_W p e below m T5 26 #[.val (.ref x0), .val (.int x1)] [(.ref tb)] _
    refine XS.aloadN X5.here hx rfl (hb hby dhg_26) rfl rfl ?_
    exact k)
  obtain ⟨T8, X8, e8, st8⟩ := getF X5 hx hZ hown (host := "") (Or.inl (hw _ (List.mem_of_getElem? (i := 27) rfl))) Via.refl e5 Ft (g := (mkF m 27 #[.val (.ref x0), .val (.int x1)] [(.ref x0), (.ref tb)])) rfl rfl (hb hby dhg_27)
  have p9 : ∀ t, own_W p e below m T8 30 #[.val (.ref x0), .val (.int x1)] [(.ref tb), (.ref tb)] t → Steps p.tables e below S0 t := fun t k => p7 t (st8 t k)
  have p10 : ∀ t, own_W p e below m T8 31 #[.val (.ref x0), .val (.int x1)] [(.int x1), (.ref tb), (.ref tb)] t → Steps p.tables e below S0 t := fun t k => p9 t (by
    show own_W p e below m T8 30 #[.val (.ref x0), .val (.int x1)] [(.ref tb), (.ref tb)] _
    refine XS.iloadN X8.here hx rfl (hb hby dhg_30) rfl ?_
    exact k)
  obtain ⟨_, _, ⟨T11, L11, k11, n11⟩, -, X11, ⟨Lc11, hQ11, l11, y11, z11⟩, st11⟩ := Jvm.LawKit.callS X8 hx (y := (⟨"com/example/kinwarden/kinwarden/IntMap", "slot", "([II)I"⟩ : MethodName)) hown (mvT hZ (hw _ (List.mem_of_getElem? (i := 52) rfl))) (mvT hZ (hw _ (List.mem_of_getElem? (i := 53) rfl))) (mvT hZ (hw _ (List.mem_of_getElem? (i := 3) rfl))) (mvT hZ (hw _ (List.mem_of_getElem? (i := 54) rfl))) (by decide) (backOf (W := 1) (rmsg8 l Z a0 hw [] tb x1 kt vs h0 n0 Z0 V0) hZ (hw _ (List.mem_of_getElem? (i := 54) rfl)) (hw _ (List.mem_of_getElem? (i := 3) rfl)) (by decide) (by decide)) (g := (mkF m 31 #[.val (.ref x0), .val (.int x1)] [(.int x1), (.ref tb), (.ref tb)])) rfl (by rw [hml]; rfl) (argsL := [(.ref tb), (.int x1)]) (rest := [(.ref tb)]) (lenOf pdhg_0 rfl) rfl (by show 2 * 0 + _ ≤ _; exact Nat.le_of_eq rfl) (hb hby dhg_31) (fun _ _ => ⟨rfl, e8, (by decide : 0 + 0 ≤ _), (by decide : 0 + 0 ≤ _)⟩)
  dsimp only [Pt.U, Pt.locs, Pt.cells, Pt.slots] at X11 l11 y11 z11 st11 hQ11
  subst l11 y11 z11
  obtain ⟨r11, rfl, Nq11, e11, hr11⟩ := hQ11
  have N11 := Fr.app N0 Nq11
  have p12 : ∀ t, own_W p e below m T11 34 #[.val (.ref x0), .val (.int x1)] [(.int r11), (.ref tb)] t → Steps p.tables e below S0 t := fun t k => p10 t (st11 _ k)
  obtain ⟨rr, rs⟩ := own_sl8 hr11
  obtain ⟨w, hw'⟩ := own_get V0 rr
  obtain ⟨cl13, Ar13, q13, Sz13, Ng13, Hs13, G13⟩ := id V0
  have hin13 : ¬ (r11 < 0 ∨ cl13.slots.size ≤ (r11).toNatClampNeg) := inb_of Sz13 rr
  have hat13 : cl13.slots[(r11).toNatClampNeg]? = some (.int w) := Hs13.at hin13 (hw')
  have p14 : ∀ t, own_W p e below m T11 36 #[.val (.ref x0), .val (.int x1)] [(.int (-1 : Int32)), (.int w)] t → Steps p.tables e below S0 t := fun t k => p12 t (by
    show own_W p e below m T11 34 #[.val (.ref x0), .val (.int x1)] [(.int r11), (.ref tb)] _
    refine X11.iaload hx (j := r11) (v := (.int w)) (by rw [e11]; exact Ar13.1) (State.isArrayOf_alike hZ.alike Ar13.2.1) Ar13.2.2 hin13 hat13 (g := (mkF m 34 #[.val (.ref x0), .val (.int x1)] [(.int r11), (.ref tb)])) rfl rfl (hb hby dhg_34) _ ?_
    refine XS.iconst X11.here hx rfl (hb hby dhg_35) ?_
    exact k)
  by_cases hc36 : w = (-1 : Int32)
  · have p15 : ∀ t, own_W p e below m T11 41 #[.val (.ref x0), .val (.int x1)] [(.ref x0), (.int (4 : Int32))] t → Steps p.tables e below S0 t := fun t k => p14 t (by
      show own_W p e below m T11 36 #[.val (.ref x0), .val (.int x1)] [(.int (-1 : Int32)), (.int w)] _
      refine XS.icmpNo X11.here hx rfl (hb hby dhg_36) rfl ((teq (hc36)).2) ?_
      refine XS.iconst X11.here hx rfl (hb hby dhg_39) ?_
      refine XS.aloadN X11.here hx rfl (hb hby dhg_40) rfl rfl ?_
      exact k)
    obtain ⟨T16, X16, e16, st16⟩ := getF X11 hx hZ hown (host := "") (Or.inl (hw _ (List.mem_of_getElem? (i := 61) rfl))) Via.refl e11 Fs (g := (mkF m 41 #[.val (.ref x0), .val (.int x1)] [(.ref x0), (.int (4 : Int32))])) rfl rfl (hb hby dhg_41)
    have p17 : ∀ t, own_W p e below m T16 44 #[.val (.ref x0), .val (.int x1)] [(.int sz), (.int (4 : Int32))] t → Steps p.tables e below S0 t := fun t k => p15 t (st16 t k)
    have p18 : ∀ t, own_W p e below m T16 49 #[.val (.ref x0), .val (.int x1)] [(.ref x0), (.int (3 : Int32)), (.int ((4 : Int32) * (sz + (1 : Int32))))] t → Steps p.tables e below S0 t := fun t k => p17 t (by
      show own_W p e below m T16 44 #[.val (.ref x0), .val (.int x1)] [(.int sz), (.int (4 : Int32))] _
      refine XS.iconst X16.here hx rfl (hb hby dhg_44) ?_
      refine XS.iadd X16.here hx rfl (hb hby dhg_45) rfl ?_
      refine XS.imul X16.here hx rfl (hb hby dhg_46) rfl ?_
      refine XS.iconst X16.here hx rfl (hb hby dhg_47) ?_
      refine XS.aloadN X16.here hx rfl (hb hby dhg_48) rfl rfl ?_
      exact k)
    obtain ⟨T19, X19, e19, st19⟩ := getF X16 hx hZ hown (host := "") (Or.inl (hw _ (List.mem_of_getElem? (i := 27) rfl))) Via.refl e16 Ft (g := (mkF m 49 #[.val (.ref x0), .val (.int x1)] [(.ref x0), (.int (3 : Int32)), (.int ((4 : Int32) * (sz + (1 : Int32))))])) rfl rfl (hb hby dhg_49)
    have p20 : ∀ t, own_W p e below m T19 52 #[.val (.ref x0), .val (.int x1)] [(.ref tb), (.int (3 : Int32)), (.int ((4 : Int32) * (sz + (1 : Int32))))] t → Steps p.tables e below S0 t := fun t k => p18 t (st19 t k)
    obtain ⟨cl21, Ar21, -, Sz21, Ng21, -, -⟩ := id V0
    have p22 : ∀ t, own_W p e below m T19 64 #[.val (.ref x0), .val (.int x1)] [(.int (1 : Int32))] t → Steps p.tables e below S0 t := fun t k => p20 t (by
      show own_W p e below m T19 52 #[.val (.ref x0), .val (.int x1)] [(.ref tb), (.int (3 : Int32)), (.int ((4 : Int32) * (sz + (1 : Int32))))] _
      refine X19.arraylength hx (by rw [e19]; exact Ar21.1) (State.isArrayOf_alike hZ.alike Ar21.2.1) (g := (mkF m 52 #[.val (.ref x0), .val (.int x1)] [(.ref tb), (.int (3 : Int32)), (.int ((4 : Int32) * (sz + (1 : Int32))))])) rfl rfl (hb hby dhg_52) _ ?_
      rw [len_of Sz21 Ng21]
      refine XS.iconst X19.here hx rfl (hb hby dhg_53) ?_
      refine XS.idiv X19.here hx rfl (hb hby dhg_54) rfl (by decide) ?_
      refine XS.imul X19.here hx rfl (hb hby dhg_55) rfl ?_
      refine XS.icmpNo X19.here hx rfl (hb hby dhg_56) rfl ((flt (hsz)).2.2.1) ?_
      refine XS.iconst X19.here hx rfl (hb hby dhg_59) ?_
      refine XS.goto X19.here hx rfl (pc0 := 60) (pc' := 64) rfl (hb hby dhg_60) (by decide) (by decide) ?_
      exact k)
    subst hS0
    obtain ⟨fs, hr, hrun, hended, hW, hsame⟩ := X19.leave (v := some (.int (1 : Int32))) (fun h => by rw [Bd.returns] at h; cases h)
    refine ⟨_, _, p22 _ ?_, hrun, hended, _, _, rfl, ?_, ⟨_, rfl⟩, hW, hsame.mono (by decide) (by decide)⟩
    · show own_W p e below m T19 64 #[.val (.ref x0), .val (.int x1)] [(.int (1 : Int32))] _
      exact retN X19 hx (t := .boolean) Bd.returns (by simp) (hb hby dhg_64) hr
    · show Qhg Z x0 x1 tb kt vs sz h0 n0 _ T19.heap _
      rw [e19]
      exact ⟨rfl, N11, rfl⟩
  · have p23 : ∀ t, own_W p e below m T11 64 #[.val (.ref x0), .val (.int x1)] [(.int (1 : Int32))] t → Steps p.tables e below S0 t := fun t k => p14 t (by
      show own_W p e below m T11 36 #[.val (.ref x0), .val (.int x1)] [(.int (-1 : Int32)), (.int w)] _
      refine XS.icmpYes X11.here hx rfl (pc0 := 36) (pc' := 59) rfl (hb hby dhg_36) rfl ((feq (hc36)).2) (by decide) (by decide) ?_
      refine XS.iconst X11.here hx rfl (hb hby dhg_59) ?_
      refine XS.goto X11.here hx rfl (pc0 := 60) (pc' := 64) rfl (hb hby dhg_60) (by decide) (by decide) ?_
      exact k)
    subst hS0
    obtain ⟨fs, hr, hrun, hended, hW, hsame⟩ := X11.leave (v := some (.int (1 : Int32))) (fun h => by rw [Bd.returns] at h; cases h)
    refine ⟨_, _, p23 _ ?_, hrun, hended, _, _, rfl, ?_, ⟨_, rfl⟩, hW, hsame.mono (by decide) (by decide)⟩
    · show own_W p e below m T11 64 #[.val (.ref x0), .val (.int x1)] [(.int (1 : Int32))] _
      exact retN X11 hx (t := .boolean) Bd.returns (by simp) (hb hby dhg_64) hr
    · show Qhg Z x0 x1 tb kt vs sz h0 n0 _ T11.heap _
      rw [e11]
      exact ⟨rfl, N11, rfl⟩
theorem dhe_0 : decode prog_53_method_11_code 0 = .ok (.aload_n 0, 1) := by decide +kernel
theorem dhe_1 : decode prog_53_method_11_code 1 = .ok (.getfield 30, 3) := by decide +kernel
theorem dhe_4 : decode prog_53_method_11_code 4 = .ok (.ifnull 18, 3) := by decide +kernel
theorem dhe_22 : decode prog_53_method_11_code 22 = .ok (.aload_n 0, 1) := by decide +kernel
theorem dhe_23 : decode prog_53_method_11_code 23 = .ok (.getfield 26, 3) := by decide +kernel
theorem dhe_26 : decode prog_53_method_11_code 26 = .ok (.aload_n 0, 1) := by decide +kernel
theorem dhe_27 : decode prog_53_method_11_code 27 = .ok (.getfield 26, 3) := by decide +kernel
theorem dhe_30 : decode prog_53_method_11_code 30 = .ok (.iload_n 1, 1) := by decide +kernel
theorem dhe_31 : decode prog_53_method_11_code 31 = .ok (.invokestatic 33, 3) := by decide +kernel
theorem dhe_34 : decode prog_53_method_11_code 34 = .ok (.iaload, 1) := by decide +kernel
theorem dhe_35 : decode prog_53_method_11_code 35 = .ok (.iconst (-1), 1) := by decide +kernel
theorem dhe_36 : decode prog_53_method_11_code 36 = .ok (.if_icmp .ne 23, 3) := by decide +kernel
theorem dhe_59 : decode prog_53_method_11_code 59 = .ok (.iconst 1, 1) := by decide +kernel
theorem dhe_60 : decode prog_53_method_11_code 60 = .ok (.goto 4, 3) := by decide +kernel
theorem dhe_64 : decode prog_53_method_11_code 64 = .ok (.ireturn, 1) := by decide +kernel
theorem pnhe : plainName "com/example/kinwarden/kinwarden/IntMap" = true := by first | (simp [plainName, overriddenIn]; done) | decide +kernel
theorem pdhe_0 : parseMethodDescriptor "([II)I" = some ⟨[(.array .int), .int], some .int⟩ := by decide +kernel
theorem efhe (m : MethodId) (x0 : Addr) (x1 : Int32) : entryFrame m #[(.ref x0), (.int x1)] 2 = mkF m 0 #[.val (.ref x0), .val (.int x1)] [] := by first | (simp [entryFrame, mkF, argsToLocals, Value.category]; done) | rfl
def Qhe (Z : State) (x0 : Addr) (x1 : Int32) (tb : Addr) (kt : ClassId) (vv : Int32) (h0 : Heap) (n0 : Nat) (v : Option Value) (h : Heap) (L : List Loc) : Prop := v = some (.int (1 : Int32)) ∧ Fr n0 L ∧ h = h0
set_option maxRecDepth 65536 in
set_option maxHeartbeats 40000000 in
theorem rmhe (l : Launch) (Z : State) (a0 : Array Value) (hw : ∀ d ∈ tables_1, d.before a0 Z = true) (ws : List Jvm.Cond) (x0 : Addr) (x1 : Int32) (tb : Addr) (kt : ClassId) (vv : Int32) (h0 : Heap) (n0 : Nat) (Z0 : n0 ≤ h0.size) (E0 : Exa Z h0 x0 "com/example/kinwarden/kinwarden/IntMap") (Ft : Fld Z h0 x0 "com/example/kinwarden/kinwarden/IntMap" "table" "[I" (.ref tb)) (Fb : Fld Z h0 x0 "com/example/kinwarden/kinwarden/IntMap" "byKey" "[I" .null) (Fs : Fld Z h0 x0 "com/example/kinwarden/kinwarden/IntMap" "size" "I" (.int (6 : Int32))) (V0 : Arv Z h0 tb kt .int (16 : Int32) (own_T6 vv) (.int (0 : Int32))) (hkx : x1 = (0 : Int32) ∨ x1 = (1 : Int32) ∨ x1 = (2 : Int32) ∨ x1 = (3 : Int32) ∨ x1 = (4 : Int32) ∨ x1 = (5 : Int32)) :
    MetFree l (⟨"com/example/kinwarden/kinwarden/IntMap", "hasRoomFor", "(I)Z"⟩ : MethodName) (head1 (Jvm.Cond.code (⟨"com/example/kinwarden/kinwarden/IntMap", "hasRoomFor", "(I)Z"⟩ : MethodName) prog_53_method_11_code 2 (some .boolean) :: ws) ({ frames := 2, cells := 0, slots := 0, locals := 32 } : Room)) (fun a U => a = #[(.ref x0), (.int x1)] ∧ Z.Warmed39 U.vm ∧ U.heap = h0) (fun _ _ _ _ _ => True) (fun _ U o U' => ∃ v L, o = .returned v ∧ Qhe Z x0 x1 tb kt vv h0 n0 v U'.heap L ∧ FrameEnd U o U' L ({ frames := 2, cells := 0, slots := 0, locals := 32 } : Room).cells ({ frames := 2, cells := 0, slots := 0, locals := 32 } : Room).slots) := by
  refine MetFree.of_bodySF (plainFor_of_name pnhe) hisR ?_
  intro p e s m args below meth c s₁ Bd hml0 hP hK
  obtain ⟨rfl, hZ, hh⟩ := hP
  have hx := Bd.exec
  have hby := Bd.bytes
  have hml : c.maxLocals = 2 := hml0
  have hown : s.vm.findClass "com/example/kinwarden/kinwarden/IntMap" = some m.cls := findClass_of_methodNamed Bd.named
  have hnm := (name_of_methodNamed Bd.named Bd.method).1
  have X0 : Stand p l e ({ frames := 2, cells := 0, slots := 0, locals := 32 } : Room) s m #[(.ref x0), (.int x1)] below meth c s₁ [] 0 0 := Stand.of_body Bd
  have e0 : s₁.heap = h0 := by rw [← hh, Bd.state]; rfl
  have N0 := Fr.nil n0
  have pre0 : ∀ t, Steps p.tables e below (s₁.setTop (mkF m 0 #[.val (.ref x0), .val (.int x1)] [])) t → Steps p.tables e below (s₁.setTop (entryFrame m #[(.ref x0), (.int x1)] 2)) t := fun t k => castTop (efhe m x0 x1) k
  obtain ⟨S0, hS0⟩ : ∃ z, z = (s₁.setTop (entryFrame m #[(.ref x0), (.int x1)] 2)) := ⟨_, rfl⟩
  rw [← hS0] at pre0
  have p1 : ∀ t, own_W p e below m s₁ 1 #[.val (.ref x0), .val (.int x1)] [(.ref x0)] t → Steps p.tables e below S0 t := fun t k => pre0 t (by
    show own_W p e below m s₁ 0 #[.val (.ref x0), .val (.int x1)] [] _
    refine XS.aloadN X0.here hx rfl (hb hby dhe_0) rfl rfl ?_
    exact k)
  obtain ⟨T2, X2, e2, st2⟩ := getF X0 hx hZ hown (host := "") (Or.inl (hw _ (List.mem_of_getElem? (i := 29) rfl))) Via.refl e0 Fb (g := (mkF m 1 #[.val (.ref x0), .val (.int x1)] [(.ref x0)])) rfl rfl (hb hby dhe_1)
  have p3 : ∀ t, own_W p e below m T2 4 #[.val (.ref x0), .val (.int x1)] [.null] t → Steps p.tables e below S0 t := fun t k => p1 t (st2 t k)
  have p4 : ∀ t, own_W p e below m T2 23 #[.val (.ref x0), .val (.int x1)] [(.ref x0)] t → Steps p.tables e below S0 t := fun t k => p3 t (by
    show own_W p e below m T2 4 #[.val (.ref x0), .val (.int x1)] [.null] _
    refine XS.ifnullYes X2.here hx rfl (pc0 := 4) (pc' := 22) rfl (hb hby dhe_4) rfl (by decide) (by decide) ?_
    refine XS.aloadN X2.here hx rfl (hb hby dhe_22) rfl rfl ?_
    exact k)
  obtain ⟨T5, X5, e5, st5⟩ := getF X2 hx hZ hown (host := "") (Or.inl (hw _ (List.mem_of_getElem? (i := 27) rfl))) Via.refl e2 Ft (g := (mkF m 23 #[.val (.ref x0), .val (.int x1)] [(.ref x0)])) rfl rfl (hb hby dhe_23)
  have p6 : ∀ t, own_W p e below m T5 26 #[.val (.ref x0), .val (.int x1)] [(.ref tb)] t → Steps p.tables e below S0 t := fun t k => p4 t (st5 t k)
  have p7 : ∀ t, own_W p e below m T5 27 #[.val (.ref x0), .val (.int x1)] [(.ref x0), (.ref tb)] t → Steps p.tables e below S0 t := fun t k => p6 t (by
    show own_W p e below m T5 26 #[.val (.ref x0), .val (.int x1)] [(.ref tb)] _
    refine XS.aloadN X5.here hx rfl (hb hby dhe_26) rfl rfl ?_
    exact k)
  obtain ⟨T8, X8, e8, st8⟩ := getF X5 hx hZ hown (host := "") (Or.inl (hw _ (List.mem_of_getElem? (i := 27) rfl))) Via.refl e5 Ft (g := (mkF m 27 #[.val (.ref x0), .val (.int x1)] [(.ref x0), (.ref tb)])) rfl rfl (hb hby dhe_27)
  have p9 : ∀ t, own_W p e below m T8 30 #[.val (.ref x0), .val (.int x1)] [(.ref tb), (.ref tb)] t → Steps p.tables e below S0 t := fun t k => p7 t (st8 t k)
  have p10 : ∀ t, own_W p e below m T8 31 #[.val (.ref x0), .val (.int x1)] [(.int x1), (.ref tb), (.ref tb)] t → Steps p.tables e below S0 t := fun t k => p9 t (by
    show own_W p e below m T8 30 #[.val (.ref x0), .val (.int x1)] [(.ref tb), (.ref tb)] _
    refine XS.iloadN X8.here hx rfl (hb hby dhe_30) rfl ?_
    exact k)
  obtain ⟨_, _, ⟨T11, L11, k11, n11⟩, -, X11, ⟨Lc11, hQ11, l11, y11, z11⟩, st11⟩ := Jvm.LawKit.callS X8 hx (y := (⟨"com/example/kinwarden/kinwarden/IntMap", "slot", "([II)I"⟩ : MethodName)) hown (mvT hZ (hw _ (List.mem_of_getElem? (i := 52) rfl))) (mvT hZ (hw _ (List.mem_of_getElem? (i := 53) rfl))) (mvT hZ (hw _ (List.mem_of_getElem? (i := 3) rfl))) (mvT hZ (hw _ (List.mem_of_getElem? (i := 54) rfl))) (by decide) (backOf (W := 1) (rmsg8 l Z a0 hw [] tb x1 kt (own_T6 vv) h0 n0 Z0 V0) hZ (hw _ (List.mem_of_getElem? (i := 54) rfl)) (hw _ (List.mem_of_getElem? (i := 3) rfl)) (by decide) (by decide)) (g := (mkF m 31 #[.val (.ref x0), .val (.int x1)] [(.int x1), (.ref tb), (.ref tb)])) rfl (by rw [hml]; rfl) (argsL := [(.ref tb), (.int x1)]) (rest := [(.ref tb)]) (lenOf pdhe_0 rfl) rfl (by show 2 * 0 + _ ≤ _; exact Nat.le_of_eq rfl) (hb hby dhe_31) (fun _ _ => ⟨rfl, e8, (by decide : 0 + 0 ≤ _), (by decide : 0 + 0 ≤ _)⟩)
  dsimp only [Pt.U, Pt.locs, Pt.cells, Pt.slots] at X11 l11 y11 z11 st11 hQ11
  subst l11 y11 z11
  obtain ⟨r11, rfl, Nq11, e11, hr11⟩ := hQ11
  have N11 := Fr.app N0 Nq11
  have p12 : ∀ t, own_W p e below m T11 34 #[.val (.ref x0), .val (.int x1)] [(.int r11), (.ref tb)] t → Steps p.tables e below S0 t := fun t k => p10 t (st11 _ k)
  obtain ⟨rr, ru⟩ := own_se hkx hr11
  obtain ⟨cl13, Ar13, q13, Sz13, Ng13, Hs13, G13⟩ := id V0
  have hin13 : ¬ (r11 < 0 ∨ cl13.slots.size ≤ (r11).toNatClampNeg) := inb_of Sz13 rr
  have hat13 : cl13.slots[(r11).toNatClampNeg]? = some (.int x1) := Hs13.at hin13 (ru)
  have p14 : ∀ t, own_W p e below m T11 64 #[.val (.ref x0), .val (.int x1)] [(.int (1 : Int32))] t → Steps p.tables e below S0 t := fun t k => p12 t (by
    show own_W p e below m T11 34 #[.val (.ref x0), .val (.int x1)] [(.int r11), (.ref tb)] _
    refine X11.iaload hx (j := r11) (v := (.int x1)) (by rw [e11]; exact Ar13.1) (State.isArrayOf_alike hZ.alike Ar13.2.1) Ar13.2.2 hin13 hat13 (g := (mkF m 34 #[.val (.ref x0), .val (.int x1)] [(.int r11), (.ref tb)])) rfl rfl (hb hby dhe_34) _ ?_
    refine XS.iconst X11.here hx rfl (hb hby dhe_35) ?_
    refine XS.icmpYes X11.here hx rfl (pc0 := 36) (pc' := 59) rfl (hb hby dhe_36) rfl ((feq (own_km hkx)).2) (by decide) (by decide) ?_
    refine XS.iconst X11.here hx rfl (hb hby dhe_59) ?_
    refine XS.goto X11.here hx rfl (pc0 := 60) (pc' := 64) rfl (hb hby dhe_60) (by decide) (by decide) ?_
    exact k)
  subst hS0
  obtain ⟨fs, hr, hrun, hended, hW, hsame⟩ := X11.leave (v := some (.int (1 : Int32))) (fun h => by rw [Bd.returns] at h; cases h)
  refine ⟨_, _, p14 _ ?_, hrun, hended, _, _, rfl, ?_, ⟨_, rfl⟩, hW, hsame.mono (by decide) (by decide)⟩
  · show own_W p e below m T11 64 #[.val (.ref x0), .val (.int x1)] [(.int (1 : Int32))] _
    exact retN X11 hx (t := .boolean) Bd.returns (by simp) (hb hby dhe_64) hr
  · show Qhe Z x0 x1 tb kt vv h0 n0 _ T11.heap _
    rw [e11]
    exact ⟨rfl, N11, rfl⟩
theorem dhx_0 : decode prog_53_method_11_code 0 = .ok (.aload_n 0, 1) := by decide +kernel
theorem dhx_1 : decode prog_53_method_11_code 1 = .ok (.getfield 30, 3) := by decide +kernel
theorem dhx_4 : decode prog_53_method_11_code 4 = .ok (.ifnull 18, 3) := by decide +kernel
theorem dhx_22 : decode prog_53_method_11_code 22 = .ok (.aload_n 0, 1) := by decide +kernel
theorem dhx_23 : decode prog_53_method_11_code 23 = .ok (.getfield 26, 3) := by decide +kernel
theorem dhx_26 : decode prog_53_method_11_code 26 = .ok (.aload_n 0, 1) := by decide +kernel
theorem dhx_27 : decode prog_53_method_11_code 27 = .ok (.getfield 26, 3) := by decide +kernel
theorem dhx_30 : decode prog_53_method_11_code 30 = .ok (.iload_n 1, 1) := by decide +kernel
theorem dhx_31 : decode prog_53_method_11_code 31 = .ok (.invokestatic 33, 3) := by decide +kernel
theorem dhx_34 : decode prog_53_method_11_code 34 = .ok (.iaload, 1) := by decide +kernel
theorem dhx_35 : decode prog_53_method_11_code 35 = .ok (.iconst (-1), 1) := by decide +kernel
theorem dhx_36 : decode prog_53_method_11_code 36 = .ok (.if_icmp .ne 23, 3) := by decide +kernel
theorem dhx_39 : decode prog_53_method_11_code 39 = .ok (.iconst 4, 1) := by decide +kernel
theorem dhx_40 : decode prog_53_method_11_code 40 = .ok (.aload_n 0, 1) := by decide +kernel
theorem dhx_41 : decode prog_53_method_11_code 41 = .ok (.getfield 43, 3) := by decide +kernel
theorem dhx_44 : decode prog_53_method_11_code 44 = .ok (.iconst 1, 1) := by decide +kernel
theorem dhx_45 : decode prog_53_method_11_code 45 = .ok (.iadd, 1) := by decide +kernel
theorem dhx_46 : decode prog_53_method_11_code 46 = .ok (.imul, 1) := by decide +kernel
theorem dhx_47 : decode prog_53_method_11_code 47 = .ok (.iconst 3, 1) := by decide +kernel
theorem dhx_48 : decode prog_53_method_11_code 48 = .ok (.aload_n 0, 1) := by decide +kernel
theorem dhx_49 : decode prog_53_method_11_code 49 = .ok (.getfield 26, 3) := by decide +kernel
theorem dhx_52 : decode prog_53_method_11_code 52 = .ok (.arraylength, 1) := by decide +kernel
theorem dhx_53 : decode prog_53_method_11_code 53 = .ok (.iconst 2, 1) := by decide +kernel
theorem dhx_54 : decode prog_53_method_11_code 54 = .ok (.idiv, 1) := by decide +kernel
theorem dhx_55 : decode prog_53_method_11_code 55 = .ok (.imul, 1) := by decide +kernel
theorem dhx_56 : decode prog_53_method_11_code 56 = .ok (.if_icmp .gt 7, 3) := by decide +kernel
theorem dhx_63 : decode prog_53_method_11_code 63 = .ok (.iconst 0, 1) := by decide +kernel
theorem dhx_64 : decode prog_53_method_11_code 64 = .ok (.ireturn, 1) := by decide +kernel
theorem pnhx : plainName "com/example/kinwarden/kinwarden/IntMap" = true := by first | (simp [plainName, overriddenIn]; done) | decide +kernel
theorem pdhx_0 : parseMethodDescriptor "([II)I" = some ⟨[(.array .int), .int], some .int⟩ := by decide +kernel
theorem efhx (m : MethodId) (x0 : Addr) (x1 : Int32) : entryFrame m #[(.ref x0), (.int x1)] 2 = mkF m 0 #[.val (.ref x0), .val (.int x1)] [] := by first | (simp [entryFrame, mkF, argsToLocals, Value.category]; done) | rfl
def Qhx (Z : State) (x0 : Addr) (x1 : Int32) (tb : Addr) (kt : ClassId) (vv : Int32) (h0 : Heap) (n0 : Nat) (v : Option Value) (h : Heap) (L : List Loc) : Prop := v = some (.int (0 : Int32)) ∧ Fr n0 L ∧ h = h0
set_option maxRecDepth 65536 in
set_option maxHeartbeats 40000000 in
theorem rmhx (l : Launch) (Z : State) (a0 : Array Value) (hw : ∀ d ∈ tables_1, d.before a0 Z = true) (ws : List Jvm.Cond) (x0 : Addr) (x1 : Int32) (tb : Addr) (kt : ClassId) (vv : Int32) (h0 : Heap) (n0 : Nat) (Z0 : n0 ≤ h0.size) (E0 : Exa Z h0 x0 "com/example/kinwarden/kinwarden/IntMap") (Ft : Fld Z h0 x0 "com/example/kinwarden/kinwarden/IntMap" "table" "[I" (.ref tb)) (Fb : Fld Z h0 x0 "com/example/kinwarden/kinwarden/IntMap" "byKey" "[I" .null) (Fs : Fld Z h0 x0 "com/example/kinwarden/kinwarden/IntMap" "size" "I" (.int (6 : Int32))) (V0 : Arv Z h0 tb kt .int (16 : Int32) (own_T6 vv) (.int (0 : Int32))) (h6 : ¬ x1 < (6 : Int32)) :
    MetFree l (⟨"com/example/kinwarden/kinwarden/IntMap", "hasRoomFor", "(I)Z"⟩ : MethodName) (head1 (Jvm.Cond.code (⟨"com/example/kinwarden/kinwarden/IntMap", "hasRoomFor", "(I)Z"⟩ : MethodName) prog_53_method_11_code 2 (some .boolean) :: ws) ({ frames := 2, cells := 0, slots := 0, locals := 32 } : Room)) (fun a U => a = #[(.ref x0), (.int x1)] ∧ Z.Warmed39 U.vm ∧ U.heap = h0) (fun _ _ _ _ _ => True) (fun _ U o U' => ∃ v L, o = .returned v ∧ Qhx Z x0 x1 tb kt vv h0 n0 v U'.heap L ∧ FrameEnd U o U' L ({ frames := 2, cells := 0, slots := 0, locals := 32 } : Room).cells ({ frames := 2, cells := 0, slots := 0, locals := 32 } : Room).slots) := by
  refine MetFree.of_bodySF (plainFor_of_name pnhx) hisR ?_
  intro p e s m args below meth c s₁ Bd hml0 hP hK
  obtain ⟨rfl, hZ, hh⟩ := hP
  have hx := Bd.exec
  have hby := Bd.bytes
  have hml : c.maxLocals = 2 := hml0
  have hown : s.vm.findClass "com/example/kinwarden/kinwarden/IntMap" = some m.cls := findClass_of_methodNamed Bd.named
  have hnm := (name_of_methodNamed Bd.named Bd.method).1
  have X0 : Stand p l e ({ frames := 2, cells := 0, slots := 0, locals := 32 } : Room) s m #[(.ref x0), (.int x1)] below meth c s₁ [] 0 0 := Stand.of_body Bd
  have e0 : s₁.heap = h0 := by rw [← hh, Bd.state]; rfl
  have N0 := Fr.nil n0
  have pre0 : ∀ t, Steps p.tables e below (s₁.setTop (mkF m 0 #[.val (.ref x0), .val (.int x1)] [])) t → Steps p.tables e below (s₁.setTop (entryFrame m #[(.ref x0), (.int x1)] 2)) t := fun t k => castTop (efhx m x0 x1) k
  obtain ⟨S0, hS0⟩ : ∃ z, z = (s₁.setTop (entryFrame m #[(.ref x0), (.int x1)] 2)) := ⟨_, rfl⟩
  rw [← hS0] at pre0
  have p1 : ∀ t, own_W p e below m s₁ 1 #[.val (.ref x0), .val (.int x1)] [(.ref x0)] t → Steps p.tables e below S0 t := fun t k => pre0 t (by
    show own_W p e below m s₁ 0 #[.val (.ref x0), .val (.int x1)] [] _
    refine XS.aloadN X0.here hx rfl (hb hby dhx_0) rfl rfl ?_
    exact k)
  obtain ⟨T2, X2, e2, st2⟩ := getF X0 hx hZ hown (host := "") (Or.inl (hw _ (List.mem_of_getElem? (i := 29) rfl))) Via.refl e0 Fb (g := (mkF m 1 #[.val (.ref x0), .val (.int x1)] [(.ref x0)])) rfl rfl (hb hby dhx_1)
  have p3 : ∀ t, own_W p e below m T2 4 #[.val (.ref x0), .val (.int x1)] [.null] t → Steps p.tables e below S0 t := fun t k => p1 t (st2 t k)
  have p4 : ∀ t, own_W p e below m T2 23 #[.val (.ref x0), .val (.int x1)] [(.ref x0)] t → Steps p.tables e below S0 t := fun t k => p3 t (by
    show own_W p e below m T2 4 #[.val (.ref x0), .val (.int x1)] [.null] _
    refine XS.ifnullYes X2.here hx rfl (pc0 := 4) (pc' := 22) rfl (hb hby dhx_4) rfl (by decide) (by decide) ?_
    refine XS.aloadN X2.here hx rfl (hb hby dhx_22) rfl rfl ?_
    exact k)
  obtain ⟨T5, X5, e5, st5⟩ := getF X2 hx hZ hown (host := "") (Or.inl (hw _ (List.mem_of_getElem? (i := 27) rfl))) Via.refl e2 Ft (g := (mkF m 23 #[.val (.ref x0), .val (.int x1)] [(.ref x0)])) rfl rfl (hb hby dhx_23)
  have p6 : ∀ t, own_W p e below m T5 26 #[.val (.ref x0), .val (.int x1)] [(.ref tb)] t → Steps p.tables e below S0 t := fun t k => p4 t (st5 t k)
  have p7 : ∀ t, own_W p e below m T5 27 #[.val (.ref x0), .val (.int x1)] [(.ref x0), (.ref tb)] t → Steps p.tables e below S0 t := fun t k => p6 t (by
    show own_W p e below m T5 26 #[.val (.ref x0), .val (.int x1)] [(.ref tb)] _
    refine XS.aloadN X5.here hx rfl (hb hby dhx_26) rfl rfl ?_
    exact k)
  obtain ⟨T8, X8, e8, st8⟩ := getF X5 hx hZ hown (host := "") (Or.inl (hw _ (List.mem_of_getElem? (i := 27) rfl))) Via.refl e5 Ft (g := (mkF m 27 #[.val (.ref x0), .val (.int x1)] [(.ref x0), (.ref tb)])) rfl rfl (hb hby dhx_27)
  have p9 : ∀ t, own_W p e below m T8 30 #[.val (.ref x0), .val (.int x1)] [(.ref tb), (.ref tb)] t → Steps p.tables e below S0 t := fun t k => p7 t (st8 t k)
  have p10 : ∀ t, own_W p e below m T8 31 #[.val (.ref x0), .val (.int x1)] [(.int x1), (.ref tb), (.ref tb)] t → Steps p.tables e below S0 t := fun t k => p9 t (by
    show own_W p e below m T8 30 #[.val (.ref x0), .val (.int x1)] [(.ref tb), (.ref tb)] _
    refine XS.iloadN X8.here hx rfl (hb hby dhx_30) rfl ?_
    exact k)
  obtain ⟨_, _, ⟨T11, L11, k11, n11⟩, -, X11, ⟨Lc11, hQ11, l11, y11, z11⟩, st11⟩ := Jvm.LawKit.callS X8 hx (y := (⟨"com/example/kinwarden/kinwarden/IntMap", "slot", "([II)I"⟩ : MethodName)) hown (mvT hZ (hw _ (List.mem_of_getElem? (i := 52) rfl))) (mvT hZ (hw _ (List.mem_of_getElem? (i := 53) rfl))) (mvT hZ (hw _ (List.mem_of_getElem? (i := 3) rfl))) (mvT hZ (hw _ (List.mem_of_getElem? (i := 54) rfl))) (by decide) (backOf (W := 1) (rmsg8 l Z a0 hw [] tb x1 kt (own_T6 vv) h0 n0 Z0 V0) hZ (hw _ (List.mem_of_getElem? (i := 54) rfl)) (hw _ (List.mem_of_getElem? (i := 3) rfl)) (by decide) (by decide)) (g := (mkF m 31 #[.val (.ref x0), .val (.int x1)] [(.int x1), (.ref tb), (.ref tb)])) rfl (by rw [hml]; rfl) (argsL := [(.ref tb), (.int x1)]) (rest := [(.ref tb)]) (lenOf pdhx_0 rfl) rfl (by show 2 * 0 + _ ≤ _; exact Nat.le_of_eq rfl) (hb hby dhx_31) (fun _ _ => ⟨rfl, e8, (by decide : 0 + 0 ≤ _), (by decide : 0 + 0 ≤ _)⟩)
  dsimp only [Pt.U, Pt.locs, Pt.cells, Pt.slots] at X11 l11 y11 z11 st11 hQ11
  subst l11 y11 z11
  obtain ⟨r11, rfl, Nq11, e11, hr11⟩ := hQ11
  have N11 := Fr.app N0 Nq11
  have p12 : ∀ t, own_W p e below m T11 34 #[.val (.ref x0), .val (.int x1)] [(.int r11), (.ref tb)] t → Steps p.tables e below S0 t := fun t k => p10 t (st11 _ k)
  obtain ⟨rr, ru⟩ := own_r6 (vv := vv) (own_sx h6 hr11)
  obtain ⟨cl13, Ar13, q13, Sz13, Ng13, Hs13, G13⟩ := id V0
  have hin13 : ¬ (r11 < 0 ∨ cl13.slots.size ≤ (r11).toNatClampNeg) := inb_of Sz13 rr
  have hat13 : cl13.slots[(r11).toNatClampNeg]? = some (.int (-1 : Int32)) := Hs13.at hin13 (ru)
  have p14 : ∀ t, own_W p e below m T11 41 #[.val (.ref x0), .val (.int x1)] [(.ref x0), (.int (4 : Int32))] t → Steps p.tables e below S0 t := fun t k => p12 t (by
    show own_W p e below m T11 34 #[.val (.ref x0), .val (.int x1)] [(.int r11), (.ref tb)] _
    refine X11.iaload hx (j := r11) (v := (.int (-1 : Int32))) (by rw [e11]; exact Ar13.1) (State.isArrayOf_alike hZ.alike Ar13.2.1) Ar13.2.2 hin13 hat13 (g := (mkF m 34 #[.val (.ref x0), .val (.int x1)] [(.int r11), (.ref tb)])) rfl rfl (hb hby dhx_34) _ ?_
    refine XS.iconst X11.here hx rfl (hb hby dhx_35) ?_
    refine XS.icmpNo X11.here hx rfl (hb hby dhx_36) rfl ((teq (rfl)).2) ?_
    refine XS.iconst X11.here hx rfl (hb hby dhx_39) ?_
    refine XS.aloadN X11.here hx rfl (hb hby dhx_40) rfl rfl ?_
    exact k)
  obtain ⟨T15, X15, e15, st15⟩ := getF X11 hx hZ hown (host := "") (Or.inl (hw _ (List.mem_of_getElem? (i := 61) rfl))) Via.refl e11 Fs (g := (mkF m 41 #[.val (.ref x0), .val (.int x1)] [(.ref x0), (.int (4 : Int32))])) rfl rfl (hb hby dhx_41)
  have p16 : ∀ t, own_W p e below m T15 44 #[.val (.ref x0), .val (.int x1)] [(.int (6 : Int32)), (.int (4 : Int32))] t → Steps p.tables e below S0 t := fun t k => p14 t (st15 t k)
  have p17 : ∀ t, own_W p e below m T15 49 #[.val (.ref x0), .val (.int x1)] [(.ref x0), (.int (3 : Int32)), (.int ((4 : Int32) * ((6 : Int32) + (1 : Int32))))] t → Steps p.tables e below S0 t := fun t k => p16 t (by
    show own_W p e below m T15 44 #[.val (.ref x0), .val (.int x1)] [(.int (6 : Int32)), (.int (4 : Int32))] _
    refine XS.iconst X15.here hx rfl (hb hby dhx_44) ?_
    refine XS.iadd X15.here hx rfl (hb hby dhx_45) rfl ?_
    refine XS.imul X15.here hx rfl (hb hby dhx_46) rfl ?_
    refine XS.iconst X15.here hx rfl (hb hby dhx_47) ?_
    refine XS.aloadN X15.here hx rfl (hb hby dhx_48) rfl rfl ?_
    exact k)
  obtain ⟨T18, X18, e18, st18⟩ := getF X15 hx hZ hown (host := "") (Or.inl (hw _ (List.mem_of_getElem? (i := 27) rfl))) Via.refl e15 Ft (g := (mkF m 49 #[.val (.ref x0), .val (.int x1)] [(.ref x0), (.int (3 : Int32)), (.int ((4 : Int32) * ((6 : Int32) + (1 : Int32))))])) rfl rfl (hb hby dhx_49)
  have p19 : ∀ t, own_W p e below m T18 52 #[.val (.ref x0), .val (.int x1)] [(.ref tb), (.int (3 : Int32)), (.int ((4 : Int32) * ((6 : Int32) + (1 : Int32))))] t → Steps p.tables e below S0 t := fun t k => p17 t (st18 t k)
  obtain ⟨cl20, Ar20, -, Sz20, Ng20, -, -⟩ := id V0
  have p21 : ∀ t, own_W p e below m T18 64 #[.val (.ref x0), .val (.int x1)] [(.int (0 : Int32))] t → Steps p.tables e below S0 t := fun t k => p19 t (by
    show own_W p e below m T18 52 #[.val (.ref x0), .val (.int x1)] [(.ref tb), (.int (3 : Int32)), (.int ((4 : Int32) * ((6 : Int32) + (1 : Int32))))] _
    refine X18.arraylength hx (by rw [e18]; exact Ar20.1) (State.isArrayOf_alike hZ.alike Ar20.2.1) (g := (mkF m 52 #[.val (.ref x0), .val (.int x1)] [(.ref tb), (.int (3 : Int32)), (.int ((4 : Int32) * ((6 : Int32) + (1 : Int32))))])) rfl rfl (hb hby dhx_52) _ ?_
    rw [len_of Sz20 Ng20]
    refine XS.iconst X18.here hx rfl (hb hby dhx_53) ?_
    refine XS.idiv X18.here hx rfl (hb hby dhx_54) rfl (by decide) ?_
    refine XS.imul X18.here hx rfl (hb hby dhx_55) rfl ?_
    refine XS.icmpYes X18.here hx rfl (pc0 := 56) (pc' := 63) rfl (hb hby dhx_56) rfl ((tlt (by decide)).2.2.1) (by decide) (by decide) ?_
    refine XS.iconst X18.here hx rfl (hb hby dhx_63) ?_
    exact k)
  subst hS0
  obtain ⟨fs, hr, hrun, hended, hW, hsame⟩ := X18.leave (v := some (.int (0 : Int32))) (fun h => by rw [Bd.returns] at h; cases h)
  refine ⟨_, _, p21 _ ?_, hrun, hended, _, _, rfl, ?_, ⟨_, rfl⟩, hW, hsame.mono (by decide) (by decide)⟩
  · show own_W p e below m T18 64 #[.val (.ref x0), .val (.int x1)] [(.int (0 : Int32))] _
    exact retN X18 hx (t := .boolean) Bd.returns (by simp) (hb hby dhx_64) hr
  · show Qhx Z x0 x1 tb kt vv h0 n0 _ T18.heap _
    rw [e18]
    exact ⟨rfl, N11, rfl⟩
theorem dpg8_0 : decode prog_53_method_12_code 0 = .ok (.aload_n 0, 1) := by decide +kernel
theorem dpg8_1 : decode prog_53_method_12_code 1 = .ok (.getfield 30, 3) := by decide +kernel
theorem dpg8_4 : decode prog_53_method_12_code 4 = .ok (.ifnull 37, 3) := by decide +kernel
theorem dpg8_41 : decode prog_53_method_12_code 41 = .ok (.aload_n 0, 1) := by decide +kernel
theorem dpg8_42 : decode prog_53_method_12_code 42 = .ok (.getfield 26, 3) := by decide +kernel
theorem dpg8_45 : decode prog_53_method_12_code 45 = .ok (.iload_n 1, 1) := by decide +kernel
theorem dpg8_46 : decode prog_53_method_12_code 46 = .ok (.invokestatic 33, 3) := by decide +kernel
theorem dpg8_49 : decode prog_53_method_12_code 49 = .ok (.istore_n 3, 1) := by decide +kernel
theorem dpg8_50 : decode prog_53_method_12_code 50 = .ok (.aload_n 0, 1) := by decide +kernel
theorem dpg8_51 : decode prog_53_method_12_code 51 = .ok (.getfield 26, 3) := by decide +kernel
theorem dpg8_54 : decode prog_53_method_12_code 54 = .ok (.iload_n 3, 1) := by decide +kernel
theorem dpg8_55 : decode prog_53_method_12_code 55 = .ok (.iaload, 1) := by decide +kernel
theorem dpg8_56 : decode prog_53_method_12_code 56 = .ok (.iconst (-1), 1) := by decide +kernel
theorem dpg8_57 : decode prog_53_method_12_code 57 = .ok (.if_icmp .ne 20, 3) := by decide +kernel
theorem dpg8_60 : decode prog_53_method_12_code 60 = .ok (.aload_n 0, 1) := by decide +kernel
theorem dpg8_61 : decode prog_53_method_12_code 61 = .ok (.getfield 26, 3) := by decide +kernel
theorem dpg8_64 : decode prog_53_method_12_code 64 = .ok (.iload_n 3, 1) := by decide +kernel
theorem dpg8_65 : decode prog_53_method_12_code 65 = .ok (.iload_n 1, 1) := by decide +kernel
theorem dpg8_66 : decode prog_53_method_12_code 66 = .ok (.iastore, 1) := by decide +kernel
theorem dpg8_67 : decode prog_53_method_12_code 67 = .ok (.aload_n 0, 1) := by decide +kernel
theorem dpg8_68 : decode prog_53_method_12_code 68 = .ok (.dup, 1) := by decide +kernel
theorem dpg8_69 : decode prog_53_method_12_code 69 = .ok (.getfield 43, 3) := by decide +kernel
theorem dpg8_72 : decode prog_53_method_12_code 72 = .ok (.iconst 1, 1) := by decide +kernel
theorem dpg8_73 : decode prog_53_method_12_code 73 = .ok (.iadd, 1) := by decide +kernel
theorem dpg8_74 : decode prog_53_method_12_code 74 = .ok (.putfield 43, 3) := by decide +kernel
theorem dpg8_77 : decode prog_53_method_12_code 77 = .ok (.aload_n 0, 1) := by decide +kernel
theorem dpg8_78 : decode prog_53_method_12_code 78 = .ok (.getfield 26, 3) := by decide +kernel
theorem dpg8_81 : decode prog_53_method_12_code 81 = .ok (.iload_n 3, 1) := by decide +kernel
theorem dpg8_82 : decode prog_53_method_12_code 82 = .ok (.iconst 1, 1) := by decide +kernel
theorem dpg8_83 : decode prog_53_method_12_code 83 = .ok (.iadd, 1) := by decide +kernel
theorem dpg8_84 : decode prog_53_method_12_code 84 = .ok (.iload_n 2, 1) := by decide +kernel
theorem dpg8_85 : decode prog_53_method_12_code 85 = .ok (.iastore, 1) := by decide +kernel
theorem dpg8_86 : decode prog_53_method_12_code 86 = .ok (.aload_n 0, 1) := by decide +kernel
theorem dpg8_87 : decode prog_53_method_12_code 87 = .ok (.aload_n 0, 1) := by decide +kernel
theorem dpg8_88 : decode prog_53_method_12_code 88 = .ok (.getfield 16, 3) := by decide +kernel
theorem dpg8_91 : decode prog_53_method_12_code 91 = .ok (.iload_n 1, 1) := by decide +kernel
theorem dpg8_92 : decode prog_53_method_12_code 92 = .ok (.invokestatic 79, 3) := by decide +kernel
theorem dpg8_95 : decode prog_53_method_12_code 95 = .ok (.putfield 16, 3) := by decide +kernel
theorem dpg8_98 : decode prog_53_method_12_code 98 = .ok (.aload_n 0, 1) := by decide +kernel
theorem dpg8_99 : decode prog_53_method_12_code 99 = .ok (.aload_n 0, 1) := by decide +kernel
theorem dpg8_100 : decode prog_53_method_12_code 100 = .ok (.getfield 20, 3) := by decide +kernel
theorem dpg8_103 : decode prog_53_method_12_code 103 = .ok (.iconst (-1), 1) := by decide +kernel
theorem dpg8_104 : decode prog_53_method_12_code 104 = .ok (.if_icmp .ne 7, 3) := by decide +kernel
theorem dpg8_107 : decode prog_53_method_12_code 107 = .ok (.iload_n 2, 1) := by decide +kernel
theorem dpg8_108 : decode prog_53_method_12_code 108 = .ok (.goto 11, 3) := by decide +kernel
theorem dpg8_111 : decode prog_53_method_12_code 111 = .ok (.aload_n 0, 1) := by decide +kernel
theorem dpg8_112 : decode prog_53_method_12_code 112 = .ok (.getfield 20, 3) := by decide +kernel
theorem dpg8_115 : decode prog_53_method_12_code 115 = .ok (.iload_n 2, 1) := by decide +kernel
theorem dpg8_116 : decode prog_53_method_12_code 116 = .ok (.invokestatic 88, 3) := by decide +kernel
theorem dpg8_119 : decode prog_53_method_12_code 119 = .ok (.putfield 20, 3) := by decide +kernel
theorem dpg8_122 : decode prog_53_method_12_code 122 = .ok (.aload_n 0, 1) := by decide +kernel
theorem dpg8_123 : decode prog_53_method_12_code 123 = .ok (.aload_n 0, 1) := by decide +kernel
theorem dpg8_124 : decode prog_53_method_12_code 124 = .ok (.getfield 23, 3) := by decide +kernel
theorem dpg8_127 : decode prog_53_method_12_code 127 = .ok (.iload_n 2, 1) := by decide +kernel
theorem dpg8_128 : decode prog_53_method_12_code 128 = .ok (.invokestatic 79, 3) := by decide +kernel
theorem dpg8_131 : decode prog_53_method_12_code 131 = .ok (.putfield 23, 3) := by decide +kernel
theorem dpg8_134 : decode prog_53_method_12_code 134 = .ok (.return_, 1) := by decide +kernel
theorem pnpg8 : plainName "com/example/kinwarden/kinwarden/IntMap" = true := by first | (simp [plainName, overriddenIn]; done) | decide +kernel
theorem pdpg8_0 : parseMethodDescriptor "([II)I" = some ⟨[(.array .int), .int], some .int⟩ := by decide +kernel
theorem pdpg8_1 : parseMethodDescriptor "(II)I" = some ⟨[.int, .int], some .int⟩ := by decide +kernel
theorem efpg8 (m : MethodId) (x0 : Addr) (x1 : Int32) (x2 : Int32) : entryFrame m #[(.ref x0), (.int x1), (.int x2)] 4 = mkF m 0 #[.val (.ref x0), .val (.int x1), .val (.int x2), .unset] [] := by first | (simp [entryFrame, mkF, argsToLocals, Value.category]; done) | rfl
def Qpg8 (Z : State) (x0 : Addr) (x1 : Int32) (x2 : Int32) (tb : Addr) (kt : ClassId) (sz : Int32) (hi : Int32) (lv : Int32) (hv : Int32) (vs : List Value) (h0 : Heap) (n0 : Nat) (v : Option Value) (h : Heap) (L : List Loc) : Prop := v = none ∧ Fr n0 L ∧ Keep h0 h [x0, tb] ∧ ∃ (sz' hi' lv' hv' r : Int32) (vs' : List Value), Exa Z h x0 "com/example/kinwarden/kinwarden/IntMap" ∧ Fld Z h x0 "com/example/kinwarden/kinwarden/IntMap" "table" "[I" (.ref tb) ∧ Fld Z h x0 "com/example/kinwarden/kinwarden/IntMap" "byKey" "[I" .null ∧ Fld Z h x0 "com/example/kinwarden/kinwarden/IntMap" "size" "I" (.int sz') ∧ Fld Z h x0 "com/example/kinwarden/kinwarden/IntMap" "highest" "I" (.int hi') ∧ Fld Z h x0 "com/example/kinwarden/kinwarden/IntMap" "lowestValue" "I" (.int lv') ∧ Fld Z h x0 "com/example/kinwarden/kinwarden/IntMap" "highestValue" "I" (.int hv') ∧ Arv Z h tb kt .int (16 : Int32) vs' (.int (0 : Int32)) ∧ (hi < x1 → hi' = x1) ∧ r = ((2 : Int32) * own_pr8 vs x1 7 (((x1 * (-1640531527 : Int32)).toUInt32 >>> (((28 : Int32) + (1 : Int32)) &&& 31).toUInt32).toInt32)) ∧ (vs.getD r.toNatClampNeg (.int (0 : Int32)) = .int (-1 : Int32) → sz' = (sz + (1 : Int32)) ∧ vs' = ((vs.set r.toNatClampNeg (.int x1)).set (r + (1 : Int32)).toNatClampNeg (.int x2)))
set_option maxRecDepth 65536 in
set_option maxHeartbeats 40000000 in
theorem rmpg8 (l : Launch) (Z : State) (a0 : Array Value) (hw : ∀ d ∈ tables_1, d.before a0 Z = true) (ws : List Jvm.Cond) (x0 : Addr) (x1 : Int32) (x2 : Int32) (tb : Addr) (kt : ClassId) (sz : Int32) (hi : Int32) (lv : Int32) (hv : Int32) (vs : List Value) (h0 : Heap) (n0 : Nat) (Z0 : n0 ≤ h0.size) (E0 : Exa Z h0 x0 "com/example/kinwarden/kinwarden/IntMap") (Ft : Fld Z h0 x0 "com/example/kinwarden/kinwarden/IntMap" "table" "[I" (.ref tb)) (Fb : Fld Z h0 x0 "com/example/kinwarden/kinwarden/IntMap" "byKey" "[I" .null) (Fs : Fld Z h0 x0 "com/example/kinwarden/kinwarden/IntMap" "size" "I" (.int sz)) (Fh : Fld Z h0 x0 "com/example/kinwarden/kinwarden/IntMap" "highest" "I" (.int hi)) (Fl : Fld Z h0 x0 "com/example/kinwarden/kinwarden/IntMap" "lowestValue" "I" (.int lv)) (Fv : Fld Z h0 x0 "com/example/kinwarden/kinwarden/IntMap" "highestValue" "I" (.int hv)) (V0 : Arv Z h0 tb kt .int (16 : Int32) vs (.int (0 : Int32))) (g0 : n0 ≤ x0) (gt : n0 ≤ tb) (nx : x0 ≠ tb) (hvl : vs.length = 16) :
    MetFree l (⟨"com/example/kinwarden/kinwarden/IntMap", "putInRoom", "(II)V"⟩ : MethodName) (head1 (Jvm.Cond.code (⟨"com/example/kinwarden/kinwarden/IntMap", "putInRoom", "(II)V"⟩ : MethodName) prog_53_method_12_code 4 none :: ws) ({ frames := 2, cells := 0, slots := 0, locals := 30 } : Room)) (fun a U => a = #[(.ref x0), (.int x1), (.int x2)] ∧ Z.Warmed39 U.vm ∧ U.heap = h0) (fun _ _ _ _ _ => True) (fun _ U o U' => ∃ v L, o = .returned v ∧ Qpg8 Z x0 x1 x2 tb kt sz hi lv hv vs h0 n0 v U'.heap L ∧ FrameEnd U o U' L ({ frames := 2, cells := 0, slots := 0, locals := 30 } : Room).cells ({ frames := 2, cells := 0, slots := 0, locals := 30 } : Room).slots) := by
  refine MetFree.of_bodySF (plainFor_of_name pnpg8) hisR ?_
  intro p e s m args below meth c s₁ Bd hml0 hP hK
  obtain ⟨rfl, hZ, hh⟩ := hP
  have hx := Bd.exec
  have hby := Bd.bytes
  have hml : c.maxLocals = 4 := hml0
  have hown : s.vm.findClass "com/example/kinwarden/kinwarden/IntMap" = some m.cls := findClass_of_methodNamed Bd.named
  have hnm := (name_of_methodNamed Bd.named Bd.method).1
  have X0 : Stand p l e ({ frames := 2, cells := 0, slots := 0, locals := 30 } : Room) s m #[(.ref x0), (.int x1), (.int x2)] below meth c s₁ [] 0 0 := Stand.of_body Bd
  have e0 : s₁.heap = h0 := by rw [← hh, Bd.state]; rfl
  have N0 := Fr.nil n0
  have pre0 : ∀ t, Steps p.tables e below (s₁.setTop (mkF m 0 #[.val (.ref x0), .val (.int x1), .val (.int x2), .unset] [])) t → Steps p.tables e below (s₁.setTop (entryFrame m #[(.ref x0), (.int x1), (.int x2)] 4)) t := fun t k => castTop (efpg8 m x0 x1 x2) k
  obtain ⟨S0, hS0⟩ : ∃ z, z = (s₁.setTop (entryFrame m #[(.ref x0), (.int x1), (.int x2)] 4)) := ⟨_, rfl⟩
  rw [← hS0] at pre0
  have K0 := Keep.refl h0 [x0, tb]
  have hus : vs.length = (16 : Int32).toNatClampNeg := hvl
  have p1 : ∀ t, own_W p e below m s₁ 1 #[.val (.ref x0), .val (.int x1), .val (.int x2), .unset] [(.ref x0)] t → Steps p.tables e below S0 t := fun t k => pre0 t (by
    show own_W p e below m s₁ 0 #[.val (.ref x0), .val (.int x1), .val (.int x2), .unset] [] _
    refine XS.aloadN X0.here hx rfl (hb hby dpg8_0) rfl rfl ?_
    exact k)
  obtain ⟨T2, X2, e2, st2⟩ := getF X0 hx hZ hown (host := "") (Or.inl (hw _ (List.mem_of_getElem? (i := 29) rfl))) Via.refl e0 Fb (g := (mkF m 1 #[.val (.ref x0), .val (.int x1), .val (.int x2), .unset] [(.ref x0)])) rfl rfl (hb hby dpg8_1)
  have p3 : ∀ t, own_W p e below m T2 4 #[.val (.ref x0), .val (.int x1), .val (.int x2), .unset] [.null] t → Steps p.tables e below S0 t := fun t k => p1 t (st2 t k)
  have p4 : ∀ t, own_W p e below m T2 42 #[.val (.ref x0), .val (.int x1), .val (.int x2), .unset] [(.ref x0)] t → Steps p.tables e below S0 t := fun t k => p3 t (by
    show own_W p e below m T2 4 #[.val (.ref x0), .val (.int x1), .val (.int x2), .unset] [.null] _
    refine XS.ifnullYes X2.here hx rfl (pc0 := 4) (pc' := 41) rfl (hb hby dpg8_4) rfl (by decide) (by decide) ?_
    refine XS.aloadN X2.here hx rfl (hb hby dpg8_41) rfl rfl ?_
    exact k)
  obtain ⟨T5, X5, e5, st5⟩ := getF X2 hx hZ hown (host := "") (Or.inl (hw _ (List.mem_of_getElem? (i := 27) rfl))) Via.refl e2 Ft (g := (mkF m 42 #[.val (.ref x0), .val (.int x1), .val (.int x2), .unset] [(.ref x0)])) rfl rfl (hb hby dpg8_42)
  have p6 : ∀ t, own_W p e below m T5 45 #[.val (.ref x0), .val (.int x1), .val (.int x2), .unset] [(.ref tb)] t → Steps p.tables e below S0 t := fun t k => p4 t (st5 t k)
  have p7 : ∀ t, own_W p e below m T5 46 #[.val (.ref x0), .val (.int x1), .val (.int x2), .unset] [(.int x1), (.ref tb)] t → Steps p.tables e below S0 t := fun t k => p6 t (by
    show own_W p e below m T5 45 #[.val (.ref x0), .val (.int x1), .val (.int x2), .unset] [(.ref tb)] _
    refine XS.iloadN X5.here hx rfl (hb hby dpg8_45) rfl ?_
    exact k)
  obtain ⟨_, _, ⟨T8, L8, k8, n8⟩, -, X8, ⟨Lc8, hQ8, l8, y8, z8⟩, st8⟩ := Jvm.LawKit.callS X5 hx (y := (⟨"com/example/kinwarden/kinwarden/IntMap", "slot", "([II)I"⟩ : MethodName)) hown (mvT hZ (hw _ (List.mem_of_getElem? (i := 52) rfl))) (mvT hZ (hw _ (List.mem_of_getElem? (i := 53) rfl))) (mvT hZ (hw _ (List.mem_of_getElem? (i := 3) rfl))) (mvT hZ (hw _ (List.mem_of_getElem? (i := 54) rfl))) (by decide) (backOf (W := 0) (rmsg8 l Z a0 hw [] tb x1 kt vs h0 n0 Z0 V0) hZ (hw _ (List.mem_of_getElem? (i := 54) rfl)) (hw _ (List.mem_of_getElem? (i := 3) rfl)) (by decide) (by decide)) (g := (mkF m 46 #[.val (.ref x0), .val (.int x1), .val (.int x2), .unset] [(.int x1), (.ref tb)])) rfl (by rw [hml]; rfl) (argsL := [(.ref tb), (.int x1)]) (rest := []) (lenOf pdpg8_0 rfl) rfl (by show 2 * 0 + _ ≤ _; exact Nat.le_of_eq rfl) (hb hby dpg8_46) (fun _ _ => ⟨rfl, e5, (by decide : 0 + 0 ≤ _), (by decide : 0 + 0 ≤ _)⟩)
  dsimp only [Pt.U, Pt.locs, Pt.cells, Pt.slots] at X8 l8 y8 z8 st8 hQ8
  subst l8 y8 z8
  obtain ⟨r8, rfl, Nq8, e8, hr8⟩ := hQ8
  have N8 := Fr.app N0 Nq8
  have p9 : ∀ t, own_W p e below m T8 49 #[.val (.ref x0), .val (.int x1), .val (.int x2), .unset] [(.int r8)] t → Steps p.tables e below S0 t := fun t k => p7 t (st8 _ k)
  obtain ⟨rr, rs⟩ := own_sl8 hr8
  have p10 : ∀ t, own_W p e below m T8 51 #[.val (.ref x0), .val (.int x1), .val (.int x2), .val (.int r8)] [(.ref x0)] t → Steps p.tables e below S0 t := fun t k => p9 t (by
    show own_W p e below m T8 49 #[.val (.ref x0), .val (.int x1), .val (.int x2), .unset] [(.int r8)] _
    refine XS.istoreN X8.here hx rfl (hb hby dpg8_49) rfl (l' := #[.val (.ref x0), .val (.int x1), .val (.int x2), .val (.int r8)]) rfl ?_
    refine XS.aloadN X8.here hx rfl (hb hby dpg8_50) rfl rfl ?_
    exact k)
  obtain ⟨T11, X11, e11, st11⟩ := getF X8 hx hZ hown (host := "") (Or.inl (hw _ (List.mem_of_getElem? (i := 27) rfl))) Via.refl e8 Ft (g := (mkF m 51 #[.val (.ref x0), .val (.int x1), .val (.int x2), .val (.int r8)] [(.ref x0)])) rfl rfl (hb hby dpg8_51)
  have p12 : ∀ t, own_W p e below m T11 54 #[.val (.ref x0), .val (.int x1), .val (.int x2), .val (.int r8)] [(.ref tb)] t → Steps p.tables e below S0 t := fun t k => p10 t (st11 t k)
  have p13 : ∀ t, own_W p e below m T11 55 #[.val (.ref x0), .val (.int x1), .val (.int x2), .val (.int r8)] [(.int r8), (.ref tb)] t → Steps p.tables e below S0 t := fun t k => p12 t (by
    show own_W p e below m T11 54 #[.val (.ref x0), .val (.int x1), .val (.int x2), .val (.int r8)] [(.ref tb)] _
    refine XS.iloadN X11.here hx rfl (hb hby dpg8_54) rfl ?_
    exact k)
  obtain ⟨w, hw'⟩ := own_get V0 rr
  obtain ⟨cl14, Ar14, q14, Sz14, Ng14, Hs14, G14⟩ := id V0
  have hin14 : ¬ (r8 < 0 ∨ cl14.slots.size ≤ (r8).toNatClampNeg) := inb_of Sz14 rr
  have hat14 : cl14.slots[(r8).toNatClampNeg]? = some (.int w) := Hs14.at hin14 (hw')
  have p15 : ∀ t, own_W p e below m T11 57 #[.val (.ref x0), .val (.int x1), .val (.int x2), .val (.int r8)] [(.int (-1 : Int32)), (.int w)] t → Steps p.tables e below S0 t := fun t k => p13 t (by
    show own_W p e below m T11 55 #[.val (.ref x0), .val (.int x1), .val (.int x2), .val (.int r8)] [(.int r8), (.ref tb)] _
    refine X11.iaload hx (j := r8) (v := (.int w)) (by rw [e11]; exact Ar14.1) (State.isArrayOf_alike hZ.alike Ar14.2.1) Ar14.2.2 hin14 hat14 (g := (mkF m 55 #[.val (.ref x0), .val (.int x1), .val (.int x2), .val (.int r8)] [(.int r8), (.ref tb)])) rfl rfl (hb hby dpg8_55) _ ?_
    refine XS.iconst X11.here hx rfl (hb hby dpg8_56) ?_
    exact k)
  by_cases hw57 : w = (-1 : Int32)
  · have p16 : ∀ t, own_W p e below m T11 61 #[.val (.ref x0), .val (.int x1), .val (.int x2), .val (.int r8)] [(.ref x0)] t → Steps p.tables e below S0 t := fun t k => p15 t (by
      show own_W p e below m T11 57 #[.val (.ref x0), .val (.int x1), .val (.int x2), .val (.int r8)] [(.int (-1 : Int32)), (.int w)] _
      refine XS.icmpNo X11.here hx rfl (hb hby dpg8_57) rfl ((teq (hw57)).2) ?_
      refine XS.aloadN X11.here hx rfl (hb hby dpg8_60) rfl rfl ?_
      exact k)
    obtain ⟨T17, X17, e17, st17⟩ := getF X11 hx hZ hown (host := "") (Or.inl (hw _ (List.mem_of_getElem? (i := 27) rfl))) Via.refl e11 Ft (g := (mkF m 61 #[.val (.ref x0), .val (.int x1), .val (.int x2), .val (.int r8)] [(.ref x0)])) rfl rfl (hb hby dpg8_61)
    have p18 : ∀ t, own_W p e below m T17 64 #[.val (.ref x0), .val (.int x1), .val (.int x2), .val (.int r8)] [(.ref tb)] t → Steps p.tables e below S0 t := fun t k => p16 t (st17 t k)
    have p19 : ∀ t, own_W p e below m T17 66 #[.val (.ref x0), .val (.int x1), .val (.int x2), .val (.int r8)] [(.int x1), (.int r8), (.ref tb)] t → Steps p.tables e below S0 t := fun t k => p18 t (by
      show own_W p e below m T17 64 #[.val (.ref x0), .val (.int x1), .val (.int x2), .val (.int r8)] [(.ref tb)] _
      refine XS.iloadN X17.here hx rfl (hb hby dpg8_64) rfl ?_
      refine XS.iloadN X17.here hx rfl (hb hby dpg8_65) rfl ?_
      exact k)
    obtain ⟨cl20, Ar20, q20, Sz20, Ng20, Hs20, G20⟩ := id V0
    have hin20 : ¬ (r8 < 0 ∨ cl20.slots.size ≤ (r8).toNatClampNeg) := inb_of Sz20 (rr)
    obtain ⟨T20, h20, X20, e20, W20, st20⟩ := stI X17 hx hZ e17 Ar20 (j := r8) hin20 (g := (mkF m 66 #[.val (.ref x0), .val (.int x1), .val (.int x2), .val (.int r8)] [(.int x1), (.int r8), (.ref tb)])) rfl rfl (hb hby dpg8_66)
    have VV20 : Arv Z h20 tb kt .int (16 : Int32) (vs.set (r8.toNatClampNeg) (.int x1)) (.int (0 : Int32)) := Arv.set Ar20 q20 Sz20 Ng20 Hs20 G20 rfl W20 (r8.toNatClampNeg) (rfl) (own_ltl rr hus)
    have f21 := E0.wr W20
    have f22 := Ft.other W20 (Or.inl nx)
    have f23 := Fb.other W20 (Or.inl nx)
    have f24 := Fs.other W20 (Or.inl nx)
    have f25 := Fh.other W20 (Or.inl nx)
    have f26 := Fl.other W20 (Or.inl nx)
    have f27 := Fv.other W20 (Or.inl nx)
    have Z20 := Nat.le_trans Z0 (Keep.of_wr W20).1
    have N20 := Fr.snoc X20 N8 gt
    have KK20 := K0.wr W20 (Or.inl (List.mem_cons_of_mem _ (List.mem_singleton.mpr rfl)))
    have p28 : ∀ t, own_W p e below m T20 67 #[.val (.ref x0), .val (.int x1), .val (.int x2), .val (.int r8)] [] t → Steps p.tables e below S0 t := fun t k => p19 t (st20 t k)
    have p29 : ∀ t, own_W p e below m T20 69 #[.val (.ref x0), .val (.int x1), .val (.int x2), .val (.int r8)] [(.ref x0), (.ref x0)] t → Steps p.tables e below S0 t := fun t k => p28 t (by
      show own_W p e below m T20 67 #[.val (.ref x0), .val (.int x1), .val (.int x2), .val (.int r8)] [] _
      refine XS.aloadN X20.here hx rfl (hb hby dpg8_67) rfl rfl ?_
      refine XS.dup X20.here hx rfl (hb hby dpg8_68) rfl rfl ?_
      exact k)
    obtain ⟨T30, X30, e30, st30⟩ := getF X20 hx hZ hown (host := "") (Or.inl (hw _ (List.mem_of_getElem? (i := 61) rfl))) Via.refl e20 f24 (g := (mkF m 69 #[.val (.ref x0), .val (.int x1), .val (.int x2), .val (.int r8)] [(.ref x0), (.ref x0)])) rfl rfl (hb hby dpg8_69)
    have p31 : ∀ t, own_W p e below m T30 72 #[.val (.ref x0), .val (.int x1), .val (.int x2), .val (.int r8)] [(.int sz), (.ref x0)] t → Steps p.tables e below S0 t := fun t k => p29 t (st30 t k)
    have p32 : ∀ t, own_W p e below m T30 74 #[.val (.ref x0), .val (.int x1), .val (.int x2), .val (.int r8)] [(.int (sz + (1 : Int32))), (.ref x0)] t → Steps p.tables e below S0 t := fun t k => p31 t (by
      show own_W p e below m T30 72 #[.val (.ref x0), .val (.int x1), .val (.int x2), .val (.int r8)] [(.int sz), (.ref x0)] _
      refine XS.iconst X30.here hx rfl (hb hby dpg8_72) ?_
      refine XS.iadd X30.here hx rfl (hb hby dpg8_73) rfl ?_
      exact k)
    obtain ⟨T33, h33, X33, e33, W33, st33⟩ := putF X30 hx hZ hown (host := "") (Or.inl (hw _ (List.mem_of_getElem? (i := 61) rfl))) Via.refl e30 f24 f21 (Or.inl (hw _ (List.mem_of_getElem? (i := 62) rfl))) (hw _ (List.mem_of_getElem? (i := 2) rfl)) (ty := .int) (by decide) rfl rfl (g := (mkF m 74 #[.val (.ref x0), .val (.int x1), .val (.int x2), .val (.int r8)] [(.int (sz + (1 : Int32))), (.ref x0)])) rfl rfl (hb hby dpg8_74)
    have f34 := f24.same W33
    have f35 := f21.wr W33
    have f36 := f22.other W33 (Or.inr (slot_ne (Or.inl (hw _ (List.mem_of_getElem? (i := 28) rfl))) (Or.inl (hw _ (List.mem_of_getElem? (i := 62) rfl))) (by decide) (t := (.array .int)) (t' := .int) (by decide) (by decide)))
    have f37 := f23.other W33 (Or.inr (slot_ne (Or.inl (hw _ (List.mem_of_getElem? (i := 30) rfl))) (Or.inl (hw _ (List.mem_of_getElem? (i := 62) rfl))) (by decide) (t := (.array .int)) (t' := .int) (by decide) (by decide)))
    have f38 := f25.other W33 (Or.inr (slot_ne (Or.inl (hw _ (List.mem_of_getElem? (i := 22) rfl))) (Or.inl (hw _ (List.mem_of_getElem? (i := 62) rfl))) (by decide) (t := .int) (t' := .int) (by decide) (by decide)))
    have f39 := f26.other W33 (Or.inr (slot_ne (Or.inl (hw _ (List.mem_of_getElem? (i := 24) rfl))) (Or.inl (hw _ (List.mem_of_getElem? (i := 62) rfl))) (by decide) (t := .int) (t' := .int) (by decide) (by decide)))
    have f40 := f27.other W33 (Or.inr (slot_ne (Or.inl (hw _ (List.mem_of_getElem? (i := 26) rfl))) (Or.inl (hw _ (List.mem_of_getElem? (i := 62) rfl))) (by decide) (t := .int) (t' := .int) (by decide) (by decide)))
    have f41 := VV20.other W33 (Ne.symm nx)
    have Z33 := Nat.le_trans Z20 (Keep.of_wr W33).1
    have N33 := Fr.snoc X33 N20 g0
    have KK33 := KK20.wr W33 (Or.inl (List.mem_cons_self ..))
    have p42 : ∀ t, own_W p e below m T33 77 #[.val (.ref x0), .val (.int x1), .val (.int x2), .val (.int r8)] [] t → Steps p.tables e below S0 t := fun t k => p32 t (st33 t k)
    have p43 : ∀ t, own_W p e below m T33 78 #[.val (.ref x0), .val (.int x1), .val (.int x2), .val (.int r8)] [(.ref x0)] t → Steps p.tables e below S0 t := fun t k => p42 t (by
      show own_W p e below m T33 77 #[.val (.ref x0), .val (.int x1), .val (.int x2), .val (.int r8)] [] _
      refine XS.aloadN X33.here hx rfl (hb hby dpg8_77) rfl rfl ?_
      exact k)
    obtain ⟨T44, X44, e44, st44⟩ := getF X33 hx hZ hown (host := "") (Or.inl (hw _ (List.mem_of_getElem? (i := 27) rfl))) Via.refl e33 f36 (g := (mkF m 78 #[.val (.ref x0), .val (.int x1), .val (.int x2), .val (.int r8)] [(.ref x0)])) rfl rfl (hb hby dpg8_78)
    have p45 : ∀ t, own_W p e below m T44 81 #[.val (.ref x0), .val (.int x1), .val (.int x2), .val (.int r8)] [(.ref tb)] t → Steps p.tables e below S0 t := fun t k => p43 t (st44 t k)
    have p46 : ∀ t, own_W p e below m T44 85 #[.val (.ref x0), .val (.int x1), .val (.int x2), .val (.int r8)] [(.int x2), (.int (r8 + (1 : Int32))), (.ref tb)] t → Steps p.tables e below S0 t := fun t k => p45 t (by
      show own_W p e below m T44 81 #[.val (.ref x0), .val (.int x1), .val (.int x2), .val (.int r8)] [(.ref tb)] _
      refine XS.iloadN X44.here hx rfl (hb hby dpg8_81) rfl ?_
      refine XS.iconst X44.here hx rfl (hb hby dpg8_82) ?_
      refine XS.iadd X44.here hx rfl (hb hby dpg8_83) rfl ?_
      refine XS.iloadN X44.here hx rfl (hb hby dpg8_84) rfl ?_
      exact k)
    obtain ⟨cl47, Ar47, q47, Sz47, Ng47, Hs47, G47⟩ := id f41
    have hin47 : ¬ ((r8 + (1 : Int32)) < 0 ∨ cl47.slots.size ≤ ((r8 + (1 : Int32))).toNatClampNeg) := inb_of Sz47 (rs)
    obtain ⟨T47, h47, X47, e47, W47, st47⟩ := stI X44 hx hZ e44 Ar47 (j := (r8 + (1 : Int32))) hin47 (g := (mkF m 85 #[.val (.ref x0), .val (.int x1), .val (.int x2), .val (.int r8)] [(.int x2), (.int (r8 + (1 : Int32))), (.ref tb)])) rfl rfl (hb hby dpg8_85)
    have VV47 : Arv Z h47 tb kt .int (16 : Int32) ((vs.set (r8.toNatClampNeg) (.int x1)).set ((r8 + (1 : Int32)).toNatClampNeg) (.int x2)) (.int (0 : Int32)) := Arv.set Ar47 q47 Sz47 Ng47 Hs47 G47 rfl W47 ((r8 + (1 : Int32)).toNatClampNeg) (rfl) (own_ltl rs (by first | (simp only [List.length_set]; exact hus) | exact hus))
    have f48 := f35.wr W47
    have f49 := f36.other W47 (Or.inl nx)
    have f50 := f37.other W47 (Or.inl nx)
    have f51 := f38.other W47 (Or.inl nx)
    have f52 := f39.other W47 (Or.inl nx)
    have f53 := f40.other W47 (Or.inl nx)
    have f54 := f34.other W47 (Or.inl nx)
    have Z47 := Nat.le_trans Z33 (Keep.of_wr W47).1
    have N47 := Fr.snoc X47 N33 gt
    have KK47 := KK33.wr W47 (Or.inl (List.mem_cons_of_mem _ (List.mem_singleton.mpr rfl)))
    have p55 : ∀ t, own_W p e below m T47 86 #[.val (.ref x0), .val (.int x1), .val (.int x2), .val (.int r8)] [] t → Steps p.tables e below S0 t := fun t k => p46 t (st47 t k)
    have p56 : ∀ t, own_W p e below m T47 88 #[.val (.ref x0), .val (.int x1), .val (.int x2), .val (.int r8)] [(.ref x0), (.ref x0)] t → Steps p.tables e below S0 t := fun t k => p55 t (by
      show own_W p e below m T47 86 #[.val (.ref x0), .val (.int x1), .val (.int x2), .val (.int r8)] [] _
      refine XS.aloadN X47.here hx rfl (hb hby dpg8_86) rfl rfl ?_
      refine XS.aloadN X47.here hx rfl (hb hby dpg8_87) rfl rfl ?_
      exact k)
    obtain ⟨T57, X57, e57, st57⟩ := getF X47 hx hZ hown (host := "") (Or.inl (hw _ (List.mem_of_getElem? (i := 21) rfl))) Via.refl e47 f51 (g := (mkF m 88 #[.val (.ref x0), .val (.int x1), .val (.int x2), .val (.int r8)] [(.ref x0), (.ref x0)])) rfl rfl (hb hby dpg8_88)
    have p58 : ∀ t, own_W p e below m T57 91 #[.val (.ref x0), .val (.int x1), .val (.int x2), .val (.int r8)] [(.int hi), (.ref x0)] t → Steps p.tables e below S0 t := fun t k => p56 t (st57 t k)
    have p59 : ∀ t, own_W p e below m T57 92 #[.val (.ref x0), .val (.int x1), .val (.int x2), .val (.int r8)] [(.int x1), (.int hi), (.ref x0)] t → Steps p.tables e below S0 t := fun t k => p58 t (by
      show own_W p e below m T57 91 #[.val (.ref x0), .val (.int x1), .val (.int x2), .val (.int r8)] [(.int hi), (.ref x0)] _
      refine XS.iloadN X57.here hx rfl (hb hby dpg8_91) rfl ?_
      exact k)
    obtain ⟨_, _, ⟨T60, L60, k60, n60⟩, -, X60, ⟨Lc60, hQ60, l60, y60, z60⟩, st60⟩ := Jvm.LawKit.callS X57 hx (y := (⟨"java/lang/Math", "max", "(II)I"⟩ : MethodName)) hown (mvT hZ (hw _ (List.mem_of_getElem? (i := 67) rfl))) (mvT hZ (hw _ (List.mem_of_getElem? (i := 68) rfl))) (mvT hZ (hw _ (List.mem_of_getElem? (i := 69) rfl))) (mvT hZ (hw _ (List.mem_of_getElem? (i := 70) rfl))) (by decide) (backOf (W := 1) (rmmxg l Z a0 hw [] hi x1  h47 n0 Z47 ) hZ (hw _ (List.mem_of_getElem? (i := 70) rfl)) (hw _ (List.mem_of_getElem? (i := 69) rfl)) (by decide) (by decide)) (g := (mkF m 92 #[.val (.ref x0), .val (.int x1), .val (.int x2), .val (.int r8)] [(.int x1), (.int hi), (.ref x0)])) rfl (by rw [hml]; rfl) (argsL := [(.int hi), (.int x1)]) (rest := [(.ref x0)]) (lenOf pdpg8_1 rfl) rfl (by show 2 * 0 + _ ≤ _; exact Nat.le_of_eq rfl) (hb hby dpg8_92) (fun _ _ => ⟨rfl, e57, (by decide : 0 + 0 ≤ _), (by decide : 0 + 0 ≤ _)⟩)
    dsimp only [Pt.U, Pt.locs, Pt.cells, Pt.slots] at X60 l60 y60 z60 st60 hQ60
    subst l60 y60 z60
    obtain ⟨q60, rfl, Nq60, e60, hq60⟩ := hQ60
    have N60 := Fr.app N47 Nq60
    have p61 : ∀ t, own_W p e below m T60 95 #[.val (.ref x0), .val (.int x1), .val (.int x2), .val (.int r8)] [(.int q60), (.ref x0)] t → Steps p.tables e below S0 t := fun t k => p59 t (st60 _ k)
    obtain ⟨T62, h62, X62, e62, W62, st62⟩ := putF X60 hx hZ hown (host := "") (Or.inl (hw _ (List.mem_of_getElem? (i := 21) rfl))) Via.refl e60 f51 f48 (Or.inl (hw _ (List.mem_of_getElem? (i := 22) rfl))) (hw _ (List.mem_of_getElem? (i := 2) rfl)) (ty := .int) (by decide) rfl rfl (g := (mkF m 95 #[.val (.ref x0), .val (.int x1), .val (.int x2), .val (.int r8)] [(.int q60), (.ref x0)])) rfl rfl (hb hby dpg8_95)
    have f63 := f51.same W62
    have f64 := f48.wr W62
    have f65 := f49.other W62 (Or.inr (slot_ne (Or.inl (hw _ (List.mem_of_getElem? (i := 28) rfl))) (Or.inl (hw _ (List.mem_of_getElem? (i := 22) rfl))) (by decide) (t := (.array .int)) (t' := .int) (by decide) (by decide)))
    have f66 := f50.other W62 (Or.inr (slot_ne (Or.inl (hw _ (List.mem_of_getElem? (i := 30) rfl))) (Or.inl (hw _ (List.mem_of_getElem? (i := 22) rfl))) (by decide) (t := (.array .int)) (t' := .int) (by decide) (by decide)))
    have f67 := f52.other W62 (Or.inr (slot_ne (Or.inl (hw _ (List.mem_of_getElem? (i := 24) rfl))) (Or.inl (hw _ (List.mem_of_getElem? (i := 22) rfl))) (by decide) (t := .int) (t' := .int) (by decide) (by decide)))
    have f68 := f53.other W62 (Or.inr (slot_ne (Or.inl (hw _ (List.mem_of_getElem? (i := 26) rfl))) (Or.inl (hw _ (List.mem_of_getElem? (i := 22) rfl))) (by decide) (t := .int) (t' := .int) (by decide) (by decide)))
    have f69 := f54.other W62 (Or.inr (slot_ne (Or.inl (hw _ (List.mem_of_getElem? (i := 62) rfl))) (Or.inl (hw _ (List.mem_of_getElem? (i := 22) rfl))) (by decide) (t := .int) (t' := .int) (by decide) (by decide)))
    have f70 := VV47.other W62 (Ne.symm nx)
    have Z62 := Nat.le_trans Z47 (Keep.of_wr W62).1
    have N62 := Fr.snoc X62 N60 g0
    have KK62 := KK47.wr W62 (Or.inl (List.mem_cons_self ..))
    have p71 : ∀ t, own_W p e below m T62 98 #[.val (.ref x0), .val (.int x1), .val (.int x2), .val (.int r8)] [] t → Steps p.tables e below S0 t := fun t k => p61 t (st62 t k)
    obtain ⟨lvn, T72, Lj72, X72, e72, N72, hj72, p72⟩ : ∃ (lvn : Int32) (T' : State) (Lj : List Loc), Stand p l e ({ frames := 2, cells := 0, slots := 0, locals := 30 } : Room) s m #[(.ref x0), (.int x1), (.int x2)] below meth c T' Lj 0 0 ∧ T'.heap = h62 ∧ Fr n0 Lj ∧ (True) ∧ ∀ t, Steps p.tables e below (T'.setTop (mkF m 119 #[.val (.ref x0), .val (.int x1), .val (.int x2), .val (.int r8)] [(.int lvn), (.ref x0)])) t → Steps p.tables e below S0 t := by
      have p73 : ∀ t, own_W p e below m T62 100 #[.val (.ref x0), .val (.int x1), .val (.int x2), .val (.int r8)] [(.ref x0), (.ref x0)] t → Steps p.tables e below S0 t := fun t k => p71 t (by
        show own_W p e below m T62 98 #[.val (.ref x0), .val (.int x1), .val (.int x2), .val (.int r8)] [] _
        refine XS.aloadN X62.here hx rfl (hb hby dpg8_98) rfl rfl ?_
        refine XS.aloadN X62.here hx rfl (hb hby dpg8_99) rfl rfl ?_
        exact k)
      obtain ⟨T74, X74, e74, st74⟩ := getF X62 hx hZ hown (host := "") (Or.inl (hw _ (List.mem_of_getElem? (i := 23) rfl))) Via.refl e62 f67 (g := (mkF m 100 #[.val (.ref x0), .val (.int x1), .val (.int x2), .val (.int r8)] [(.ref x0), (.ref x0)])) rfl rfl (hb hby dpg8_100)
      have p75 : ∀ t, own_W p e below m T74 103 #[.val (.ref x0), .val (.int x1), .val (.int x2), .val (.int r8)] [(.int lv), (.ref x0)] t → Steps p.tables e below S0 t := fun t k => p73 t (st74 t k)
      have p76 : ∀ t, own_W p e below m T74 104 #[.val (.ref x0), .val (.int x1), .val (.int x2), .val (.int r8)] [(.int (-1 : Int32)), (.int lv), (.ref x0)] t → Steps p.tables e below S0 t := fun t k => p75 t (by
        show own_W p e below m T74 103 #[.val (.ref x0), .val (.int x1), .val (.int x2), .val (.int r8)] [(.int lv), (.ref x0)] _
        refine XS.iconst X74.here hx rfl (hb hby dpg8_103) ?_
        exact k)
      by_cases hc104 : lv = (-1 : Int32)
      · have p77 : ∀ t, own_W p e below m T74 119 #[.val (.ref x0), .val (.int x1), .val (.int x2), .val (.int r8)] [(.int x2), (.ref x0)] t → Steps p.tables e below S0 t := fun t k => p76 t (by
          show own_W p e below m T74 104 #[.val (.ref x0), .val (.int x1), .val (.int x2), .val (.int r8)] [(.int (-1 : Int32)), (.int lv), (.ref x0)] _
          refine XS.icmpNo X74.here hx rfl (hb hby dpg8_104) rfl ((teq (hc104)).2) ?_
          refine XS.iloadN X74.here hx rfl (hb hby dpg8_107) rfl ?_
          refine XS.goto X74.here hx rfl (pc0 := 108) (pc' := 119) rfl (hb hby dpg8_108) (by decide) (by decide) ?_
          exact k)
        exact ⟨x2, T74, _, X74, e74, N62, trivial, p77⟩
      · have p78 : ∀ t, own_W p e below m T74 112 #[.val (.ref x0), .val (.int x1), .val (.int x2), .val (.int r8)] [(.ref x0), (.ref x0)] t → Steps p.tables e below S0 t := fun t k => p76 t (by
          show own_W p e below m T74 104 #[.val (.ref x0), .val (.int x1), .val (.int x2), .val (.int r8)] [(.int (-1 : Int32)), (.int lv), (.ref x0)] _
          refine XS.icmpYes X74.here hx rfl (pc0 := 104) (pc' := 111) rfl (hb hby dpg8_104) rfl ((feq (hc104)).2) (by decide) (by decide) ?_
          refine XS.aloadN X74.here hx rfl (hb hby dpg8_111) rfl rfl ?_
          exact k)
        obtain ⟨T79, X79, e79, st79⟩ := getF X74 hx hZ hown (host := "") (Or.inl (hw _ (List.mem_of_getElem? (i := 23) rfl))) Via.refl e74 f67 (g := (mkF m 112 #[.val (.ref x0), .val (.int x1), .val (.int x2), .val (.int r8)] [(.ref x0), (.ref x0)])) rfl rfl (hb hby dpg8_112)
        have p80 : ∀ t, own_W p e below m T79 115 #[.val (.ref x0), .val (.int x1), .val (.int x2), .val (.int r8)] [(.int lv), (.ref x0)] t → Steps p.tables e below S0 t := fun t k => p78 t (st79 t k)
        have p81 : ∀ t, own_W p e below m T79 116 #[.val (.ref x0), .val (.int x1), .val (.int x2), .val (.int r8)] [(.int x2), (.int lv), (.ref x0)] t → Steps p.tables e below S0 t := fun t k => p80 t (by
          show own_W p e below m T79 115 #[.val (.ref x0), .val (.int x1), .val (.int x2), .val (.int r8)] [(.int lv), (.ref x0)] _
          refine XS.iloadN X79.here hx rfl (hb hby dpg8_115) rfl ?_
          exact k)
        obtain ⟨_, _, ⟨T82, L82, k82, n82⟩, -, X82, ⟨Lc82, hQ82, l82, y82, z82⟩, st82⟩ := Jvm.LawKit.callS X79 hx (y := (⟨"java/lang/Math", "min", "(II)I"⟩ : MethodName)) hown (mvT hZ (hw _ (List.mem_of_getElem? (i := 72) rfl))) (mvT hZ (hw _ (List.mem_of_getElem? (i := 73) rfl))) (mvT hZ (hw _ (List.mem_of_getElem? (i := 69) rfl))) (mvT hZ (hw _ (List.mem_of_getElem? (i := 74) rfl))) (by decide) (backOf (W := 1) (rmmng l Z a0 hw [] lv x2  h62 n0 Z62 ) hZ (hw _ (List.mem_of_getElem? (i := 74) rfl)) (hw _ (List.mem_of_getElem? (i := 69) rfl)) (by decide) (by decide)) (g := (mkF m 116 #[.val (.ref x0), .val (.int x1), .val (.int x2), .val (.int r8)] [(.int x2), (.int lv), (.ref x0)])) rfl (by rw [hml]; rfl) (argsL := [(.int lv), (.int x2)]) (rest := [(.ref x0)]) (lenOf pdpg8_1 rfl) rfl (by show 2 * 0 + _ ≤ _; exact Nat.le_of_eq rfl) (hb hby dpg8_116) (fun _ _ => ⟨rfl, e79, (by decide : 0 + 0 ≤ _), (by decide : 0 + 0 ≤ _)⟩)
        dsimp only [Pt.U, Pt.locs, Pt.cells, Pt.slots] at X82 l82 y82 z82 st82 hQ82
        subst l82 y82 z82
        obtain ⟨q82, rfl, Nq82, e82⟩ := hQ82
        have N82 := Fr.app N62 Nq82
        have p83 : ∀ t, own_W p e below m T82 119 #[.val (.ref x0), .val (.int x1), .val (.int x2), .val (.int r8)] [(.int q82), (.ref x0)] t → Steps p.tables e below S0 t := fun t k => p81 t (st82 _ k)
        exact ⟨q82, T82, _, X82, e82, N82, trivial, p83⟩
    obtain ⟨T84, h84, X84, e84, W84, st84⟩ := putF X72 hx hZ hown (host := "") (Or.inl (hw _ (List.mem_of_getElem? (i := 23) rfl))) Via.refl e72 f67 f64 (Or.inl (hw _ (List.mem_of_getElem? (i := 24) rfl))) (hw _ (List.mem_of_getElem? (i := 2) rfl)) (ty := .int) (by decide) rfl rfl (g := (mkF m 119 #[.val (.ref x0), .val (.int x1), .val (.int x2), .val (.int r8)] [(.int lvn), (.ref x0)])) rfl rfl (hb hby dpg8_119)
    have f85 := f67.same W84
    have f86 := f64.wr W84
    have f87 := f65.other W84 (Or.inr (slot_ne (Or.inl (hw _ (List.mem_of_getElem? (i := 28) rfl))) (Or.inl (hw _ (List.mem_of_getElem? (i := 24) rfl))) (by decide) (t := (.array .int)) (t' := .int) (by decide) (by decide)))
    have f88 := f66.other W84 (Or.inr (slot_ne (Or.inl (hw _ (List.mem_of_getElem? (i := 30) rfl))) (Or.inl (hw _ (List.mem_of_getElem? (i := 24) rfl))) (by decide) (t := (.array .int)) (t' := .int) (by decide) (by decide)))
    have f89 := f68.other W84 (Or.inr (slot_ne (Or.inl (hw _ (List.mem_of_getElem? (i := 26) rfl))) (Or.inl (hw _ (List.mem_of_getElem? (i := 24) rfl))) (by decide) (t := .int) (t' := .int) (by decide) (by decide)))
    have f90 := f69.other W84 (Or.inr (slot_ne (Or.inl (hw _ (List.mem_of_getElem? (i := 62) rfl))) (Or.inl (hw _ (List.mem_of_getElem? (i := 24) rfl))) (by decide) (t := .int) (t' := .int) (by decide) (by decide)))
    have f91 := f70.other W84 (Ne.symm nx)
    have f92 := f63.other W84 (Or.inr (slot_ne (Or.inl (hw _ (List.mem_of_getElem? (i := 22) rfl))) (Or.inl (hw _ (List.mem_of_getElem? (i := 24) rfl))) (by decide) (t := .int) (t' := .int) (by decide) (by decide)))
    have Z84 := Nat.le_trans Z62 (Keep.of_wr W84).1
    have N84 := Fr.snoc X84 N72 g0
    have KK84 := KK62.wr W84 (Or.inl (List.mem_cons_self ..))
    have p93 : ∀ t, own_W p e below m T84 122 #[.val (.ref x0), .val (.int x1), .val (.int x2), .val (.int r8)] [] t → Steps p.tables e below S0 t := fun t k => p72 t (st84 t k)
    have p94 : ∀ t, own_W p e below m T84 124 #[.val (.ref x0), .val (.int x1), .val (.int x2), .val (.int r8)] [(.ref x0), (.ref x0)] t → Steps p.tables e below S0 t := fun t k => p93 t (by
      show own_W p e below m T84 122 #[.val (.ref x0), .val (.int x1), .val (.int x2), .val (.int r8)] [] _
      refine XS.aloadN X84.here hx rfl (hb hby dpg8_122) rfl rfl ?_
      refine XS.aloadN X84.here hx rfl (hb hby dpg8_123) rfl rfl ?_
      exact k)
    obtain ⟨T95, X95, e95, st95⟩ := getF X84 hx hZ hown (host := "") (Or.inl (hw _ (List.mem_of_getElem? (i := 25) rfl))) Via.refl e84 f89 (g := (mkF m 124 #[.val (.ref x0), .val (.int x1), .val (.int x2), .val (.int r8)] [(.ref x0), (.ref x0)])) rfl rfl (hb hby dpg8_124)
    have p96 : ∀ t, own_W p e below m T95 127 #[.val (.ref x0), .val (.int x1), .val (.int x2), .val (.int r8)] [(.int hv), (.ref x0)] t → Steps p.tables e below S0 t := fun t k => p94 t (st95 t k)
    have p97 : ∀ t, own_W p e below m T95 128 #[.val (.ref x0), .val (.int x1), .val (.int x2), .val (.int r8)] [(.int x2), (.int hv), (.ref x0)] t → Steps p.tables e below S0 t := fun t k => p96 t (by
      show own_W p e below m T95 127 #[.val (.ref x0), .val (.int x1), .val (.int x2), .val (.int r8)] [(.int hv), (.ref x0)] _
      refine XS.iloadN X95.here hx rfl (hb hby dpg8_127) rfl ?_
      exact k)
    obtain ⟨_, _, ⟨T98, L98, k98, n98⟩, -, X98, ⟨Lc98, hQ98, l98, y98, z98⟩, st98⟩ := Jvm.LawKit.callS X95 hx (y := (⟨"java/lang/Math", "max", "(II)I"⟩ : MethodName)) hown (mvT hZ (hw _ (List.mem_of_getElem? (i := 67) rfl))) (mvT hZ (hw _ (List.mem_of_getElem? (i := 68) rfl))) (mvT hZ (hw _ (List.mem_of_getElem? (i := 69) rfl))) (mvT hZ (hw _ (List.mem_of_getElem? (i := 70) rfl))) (by decide) (backOf (W := 1) (rmmxg l Z a0 hw [] hv x2  h84 n0 Z84 ) hZ (hw _ (List.mem_of_getElem? (i := 70) rfl)) (hw _ (List.mem_of_getElem? (i := 69) rfl)) (by decide) (by decide)) (g := (mkF m 128 #[.val (.ref x0), .val (.int x1), .val (.int x2), .val (.int r8)] [(.int x2), (.int hv), (.ref x0)])) rfl (by rw [hml]; rfl) (argsL := [(.int hv), (.int x2)]) (rest := [(.ref x0)]) (lenOf pdpg8_1 rfl) rfl (by show 2 * 0 + _ ≤ _; exact Nat.le_of_eq rfl) (hb hby dpg8_128) (fun _ _ => ⟨rfl, e95, (by decide : 0 + 0 ≤ _), (by decide : 0 + 0 ≤ _)⟩)
    dsimp only [Pt.U, Pt.locs, Pt.cells, Pt.slots] at X98 l98 y98 z98 st98 hQ98
    subst l98 y98 z98
    obtain ⟨q98, rfl, Nq98, e98, hq98⟩ := hQ98
    have N98 := Fr.app N84 Nq98
    have p99 : ∀ t, own_W p e below m T98 131 #[.val (.ref x0), .val (.int x1), .val (.int x2), .val (.int r8)] [(.int q98), (.ref x0)] t → Steps p.tables e below S0 t := fun t k => p97 t (st98 _ k)
    obtain ⟨T100, h100, X100, e100, W100, st100⟩ := putF X98 hx hZ hown (host := "") (Or.inl (hw _ (List.mem_of_getElem? (i := 25) rfl))) Via.refl e98 f89 f86 (Or.inl (hw _ (List.mem_of_getElem? (i := 26) rfl))) (hw _ (List.mem_of_getElem? (i := 2) rfl)) (ty := .int) (by decide) rfl rfl (g := (mkF m 131 #[.val (.ref x0), .val (.int x1), .val (.int x2), .val (.int r8)] [(.int q98), (.ref x0)])) rfl rfl (hb hby dpg8_131)
    have f101 := f89.same W100
    have f102 := f86.wr W100
    have f103 := f87.other W100 (Or.inr (slot_ne (Or.inl (hw _ (List.mem_of_getElem? (i := 28) rfl))) (Or.inl (hw _ (List.mem_of_getElem? (i := 26) rfl))) (by decide) (t := (.array .int)) (t' := .int) (by decide) (by decide)))
    have f104 := f88.other W100 (Or.inr (slot_ne (Or.inl (hw _ (List.mem_of_getElem? (i := 30) rfl))) (Or.inl (hw _ (List.mem_of_getElem? (i := 26) rfl))) (by decide) (t := (.array .int)) (t' := .int) (by decide) (by decide)))
    have f105 := f90.other W100 (Or.inr (slot_ne (Or.inl (hw _ (List.mem_of_getElem? (i := 62) rfl))) (Or.inl (hw _ (List.mem_of_getElem? (i := 26) rfl))) (by decide) (t := .int) (t' := .int) (by decide) (by decide)))
    have f106 := f91.other W100 (Ne.symm nx)
    have f107 := f92.other W100 (Or.inr (slot_ne (Or.inl (hw _ (List.mem_of_getElem? (i := 22) rfl))) (Or.inl (hw _ (List.mem_of_getElem? (i := 26) rfl))) (by decide) (t := .int) (t' := .int) (by decide) (by decide)))
    have f108 := f85.other W100 (Or.inr (slot_ne (Or.inl (hw _ (List.mem_of_getElem? (i := 24) rfl))) (Or.inl (hw _ (List.mem_of_getElem? (i := 26) rfl))) (by decide) (t := .int) (t' := .int) (by decide) (by decide)))
    have Z100 := Nat.le_trans Z84 (Keep.of_wr W100).1
    have N100 := Fr.snoc X100 N98 g0
    have KK100 := KK84.wr W100 (Or.inl (List.mem_cons_self ..))
    have p109 : ∀ t, own_W p e below m T100 134 #[.val (.ref x0), .val (.int x1), .val (.int x2), .val (.int r8)] [] t → Steps p.tables e below S0 t := fun t k => p99 t (st100 t k)
    subst hS0
    obtain ⟨fs, hr, hrun, hended, hW, hsame⟩ := X100.leave (v := none) (fun _ => rfl)
    refine ⟨_, _, p109 _ ?_, hrun, hended, _, _, rfl, ?_, ⟨_, rfl⟩, hW, hsame.mono (by decide) (by decide)⟩
    · show own_W p e below m T100 134 #[.val (.ref x0), .val (.int x1), .val (.int x2), .val (.int r8)] [] _
      exact X100.returnOut hx Bd.returns (hb hby dpg8_134) hr
    · show Qpg8 Z x0 x1 x2 tb kt sz hi lv hv vs h0 n0 _ T100.heap _
      rw [e100]
      exact ⟨rfl, N100, KK100, _, _, _, _, r8, _, f102, f103, f104, f105, f107, f108, f101, f106, hq60, hr8, fun _ => ⟨rfl, rfl⟩⟩
  · have p110 : ∀ t, own_W p e below m T11 78 #[.val (.ref x0), .val (.int x1), .val (.int x2), .val (.int r8)] [(.ref x0)] t → Steps p.tables e below S0 t := fun t k => p15 t (by
      show own_W p e below m T11 57 #[.val (.ref x0), .val (.int x1), .val (.int x2), .val (.int r8)] [(.int (-1 : Int32)), (.int w)] _
      refine XS.icmpYes X11.here hx rfl (pc0 := 57) (pc' := 77) rfl (hb hby dpg8_57) rfl ((feq (hw57)).2) (by decide) (by decide) ?_
      refine XS.aloadN X11.here hx rfl (hb hby dpg8_77) rfl rfl ?_
      exact k)
    obtain ⟨T111, X111, e111, st111⟩ := getF X11 hx hZ hown (host := "") (Or.inl (hw _ (List.mem_of_getElem? (i := 27) rfl))) Via.refl e11 Ft (g := (mkF m 78 #[.val (.ref x0), .val (.int x1), .val (.int x2), .val (.int r8)] [(.ref x0)])) rfl rfl (hb hby dpg8_78)
    have p112 : ∀ t, own_W p e below m T111 81 #[.val (.ref x0), .val (.int x1), .val (.int x2), .val (.int r8)] [(.ref tb)] t → Steps p.tables e below S0 t := fun t k => p110 t (st111 t k)
    have p113 : ∀ t, own_W p e below m T111 85 #[.val (.ref x0), .val (.int x1), .val (.int x2), .val (.int r8)] [(.int x2), (.int (r8 + (1 : Int32))), (.ref tb)] t → Steps p.tables e below S0 t := fun t k => p112 t (by
      show own_W p e below m T111 81 #[.val (.ref x0), .val (.int x1), .val (.int x2), .val (.int r8)] [(.ref tb)] _
      refine XS.iloadN X111.here hx rfl (hb hby dpg8_81) rfl ?_
      refine XS.iconst X111.here hx rfl (hb hby dpg8_82) ?_
      refine XS.iadd X111.here hx rfl (hb hby dpg8_83) rfl ?_
      refine XS.iloadN X111.here hx rfl (hb hby dpg8_84) rfl ?_
      exact k)
    obtain ⟨cl114, Ar114, q114, Sz114, Ng114, Hs114, G114⟩ := id V0
    have hin114 : ¬ ((r8 + (1 : Int32)) < 0 ∨ cl114.slots.size ≤ ((r8 + (1 : Int32))).toNatClampNeg) := inb_of Sz114 (rs)
    obtain ⟨T114, h114, X114, e114, W114, st114⟩ := stI X111 hx hZ e111 Ar114 (j := (r8 + (1 : Int32))) hin114 (g := (mkF m 85 #[.val (.ref x0), .val (.int x1), .val (.int x2), .val (.int r8)] [(.int x2), (.int (r8 + (1 : Int32))), (.ref tb)])) rfl rfl (hb hby dpg8_85)
    have VV114 : Arv Z h114 tb kt .int (16 : Int32) (vs.set ((r8 + (1 : Int32)).toNatClampNeg) (.int x2)) (.int (0 : Int32)) := Arv.set Ar114 q114 Sz114 Ng114 Hs114 G114 rfl W114 ((r8 + (1 : Int32)).toNatClampNeg) (rfl) (own_ltl rs (by first | (simp only [List.length_set]; exact hus) | exact hus))
    have f115 := E0.wr W114
    have f116 := Ft.other W114 (Or.inl nx)
    have f117 := Fb.other W114 (Or.inl nx)
    have f118 := Fs.other W114 (Or.inl nx)
    have f119 := Fh.other W114 (Or.inl nx)
    have f120 := Fl.other W114 (Or.inl nx)
    have f121 := Fv.other W114 (Or.inl nx)
    have Z114 := Nat.le_trans Z0 (Keep.of_wr W114).1
    have N114 := Fr.snoc X114 N8 gt
    have KK114 := K0.wr W114 (Or.inl (List.mem_cons_of_mem _ (List.mem_singleton.mpr rfl)))
    have p122 : ∀ t, own_W p e below m T114 86 #[.val (.ref x0), .val (.int x1), .val (.int x2), .val (.int r8)] [] t → Steps p.tables e below S0 t := fun t k => p113 t (st114 t k)
    have p123 : ∀ t, own_W p e below m T114 88 #[.val (.ref x0), .val (.int x1), .val (.int x2), .val (.int r8)] [(.ref x0), (.ref x0)] t → Steps p.tables e below S0 t := fun t k => p122 t (by
      show own_W p e below m T114 86 #[.val (.ref x0), .val (.int x1), .val (.int x2), .val (.int r8)] [] _
      refine XS.aloadN X114.here hx rfl (hb hby dpg8_86) rfl rfl ?_
      refine XS.aloadN X114.here hx rfl (hb hby dpg8_87) rfl rfl ?_
      exact k)
    obtain ⟨T124, X124, e124, st124⟩ := getF X114 hx hZ hown (host := "") (Or.inl (hw _ (List.mem_of_getElem? (i := 21) rfl))) Via.refl e114 f119 (g := (mkF m 88 #[.val (.ref x0), .val (.int x1), .val (.int x2), .val (.int r8)] [(.ref x0), (.ref x0)])) rfl rfl (hb hby dpg8_88)
    have p125 : ∀ t, own_W p e below m T124 91 #[.val (.ref x0), .val (.int x1), .val (.int x2), .val (.int r8)] [(.int hi), (.ref x0)] t → Steps p.tables e below S0 t := fun t k => p123 t (st124 t k)
    have p126 : ∀ t, own_W p e below m T124 92 #[.val (.ref x0), .val (.int x1), .val (.int x2), .val (.int r8)] [(.int x1), (.int hi), (.ref x0)] t → Steps p.tables e below S0 t := fun t k => p125 t (by
      show own_W p e below m T124 91 #[.val (.ref x0), .val (.int x1), .val (.int x2), .val (.int r8)] [(.int hi), (.ref x0)] _
      refine XS.iloadN X124.here hx rfl (hb hby dpg8_91) rfl ?_
      exact k)
    obtain ⟨_, _, ⟨T127, L127, k127, n127⟩, -, X127, ⟨Lc127, hQ127, l127, y127, z127⟩, st127⟩ := Jvm.LawKit.callS X124 hx (y := (⟨"java/lang/Math", "max", "(II)I"⟩ : MethodName)) hown (mvT hZ (hw _ (List.mem_of_getElem? (i := 67) rfl))) (mvT hZ (hw _ (List.mem_of_getElem? (i := 68) rfl))) (mvT hZ (hw _ (List.mem_of_getElem? (i := 69) rfl))) (mvT hZ (hw _ (List.mem_of_getElem? (i := 70) rfl))) (by decide) (backOf (W := 1) (rmmxg l Z a0 hw [] hi x1  h114 n0 Z114 ) hZ (hw _ (List.mem_of_getElem? (i := 70) rfl)) (hw _ (List.mem_of_getElem? (i := 69) rfl)) (by decide) (by decide)) (g := (mkF m 92 #[.val (.ref x0), .val (.int x1), .val (.int x2), .val (.int r8)] [(.int x1), (.int hi), (.ref x0)])) rfl (by rw [hml]; rfl) (argsL := [(.int hi), (.int x1)]) (rest := [(.ref x0)]) (lenOf pdpg8_1 rfl) rfl (by show 2 * 0 + _ ≤ _; exact Nat.le_of_eq rfl) (hb hby dpg8_92) (fun _ _ => ⟨rfl, e124, (by decide : 0 + 0 ≤ _), (by decide : 0 + 0 ≤ _)⟩)
    dsimp only [Pt.U, Pt.locs, Pt.cells, Pt.slots] at X127 l127 y127 z127 st127 hQ127
    subst l127 y127 z127
    obtain ⟨q127, rfl, Nq127, e127, hq127⟩ := hQ127
    have N127 := Fr.app N114 Nq127
    have p128 : ∀ t, own_W p e below m T127 95 #[.val (.ref x0), .val (.int x1), .val (.int x2), .val (.int r8)] [(.int q127), (.ref x0)] t → Steps p.tables e below S0 t := fun t k => p126 t (st127 _ k)
    obtain ⟨T129, h129, X129, e129, W129, st129⟩ := putF X127 hx hZ hown (host := "") (Or.inl (hw _ (List.mem_of_getElem? (i := 21) rfl))) Via.refl e127 f119 f115 (Or.inl (hw _ (List.mem_of_getElem? (i := 22) rfl))) (hw _ (List.mem_of_getElem? (i := 2) rfl)) (ty := .int) (by decide) rfl rfl (g := (mkF m 95 #[.val (.ref x0), .val (.int x1), .val (.int x2), .val (.int r8)] [(.int q127), (.ref x0)])) rfl rfl (hb hby dpg8_95)
    have f130 := f119.same W129
    have f131 := f115.wr W129
    have f132 := f116.other W129 (Or.inr (slot_ne (Or.inl (hw _ (List.mem_of_getElem? (i := 28) rfl))) (Or.inl (hw _ (List.mem_of_getElem? (i := 22) rfl))) (by decide) (t := (.array .int)) (t' := .int) (by decide) (by decide)))
    have f133 := f117.other W129 (Or.inr (slot_ne (Or.inl (hw _ (List.mem_of_getElem? (i := 30) rfl))) (Or.inl (hw _ (List.mem_of_getElem? (i := 22) rfl))) (by decide) (t := (.array .int)) (t' := .int) (by decide) (by decide)))
    have f134 := f118.other W129 (Or.inr (slot_ne (Or.inl (hw _ (List.mem_of_getElem? (i := 62) rfl))) (Or.inl (hw _ (List.mem_of_getElem? (i := 22) rfl))) (by decide) (t := .int) (t' := .int) (by decide) (by decide)))
    have f135 := f120.other W129 (Or.inr (slot_ne (Or.inl (hw _ (List.mem_of_getElem? (i := 24) rfl))) (Or.inl (hw _ (List.mem_of_getElem? (i := 22) rfl))) (by decide) (t := .int) (t' := .int) (by decide) (by decide)))
    have f136 := f121.other W129 (Or.inr (slot_ne (Or.inl (hw _ (List.mem_of_getElem? (i := 26) rfl))) (Or.inl (hw _ (List.mem_of_getElem? (i := 22) rfl))) (by decide) (t := .int) (t' := .int) (by decide) (by decide)))
    have f137 := VV114.other W129 (Ne.symm nx)
    have Z129 := Nat.le_trans Z114 (Keep.of_wr W129).1
    have N129 := Fr.snoc X129 N127 g0
    have KK129 := KK114.wr W129 (Or.inl (List.mem_cons_self ..))
    have p138 : ∀ t, own_W p e below m T129 98 #[.val (.ref x0), .val (.int x1), .val (.int x2), .val (.int r8)] [] t → Steps p.tables e below S0 t := fun t k => p128 t (st129 t k)
    obtain ⟨lvn, T139, Lj139, X139, e139, N139, hj139, p139⟩ : ∃ (lvn : Int32) (T' : State) (Lj : List Loc), Stand p l e ({ frames := 2, cells := 0, slots := 0, locals := 30 } : Room) s m #[(.ref x0), (.int x1), (.int x2)] below meth c T' Lj 0 0 ∧ T'.heap = h129 ∧ Fr n0 Lj ∧ (True) ∧ ∀ t, Steps p.tables e below (T'.setTop (mkF m 119 #[.val (.ref x0), .val (.int x1), .val (.int x2), .val (.int r8)] [(.int lvn), (.ref x0)])) t → Steps p.tables e below S0 t := by
      have p140 : ∀ t, own_W p e below m T129 100 #[.val (.ref x0), .val (.int x1), .val (.int x2), .val (.int r8)] [(.ref x0), (.ref x0)] t → Steps p.tables e below S0 t := fun t k => p138 t (by
        show own_W p e below m T129 98 #[.val (.ref x0), .val (.int x1), .val (.int x2), .val (.int r8)] [] _
        refine XS.aloadN X129.here hx rfl (hb hby dpg8_98) rfl rfl ?_
        refine XS.aloadN X129.here hx rfl (hb hby dpg8_99) rfl rfl ?_
        exact k)
      obtain ⟨T141, X141, e141, st141⟩ := getF X129 hx hZ hown (host := "") (Or.inl (hw _ (List.mem_of_getElem? (i := 23) rfl))) Via.refl e129 f135 (g := (mkF m 100 #[.val (.ref x0), .val (.int x1), .val (.int x2), .val (.int r8)] [(.ref x0), (.ref x0)])) rfl rfl (hb hby dpg8_100)
      have p142 : ∀ t, own_W p e below m T141 103 #[.val (.ref x0), .val (.int x1), .val (.int x2), .val (.int r8)] [(.int lv), (.ref x0)] t → Steps p.tables e below S0 t := fun t k => p140 t (st141 t k)
      have p143 : ∀ t, own_W p e below m T141 104 #[.val (.ref x0), .val (.int x1), .val (.int x2), .val (.int r8)] [(.int (-1 : Int32)), (.int lv), (.ref x0)] t → Steps p.tables e below S0 t := fun t k => p142 t (by
        show own_W p e below m T141 103 #[.val (.ref x0), .val (.int x1), .val (.int x2), .val (.int r8)] [(.int lv), (.ref x0)] _
        refine XS.iconst X141.here hx rfl (hb hby dpg8_103) ?_
        exact k)
      by_cases hc104 : lv = (-1 : Int32)
      · have p144 : ∀ t, own_W p e below m T141 119 #[.val (.ref x0), .val (.int x1), .val (.int x2), .val (.int r8)] [(.int x2), (.ref x0)] t → Steps p.tables e below S0 t := fun t k => p143 t (by
          show own_W p e below m T141 104 #[.val (.ref x0), .val (.int x1), .val (.int x2), .val (.int r8)] [(.int (-1 : Int32)), (.int lv), (.ref x0)] _
          refine XS.icmpNo X141.here hx rfl (hb hby dpg8_104) rfl ((teq (hc104)).2) ?_
          refine XS.iloadN X141.here hx rfl (hb hby dpg8_107) rfl ?_
          refine XS.goto X141.here hx rfl (pc0 := 108) (pc' := 119) rfl (hb hby dpg8_108) (by decide) (by decide) ?_
          exact k)
        exact ⟨x2, T141, _, X141, e141, N129, trivial, p144⟩
      · have p145 : ∀ t, own_W p e below m T141 112 #[.val (.ref x0), .val (.int x1), .val (.int x2), .val (.int r8)] [(.ref x0), (.ref x0)] t → Steps p.tables e below S0 t := fun t k => p143 t (by
          show own_W p e below m T141 104 #[.val (.ref x0), .val (.int x1), .val (.int x2), .val (.int r8)] [(.int (-1 : Int32)), (.int lv), (.ref x0)] _
          refine XS.icmpYes X141.here hx rfl (pc0 := 104) (pc' := 111) rfl (hb hby dpg8_104) rfl ((feq (hc104)).2) (by decide) (by decide) ?_
          refine XS.aloadN X141.here hx rfl (hb hby dpg8_111) rfl rfl ?_
          exact k)
        obtain ⟨T146, X146, e146, st146⟩ := getF X141 hx hZ hown (host := "") (Or.inl (hw _ (List.mem_of_getElem? (i := 23) rfl))) Via.refl e141 f135 (g := (mkF m 112 #[.val (.ref x0), .val (.int x1), .val (.int x2), .val (.int r8)] [(.ref x0), (.ref x0)])) rfl rfl (hb hby dpg8_112)
        have p147 : ∀ t, own_W p e below m T146 115 #[.val (.ref x0), .val (.int x1), .val (.int x2), .val (.int r8)] [(.int lv), (.ref x0)] t → Steps p.tables e below S0 t := fun t k => p145 t (st146 t k)
        have p148 : ∀ t, own_W p e below m T146 116 #[.val (.ref x0), .val (.int x1), .val (.int x2), .val (.int r8)] [(.int x2), (.int lv), (.ref x0)] t → Steps p.tables e below S0 t := fun t k => p147 t (by
          show own_W p e below m T146 115 #[.val (.ref x0), .val (.int x1), .val (.int x2), .val (.int r8)] [(.int lv), (.ref x0)] _
          refine XS.iloadN X146.here hx rfl (hb hby dpg8_115) rfl ?_
          exact k)
        obtain ⟨_, _, ⟨T149, L149, k149, n149⟩, -, X149, ⟨Lc149, hQ149, l149, y149, z149⟩, st149⟩ := Jvm.LawKit.callS X146 hx (y := (⟨"java/lang/Math", "min", "(II)I"⟩ : MethodName)) hown (mvT hZ (hw _ (List.mem_of_getElem? (i := 72) rfl))) (mvT hZ (hw _ (List.mem_of_getElem? (i := 73) rfl))) (mvT hZ (hw _ (List.mem_of_getElem? (i := 69) rfl))) (mvT hZ (hw _ (List.mem_of_getElem? (i := 74) rfl))) (by decide) (backOf (W := 1) (rmmng l Z a0 hw [] lv x2  h129 n0 Z129 ) hZ (hw _ (List.mem_of_getElem? (i := 74) rfl)) (hw _ (List.mem_of_getElem? (i := 69) rfl)) (by decide) (by decide)) (g := (mkF m 116 #[.val (.ref x0), .val (.int x1), .val (.int x2), .val (.int r8)] [(.int x2), (.int lv), (.ref x0)])) rfl (by rw [hml]; rfl) (argsL := [(.int lv), (.int x2)]) (rest := [(.ref x0)]) (lenOf pdpg8_1 rfl) rfl (by show 2 * 0 + _ ≤ _; exact Nat.le_of_eq rfl) (hb hby dpg8_116) (fun _ _ => ⟨rfl, e146, (by decide : 0 + 0 ≤ _), (by decide : 0 + 0 ≤ _)⟩)
        dsimp only [Pt.U, Pt.locs, Pt.cells, Pt.slots] at X149 l149 y149 z149 st149 hQ149
        subst l149 y149 z149
        obtain ⟨q149, rfl, Nq149, e149⟩ := hQ149
        have N149 := Fr.app N129 Nq149
        have p150 : ∀ t, own_W p e below m T149 119 #[.val (.ref x0), .val (.int x1), .val (.int x2), .val (.int r8)] [(.int q149), (.ref x0)] t → Steps p.tables e below S0 t := fun t k => p148 t (st149 _ k)
        exact ⟨q149, T149, _, X149, e149, N149, trivial, p150⟩
    obtain ⟨T151, h151, X151, e151, W151, st151⟩ := putF X139 hx hZ hown (host := "") (Or.inl (hw _ (List.mem_of_getElem? (i := 23) rfl))) Via.refl e139 f135 f131 (Or.inl (hw _ (List.mem_of_getElem? (i := 24) rfl))) (hw _ (List.mem_of_getElem? (i := 2) rfl)) (ty := .int) (by decide) rfl rfl (g := (mkF m 119 #[.val (.ref x0), .val (.int x1), .val (.int x2), .val (.int r8)] [(.int lvn), (.ref x0)])) rfl rfl (hb hby dpg8_119)
    have f152 := f135.same W151
    have f153 := f131.wr W151
    have f154 := f132.other W151 (Or.inr (slot_ne (Or.inl (hw _ (List.mem_of_getElem? (i := 28) rfl))) (Or.inl (hw _ (List.mem_of_getElem? (i := 24) rfl))) (by decide) (t := (.array .int)) (t' := .int) (by decide) (by decide)))
    have f155 := f133.other W151 (Or.inr (slot_ne (Or.inl (hw _ (List.mem_of_getElem? (i := 30) rfl))) (Or.inl (hw _ (List.mem_of_getElem? (i := 24) rfl))) (by decide) (t := (.array .int)) (t' := .int) (by decide) (by decide)))
    have f156 := f134.other W151 (Or.inr (slot_ne (Or.inl (hw _ (List.mem_of_getElem? (i := 62) rfl))) (Or.inl (hw _ (List.mem_of_getElem? (i := 24) rfl))) (by decide) (t := .int) (t' := .int) (by decide) (by decide)))
    have f157 := f136.other W151 (Or.inr (slot_ne (Or.inl (hw _ (List.mem_of_getElem? (i := 26) rfl))) (Or.inl (hw _ (List.mem_of_getElem? (i := 24) rfl))) (by decide) (t := .int) (t' := .int) (by decide) (by decide)))
    have f158 := f137.other W151 (Ne.symm nx)
    have f159 := f130.other W151 (Or.inr (slot_ne (Or.inl (hw _ (List.mem_of_getElem? (i := 22) rfl))) (Or.inl (hw _ (List.mem_of_getElem? (i := 24) rfl))) (by decide) (t := .int) (t' := .int) (by decide) (by decide)))
    have Z151 := Nat.le_trans Z129 (Keep.of_wr W151).1
    have N151 := Fr.snoc X151 N139 g0
    have KK151 := KK129.wr W151 (Or.inl (List.mem_cons_self ..))
    have p160 : ∀ t, own_W p e below m T151 122 #[.val (.ref x0), .val (.int x1), .val (.int x2), .val (.int r8)] [] t → Steps p.tables e below S0 t := fun t k => p139 t (st151 t k)
    have p161 : ∀ t, own_W p e below m T151 124 #[.val (.ref x0), .val (.int x1), .val (.int x2), .val (.int r8)] [(.ref x0), (.ref x0)] t → Steps p.tables e below S0 t := fun t k => p160 t (by
      show own_W p e below m T151 122 #[.val (.ref x0), .val (.int x1), .val (.int x2), .val (.int r8)] [] _
      refine XS.aloadN X151.here hx rfl (hb hby dpg8_122) rfl rfl ?_
      refine XS.aloadN X151.here hx rfl (hb hby dpg8_123) rfl rfl ?_
      exact k)
    obtain ⟨T162, X162, e162, st162⟩ := getF X151 hx hZ hown (host := "") (Or.inl (hw _ (List.mem_of_getElem? (i := 25) rfl))) Via.refl e151 f157 (g := (mkF m 124 #[.val (.ref x0), .val (.int x1), .val (.int x2), .val (.int r8)] [(.ref x0), (.ref x0)])) rfl rfl (hb hby dpg8_124)
    have p163 : ∀ t, own_W p e below m T162 127 #[.val (.ref x0), .val (.int x1), .val (.int x2), .val (.int r8)] [(.int hv), (.ref x0)] t → Steps p.tables e below S0 t := fun t k => p161 t (st162 t k)
    have p164 : ∀ t, own_W p e below m T162 128 #[.val (.ref x0), .val (.int x1), .val (.int x2), .val (.int r8)] [(.int x2), (.int hv), (.ref x0)] t → Steps p.tables e below S0 t := fun t k => p163 t (by
      show own_W p e below m T162 127 #[.val (.ref x0), .val (.int x1), .val (.int x2), .val (.int r8)] [(.int hv), (.ref x0)] _
      refine XS.iloadN X162.here hx rfl (hb hby dpg8_127) rfl ?_
      exact k)
    obtain ⟨_, _, ⟨T165, L165, k165, n165⟩, -, X165, ⟨Lc165, hQ165, l165, y165, z165⟩, st165⟩ := Jvm.LawKit.callS X162 hx (y := (⟨"java/lang/Math", "max", "(II)I"⟩ : MethodName)) hown (mvT hZ (hw _ (List.mem_of_getElem? (i := 67) rfl))) (mvT hZ (hw _ (List.mem_of_getElem? (i := 68) rfl))) (mvT hZ (hw _ (List.mem_of_getElem? (i := 69) rfl))) (mvT hZ (hw _ (List.mem_of_getElem? (i := 70) rfl))) (by decide) (backOf (W := 1) (rmmxg l Z a0 hw [] hv x2  h151 n0 Z151 ) hZ (hw _ (List.mem_of_getElem? (i := 70) rfl)) (hw _ (List.mem_of_getElem? (i := 69) rfl)) (by decide) (by decide)) (g := (mkF m 128 #[.val (.ref x0), .val (.int x1), .val (.int x2), .val (.int r8)] [(.int x2), (.int hv), (.ref x0)])) rfl (by rw [hml]; rfl) (argsL := [(.int hv), (.int x2)]) (rest := [(.ref x0)]) (lenOf pdpg8_1 rfl) rfl (by show 2 * 0 + _ ≤ _; exact Nat.le_of_eq rfl) (hb hby dpg8_128) (fun _ _ => ⟨rfl, e162, (by decide : 0 + 0 ≤ _), (by decide : 0 + 0 ≤ _)⟩)
    dsimp only [Pt.U, Pt.locs, Pt.cells, Pt.slots] at X165 l165 y165 z165 st165 hQ165
    subst l165 y165 z165
    obtain ⟨q165, rfl, Nq165, e165, hq165⟩ := hQ165
    have N165 := Fr.app N151 Nq165
    have p166 : ∀ t, own_W p e below m T165 131 #[.val (.ref x0), .val (.int x1), .val (.int x2), .val (.int r8)] [(.int q165), (.ref x0)] t → Steps p.tables e below S0 t := fun t k => p164 t (st165 _ k)
    obtain ⟨T167, h167, X167, e167, W167, st167⟩ := putF X165 hx hZ hown (host := "") (Or.inl (hw _ (List.mem_of_getElem? (i := 25) rfl))) Via.refl e165 f157 f153 (Or.inl (hw _ (List.mem_of_getElem? (i := 26) rfl))) (hw _ (List.mem_of_getElem? (i := 2) rfl)) (ty := .int) (by decide) rfl rfl (g := (mkF m 131 #[.val (.ref x0), .val (.int x1), .val (.int x2), .val (.int r8)] [(.int q165), (.ref x0)])) rfl rfl (hb hby dpg8_131)
    have f168 := f157.same W167
    have f169 := f153.wr W167
    have f170 := f154.other W167 (Or.inr (slot_ne (Or.inl (hw _ (List.mem_of_getElem? (i := 28) rfl))) (Or.inl (hw _ (List.mem_of_getElem? (i := 26) rfl))) (by decide) (t := (.array .int)) (t' := .int) (by decide) (by decide)))
    have f171 := f155.other W167 (Or.inr (slot_ne (Or.inl (hw _ (List.mem_of_getElem? (i := 30) rfl))) (Or.inl (hw _ (List.mem_of_getElem? (i := 26) rfl))) (by decide) (t := (.array .int)) (t' := .int) (by decide) (by decide)))
    have f172 := f156.other W167 (Or.inr (slot_ne (Or.inl (hw _ (List.mem_of_getElem? (i := 62) rfl))) (Or.inl (hw _ (List.mem_of_getElem? (i := 26) rfl))) (by decide) (t := .int) (t' := .int) (by decide) (by decide)))
    have f173 := f158.other W167 (Ne.symm nx)
    have f174 := f159.other W167 (Or.inr (slot_ne (Or.inl (hw _ (List.mem_of_getElem? (i := 22) rfl))) (Or.inl (hw _ (List.mem_of_getElem? (i := 26) rfl))) (by decide) (t := .int) (t' := .int) (by decide) (by decide)))
    have f175 := f152.other W167 (Or.inr (slot_ne (Or.inl (hw _ (List.mem_of_getElem? (i := 24) rfl))) (Or.inl (hw _ (List.mem_of_getElem? (i := 26) rfl))) (by decide) (t := .int) (t' := .int) (by decide) (by decide)))
    have Z167 := Nat.le_trans Z151 (Keep.of_wr W167).1
    have N167 := Fr.snoc X167 N165 g0
    have KK167 := KK151.wr W167 (Or.inl (List.mem_cons_self ..))
    have p176 : ∀ t, own_W p e below m T167 134 #[.val (.ref x0), .val (.int x1), .val (.int x2), .val (.int r8)] [] t → Steps p.tables e below S0 t := fun t k => p166 t (st167 t k)
    subst hS0
    obtain ⟨fs, hr, hrun, hended, hW, hsame⟩ := X167.leave (v := none) (fun _ => rfl)
    refine ⟨_, _, p176 _ ?_, hrun, hended, _, _, rfl, ?_, ⟨_, rfl⟩, hW, hsame.mono (by decide) (by decide)⟩
    · show own_W p e below m T167 134 #[.val (.ref x0), .val (.int x1), .val (.int x2), .val (.int r8)] [] _
      exact X167.returnOut hx Bd.returns (hb hby dpg8_134) hr
    · show Qpg8 Z x0 x1 x2 tb kt sz hi lv hv vs h0 n0 _ T167.heap _
      rw [e167]
      exact ⟨rfl, N167, KK167, _, _, _, _, r8, _, f169, f170, f171, f172, f174, f175, f168, f173, hq127, hr8, fun q => absurd (Value.int.inj (hw'.symm.trans q)) hw57⟩
theorem dpg16_0 : decode prog_53_method_12_code 0 = .ok (.aload_n 0, 1) := by decide +kernel
theorem dpg16_1 : decode prog_53_method_12_code 1 = .ok (.getfield 30, 3) := by decide +kernel
theorem dpg16_4 : decode prog_53_method_12_code 4 = .ok (.ifnull 37, 3) := by decide +kernel
theorem dpg16_41 : decode prog_53_method_12_code 41 = .ok (.aload_n 0, 1) := by decide +kernel
theorem dpg16_42 : decode prog_53_method_12_code 42 = .ok (.getfield 26, 3) := by decide +kernel
theorem dpg16_45 : decode prog_53_method_12_code 45 = .ok (.iload_n 1, 1) := by decide +kernel
theorem dpg16_46 : decode prog_53_method_12_code 46 = .ok (.invokestatic 33, 3) := by decide +kernel
theorem dpg16_49 : decode prog_53_method_12_code 49 = .ok (.istore_n 3, 1) := by decide +kernel
theorem dpg16_50 : decode prog_53_method_12_code 50 = .ok (.aload_n 0, 1) := by decide +kernel
theorem dpg16_51 : decode prog_53_method_12_code 51 = .ok (.getfield 26, 3) := by decide +kernel
theorem dpg16_54 : decode prog_53_method_12_code 54 = .ok (.iload_n 3, 1) := by decide +kernel
theorem dpg16_55 : decode prog_53_method_12_code 55 = .ok (.iaload, 1) := by decide +kernel
theorem dpg16_56 : decode prog_53_method_12_code 56 = .ok (.iconst (-1), 1) := by decide +kernel
theorem dpg16_57 : decode prog_53_method_12_code 57 = .ok (.if_icmp .ne 20, 3) := by decide +kernel
theorem dpg16_60 : decode prog_53_method_12_code 60 = .ok (.aload_n 0, 1) := by decide +kernel
theorem dpg16_61 : decode prog_53_method_12_code 61 = .ok (.getfield 26, 3) := by decide +kernel
theorem dpg16_64 : decode prog_53_method_12_code 64 = .ok (.iload_n 3, 1) := by decide +kernel
theorem dpg16_65 : decode prog_53_method_12_code 65 = .ok (.iload_n 1, 1) := by decide +kernel
theorem dpg16_66 : decode prog_53_method_12_code 66 = .ok (.iastore, 1) := by decide +kernel
theorem dpg16_67 : decode prog_53_method_12_code 67 = .ok (.aload_n 0, 1) := by decide +kernel
theorem dpg16_68 : decode prog_53_method_12_code 68 = .ok (.dup, 1) := by decide +kernel
theorem dpg16_69 : decode prog_53_method_12_code 69 = .ok (.getfield 43, 3) := by decide +kernel
theorem dpg16_72 : decode prog_53_method_12_code 72 = .ok (.iconst 1, 1) := by decide +kernel
theorem dpg16_73 : decode prog_53_method_12_code 73 = .ok (.iadd, 1) := by decide +kernel
theorem dpg16_74 : decode prog_53_method_12_code 74 = .ok (.putfield 43, 3) := by decide +kernel
theorem dpg16_77 : decode prog_53_method_12_code 77 = .ok (.aload_n 0, 1) := by decide +kernel
theorem dpg16_78 : decode prog_53_method_12_code 78 = .ok (.getfield 26, 3) := by decide +kernel
theorem dpg16_81 : decode prog_53_method_12_code 81 = .ok (.iload_n 3, 1) := by decide +kernel
theorem dpg16_82 : decode prog_53_method_12_code 82 = .ok (.iconst 1, 1) := by decide +kernel
theorem dpg16_83 : decode prog_53_method_12_code 83 = .ok (.iadd, 1) := by decide +kernel
theorem dpg16_84 : decode prog_53_method_12_code 84 = .ok (.iload_n 2, 1) := by decide +kernel
theorem dpg16_85 : decode prog_53_method_12_code 85 = .ok (.iastore, 1) := by decide +kernel
theorem dpg16_86 : decode prog_53_method_12_code 86 = .ok (.aload_n 0, 1) := by decide +kernel
theorem dpg16_87 : decode prog_53_method_12_code 87 = .ok (.aload_n 0, 1) := by decide +kernel
theorem dpg16_88 : decode prog_53_method_12_code 88 = .ok (.getfield 16, 3) := by decide +kernel
theorem dpg16_91 : decode prog_53_method_12_code 91 = .ok (.iload_n 1, 1) := by decide +kernel
theorem dpg16_92 : decode prog_53_method_12_code 92 = .ok (.invokestatic 79, 3) := by decide +kernel
theorem dpg16_95 : decode prog_53_method_12_code 95 = .ok (.putfield 16, 3) := by decide +kernel
theorem dpg16_98 : decode prog_53_method_12_code 98 = .ok (.aload_n 0, 1) := by decide +kernel
theorem dpg16_99 : decode prog_53_method_12_code 99 = .ok (.aload_n 0, 1) := by decide +kernel
theorem dpg16_100 : decode prog_53_method_12_code 100 = .ok (.getfield 20, 3) := by decide +kernel
theorem dpg16_103 : decode prog_53_method_12_code 103 = .ok (.iconst (-1), 1) := by decide +kernel
theorem dpg16_104 : decode prog_53_method_12_code 104 = .ok (.if_icmp .ne 7, 3) := by decide +kernel
theorem dpg16_107 : decode prog_53_method_12_code 107 = .ok (.iload_n 2, 1) := by decide +kernel
theorem dpg16_108 : decode prog_53_method_12_code 108 = .ok (.goto 11, 3) := by decide +kernel
theorem dpg16_111 : decode prog_53_method_12_code 111 = .ok (.aload_n 0, 1) := by decide +kernel
theorem dpg16_112 : decode prog_53_method_12_code 112 = .ok (.getfield 20, 3) := by decide +kernel
theorem dpg16_115 : decode prog_53_method_12_code 115 = .ok (.iload_n 2, 1) := by decide +kernel
theorem dpg16_116 : decode prog_53_method_12_code 116 = .ok (.invokestatic 88, 3) := by decide +kernel
theorem dpg16_119 : decode prog_53_method_12_code 119 = .ok (.putfield 20, 3) := by decide +kernel
theorem dpg16_122 : decode prog_53_method_12_code 122 = .ok (.aload_n 0, 1) := by decide +kernel
theorem dpg16_123 : decode prog_53_method_12_code 123 = .ok (.aload_n 0, 1) := by decide +kernel
theorem dpg16_124 : decode prog_53_method_12_code 124 = .ok (.getfield 23, 3) := by decide +kernel
theorem dpg16_127 : decode prog_53_method_12_code 127 = .ok (.iload_n 2, 1) := by decide +kernel
theorem dpg16_128 : decode prog_53_method_12_code 128 = .ok (.invokestatic 79, 3) := by decide +kernel
theorem dpg16_131 : decode prog_53_method_12_code 131 = .ok (.putfield 23, 3) := by decide +kernel
theorem dpg16_134 : decode prog_53_method_12_code 134 = .ok (.return_, 1) := by decide +kernel
theorem pnpg16 : plainName "com/example/kinwarden/kinwarden/IntMap" = true := by first | (simp [plainName, overriddenIn]; done) | decide +kernel
theorem pdpg16_0 : parseMethodDescriptor "([II)I" = some ⟨[(.array .int), .int], some .int⟩ := by decide +kernel
theorem pdpg16_1 : parseMethodDescriptor "(II)I" = some ⟨[.int, .int], some .int⟩ := by decide +kernel
theorem efpg16 (m : MethodId) (x0 : Addr) (x1 : Int32) (x2 : Int32) : entryFrame m #[(.ref x0), (.int x1), (.int x2)] 4 = mkF m 0 #[.val (.ref x0), .val (.int x1), .val (.int x2), .unset] [] := by first | (simp [entryFrame, mkF, argsToLocals, Value.category]; done) | rfl
def Qpg16 (Z : State) (x0 : Addr) (x1 : Int32) (x2 : Int32) (tb : Addr) (kt : ClassId) (sz : Int32) (hi : Int32) (lv : Int32) (hv : Int32) (vs : List Value) (h0 : Heap) (n0 : Nat) (v : Option Value) (h : Heap) (L : List Loc) : Prop := v = none ∧ Fr n0 L ∧ Keep h0 h [x0, tb] ∧ ∃ (sz' hi' lv' hv' : Int32) (vs' : List Value), Exa Z h x0 "com/example/kinwarden/kinwarden/IntMap" ∧ Fld Z h x0 "com/example/kinwarden/kinwarden/IntMap" "table" "[I" (.ref tb) ∧ Fld Z h x0 "com/example/kinwarden/kinwarden/IntMap" "byKey" "[I" .null ∧ Fld Z h x0 "com/example/kinwarden/kinwarden/IntMap" "size" "I" (.int sz') ∧ Fld Z h x0 "com/example/kinwarden/kinwarden/IntMap" "highest" "I" (.int hi') ∧ Fld Z h x0 "com/example/kinwarden/kinwarden/IntMap" "lowestValue" "I" (.int lv') ∧ Fld Z h x0 "com/example/kinwarden/kinwarden/IntMap" "highestValue" "I" (.int hv') ∧ Arv Z h tb kt .int (32 : Int32) vs' (.int (0 : Int32))
set_option maxRecDepth 65536 in
set_option maxHeartbeats 40000000 in
theorem rmpg16 (l : Launch) (Z : State) (a0 : Array Value) (hw : ∀ d ∈ tables_1, d.before a0 Z = true) (ws : List Jvm.Cond) (x0 : Addr) (x1 : Int32) (x2 : Int32) (tb : Addr) (kt : ClassId) (sz : Int32) (hi : Int32) (lv : Int32) (hv : Int32) (vs : List Value) (h0 : Heap) (n0 : Nat) (Z0 : n0 ≤ h0.size) (E0 : Exa Z h0 x0 "com/example/kinwarden/kinwarden/IntMap") (Ft : Fld Z h0 x0 "com/example/kinwarden/kinwarden/IntMap" "table" "[I" (.ref tb)) (Fb : Fld Z h0 x0 "com/example/kinwarden/kinwarden/IntMap" "byKey" "[I" .null) (Fs : Fld Z h0 x0 "com/example/kinwarden/kinwarden/IntMap" "size" "I" (.int sz)) (Fh : Fld Z h0 x0 "com/example/kinwarden/kinwarden/IntMap" "highest" "I" (.int hi)) (Fl : Fld Z h0 x0 "com/example/kinwarden/kinwarden/IntMap" "lowestValue" "I" (.int lv)) (Fv : Fld Z h0 x0 "com/example/kinwarden/kinwarden/IntMap" "highestValue" "I" (.int hv)) (V0 : Arv Z h0 tb kt .int (32 : Int32) vs (.int (0 : Int32))) (g0 : n0 ≤ x0) (gt : n0 ≤ tb) (nx : x0 ≠ tb) :
    MetFree l (⟨"com/example/kinwarden/kinwarden/IntMap", "putInRoom", "(II)V"⟩ : MethodName) (head1 (Jvm.Cond.code (⟨"com/example/kinwarden/kinwarden/IntMap", "putInRoom", "(II)V"⟩ : MethodName) prog_53_method_12_code 4 none :: ws) ({ frames := 2, cells := 0, slots := 0, locals := 30 } : Room)) (fun a U => a = #[(.ref x0), (.int x1), (.int x2)] ∧ Z.Warmed39 U.vm ∧ U.heap = h0) (fun _ _ _ _ _ => True) (fun _ U o U' => ∃ v L, o = .returned v ∧ Qpg16 Z x0 x1 x2 tb kt sz hi lv hv vs h0 n0 v U'.heap L ∧ FrameEnd U o U' L ({ frames := 2, cells := 0, slots := 0, locals := 30 } : Room).cells ({ frames := 2, cells := 0, slots := 0, locals := 30 } : Room).slots) := by
  refine MetFree.of_bodySF (plainFor_of_name pnpg16) hisR ?_
  intro p e s m args below meth c s₁ Bd hml0 hP hK
  obtain ⟨rfl, hZ, hh⟩ := hP
  have hx := Bd.exec
  have hby := Bd.bytes
  have hml : c.maxLocals = 4 := hml0
  have hown : s.vm.findClass "com/example/kinwarden/kinwarden/IntMap" = some m.cls := findClass_of_methodNamed Bd.named
  have hnm := (name_of_methodNamed Bd.named Bd.method).1
  have X0 : Stand p l e ({ frames := 2, cells := 0, slots := 0, locals := 30 } : Room) s m #[(.ref x0), (.int x1), (.int x2)] below meth c s₁ [] 0 0 := Stand.of_body Bd
  have e0 : s₁.heap = h0 := by rw [← hh, Bd.state]; rfl
  have N0 := Fr.nil n0
  have pre0 : ∀ t, Steps p.tables e below (s₁.setTop (mkF m 0 #[.val (.ref x0), .val (.int x1), .val (.int x2), .unset] [])) t → Steps p.tables e below (s₁.setTop (entryFrame m #[(.ref x0), (.int x1), (.int x2)] 4)) t := fun t k => castTop (efpg16 m x0 x1 x2) k
  obtain ⟨S0, hS0⟩ : ∃ z, z = (s₁.setTop (entryFrame m #[(.ref x0), (.int x1), (.int x2)] 4)) := ⟨_, rfl⟩
  rw [← hS0] at pre0
  have K0 := Keep.refl h0 [x0, tb]
  obtain ⟨us, hus, VU⟩ := own_norm V0
  have p1 : ∀ t, own_W p e below m s₁ 1 #[.val (.ref x0), .val (.int x1), .val (.int x2), .unset] [(.ref x0)] t → Steps p.tables e below S0 t := fun t k => pre0 t (by
    show own_W p e below m s₁ 0 #[.val (.ref x0), .val (.int x1), .val (.int x2), .unset] [] _
    refine XS.aloadN X0.here hx rfl (hb hby dpg16_0) rfl rfl ?_
    exact k)
  obtain ⟨T2, X2, e2, st2⟩ := getF X0 hx hZ hown (host := "") (Or.inl (hw _ (List.mem_of_getElem? (i := 29) rfl))) Via.refl e0 Fb (g := (mkF m 1 #[.val (.ref x0), .val (.int x1), .val (.int x2), .unset] [(.ref x0)])) rfl rfl (hb hby dpg16_1)
  have p3 : ∀ t, own_W p e below m T2 4 #[.val (.ref x0), .val (.int x1), .val (.int x2), .unset] [.null] t → Steps p.tables e below S0 t := fun t k => p1 t (st2 t k)
  have p4 : ∀ t, own_W p e below m T2 42 #[.val (.ref x0), .val (.int x1), .val (.int x2), .unset] [(.ref x0)] t → Steps p.tables e below S0 t := fun t k => p3 t (by
    show own_W p e below m T2 4 #[.val (.ref x0), .val (.int x1), .val (.int x2), .unset] [.null] _
    refine XS.ifnullYes X2.here hx rfl (pc0 := 4) (pc' := 41) rfl (hb hby dpg16_4) rfl (by decide) (by decide) ?_
    refine XS.aloadN X2.here hx rfl (hb hby dpg16_41) rfl rfl ?_
    exact k)
  obtain ⟨T5, X5, e5, st5⟩ := getF X2 hx hZ hown (host := "") (Or.inl (hw _ (List.mem_of_getElem? (i := 27) rfl))) Via.refl e2 Ft (g := (mkF m 42 #[.val (.ref x0), .val (.int x1), .val (.int x2), .unset] [(.ref x0)])) rfl rfl (hb hby dpg16_42)
  have p6 : ∀ t, own_W p e below m T5 45 #[.val (.ref x0), .val (.int x1), .val (.int x2), .unset] [(.ref tb)] t → Steps p.tables e below S0 t := fun t k => p4 t (st5 t k)
  have p7 : ∀ t, own_W p e below m T5 46 #[.val (.ref x0), .val (.int x1), .val (.int x2), .unset] [(.int x1), (.ref tb)] t → Steps p.tables e below S0 t := fun t k => p6 t (by
    show own_W p e below m T5 45 #[.val (.ref x0), .val (.int x1), .val (.int x2), .unset] [(.ref tb)] _
    refine XS.iloadN X5.here hx rfl (hb hby dpg16_45) rfl ?_
    exact k)
  obtain ⟨_, _, ⟨T8, L8, k8, n8⟩, -, X8, ⟨Lc8, hQ8, l8, y8, z8⟩, st8⟩ := Jvm.LawKit.callS X5 hx (y := (⟨"com/example/kinwarden/kinwarden/IntMap", "slot", "([II)I"⟩ : MethodName)) hown (mvT hZ (hw _ (List.mem_of_getElem? (i := 52) rfl))) (mvT hZ (hw _ (List.mem_of_getElem? (i := 53) rfl))) (mvT hZ (hw _ (List.mem_of_getElem? (i := 3) rfl))) (mvT hZ (hw _ (List.mem_of_getElem? (i := 54) rfl))) (by decide) (backOf (W := 0) (rmsg16 l Z a0 hw [] tb x1 kt us h0 n0 Z0 VU) hZ (hw _ (List.mem_of_getElem? (i := 54) rfl)) (hw _ (List.mem_of_getElem? (i := 3) rfl)) (by decide) (by decide)) (g := (mkF m 46 #[.val (.ref x0), .val (.int x1), .val (.int x2), .unset] [(.int x1), (.ref tb)])) rfl (by rw [hml]; rfl) (argsL := [(.ref tb), (.int x1)]) (rest := []) (lenOf pdpg16_0 rfl) rfl (by show 2 * 0 + _ ≤ _; exact Nat.le_of_eq rfl) (hb hby dpg16_46) (fun _ _ => ⟨rfl, e5, (by decide : 0 + 0 ≤ _), (by decide : 0 + 0 ≤ _)⟩)
  dsimp only [Pt.U, Pt.locs, Pt.cells, Pt.slots] at X8 l8 y8 z8 st8 hQ8
  subst l8 y8 z8
  obtain ⟨r8, rfl, Nq8, e8, hr8⟩ := hQ8
  have N8 := Fr.app N0 Nq8
  have p9 : ∀ t, own_W p e below m T8 49 #[.val (.ref x0), .val (.int x1), .val (.int x2), .unset] [(.int r8)] t → Steps p.tables e below S0 t := fun t k => p7 t (st8 _ k)
  obtain ⟨rr, rs⟩ := own_sl16 hr8
  have p10 : ∀ t, own_W p e below m T8 51 #[.val (.ref x0), .val (.int x1), .val (.int x2), .val (.int r8)] [(.ref x0)] t → Steps p.tables e below S0 t := fun t k => p9 t (by
    show own_W p e below m T8 49 #[.val (.ref x0), .val (.int x1), .val (.int x2), .unset] [(.int r8)] _
    refine XS.istoreN X8.here hx rfl (hb hby dpg16_49) rfl (l' := #[.val (.ref x0), .val (.int x1), .val (.int x2), .val (.int r8)]) rfl ?_
    refine XS.aloadN X8.here hx rfl (hb hby dpg16_50) rfl rfl ?_
    exact k)
  obtain ⟨T11, X11, e11, st11⟩ := getF X8 hx hZ hown (host := "") (Or.inl (hw _ (List.mem_of_getElem? (i := 27) rfl))) Via.refl e8 Ft (g := (mkF m 51 #[.val (.ref x0), .val (.int x1), .val (.int x2), .val (.int r8)] [(.ref x0)])) rfl rfl (hb hby dpg16_51)
  have p12 : ∀ t, own_W p e below m T11 54 #[.val (.ref x0), .val (.int x1), .val (.int x2), .val (.int r8)] [(.ref tb)] t → Steps p.tables e below S0 t := fun t k => p10 t (st11 t k)
  have p13 : ∀ t, own_W p e below m T11 55 #[.val (.ref x0), .val (.int x1), .val (.int x2), .val (.int r8)] [(.int r8), (.ref tb)] t → Steps p.tables e below S0 t := fun t k => p12 t (by
    show own_W p e below m T11 54 #[.val (.ref x0), .val (.int x1), .val (.int x2), .val (.int r8)] [(.ref tb)] _
    refine XS.iloadN X11.here hx rfl (hb hby dpg16_54) rfl ?_
    exact k)
  obtain ⟨w, hw'⟩ := own_get VU rr
  obtain ⟨cl14, Ar14, q14, Sz14, Ng14, Hs14, G14⟩ := id VU
  have hin14 : ¬ (r8 < 0 ∨ cl14.slots.size ≤ (r8).toNatClampNeg) := inb_of Sz14 rr
  have hat14 : cl14.slots[(r8).toNatClampNeg]? = some (.int w) := Hs14.at hin14 (hw')
  have p15 : ∀ t, own_W p e below m T11 57 #[.val (.ref x0), .val (.int x1), .val (.int x2), .val (.int r8)] [(.int (-1 : Int32)), (.int w)] t → Steps p.tables e below S0 t := fun t k => p13 t (by
    show own_W p e below m T11 55 #[.val (.ref x0), .val (.int x1), .val (.int x2), .val (.int r8)] [(.int r8), (.ref tb)] _
    refine X11.iaload hx (j := r8) (v := (.int w)) (by rw [e11]; exact Ar14.1) (State.isArrayOf_alike hZ.alike Ar14.2.1) Ar14.2.2 hin14 hat14 (g := (mkF m 55 #[.val (.ref x0), .val (.int x1), .val (.int x2), .val (.int r8)] [(.int r8), (.ref tb)])) rfl rfl (hb hby dpg16_55) _ ?_
    refine XS.iconst X11.here hx rfl (hb hby dpg16_56) ?_
    exact k)
  by_cases hw57 : w = (-1 : Int32)
  · have p16 : ∀ t, own_W p e below m T11 61 #[.val (.ref x0), .val (.int x1), .val (.int x2), .val (.int r8)] [(.ref x0)] t → Steps p.tables e below S0 t := fun t k => p15 t (by
      show own_W p e below m T11 57 #[.val (.ref x0), .val (.int x1), .val (.int x2), .val (.int r8)] [(.int (-1 : Int32)), (.int w)] _
      refine XS.icmpNo X11.here hx rfl (hb hby dpg16_57) rfl ((teq (hw57)).2) ?_
      refine XS.aloadN X11.here hx rfl (hb hby dpg16_60) rfl rfl ?_
      exact k)
    obtain ⟨T17, X17, e17, st17⟩ := getF X11 hx hZ hown (host := "") (Or.inl (hw _ (List.mem_of_getElem? (i := 27) rfl))) Via.refl e11 Ft (g := (mkF m 61 #[.val (.ref x0), .val (.int x1), .val (.int x2), .val (.int r8)] [(.ref x0)])) rfl rfl (hb hby dpg16_61)
    have p18 : ∀ t, own_W p e below m T17 64 #[.val (.ref x0), .val (.int x1), .val (.int x2), .val (.int r8)] [(.ref tb)] t → Steps p.tables e below S0 t := fun t k => p16 t (st17 t k)
    have p19 : ∀ t, own_W p e below m T17 66 #[.val (.ref x0), .val (.int x1), .val (.int x2), .val (.int r8)] [(.int x1), (.int r8), (.ref tb)] t → Steps p.tables e below S0 t := fun t k => p18 t (by
      show own_W p e below m T17 64 #[.val (.ref x0), .val (.int x1), .val (.int x2), .val (.int r8)] [(.ref tb)] _
      refine XS.iloadN X17.here hx rfl (hb hby dpg16_64) rfl ?_
      refine XS.iloadN X17.here hx rfl (hb hby dpg16_65) rfl ?_
      exact k)
    obtain ⟨cl20, Ar20, q20, Sz20, Ng20, Hs20, G20⟩ := id VU
    have hin20 : ¬ (r8 < 0 ∨ cl20.slots.size ≤ (r8).toNatClampNeg) := inb_of Sz20 (rr)
    obtain ⟨T20, h20, X20, e20, W20, st20⟩ := stI X17 hx hZ e17 Ar20 (j := r8) hin20 (g := (mkF m 66 #[.val (.ref x0), .val (.int x1), .val (.int x2), .val (.int r8)] [(.int x1), (.int r8), (.ref tb)])) rfl rfl (hb hby dpg16_66)
    have VV20 : Arv Z h20 tb kt .int (32 : Int32) (us.set (r8.toNatClampNeg) (.int x1)) (.int (0 : Int32)) := Arv.set Ar20 q20 Sz20 Ng20 Hs20 G20 rfl W20 (r8.toNatClampNeg) (rfl) (own_ltl rr hus)
    have f21 := E0.wr W20
    have f22 := Ft.other W20 (Or.inl nx)
    have f23 := Fb.other W20 (Or.inl nx)
    have f24 := Fs.other W20 (Or.inl nx)
    have f25 := Fh.other W20 (Or.inl nx)
    have f26 := Fl.other W20 (Or.inl nx)
    have f27 := Fv.other W20 (Or.inl nx)
    have Z20 := Nat.le_trans Z0 (Keep.of_wr W20).1
    have N20 := Fr.snoc X20 N8 gt
    have KK20 := K0.wr W20 (Or.inl (List.mem_cons_of_mem _ (List.mem_singleton.mpr rfl)))
    have p28 : ∀ t, own_W p e below m T20 67 #[.val (.ref x0), .val (.int x1), .val (.int x2), .val (.int r8)] [] t → Steps p.tables e below S0 t := fun t k => p19 t (st20 t k)
    have p29 : ∀ t, own_W p e below m T20 69 #[.val (.ref x0), .val (.int x1), .val (.int x2), .val (.int r8)] [(.ref x0), (.ref x0)] t → Steps p.tables e below S0 t := fun t k => p28 t (by
      show own_W p e below m T20 67 #[.val (.ref x0), .val (.int x1), .val (.int x2), .val (.int r8)] [] _
      refine XS.aloadN X20.here hx rfl (hb hby dpg16_67) rfl rfl ?_
      refine XS.dup X20.here hx rfl (hb hby dpg16_68) rfl rfl ?_
      exact k)
    obtain ⟨T30, X30, e30, st30⟩ := getF X20 hx hZ hown (host := "") (Or.inl (hw _ (List.mem_of_getElem? (i := 61) rfl))) Via.refl e20 f24 (g := (mkF m 69 #[.val (.ref x0), .val (.int x1), .val (.int x2), .val (.int r8)] [(.ref x0), (.ref x0)])) rfl rfl (hb hby dpg16_69)
    have p31 : ∀ t, own_W p e below m T30 72 #[.val (.ref x0), .val (.int x1), .val (.int x2), .val (.int r8)] [(.int sz), (.ref x0)] t → Steps p.tables e below S0 t := fun t k => p29 t (st30 t k)
    have p32 : ∀ t, own_W p e below m T30 74 #[.val (.ref x0), .val (.int x1), .val (.int x2), .val (.int r8)] [(.int (sz + (1 : Int32))), (.ref x0)] t → Steps p.tables e below S0 t := fun t k => p31 t (by
      show own_W p e below m T30 72 #[.val (.ref x0), .val (.int x1), .val (.int x2), .val (.int r8)] [(.int sz), (.ref x0)] _
      refine XS.iconst X30.here hx rfl (hb hby dpg16_72) ?_
      refine XS.iadd X30.here hx rfl (hb hby dpg16_73) rfl ?_
      exact k)
    obtain ⟨T33, h33, X33, e33, W33, st33⟩ := putF X30 hx hZ hown (host := "") (Or.inl (hw _ (List.mem_of_getElem? (i := 61) rfl))) Via.refl e30 f24 f21 (Or.inl (hw _ (List.mem_of_getElem? (i := 62) rfl))) (hw _ (List.mem_of_getElem? (i := 2) rfl)) (ty := .int) (by decide) rfl rfl (g := (mkF m 74 #[.val (.ref x0), .val (.int x1), .val (.int x2), .val (.int r8)] [(.int (sz + (1 : Int32))), (.ref x0)])) rfl rfl (hb hby dpg16_74)
    have f34 := f24.same W33
    have f35 := f21.wr W33
    have f36 := f22.other W33 (Or.inr (slot_ne (Or.inl (hw _ (List.mem_of_getElem? (i := 28) rfl))) (Or.inl (hw _ (List.mem_of_getElem? (i := 62) rfl))) (by decide) (t := (.array .int)) (t' := .int) (by decide) (by decide)))
    have f37 := f23.other W33 (Or.inr (slot_ne (Or.inl (hw _ (List.mem_of_getElem? (i := 30) rfl))) (Or.inl (hw _ (List.mem_of_getElem? (i := 62) rfl))) (by decide) (t := (.array .int)) (t' := .int) (by decide) (by decide)))
    have f38 := f25.other W33 (Or.inr (slot_ne (Or.inl (hw _ (List.mem_of_getElem? (i := 22) rfl))) (Or.inl (hw _ (List.mem_of_getElem? (i := 62) rfl))) (by decide) (t := .int) (t' := .int) (by decide) (by decide)))
    have f39 := f26.other W33 (Or.inr (slot_ne (Or.inl (hw _ (List.mem_of_getElem? (i := 24) rfl))) (Or.inl (hw _ (List.mem_of_getElem? (i := 62) rfl))) (by decide) (t := .int) (t' := .int) (by decide) (by decide)))
    have f40 := f27.other W33 (Or.inr (slot_ne (Or.inl (hw _ (List.mem_of_getElem? (i := 26) rfl))) (Or.inl (hw _ (List.mem_of_getElem? (i := 62) rfl))) (by decide) (t := .int) (t' := .int) (by decide) (by decide)))
    have f41 := VV20.other W33 (Ne.symm nx)
    have Z33 := Nat.le_trans Z20 (Keep.of_wr W33).1
    have N33 := Fr.snoc X33 N20 g0
    have KK33 := KK20.wr W33 (Or.inl (List.mem_cons_self ..))
    have p42 : ∀ t, own_W p e below m T33 77 #[.val (.ref x0), .val (.int x1), .val (.int x2), .val (.int r8)] [] t → Steps p.tables e below S0 t := fun t k => p32 t (st33 t k)
    have p43 : ∀ t, own_W p e below m T33 78 #[.val (.ref x0), .val (.int x1), .val (.int x2), .val (.int r8)] [(.ref x0)] t → Steps p.tables e below S0 t := fun t k => p42 t (by
      show own_W p e below m T33 77 #[.val (.ref x0), .val (.int x1), .val (.int x2), .val (.int r8)] [] _
      refine XS.aloadN X33.here hx rfl (hb hby dpg16_77) rfl rfl ?_
      exact k)
    obtain ⟨T44, X44, e44, st44⟩ := getF X33 hx hZ hown (host := "") (Or.inl (hw _ (List.mem_of_getElem? (i := 27) rfl))) Via.refl e33 f36 (g := (mkF m 78 #[.val (.ref x0), .val (.int x1), .val (.int x2), .val (.int r8)] [(.ref x0)])) rfl rfl (hb hby dpg16_78)
    have p45 : ∀ t, own_W p e below m T44 81 #[.val (.ref x0), .val (.int x1), .val (.int x2), .val (.int r8)] [(.ref tb)] t → Steps p.tables e below S0 t := fun t k => p43 t (st44 t k)
    have p46 : ∀ t, own_W p e below m T44 85 #[.val (.ref x0), .val (.int x1), .val (.int x2), .val (.int r8)] [(.int x2), (.int (r8 + (1 : Int32))), (.ref tb)] t → Steps p.tables e below S0 t := fun t k => p45 t (by
      show own_W p e below m T44 81 #[.val (.ref x0), .val (.int x1), .val (.int x2), .val (.int r8)] [(.ref tb)] _
      refine XS.iloadN X44.here hx rfl (hb hby dpg16_81) rfl ?_
      refine XS.iconst X44.here hx rfl (hb hby dpg16_82) ?_
      refine XS.iadd X44.here hx rfl (hb hby dpg16_83) rfl ?_
      refine XS.iloadN X44.here hx rfl (hb hby dpg16_84) rfl ?_
      exact k)
    obtain ⟨cl47, Ar47, q47, Sz47, Ng47, Hs47, G47⟩ := id f41
    have hin47 : ¬ ((r8 + (1 : Int32)) < 0 ∨ cl47.slots.size ≤ ((r8 + (1 : Int32))).toNatClampNeg) := inb_of Sz47 (rs)
    obtain ⟨T47, h47, X47, e47, W47, st47⟩ := stI X44 hx hZ e44 Ar47 (j := (r8 + (1 : Int32))) hin47 (g := (mkF m 85 #[.val (.ref x0), .val (.int x1), .val (.int x2), .val (.int r8)] [(.int x2), (.int (r8 + (1 : Int32))), (.ref tb)])) rfl rfl (hb hby dpg16_85)
    have VV47 : Arv Z h47 tb kt .int (32 : Int32) ((us.set (r8.toNatClampNeg) (.int x1)).set ((r8 + (1 : Int32)).toNatClampNeg) (.int x2)) (.int (0 : Int32)) := Arv.set Ar47 q47 Sz47 Ng47 Hs47 G47 rfl W47 ((r8 + (1 : Int32)).toNatClampNeg) (rfl) (own_ltl rs (by first | (simp only [List.length_set]; exact hus) | exact hus))
    have f48 := f35.wr W47
    have f49 := f36.other W47 (Or.inl nx)
    have f50 := f37.other W47 (Or.inl nx)
    have f51 := f38.other W47 (Or.inl nx)
    have f52 := f39.other W47 (Or.inl nx)
    have f53 := f40.other W47 (Or.inl nx)
    have f54 := f34.other W47 (Or.inl nx)
    have Z47 := Nat.le_trans Z33 (Keep.of_wr W47).1
    have N47 := Fr.snoc X47 N33 gt
    have KK47 := KK33.wr W47 (Or.inl (List.mem_cons_of_mem _ (List.mem_singleton.mpr rfl)))
    have p55 : ∀ t, own_W p e below m T47 86 #[.val (.ref x0), .val (.int x1), .val (.int x2), .val (.int r8)] [] t → Steps p.tables e below S0 t := fun t k => p46 t (st47 t k)
    have p56 : ∀ t, own_W p e below m T47 88 #[.val (.ref x0), .val (.int x1), .val (.int x2), .val (.int r8)] [(.ref x0), (.ref x0)] t → Steps p.tables e below S0 t := fun t k => p55 t (by
      show own_W p e below m T47 86 #[.val (.ref x0), .val (.int x1), .val (.int x2), .val (.int r8)] [] _
      refine XS.aloadN X47.here hx rfl (hb hby dpg16_86) rfl rfl ?_
      refine XS.aloadN X47.here hx rfl (hb hby dpg16_87) rfl rfl ?_
      exact k)
    obtain ⟨T57, X57, e57, st57⟩ := getF X47 hx hZ hown (host := "") (Or.inl (hw _ (List.mem_of_getElem? (i := 21) rfl))) Via.refl e47 f51 (g := (mkF m 88 #[.val (.ref x0), .val (.int x1), .val (.int x2), .val (.int r8)] [(.ref x0), (.ref x0)])) rfl rfl (hb hby dpg16_88)
    have p58 : ∀ t, own_W p e below m T57 91 #[.val (.ref x0), .val (.int x1), .val (.int x2), .val (.int r8)] [(.int hi), (.ref x0)] t → Steps p.tables e below S0 t := fun t k => p56 t (st57 t k)
    have p59 : ∀ t, own_W p e below m T57 92 #[.val (.ref x0), .val (.int x1), .val (.int x2), .val (.int r8)] [(.int x1), (.int hi), (.ref x0)] t → Steps p.tables e below S0 t := fun t k => p58 t (by
      show own_W p e below m T57 91 #[.val (.ref x0), .val (.int x1), .val (.int x2), .val (.int r8)] [(.int hi), (.ref x0)] _
      refine XS.iloadN X57.here hx rfl (hb hby dpg16_91) rfl ?_
      exact k)
    obtain ⟨_, _, ⟨T60, L60, k60, n60⟩, -, X60, ⟨Lc60, hQ60, l60, y60, z60⟩, st60⟩ := Jvm.LawKit.callS X57 hx (y := (⟨"java/lang/Math", "max", "(II)I"⟩ : MethodName)) hown (mvT hZ (hw _ (List.mem_of_getElem? (i := 67) rfl))) (mvT hZ (hw _ (List.mem_of_getElem? (i := 68) rfl))) (mvT hZ (hw _ (List.mem_of_getElem? (i := 69) rfl))) (mvT hZ (hw _ (List.mem_of_getElem? (i := 70) rfl))) (by decide) (backOf (W := 1) (rmmxg l Z a0 hw [] hi x1  h47 n0 Z47 ) hZ (hw _ (List.mem_of_getElem? (i := 70) rfl)) (hw _ (List.mem_of_getElem? (i := 69) rfl)) (by decide) (by decide)) (g := (mkF m 92 #[.val (.ref x0), .val (.int x1), .val (.int x2), .val (.int r8)] [(.int x1), (.int hi), (.ref x0)])) rfl (by rw [hml]; rfl) (argsL := [(.int hi), (.int x1)]) (rest := [(.ref x0)]) (lenOf pdpg16_1 rfl) rfl (by show 2 * 0 + _ ≤ _; exact Nat.le_of_eq rfl) (hb hby dpg16_92) (fun _ _ => ⟨rfl, e57, (by decide : 0 + 0 ≤ _), (by decide : 0 + 0 ≤ _)⟩)
    dsimp only [Pt.U, Pt.locs, Pt.cells, Pt.slots] at X60 l60 y60 z60 st60 hQ60
    subst l60 y60 z60
    obtain ⟨q60, rfl, Nq60, e60, hq60⟩ := hQ60
    have N60 := Fr.app N47 Nq60
    have p61 : ∀ t, own_W p e below m T60 95 #[.val (.ref x0), .val (.int x1), .val (.int x2), .val (.int r8)] [(.int q60), (.ref x0)] t → Steps p.tables e below S0 t := fun t k => p59 t (st60 _ k)
    obtain ⟨T62, h62, X62, e62, W62, st62⟩ := putF X60 hx hZ hown (host := "") (Or.inl (hw _ (List.mem_of_getElem? (i := 21) rfl))) Via.refl e60 f51 f48 (Or.inl (hw _ (List.mem_of_getElem? (i := 22) rfl))) (hw _ (List.mem_of_getElem? (i := 2) rfl)) (ty := .int) (by decide) rfl rfl (g := (mkF m 95 #[.val (.ref x0), .val (.int x1), .val (.int x2), .val (.int r8)] [(.int q60), (.ref x0)])) rfl rfl (hb hby dpg16_95)
    have f63 := f51.same W62
    have f64 := f48.wr W62
    have f65 := f49.other W62 (Or.inr (slot_ne (Or.inl (hw _ (List.mem_of_getElem? (i := 28) rfl))) (Or.inl (hw _ (List.mem_of_getElem? (i := 22) rfl))) (by decide) (t := (.array .int)) (t' := .int) (by decide) (by decide)))
    have f66 := f50.other W62 (Or.inr (slot_ne (Or.inl (hw _ (List.mem_of_getElem? (i := 30) rfl))) (Or.inl (hw _ (List.mem_of_getElem? (i := 22) rfl))) (by decide) (t := (.array .int)) (t' := .int) (by decide) (by decide)))
    have f67 := f52.other W62 (Or.inr (slot_ne (Or.inl (hw _ (List.mem_of_getElem? (i := 24) rfl))) (Or.inl (hw _ (List.mem_of_getElem? (i := 22) rfl))) (by decide) (t := .int) (t' := .int) (by decide) (by decide)))
    have f68 := f53.other W62 (Or.inr (slot_ne (Or.inl (hw _ (List.mem_of_getElem? (i := 26) rfl))) (Or.inl (hw _ (List.mem_of_getElem? (i := 22) rfl))) (by decide) (t := .int) (t' := .int) (by decide) (by decide)))
    have f69 := f54.other W62 (Or.inr (slot_ne (Or.inl (hw _ (List.mem_of_getElem? (i := 62) rfl))) (Or.inl (hw _ (List.mem_of_getElem? (i := 22) rfl))) (by decide) (t := .int) (t' := .int) (by decide) (by decide)))
    have f70 := VV47.other W62 (Ne.symm nx)
    have Z62 := Nat.le_trans Z47 (Keep.of_wr W62).1
    have N62 := Fr.snoc X62 N60 g0
    have KK62 := KK47.wr W62 (Or.inl (List.mem_cons_self ..))
    have p71 : ∀ t, own_W p e below m T62 98 #[.val (.ref x0), .val (.int x1), .val (.int x2), .val (.int r8)] [] t → Steps p.tables e below S0 t := fun t k => p61 t (st62 t k)
    obtain ⟨lvn, T72, Lj72, X72, e72, N72, hj72, p72⟩ : ∃ (lvn : Int32) (T' : State) (Lj : List Loc), Stand p l e ({ frames := 2, cells := 0, slots := 0, locals := 30 } : Room) s m #[(.ref x0), (.int x1), (.int x2)] below meth c T' Lj 0 0 ∧ T'.heap = h62 ∧ Fr n0 Lj ∧ (True) ∧ ∀ t, Steps p.tables e below (T'.setTop (mkF m 119 #[.val (.ref x0), .val (.int x1), .val (.int x2), .val (.int r8)] [(.int lvn), (.ref x0)])) t → Steps p.tables e below S0 t := by
      have p73 : ∀ t, own_W p e below m T62 100 #[.val (.ref x0), .val (.int x1), .val (.int x2), .val (.int r8)] [(.ref x0), (.ref x0)] t → Steps p.tables e below S0 t := fun t k => p71 t (by
        show own_W p e below m T62 98 #[.val (.ref x0), .val (.int x1), .val (.int x2), .val (.int r8)] [] _
        refine XS.aloadN X62.here hx rfl (hb hby dpg16_98) rfl rfl ?_
        refine XS.aloadN X62.here hx rfl (hb hby dpg16_99) rfl rfl ?_
        exact k)
      obtain ⟨T74, X74, e74, st74⟩ := getF X62 hx hZ hown (host := "") (Or.inl (hw _ (List.mem_of_getElem? (i := 23) rfl))) Via.refl e62 f67 (g := (mkF m 100 #[.val (.ref x0), .val (.int x1), .val (.int x2), .val (.int r8)] [(.ref x0), (.ref x0)])) rfl rfl (hb hby dpg16_100)
      have p75 : ∀ t, own_W p e below m T74 103 #[.val (.ref x0), .val (.int x1), .val (.int x2), .val (.int r8)] [(.int lv), (.ref x0)] t → Steps p.tables e below S0 t := fun t k => p73 t (st74 t k)
      have p76 : ∀ t, own_W p e below m T74 104 #[.val (.ref x0), .val (.int x1), .val (.int x2), .val (.int r8)] [(.int (-1 : Int32)), (.int lv), (.ref x0)] t → Steps p.tables e below S0 t := fun t k => p75 t (by
        show own_W p e below m T74 103 #[.val (.ref x0), .val (.int x1), .val (.int x2), .val (.int r8)] [(.int lv), (.ref x0)] _
        refine XS.iconst X74.here hx rfl (hb hby dpg16_103) ?_
        exact k)
      by_cases hc104 : lv = (-1 : Int32)
      · have p77 : ∀ t, own_W p e below m T74 119 #[.val (.ref x0), .val (.int x1), .val (.int x2), .val (.int r8)] [(.int x2), (.ref x0)] t → Steps p.tables e below S0 t := fun t k => p76 t (by
          show own_W p e below m T74 104 #[.val (.ref x0), .val (.int x1), .val (.int x2), .val (.int r8)] [(.int (-1 : Int32)), (.int lv), (.ref x0)] _
          refine XS.icmpNo X74.here hx rfl (hb hby dpg16_104) rfl ((teq (hc104)).2) ?_
          refine XS.iloadN X74.here hx rfl (hb hby dpg16_107) rfl ?_
          refine XS.goto X74.here hx rfl (pc0 := 108) (pc' := 119) rfl (hb hby dpg16_108) (by decide) (by decide) ?_
          exact k)
        exact ⟨x2, T74, _, X74, e74, N62, trivial, p77⟩
      · have p78 : ∀ t, own_W p e below m T74 112 #[.val (.ref x0), .val (.int x1), .val (.int x2), .val (.int r8)] [(.ref x0), (.ref x0)] t → Steps p.tables e below S0 t := fun t k => p76 t (by
          show own_W p e below m T74 104 #[.val (.ref x0), .val (.int x1), .val (.int x2), .val (.int r8)] [(.int (-1 : Int32)), (.int lv), (.ref x0)] _
          refine XS.icmpYes X74.here hx rfl (pc0 := 104) (pc' := 111) rfl (hb hby dpg16_104) rfl ((feq (hc104)).2) (by decide) (by decide) ?_
          refine XS.aloadN X74.here hx rfl (hb hby dpg16_111) rfl rfl ?_
          exact k)
        obtain ⟨T79, X79, e79, st79⟩ := getF X74 hx hZ hown (host := "") (Or.inl (hw _ (List.mem_of_getElem? (i := 23) rfl))) Via.refl e74 f67 (g := (mkF m 112 #[.val (.ref x0), .val (.int x1), .val (.int x2), .val (.int r8)] [(.ref x0), (.ref x0)])) rfl rfl (hb hby dpg16_112)
        have p80 : ∀ t, own_W p e below m T79 115 #[.val (.ref x0), .val (.int x1), .val (.int x2), .val (.int r8)] [(.int lv), (.ref x0)] t → Steps p.tables e below S0 t := fun t k => p78 t (st79 t k)
        have p81 : ∀ t, own_W p e below m T79 116 #[.val (.ref x0), .val (.int x1), .val (.int x2), .val (.int r8)] [(.int x2), (.int lv), (.ref x0)] t → Steps p.tables e below S0 t := fun t k => p80 t (by
          show own_W p e below m T79 115 #[.val (.ref x0), .val (.int x1), .val (.int x2), .val (.int r8)] [(.int lv), (.ref x0)] _
          refine XS.iloadN X79.here hx rfl (hb hby dpg16_115) rfl ?_
          exact k)
        obtain ⟨_, _, ⟨T82, L82, k82, n82⟩, -, X82, ⟨Lc82, hQ82, l82, y82, z82⟩, st82⟩ := Jvm.LawKit.callS X79 hx (y := (⟨"java/lang/Math", "min", "(II)I"⟩ : MethodName)) hown (mvT hZ (hw _ (List.mem_of_getElem? (i := 72) rfl))) (mvT hZ (hw _ (List.mem_of_getElem? (i := 73) rfl))) (mvT hZ (hw _ (List.mem_of_getElem? (i := 69) rfl))) (mvT hZ (hw _ (List.mem_of_getElem? (i := 74) rfl))) (by decide) (backOf (W := 1) (rmmng l Z a0 hw [] lv x2  h62 n0 Z62 ) hZ (hw _ (List.mem_of_getElem? (i := 74) rfl)) (hw _ (List.mem_of_getElem? (i := 69) rfl)) (by decide) (by decide)) (g := (mkF m 116 #[.val (.ref x0), .val (.int x1), .val (.int x2), .val (.int r8)] [(.int x2), (.int lv), (.ref x0)])) rfl (by rw [hml]; rfl) (argsL := [(.int lv), (.int x2)]) (rest := [(.ref x0)]) (lenOf pdpg16_1 rfl) rfl (by show 2 * 0 + _ ≤ _; exact Nat.le_of_eq rfl) (hb hby dpg16_116) (fun _ _ => ⟨rfl, e79, (by decide : 0 + 0 ≤ _), (by decide : 0 + 0 ≤ _)⟩)
        dsimp only [Pt.U, Pt.locs, Pt.cells, Pt.slots] at X82 l82 y82 z82 st82 hQ82
        subst l82 y82 z82
        obtain ⟨q82, rfl, Nq82, e82⟩ := hQ82
        have N82 := Fr.app N62 Nq82
        have p83 : ∀ t, own_W p e below m T82 119 #[.val (.ref x0), .val (.int x1), .val (.int x2), .val (.int r8)] [(.int q82), (.ref x0)] t → Steps p.tables e below S0 t := fun t k => p81 t (st82 _ k)
        exact ⟨q82, T82, _, X82, e82, N82, trivial, p83⟩
    obtain ⟨T84, h84, X84, e84, W84, st84⟩ := putF X72 hx hZ hown (host := "") (Or.inl (hw _ (List.mem_of_getElem? (i := 23) rfl))) Via.refl e72 f67 f64 (Or.inl (hw _ (List.mem_of_getElem? (i := 24) rfl))) (hw _ (List.mem_of_getElem? (i := 2) rfl)) (ty := .int) (by decide) rfl rfl (g := (mkF m 119 #[.val (.ref x0), .val (.int x1), .val (.int x2), .val (.int r8)] [(.int lvn), (.ref x0)])) rfl rfl (hb hby dpg16_119)
    have f85 := f67.same W84
    have f86 := f64.wr W84
    have f87 := f65.other W84 (Or.inr (slot_ne (Or.inl (hw _ (List.mem_of_getElem? (i := 28) rfl))) (Or.inl (hw _ (List.mem_of_getElem? (i := 24) rfl))) (by decide) (t := (.array .int)) (t' := .int) (by decide) (by decide)))
    have f88 := f66.other W84 (Or.inr (slot_ne (Or.inl (hw _ (List.mem_of_getElem? (i := 30) rfl))) (Or.inl (hw _ (List.mem_of_getElem? (i := 24) rfl))) (by decide) (t := (.array .int)) (t' := .int) (by decide) (by decide)))
    have f89 := f68.other W84 (Or.inr (slot_ne (Or.inl (hw _ (List.mem_of_getElem? (i := 26) rfl))) (Or.inl (hw _ (List.mem_of_getElem? (i := 24) rfl))) (by decide) (t := .int) (t' := .int) (by decide) (by decide)))
    have f90 := f69.other W84 (Or.inr (slot_ne (Or.inl (hw _ (List.mem_of_getElem? (i := 62) rfl))) (Or.inl (hw _ (List.mem_of_getElem? (i := 24) rfl))) (by decide) (t := .int) (t' := .int) (by decide) (by decide)))
    have f91 := f70.other W84 (Ne.symm nx)
    have f92 := f63.other W84 (Or.inr (slot_ne (Or.inl (hw _ (List.mem_of_getElem? (i := 22) rfl))) (Or.inl (hw _ (List.mem_of_getElem? (i := 24) rfl))) (by decide) (t := .int) (t' := .int) (by decide) (by decide)))
    have Z84 := Nat.le_trans Z62 (Keep.of_wr W84).1
    have N84 := Fr.snoc X84 N72 g0
    have KK84 := KK62.wr W84 (Or.inl (List.mem_cons_self ..))
    have p93 : ∀ t, own_W p e below m T84 122 #[.val (.ref x0), .val (.int x1), .val (.int x2), .val (.int r8)] [] t → Steps p.tables e below S0 t := fun t k => p72 t (st84 t k)
    have p94 : ∀ t, own_W p e below m T84 124 #[.val (.ref x0), .val (.int x1), .val (.int x2), .val (.int r8)] [(.ref x0), (.ref x0)] t → Steps p.tables e below S0 t := fun t k => p93 t (by
      show own_W p e below m T84 122 #[.val (.ref x0), .val (.int x1), .val (.int x2), .val (.int r8)] [] _
      refine XS.aloadN X84.here hx rfl (hb hby dpg16_122) rfl rfl ?_
      refine XS.aloadN X84.here hx rfl (hb hby dpg16_123) rfl rfl ?_
      exact k)
    obtain ⟨T95, X95, e95, st95⟩ := getF X84 hx hZ hown (host := "") (Or.inl (hw _ (List.mem_of_getElem? (i := 25) rfl))) Via.refl e84 f89 (g := (mkF m 124 #[.val (.ref x0), .val (.int x1), .val (.int x2), .val (.int r8)] [(.ref x0), (.ref x0)])) rfl rfl (hb hby dpg16_124)
    have p96 : ∀ t, own_W p e below m T95 127 #[.val (.ref x0), .val (.int x1), .val (.int x2), .val (.int r8)] [(.int hv), (.ref x0)] t → Steps p.tables e below S0 t := fun t k => p94 t (st95 t k)
    have p97 : ∀ t, own_W p e below m T95 128 #[.val (.ref x0), .val (.int x1), .val (.int x2), .val (.int r8)] [(.int x2), (.int hv), (.ref x0)] t → Steps p.tables e below S0 t := fun t k => p96 t (by
      show own_W p e below m T95 127 #[.val (.ref x0), .val (.int x1), .val (.int x2), .val (.int r8)] [(.int hv), (.ref x0)] _
      refine XS.iloadN X95.here hx rfl (hb hby dpg16_127) rfl ?_
      exact k)
    obtain ⟨_, _, ⟨T98, L98, k98, n98⟩, -, X98, ⟨Lc98, hQ98, l98, y98, z98⟩, st98⟩ := Jvm.LawKit.callS X95 hx (y := (⟨"java/lang/Math", "max", "(II)I"⟩ : MethodName)) hown (mvT hZ (hw _ (List.mem_of_getElem? (i := 67) rfl))) (mvT hZ (hw _ (List.mem_of_getElem? (i := 68) rfl))) (mvT hZ (hw _ (List.mem_of_getElem? (i := 69) rfl))) (mvT hZ (hw _ (List.mem_of_getElem? (i := 70) rfl))) (by decide) (backOf (W := 1) (rmmxg l Z a0 hw [] hv x2  h84 n0 Z84 ) hZ (hw _ (List.mem_of_getElem? (i := 70) rfl)) (hw _ (List.mem_of_getElem? (i := 69) rfl)) (by decide) (by decide)) (g := (mkF m 128 #[.val (.ref x0), .val (.int x1), .val (.int x2), .val (.int r8)] [(.int x2), (.int hv), (.ref x0)])) rfl (by rw [hml]; rfl) (argsL := [(.int hv), (.int x2)]) (rest := [(.ref x0)]) (lenOf pdpg16_1 rfl) rfl (by show 2 * 0 + _ ≤ _; exact Nat.le_of_eq rfl) (hb hby dpg16_128) (fun _ _ => ⟨rfl, e95, (by decide : 0 + 0 ≤ _), (by decide : 0 + 0 ≤ _)⟩)
    dsimp only [Pt.U, Pt.locs, Pt.cells, Pt.slots] at X98 l98 y98 z98 st98 hQ98
    subst l98 y98 z98
    obtain ⟨q98, rfl, Nq98, e98, hq98⟩ := hQ98
    have N98 := Fr.app N84 Nq98
    have p99 : ∀ t, own_W p e below m T98 131 #[.val (.ref x0), .val (.int x1), .val (.int x2), .val (.int r8)] [(.int q98), (.ref x0)] t → Steps p.tables e below S0 t := fun t k => p97 t (st98 _ k)
    obtain ⟨T100, h100, X100, e100, W100, st100⟩ := putF X98 hx hZ hown (host := "") (Or.inl (hw _ (List.mem_of_getElem? (i := 25) rfl))) Via.refl e98 f89 f86 (Or.inl (hw _ (List.mem_of_getElem? (i := 26) rfl))) (hw _ (List.mem_of_getElem? (i := 2) rfl)) (ty := .int) (by decide) rfl rfl (g := (mkF m 131 #[.val (.ref x0), .val (.int x1), .val (.int x2), .val (.int r8)] [(.int q98), (.ref x0)])) rfl rfl (hb hby dpg16_131)
    have f101 := f89.same W100
    have f102 := f86.wr W100
    have f103 := f87.other W100 (Or.inr (slot_ne (Or.inl (hw _ (List.mem_of_getElem? (i := 28) rfl))) (Or.inl (hw _ (List.mem_of_getElem? (i := 26) rfl))) (by decide) (t := (.array .int)) (t' := .int) (by decide) (by decide)))
    have f104 := f88.other W100 (Or.inr (slot_ne (Or.inl (hw _ (List.mem_of_getElem? (i := 30) rfl))) (Or.inl (hw _ (List.mem_of_getElem? (i := 26) rfl))) (by decide) (t := (.array .int)) (t' := .int) (by decide) (by decide)))
    have f105 := f90.other W100 (Or.inr (slot_ne (Or.inl (hw _ (List.mem_of_getElem? (i := 62) rfl))) (Or.inl (hw _ (List.mem_of_getElem? (i := 26) rfl))) (by decide) (t := .int) (t' := .int) (by decide) (by decide)))
    have f106 := f91.other W100 (Ne.symm nx)
    have f107 := f92.other W100 (Or.inr (slot_ne (Or.inl (hw _ (List.mem_of_getElem? (i := 22) rfl))) (Or.inl (hw _ (List.mem_of_getElem? (i := 26) rfl))) (by decide) (t := .int) (t' := .int) (by decide) (by decide)))
    have f108 := f85.other W100 (Or.inr (slot_ne (Or.inl (hw _ (List.mem_of_getElem? (i := 24) rfl))) (Or.inl (hw _ (List.mem_of_getElem? (i := 26) rfl))) (by decide) (t := .int) (t' := .int) (by decide) (by decide)))
    have Z100 := Nat.le_trans Z84 (Keep.of_wr W100).1
    have N100 := Fr.snoc X100 N98 g0
    have KK100 := KK84.wr W100 (Or.inl (List.mem_cons_self ..))
    have p109 : ∀ t, own_W p e below m T100 134 #[.val (.ref x0), .val (.int x1), .val (.int x2), .val (.int r8)] [] t → Steps p.tables e below S0 t := fun t k => p99 t (st100 t k)
    subst hS0
    obtain ⟨fs, hr, hrun, hended, hW, hsame⟩ := X100.leave (v := none) (fun _ => rfl)
    refine ⟨_, _, p109 _ ?_, hrun, hended, _, _, rfl, ?_, ⟨_, rfl⟩, hW, hsame.mono (by decide) (by decide)⟩
    · show own_W p e below m T100 134 #[.val (.ref x0), .val (.int x1), .val (.int x2), .val (.int r8)] [] _
      exact X100.returnOut hx Bd.returns (hb hby dpg16_134) hr
    · show Qpg16 Z x0 x1 x2 tb kt sz hi lv hv vs h0 n0 _ T100.heap _
      rw [e100]
      exact ⟨rfl, N100, KK100, _, _, _, _, _, f102, f103, f104, f105, f107, f108, f101, f106⟩
  · have p110 : ∀ t, own_W p e below m T11 78 #[.val (.ref x0), .val (.int x1), .val (.int x2), .val (.int r8)] [(.ref x0)] t → Steps p.tables e below S0 t := fun t k => p15 t (by
      show own_W p e below m T11 57 #[.val (.ref x0), .val (.int x1), .val (.int x2), .val (.int r8)] [(.int (-1 : Int32)), (.int w)] _
      refine XS.icmpYes X11.here hx rfl (pc0 := 57) (pc' := 77) rfl (hb hby dpg16_57) rfl ((feq (hw57)).2) (by decide) (by decide) ?_
      refine XS.aloadN X11.here hx rfl (hb hby dpg16_77) rfl rfl ?_
      exact k)
    obtain ⟨T111, X111, e111, st111⟩ := getF X11 hx hZ hown (host := "") (Or.inl (hw _ (List.mem_of_getElem? (i := 27) rfl))) Via.refl e11 Ft (g := (mkF m 78 #[.val (.ref x0), .val (.int x1), .val (.int x2), .val (.int r8)] [(.ref x0)])) rfl rfl (hb hby dpg16_78)
    have p112 : ∀ t, own_W p e below m T111 81 #[.val (.ref x0), .val (.int x1), .val (.int x2), .val (.int r8)] [(.ref tb)] t → Steps p.tables e below S0 t := fun t k => p110 t (st111 t k)
    have p113 : ∀ t, own_W p e below m T111 85 #[.val (.ref x0), .val (.int x1), .val (.int x2), .val (.int r8)] [(.int x2), (.int (r8 + (1 : Int32))), (.ref tb)] t → Steps p.tables e below S0 t := fun t k => p112 t (by
      show own_W p e below m T111 81 #[.val (.ref x0), .val (.int x1), .val (.int x2), .val (.int r8)] [(.ref tb)] _
      refine XS.iloadN X111.here hx rfl (hb hby dpg16_81) rfl ?_
      refine XS.iconst X111.here hx rfl (hb hby dpg16_82) ?_
      refine XS.iadd X111.here hx rfl (hb hby dpg16_83) rfl ?_
      refine XS.iloadN X111.here hx rfl (hb hby dpg16_84) rfl ?_
      exact k)
    obtain ⟨cl114, Ar114, q114, Sz114, Ng114, Hs114, G114⟩ := id VU
    have hin114 : ¬ ((r8 + (1 : Int32)) < 0 ∨ cl114.slots.size ≤ ((r8 + (1 : Int32))).toNatClampNeg) := inb_of Sz114 (rs)
    obtain ⟨T114, h114, X114, e114, W114, st114⟩ := stI X111 hx hZ e111 Ar114 (j := (r8 + (1 : Int32))) hin114 (g := (mkF m 85 #[.val (.ref x0), .val (.int x1), .val (.int x2), .val (.int r8)] [(.int x2), (.int (r8 + (1 : Int32))), (.ref tb)])) rfl rfl (hb hby dpg16_85)
    have VV114 : Arv Z h114 tb kt .int (32 : Int32) (us.set ((r8 + (1 : Int32)).toNatClampNeg) (.int x2)) (.int (0 : Int32)) := Arv.set Ar114 q114 Sz114 Ng114 Hs114 G114 rfl W114 ((r8 + (1 : Int32)).toNatClampNeg) (rfl) (own_ltl rs (by first | (simp only [List.length_set]; exact hus) | exact hus))
    have f115 := E0.wr W114
    have f116 := Ft.other W114 (Or.inl nx)
    have f117 := Fb.other W114 (Or.inl nx)
    have f118 := Fs.other W114 (Or.inl nx)
    have f119 := Fh.other W114 (Or.inl nx)
    have f120 := Fl.other W114 (Or.inl nx)
    have f121 := Fv.other W114 (Or.inl nx)
    have Z114 := Nat.le_trans Z0 (Keep.of_wr W114).1
    have N114 := Fr.snoc X114 N8 gt
    have KK114 := K0.wr W114 (Or.inl (List.mem_cons_of_mem _ (List.mem_singleton.mpr rfl)))
    have p122 : ∀ t, own_W p e below m T114 86 #[.val (.ref x0), .val (.int x1), .val (.int x2), .val (.int r8)] [] t → Steps p.tables e below S0 t := fun t k => p113 t (st114 t k)
    have p123 : ∀ t, own_W p e below m T114 88 #[.val (.ref x0), .val (.int x1), .val (.int x2), .val (.int r8)] [(.ref x0), (.ref x0)] t → Steps p.tables e below S0 t := fun t k => p122 t (by
      show own_W p e below m T114 86 #[.val (.ref x0), .val (.int x1), .val (.int x2), .val (.int r8)] [] _
      refine XS.aloadN X114.here hx rfl (hb hby dpg16_86) rfl rfl ?_
      refine XS.aloadN X114.here hx rfl (hb hby dpg16_87) rfl rfl ?_
      exact k)
    obtain ⟨T124, X124, e124, st124⟩ := getF X114 hx hZ hown (host := "") (Or.inl (hw _ (List.mem_of_getElem? (i := 21) rfl))) Via.refl e114 f119 (g := (mkF m 88 #[.val (.ref x0), .val (.int x1), .val (.int x2), .val (.int r8)] [(.ref x0), (.ref x0)])) rfl rfl (hb hby dpg16_88)
    have p125 : ∀ t, own_W p e below m T124 91 #[.val (.ref x0), .val (.int x1), .val (.int x2), .val (.int r8)] [(.int hi), (.ref x0)] t → Steps p.tables e below S0 t := fun t k => p123 t (st124 t k)
    have p126 : ∀ t, own_W p e below m T124 92 #[.val (.ref x0), .val (.int x1), .val (.int x2), .val (.int r8)] [(.int x1), (.int hi), (.ref x0)] t → Steps p.tables e below S0 t := fun t k => p125 t (by
      show own_W p e below m T124 91 #[.val (.ref x0), .val (.int x1), .val (.int x2), .val (.int r8)] [(.int hi), (.ref x0)] _
      refine XS.iloadN X124.here hx rfl (hb hby dpg16_91) rfl ?_
      exact k)
    obtain ⟨_, _, ⟨T127, L127, k127, n127⟩, -, X127, ⟨Lc127, hQ127, l127, y127, z127⟩, st127⟩ := Jvm.LawKit.callS X124 hx (y := (⟨"java/lang/Math", "max", "(II)I"⟩ : MethodName)) hown (mvT hZ (hw _ (List.mem_of_getElem? (i := 67) rfl))) (mvT hZ (hw _ (List.mem_of_getElem? (i := 68) rfl))) (mvT hZ (hw _ (List.mem_of_getElem? (i := 69) rfl))) (mvT hZ (hw _ (List.mem_of_getElem? (i := 70) rfl))) (by decide) (backOf (W := 1) (rmmxg l Z a0 hw [] hi x1  h114 n0 Z114 ) hZ (hw _ (List.mem_of_getElem? (i := 70) rfl)) (hw _ (List.mem_of_getElem? (i := 69) rfl)) (by decide) (by decide)) (g := (mkF m 92 #[.val (.ref x0), .val (.int x1), .val (.int x2), .val (.int r8)] [(.int x1), (.int hi), (.ref x0)])) rfl (by rw [hml]; rfl) (argsL := [(.int hi), (.int x1)]) (rest := [(.ref x0)]) (lenOf pdpg16_1 rfl) rfl (by show 2 * 0 + _ ≤ _; exact Nat.le_of_eq rfl) (hb hby dpg16_92) (fun _ _ => ⟨rfl, e124, (by decide : 0 + 0 ≤ _), (by decide : 0 + 0 ≤ _)⟩)
    dsimp only [Pt.U, Pt.locs, Pt.cells, Pt.slots] at X127 l127 y127 z127 st127 hQ127
    subst l127 y127 z127
    obtain ⟨q127, rfl, Nq127, e127, hq127⟩ := hQ127
    have N127 := Fr.app N114 Nq127
    have p128 : ∀ t, own_W p e below m T127 95 #[.val (.ref x0), .val (.int x1), .val (.int x2), .val (.int r8)] [(.int q127), (.ref x0)] t → Steps p.tables e below S0 t := fun t k => p126 t (st127 _ k)
    obtain ⟨T129, h129, X129, e129, W129, st129⟩ := putF X127 hx hZ hown (host := "") (Or.inl (hw _ (List.mem_of_getElem? (i := 21) rfl))) Via.refl e127 f119 f115 (Or.inl (hw _ (List.mem_of_getElem? (i := 22) rfl))) (hw _ (List.mem_of_getElem? (i := 2) rfl)) (ty := .int) (by decide) rfl rfl (g := (mkF m 95 #[.val (.ref x0), .val (.int x1), .val (.int x2), .val (.int r8)] [(.int q127), (.ref x0)])) rfl rfl (hb hby dpg16_95)
    have f130 := f119.same W129
    have f131 := f115.wr W129
    have f132 := f116.other W129 (Or.inr (slot_ne (Or.inl (hw _ (List.mem_of_getElem? (i := 28) rfl))) (Or.inl (hw _ (List.mem_of_getElem? (i := 22) rfl))) (by decide) (t := (.array .int)) (t' := .int) (by decide) (by decide)))
    have f133 := f117.other W129 (Or.inr (slot_ne (Or.inl (hw _ (List.mem_of_getElem? (i := 30) rfl))) (Or.inl (hw _ (List.mem_of_getElem? (i := 22) rfl))) (by decide) (t := (.array .int)) (t' := .int) (by decide) (by decide)))
    have f134 := f118.other W129 (Or.inr (slot_ne (Or.inl (hw _ (List.mem_of_getElem? (i := 62) rfl))) (Or.inl (hw _ (List.mem_of_getElem? (i := 22) rfl))) (by decide) (t := .int) (t' := .int) (by decide) (by decide)))
    have f135 := f120.other W129 (Or.inr (slot_ne (Or.inl (hw _ (List.mem_of_getElem? (i := 24) rfl))) (Or.inl (hw _ (List.mem_of_getElem? (i := 22) rfl))) (by decide) (t := .int) (t' := .int) (by decide) (by decide)))
    have f136 := f121.other W129 (Or.inr (slot_ne (Or.inl (hw _ (List.mem_of_getElem? (i := 26) rfl))) (Or.inl (hw _ (List.mem_of_getElem? (i := 22) rfl))) (by decide) (t := .int) (t' := .int) (by decide) (by decide)))
    have f137 := VV114.other W129 (Ne.symm nx)
    have Z129 := Nat.le_trans Z114 (Keep.of_wr W129).1
    have N129 := Fr.snoc X129 N127 g0
    have KK129 := KK114.wr W129 (Or.inl (List.mem_cons_self ..))
    have p138 : ∀ t, own_W p e below m T129 98 #[.val (.ref x0), .val (.int x1), .val (.int x2), .val (.int r8)] [] t → Steps p.tables e below S0 t := fun t k => p128 t (st129 t k)
    obtain ⟨lvn, T139, Lj139, X139, e139, N139, hj139, p139⟩ : ∃ (lvn : Int32) (T' : State) (Lj : List Loc), Stand p l e ({ frames := 2, cells := 0, slots := 0, locals := 30 } : Room) s m #[(.ref x0), (.int x1), (.int x2)] below meth c T' Lj 0 0 ∧ T'.heap = h129 ∧ Fr n0 Lj ∧ (True) ∧ ∀ t, Steps p.tables e below (T'.setTop (mkF m 119 #[.val (.ref x0), .val (.int x1), .val (.int x2), .val (.int r8)] [(.int lvn), (.ref x0)])) t → Steps p.tables e below S0 t := by
      have p140 : ∀ t, own_W p e below m T129 100 #[.val (.ref x0), .val (.int x1), .val (.int x2), .val (.int r8)] [(.ref x0), (.ref x0)] t → Steps p.tables e below S0 t := fun t k => p138 t (by
        show own_W p e below m T129 98 #[.val (.ref x0), .val (.int x1), .val (.int x2), .val (.int r8)] [] _
        refine XS.aloadN X129.here hx rfl (hb hby dpg16_98) rfl rfl ?_
        refine XS.aloadN X129.here hx rfl (hb hby dpg16_99) rfl rfl ?_
        exact k)
      obtain ⟨T141, X141, e141, st141⟩ := getF X129 hx hZ hown (host := "") (Or.inl (hw _ (List.mem_of_getElem? (i := 23) rfl))) Via.refl e129 f135 (g := (mkF m 100 #[.val (.ref x0), .val (.int x1), .val (.int x2), .val (.int r8)] [(.ref x0), (.ref x0)])) rfl rfl (hb hby dpg16_100)
      have p142 : ∀ t, own_W p e below m T141 103 #[.val (.ref x0), .val (.int x1), .val (.int x2), .val (.int r8)] [(.int lv), (.ref x0)] t → Steps p.tables e below S0 t := fun t k => p140 t (st141 t k)
      have p143 : ∀ t, own_W p e below m T141 104 #[.val (.ref x0), .val (.int x1), .val (.int x2), .val (.int r8)] [(.int (-1 : Int32)), (.int lv), (.ref x0)] t → Steps p.tables e below S0 t := fun t k => p142 t (by
        show own_W p e below m T141 103 #[.val (.ref x0), .val (.int x1), .val (.int x2), .val (.int r8)] [(.int lv), (.ref x0)] _
        refine XS.iconst X141.here hx rfl (hb hby dpg16_103) ?_
        exact k)
      by_cases hc104 : lv = (-1 : Int32)
      · have p144 : ∀ t, own_W p e below m T141 119 #[.val (.ref x0), .val (.int x1), .val (.int x2), .val (.int r8)] [(.int x2), (.ref x0)] t → Steps p.tables e below S0 t := fun t k => p143 t (by
          show own_W p e below m T141 104 #[.val (.ref x0), .val (.int x1), .val (.int x2), .val (.int r8)] [(.int (-1 : Int32)), (.int lv), (.ref x0)] _
          refine XS.icmpNo X141.here hx rfl (hb hby dpg16_104) rfl ((teq (hc104)).2) ?_
          refine XS.iloadN X141.here hx rfl (hb hby dpg16_107) rfl ?_
          refine XS.goto X141.here hx rfl (pc0 := 108) (pc' := 119) rfl (hb hby dpg16_108) (by decide) (by decide) ?_
          exact k)
        exact ⟨x2, T141, _, X141, e141, N129, trivial, p144⟩
      · have p145 : ∀ t, own_W p e below m T141 112 #[.val (.ref x0), .val (.int x1), .val (.int x2), .val (.int r8)] [(.ref x0), (.ref x0)] t → Steps p.tables e below S0 t := fun t k => p143 t (by
          show own_W p e below m T141 104 #[.val (.ref x0), .val (.int x1), .val (.int x2), .val (.int r8)] [(.int (-1 : Int32)), (.int lv), (.ref x0)] _
          refine XS.icmpYes X141.here hx rfl (pc0 := 104) (pc' := 111) rfl (hb hby dpg16_104) rfl ((feq (hc104)).2) (by decide) (by decide) ?_
          refine XS.aloadN X141.here hx rfl (hb hby dpg16_111) rfl rfl ?_
          exact k)
        obtain ⟨T146, X146, e146, st146⟩ := getF X141 hx hZ hown (host := "") (Or.inl (hw _ (List.mem_of_getElem? (i := 23) rfl))) Via.refl e141 f135 (g := (mkF m 112 #[.val (.ref x0), .val (.int x1), .val (.int x2), .val (.int r8)] [(.ref x0), (.ref x0)])) rfl rfl (hb hby dpg16_112)
        have p147 : ∀ t, own_W p e below m T146 115 #[.val (.ref x0), .val (.int x1), .val (.int x2), .val (.int r8)] [(.int lv), (.ref x0)] t → Steps p.tables e below S0 t := fun t k => p145 t (st146 t k)
        have p148 : ∀ t, own_W p e below m T146 116 #[.val (.ref x0), .val (.int x1), .val (.int x2), .val (.int r8)] [(.int x2), (.int lv), (.ref x0)] t → Steps p.tables e below S0 t := fun t k => p147 t (by
          show own_W p e below m T146 115 #[.val (.ref x0), .val (.int x1), .val (.int x2), .val (.int r8)] [(.int lv), (.ref x0)] _
          refine XS.iloadN X146.here hx rfl (hb hby dpg16_115) rfl ?_
          exact k)
        obtain ⟨_, _, ⟨T149, L149, k149, n149⟩, -, X149, ⟨Lc149, hQ149, l149, y149, z149⟩, st149⟩ := Jvm.LawKit.callS X146 hx (y := (⟨"java/lang/Math", "min", "(II)I"⟩ : MethodName)) hown (mvT hZ (hw _ (List.mem_of_getElem? (i := 72) rfl))) (mvT hZ (hw _ (List.mem_of_getElem? (i := 73) rfl))) (mvT hZ (hw _ (List.mem_of_getElem? (i := 69) rfl))) (mvT hZ (hw _ (List.mem_of_getElem? (i := 74) rfl))) (by decide) (backOf (W := 1) (rmmng l Z a0 hw [] lv x2  h129 n0 Z129 ) hZ (hw _ (List.mem_of_getElem? (i := 74) rfl)) (hw _ (List.mem_of_getElem? (i := 69) rfl)) (by decide) (by decide)) (g := (mkF m 116 #[.val (.ref x0), .val (.int x1), .val (.int x2), .val (.int r8)] [(.int x2), (.int lv), (.ref x0)])) rfl (by rw [hml]; rfl) (argsL := [(.int lv), (.int x2)]) (rest := [(.ref x0)]) (lenOf pdpg16_1 rfl) rfl (by show 2 * 0 + _ ≤ _; exact Nat.le_of_eq rfl) (hb hby dpg16_116) (fun _ _ => ⟨rfl, e146, (by decide : 0 + 0 ≤ _), (by decide : 0 + 0 ≤ _)⟩)
        dsimp only [Pt.U, Pt.locs, Pt.cells, Pt.slots] at X149 l149 y149 z149 st149 hQ149
        subst l149 y149 z149
        obtain ⟨q149, rfl, Nq149, e149⟩ := hQ149
        have N149 := Fr.app N129 Nq149
        have p150 : ∀ t, own_W p e below m T149 119 #[.val (.ref x0), .val (.int x1), .val (.int x2), .val (.int r8)] [(.int q149), (.ref x0)] t → Steps p.tables e below S0 t := fun t k => p148 t (st149 _ k)
        exact ⟨q149, T149, _, X149, e149, N149, trivial, p150⟩
    obtain ⟨T151, h151, X151, e151, W151, st151⟩ := putF X139 hx hZ hown (host := "") (Or.inl (hw _ (List.mem_of_getElem? (i := 23) rfl))) Via.refl e139 f135 f131 (Or.inl (hw _ (List.mem_of_getElem? (i := 24) rfl))) (hw _ (List.mem_of_getElem? (i := 2) rfl)) (ty := .int) (by decide) rfl rfl (g := (mkF m 119 #[.val (.ref x0), .val (.int x1), .val (.int x2), .val (.int r8)] [(.int lvn), (.ref x0)])) rfl rfl (hb hby dpg16_119)
    have f152 := f135.same W151
    have f153 := f131.wr W151
    have f154 := f132.other W151 (Or.inr (slot_ne (Or.inl (hw _ (List.mem_of_getElem? (i := 28) rfl))) (Or.inl (hw _ (List.mem_of_getElem? (i := 24) rfl))) (by decide) (t := (.array .int)) (t' := .int) (by decide) (by decide)))
    have f155 := f133.other W151 (Or.inr (slot_ne (Or.inl (hw _ (List.mem_of_getElem? (i := 30) rfl))) (Or.inl (hw _ (List.mem_of_getElem? (i := 24) rfl))) (by decide) (t := (.array .int)) (t' := .int) (by decide) (by decide)))
    have f156 := f134.other W151 (Or.inr (slot_ne (Or.inl (hw _ (List.mem_of_getElem? (i := 62) rfl))) (Or.inl (hw _ (List.mem_of_getElem? (i := 24) rfl))) (by decide) (t := .int) (t' := .int) (by decide) (by decide)))
    have f157 := f136.other W151 (Or.inr (slot_ne (Or.inl (hw _ (List.mem_of_getElem? (i := 26) rfl))) (Or.inl (hw _ (List.mem_of_getElem? (i := 24) rfl))) (by decide) (t := .int) (t' := .int) (by decide) (by decide)))
    have f158 := f137.other W151 (Ne.symm nx)
    have f159 := f130.other W151 (Or.inr (slot_ne (Or.inl (hw _ (List.mem_of_getElem? (i := 22) rfl))) (Or.inl (hw _ (List.mem_of_getElem? (i := 24) rfl))) (by decide) (t := .int) (t' := .int) (by decide) (by decide)))
    have Z151 := Nat.le_trans Z129 (Keep.of_wr W151).1
    have N151 := Fr.snoc X151 N139 g0
    have KK151 := KK129.wr W151 (Or.inl (List.mem_cons_self ..))
    have p160 : ∀ t, own_W p e below m T151 122 #[.val (.ref x0), .val (.int x1), .val (.int x2), .val (.int r8)] [] t → Steps p.tables e below S0 t := fun t k => p139 t (st151 t k)
    have p161 : ∀ t, own_W p e below m T151 124 #[.val (.ref x0), .val (.int x1), .val (.int x2), .val (.int r8)] [(.ref x0), (.ref x0)] t → Steps p.tables e below S0 t := fun t k => p160 t (by
      show own_W p e below m T151 122 #[.val (.ref x0), .val (.int x1), .val (.int x2), .val (.int r8)] [] _
      refine XS.aloadN X151.here hx rfl (hb hby dpg16_122) rfl rfl ?_
      refine XS.aloadN X151.here hx rfl (hb hby dpg16_123) rfl rfl ?_
      exact k)
    obtain ⟨T162, X162, e162, st162⟩ := getF X151 hx hZ hown (host := "") (Or.inl (hw _ (List.mem_of_getElem? (i := 25) rfl))) Via.refl e151 f157 (g := (mkF m 124 #[.val (.ref x0), .val (.int x1), .val (.int x2), .val (.int r8)] [(.ref x0), (.ref x0)])) rfl rfl (hb hby dpg16_124)
    have p163 : ∀ t, own_W p e below m T162 127 #[.val (.ref x0), .val (.int x1), .val (.int x2), .val (.int r8)] [(.int hv), (.ref x0)] t → Steps p.tables e below S0 t := fun t k => p161 t (st162 t k)
    have p164 : ∀ t, own_W p e below m T162 128 #[.val (.ref x0), .val (.int x1), .val (.int x2), .val (.int r8)] [(.int x2), (.int hv), (.ref x0)] t → Steps p.tables e below S0 t := fun t k => p163 t (by
      show own_W p e below m T162 127 #[.val (.ref x0), .val (.int x1), .val (.int x2), .val (.int r8)] [(.int hv), (.ref x0)] _
      refine XS.iloadN X162.here hx rfl (hb hby dpg16_127) rfl ?_
      exact k)
    obtain ⟨_, _, ⟨T165, L165, k165, n165⟩, -, X165, ⟨Lc165, hQ165, l165, y165, z165⟩, st165⟩ := Jvm.LawKit.callS X162 hx (y := (⟨"java/lang/Math", "max", "(II)I"⟩ : MethodName)) hown (mvT hZ (hw _ (List.mem_of_getElem? (i := 67) rfl))) (mvT hZ (hw _ (List.mem_of_getElem? (i := 68) rfl))) (mvT hZ (hw _ (List.mem_of_getElem? (i := 69) rfl))) (mvT hZ (hw _ (List.mem_of_getElem? (i := 70) rfl))) (by decide) (backOf (W := 1) (rmmxg l Z a0 hw [] hv x2  h151 n0 Z151 ) hZ (hw _ (List.mem_of_getElem? (i := 70) rfl)) (hw _ (List.mem_of_getElem? (i := 69) rfl)) (by decide) (by decide)) (g := (mkF m 128 #[.val (.ref x0), .val (.int x1), .val (.int x2), .val (.int r8)] [(.int x2), (.int hv), (.ref x0)])) rfl (by rw [hml]; rfl) (argsL := [(.int hv), (.int x2)]) (rest := [(.ref x0)]) (lenOf pdpg16_1 rfl) rfl (by show 2 * 0 + _ ≤ _; exact Nat.le_of_eq rfl) (hb hby dpg16_128) (fun _ _ => ⟨rfl, e162, (by decide : 0 + 0 ≤ _), (by decide : 0 + 0 ≤ _)⟩)
    dsimp only [Pt.U, Pt.locs, Pt.cells, Pt.slots] at X165 l165 y165 z165 st165 hQ165
    subst l165 y165 z165
    obtain ⟨q165, rfl, Nq165, e165, hq165⟩ := hQ165
    have N165 := Fr.app N151 Nq165
    have p166 : ∀ t, own_W p e below m T165 131 #[.val (.ref x0), .val (.int x1), .val (.int x2), .val (.int r8)] [(.int q165), (.ref x0)] t → Steps p.tables e below S0 t := fun t k => p164 t (st165 _ k)
    obtain ⟨T167, h167, X167, e167, W167, st167⟩ := putF X165 hx hZ hown (host := "") (Or.inl (hw _ (List.mem_of_getElem? (i := 25) rfl))) Via.refl e165 f157 f153 (Or.inl (hw _ (List.mem_of_getElem? (i := 26) rfl))) (hw _ (List.mem_of_getElem? (i := 2) rfl)) (ty := .int) (by decide) rfl rfl (g := (mkF m 131 #[.val (.ref x0), .val (.int x1), .val (.int x2), .val (.int r8)] [(.int q165), (.ref x0)])) rfl rfl (hb hby dpg16_131)
    have f168 := f157.same W167
    have f169 := f153.wr W167
    have f170 := f154.other W167 (Or.inr (slot_ne (Or.inl (hw _ (List.mem_of_getElem? (i := 28) rfl))) (Or.inl (hw _ (List.mem_of_getElem? (i := 26) rfl))) (by decide) (t := (.array .int)) (t' := .int) (by decide) (by decide)))
    have f171 := f155.other W167 (Or.inr (slot_ne (Or.inl (hw _ (List.mem_of_getElem? (i := 30) rfl))) (Or.inl (hw _ (List.mem_of_getElem? (i := 26) rfl))) (by decide) (t := (.array .int)) (t' := .int) (by decide) (by decide)))
    have f172 := f156.other W167 (Or.inr (slot_ne (Or.inl (hw _ (List.mem_of_getElem? (i := 62) rfl))) (Or.inl (hw _ (List.mem_of_getElem? (i := 26) rfl))) (by decide) (t := .int) (t' := .int) (by decide) (by decide)))
    have f173 := f158.other W167 (Ne.symm nx)
    have f174 := f159.other W167 (Or.inr (slot_ne (Or.inl (hw _ (List.mem_of_getElem? (i := 22) rfl))) (Or.inl (hw _ (List.mem_of_getElem? (i := 26) rfl))) (by decide) (t := .int) (t' := .int) (by decide) (by decide)))
    have f175 := f152.other W167 (Or.inr (slot_ne (Or.inl (hw _ (List.mem_of_getElem? (i := 24) rfl))) (Or.inl (hw _ (List.mem_of_getElem? (i := 26) rfl))) (by decide) (t := .int) (t' := .int) (by decide) (by decide)))
    have Z167 := Nat.le_trans Z151 (Keep.of_wr W167).1
    have N167 := Fr.snoc X167 N165 g0
    have KK167 := KK151.wr W167 (Or.inl (List.mem_cons_self ..))
    have p176 : ∀ t, own_W p e below m T167 134 #[.val (.ref x0), .val (.int x1), .val (.int x2), .val (.int r8)] [] t → Steps p.tables e below S0 t := fun t k => p166 t (st167 t k)
    subst hS0
    obtain ⟨fs, hr, hrun, hended, hW, hsame⟩ := X167.leave (v := none) (fun _ => rfl)
    refine ⟨_, _, p176 _ ?_, hrun, hended, _, _, rfl, ?_, ⟨_, rfl⟩, hW, hsame.mono (by decide) (by decide)⟩
    · show own_W p e below m T167 134 #[.val (.ref x0), .val (.int x1), .val (.int x2), .val (.int r8)] [] _
      exact X167.returnOut hx Bd.returns (hb hby dpg16_134) hr
    · show Qpg16 Z x0 x1 x2 tb kt sz hi lv hv vs h0 n0 _ T167.heap _
      rw [e167]
      exact ⟨rfl, N167, KK167, _, _, _, _, _, f169, f170, f171, f172, f174, f175, f168, f173⟩
theorem dpb_0 : decode prog_53_method_12_code 0 = .ok (.aload_n 0, 1) := by decide +kernel
theorem dpb_1 : decode prog_53_method_12_code 1 = .ok (.getfield 30, 3) := by decide +kernel
theorem dpb_4 : decode prog_53_method_12_code 4 = .ok (.ifnull 37, 3) := by decide +kernel
theorem dpb_7 : decode prog_53_method_12_code 7 = .ok (.aload_n 0, 1) := by decide +kernel
theorem dpb_8 : decode prog_53_method_12_code 8 = .ok (.dup, 1) := by decide +kernel
theorem dpb_9 : decode prog_53_method_12_code 9 = .ok (.getfield 43, 3) := by decide +kernel
theorem dpb_12 : decode prog_53_method_12_code 12 = .ok (.aload_n 0, 1) := by decide +kernel
theorem dpb_13 : decode prog_53_method_12_code 13 = .ok (.getfield 30, 3) := by decide +kernel
theorem dpb_16 : decode prog_53_method_12_code 16 = .ok (.iload_n 1, 1) := by decide +kernel
theorem dpb_17 : decode prog_53_method_12_code 17 = .ok (.iaload, 1) := by decide +kernel
theorem dpb_18 : decode prog_53_method_12_code 18 = .ok (.iconst (-1), 1) := by decide +kernel
theorem dpb_19 : decode prog_53_method_12_code 19 = .ok (.if_icmp .ne 7, 3) := by decide +kernel
theorem dpb_22 : decode prog_53_method_12_code 22 = .ok (.iconst 1, 1) := by decide +kernel
theorem dpb_23 : decode prog_53_method_12_code 23 = .ok (.goto 4, 3) := by decide +kernel
theorem dpb_26 : decode prog_53_method_12_code 26 = .ok (.iconst 0, 1) := by decide +kernel
theorem dpb_27 : decode prog_53_method_12_code 27 = .ok (.iadd, 1) := by decide +kernel
theorem dpb_28 : decode prog_53_method_12_code 28 = .ok (.putfield 43, 3) := by decide +kernel
theorem dpb_31 : decode prog_53_method_12_code 31 = .ok (.aload_n 0, 1) := by decide +kernel
theorem dpb_32 : decode prog_53_method_12_code 32 = .ok (.getfield 30, 3) := by decide +kernel
theorem dpb_35 : decode prog_53_method_12_code 35 = .ok (.iload_n 1, 1) := by decide +kernel
theorem dpb_36 : decode prog_53_method_12_code 36 = .ok (.iload_n 2, 1) := by decide +kernel
theorem dpb_37 : decode prog_53_method_12_code 37 = .ok (.iastore, 1) := by decide +kernel
theorem dpb_38 : decode prog_53_method_12_code 38 = .ok (.goto 48, 3) := by decide +kernel
theorem dpb_86 : decode prog_53_method_12_code 86 = .ok (.aload_n 0, 1) := by decide +kernel
theorem dpb_87 : decode prog_53_method_12_code 87 = .ok (.aload_n 0, 1) := by decide +kernel
theorem dpb_88 : decode prog_53_method_12_code 88 = .ok (.getfield 16, 3) := by decide +kernel
theorem dpb_91 : decode prog_53_method_12_code 91 = .ok (.iload_n 1, 1) := by decide +kernel
theorem dpb_92 : decode prog_53_method_12_code 92 = .ok (.invokestatic 79, 3) := by decide +kernel
theorem dpb_95 : decode prog_53_method_12_code 95 = .ok (.putfield 16, 3) := by decide +kernel
theorem dpb_98 : decode prog_53_method_12_code 98 = .ok (.aload_n 0, 1) := by decide +kernel
theorem dpb_99 : decode prog_53_method_12_code 99 = .ok (.aload_n 0, 1) := by decide +kernel
theorem dpb_100 : decode prog_53_method_12_code 100 = .ok (.getfield 20, 3) := by decide +kernel
theorem dpb_103 : decode prog_53_method_12_code 103 = .ok (.iconst (-1), 1) := by decide +kernel
theorem dpb_104 : decode prog_53_method_12_code 104 = .ok (.if_icmp .ne 7, 3) := by decide +kernel
theorem dpb_107 : decode prog_53_method_12_code 107 = .ok (.iload_n 2, 1) := by decide +kernel
theorem dpb_108 : decode prog_53_method_12_code 108 = .ok (.goto 11, 3) := by decide +kernel
theorem dpb_111 : decode prog_53_method_12_code 111 = .ok (.aload_n 0, 1) := by decide +kernel
theorem dpb_112 : decode prog_53_method_12_code 112 = .ok (.getfield 20, 3) := by decide +kernel
theorem dpb_115 : decode prog_53_method_12_code 115 = .ok (.iload_n 2, 1) := by decide +kernel
theorem dpb_116 : decode prog_53_method_12_code 116 = .ok (.invokestatic 88, 3) := by decide +kernel
theorem dpb_119 : decode prog_53_method_12_code 119 = .ok (.putfield 20, 3) := by decide +kernel
theorem dpb_122 : decode prog_53_method_12_code 122 = .ok (.aload_n 0, 1) := by decide +kernel
theorem dpb_123 : decode prog_53_method_12_code 123 = .ok (.aload_n 0, 1) := by decide +kernel
theorem dpb_124 : decode prog_53_method_12_code 124 = .ok (.getfield 23, 3) := by decide +kernel
theorem dpb_127 : decode prog_53_method_12_code 127 = .ok (.iload_n 2, 1) := by decide +kernel
theorem dpb_128 : decode prog_53_method_12_code 128 = .ok (.invokestatic 79, 3) := by decide +kernel
theorem dpb_131 : decode prog_53_method_12_code 131 = .ok (.putfield 23, 3) := by decide +kernel
theorem dpb_134 : decode prog_53_method_12_code 134 = .ok (.return_, 1) := by decide +kernel
theorem pnpb : plainName "com/example/kinwarden/kinwarden/IntMap" = true := by first | (simp [plainName, overriddenIn]; done) | decide +kernel
theorem pdpb_0 : parseMethodDescriptor "(II)I" = some ⟨[.int, .int], some .int⟩ := by decide +kernel
theorem efpb (m : MethodId) (x0 : Addr) (x1 : Int32) (x2 : Int32) : entryFrame m #[(.ref x0), (.int x1), (.int x2)] 4 = mkF m 0 #[.val (.ref x0), .val (.int x1), .val (.int x2), .unset] [] := by first | (simp [entryFrame, mkF, argsToLocals, Value.category]; done) | rfl
def Qpb (Z : State) (x0 : Addr) (x1 : Int32) (x2 : Int32) (tb : Addr) (kt : ClassId) (sz : Int32) (hi : Int32) (lv : Int32) (hv : Int32) (N : Int32) (vs : List Value) (h0 : Heap) (n0 : Nat) (v : Option Value) (h : Heap) (L : List Loc) : Prop := v = none ∧ Fr n0 L ∧ Keep h0 h [x0, tb] ∧ ∃ (sz' hi' lv' hv' : Int32) (vs' : List Value), Exa Z h x0 "com/example/kinwarden/kinwarden/IntMap" ∧ Fld Z h x0 "com/example/kinwarden/kinwarden/IntMap" "table" "[I" .null ∧ Fld Z h x0 "com/example/kinwarden/kinwarden/IntMap" "byKey" "[I" (.ref tb) ∧ Fld Z h x0 "com/example/kinwarden/kinwarden/IntMap" "size" "I" (.int sz') ∧ Fld Z h x0 "com/example/kinwarden/kinwarden/IntMap" "highest" "I" (.int hi') ∧ Fld Z h x0 "com/example/kinwarden/kinwarden/IntMap" "lowestValue" "I" (.int lv') ∧ Fld Z h x0 "com/example/kinwarden/kinwarden/IntMap" "highestValue" "I" (.int hv') ∧ Arv Z h tb kt .int N vs' (.int (0 : Int32))
set_option maxRecDepth 65536 in
set_option maxHeartbeats 40000000 in
theorem rmpb (l : Launch) (Z : State) (a0 : Array Value) (hw : ∀ d ∈ tables_1, d.before a0 Z = true) (ws : List Jvm.Cond) (x0 : Addr) (x1 : Int32) (x2 : Int32) (tb : Addr) (kt : ClassId) (sz : Int32) (hi : Int32) (lv : Int32) (hv : Int32) (N : Int32) (vs : List Value) (h0 : Heap) (n0 : Nat) (Z0 : n0 ≤ h0.size) (E0 : Exa Z h0 x0 "com/example/kinwarden/kinwarden/IntMap") (Ft : Fld Z h0 x0 "com/example/kinwarden/kinwarden/IntMap" "table" "[I" .null) (Fb : Fld Z h0 x0 "com/example/kinwarden/kinwarden/IntMap" "byKey" "[I" (.ref tb)) (Fs : Fld Z h0 x0 "com/example/kinwarden/kinwarden/IntMap" "size" "I" (.int sz)) (Fh : Fld Z h0 x0 "com/example/kinwarden/kinwarden/IntMap" "highest" "I" (.int hi)) (Fl : Fld Z h0 x0 "com/example/kinwarden/kinwarden/IntMap" "lowestValue" "I" (.int lv)) (Fv : Fld Z h0 x0 "com/example/kinwarden/kinwarden/IntMap" "highestValue" "I" (.int hv)) (V0 : Arv Z h0 tb kt .int N vs (.int (0 : Int32))) (g0 : n0 ≤ x0) (gt : n0 ≤ tb) (nx : x0 ≠ tb) (rr : ¬ x1 < 0 ∧ x1 < N) :
    MetFree l (⟨"com/example/kinwarden/kinwarden/IntMap", "putInRoom", "(II)V"⟩ : MethodName) (head1 (Jvm.Cond.code (⟨"com/example/kinwarden/kinwarden/IntMap", "putInRoom", "(II)V"⟩ : MethodName) prog_53_method_12_code 4 none :: ws) ({ frames := 1, cells := 0, slots := 0, locals := 16 } : Room)) (fun a U => a = #[(.ref x0), (.int x1), (.int x2)] ∧ Z.Warmed39 U.vm ∧ U.heap = h0) (fun _ _ _ _ _ => True) (fun _ U o U' => ∃ v L, o = .returned v ∧ Qpb Z x0 x1 x2 tb kt sz hi lv hv N vs h0 n0 v U'.heap L ∧ FrameEnd U o U' L ({ frames := 1, cells := 0, slots := 0, locals := 16 } : Room).cells ({ frames := 1, cells := 0, slots := 0, locals := 16 } : Room).slots) := by
  refine MetFree.of_bodySF (plainFor_of_name pnpb) hisR ?_
  intro p e s m args below meth c s₁ Bd hml0 hP hK
  obtain ⟨rfl, hZ, hh⟩ := hP
  have hx := Bd.exec
  have hby := Bd.bytes
  have hml : c.maxLocals = 4 := hml0
  have hown : s.vm.findClass "com/example/kinwarden/kinwarden/IntMap" = some m.cls := findClass_of_methodNamed Bd.named
  have hnm := (name_of_methodNamed Bd.named Bd.method).1
  have X0 : Stand p l e ({ frames := 1, cells := 0, slots := 0, locals := 16 } : Room) s m #[(.ref x0), (.int x1), (.int x2)] below meth c s₁ [] 0 0 := Stand.of_body Bd
  have e0 : s₁.heap = h0 := by rw [← hh, Bd.state]; rfl
  have N0 := Fr.nil n0
  have pre0 : ∀ t, Steps p.tables e below (s₁.setTop (mkF m 0 #[.val (.ref x0), .val (.int x1), .val (.int x2), .unset] [])) t → Steps p.tables e below (s₁.setTop (entryFrame m #[(.ref x0), (.int x1), (.int x2)] 4)) t := fun t k => castTop (efpb m x0 x1 x2) k
  obtain ⟨S0, hS0⟩ : ∃ z, z = (s₁.setTop (entryFrame m #[(.ref x0), (.int x1), (.int x2)] 4)) := ⟨_, rfl⟩
  rw [← hS0] at pre0
  have K0 := Keep.refl h0 [x0, tb]
  obtain ⟨us, hus, VU⟩ := own_norm V0
  have p1 : ∀ t, own_W p e below m s₁ 1 #[.val (.ref x0), .val (.int x1), .val (.int x2), .unset] [(.ref x0)] t → Steps p.tables e below S0 t := fun t k => pre0 t (by
    show own_W p e below m s₁ 0 #[.val (.ref x0), .val (.int x1), .val (.int x2), .unset] [] _
    refine XS.aloadN X0.here hx rfl (hb hby dpb_0) rfl rfl ?_
    exact k)
  obtain ⟨T2, X2, e2, st2⟩ := getF X0 hx hZ hown (host := "") (Or.inl (hw _ (List.mem_of_getElem? (i := 29) rfl))) Via.refl e0 Fb (g := (mkF m 1 #[.val (.ref x0), .val (.int x1), .val (.int x2), .unset] [(.ref x0)])) rfl rfl (hb hby dpb_1)
  have p3 : ∀ t, own_W p e below m T2 4 #[.val (.ref x0), .val (.int x1), .val (.int x2), .unset] [(.ref tb)] t → Steps p.tables e below S0 t := fun t k => p1 t (st2 t k)
  have p4 : ∀ t, own_W p e below m T2 9 #[.val (.ref x0), .val (.int x1), .val (.int x2), .unset] [(.ref x0), (.ref x0)] t → Steps p.tables e below S0 t := fun t k => p3 t (by
    show own_W p e below m T2 4 #[.val (.ref x0), .val (.int x1), .val (.int x2), .unset] [(.ref tb)] _
    refine XS.ifnullNo X2.here hx rfl (hb hby dpb_4) rfl ?_
    refine XS.aloadN X2.here hx rfl (hb hby dpb_7) rfl rfl ?_
    refine XS.dup X2.here hx rfl (hb hby dpb_8) rfl rfl ?_
    exact k)
  obtain ⟨T5, X5, e5, st5⟩ := getF X2 hx hZ hown (host := "") (Or.inl (hw _ (List.mem_of_getElem? (i := 61) rfl))) Via.refl e2 Fs (g := (mkF m 9 #[.val (.ref x0), .val (.int x1), .val (.int x2), .unset] [(.ref x0), (.ref x0)])) rfl rfl (hb hby dpb_9)
  have p6 : ∀ t, own_W p e below m T5 12 #[.val (.ref x0), .val (.int x1), .val (.int x2), .unset] [(.int sz), (.ref x0)] t → Steps p.tables e below S0 t := fun t k => p4 t (st5 t k)
  have p7 : ∀ t, own_W p e below m T5 13 #[.val (.ref x0), .val (.int x1), .val (.int x2), .unset] [(.ref x0), (.int sz), (.ref x0)] t → Steps p.tables e below S0 t := fun t k => p6 t (by
    show own_W p e below m T5 12 #[.val (.ref x0), .val (.int x1), .val (.int x2), .unset] [(.int sz), (.ref x0)] _
    refine XS.aloadN X5.here hx rfl (hb hby dpb_12) rfl rfl ?_
    exact k)
  obtain ⟨T8, X8, e8, st8⟩ := getF X5 hx hZ hown (host := "") (Or.inl (hw _ (List.mem_of_getElem? (i := 29) rfl))) Via.refl e5 Fb (g := (mkF m 13 #[.val (.ref x0), .val (.int x1), .val (.int x2), .unset] [(.ref x0), (.int sz), (.ref x0)])) rfl rfl (hb hby dpb_13)
  have p9 : ∀ t, own_W p e below m T8 16 #[.val (.ref x0), .val (.int x1), .val (.int x2), .unset] [(.ref tb), (.int sz), (.ref x0)] t → Steps p.tables e below S0 t := fun t k => p7 t (st8 t k)
  have p10 : ∀ t, own_W p e below m T8 17 #[.val (.ref x0), .val (.int x1), .val (.int x2), .unset] [(.int x1), (.ref tb), (.int sz), (.ref x0)] t → Steps p.tables e below S0 t := fun t k => p9 t (by
    show own_W p e below m T8 16 #[.val (.ref x0), .val (.int x1), .val (.int x2), .unset] [(.ref tb), (.int sz), (.ref x0)] _
    refine XS.iloadN X8.here hx rfl (hb hby dpb_16) rfl ?_
    exact k)
  obtain ⟨w, hw'⟩ := own_get VU rr
  obtain ⟨cl11, Ar11, q11, Sz11, Ng11, Hs11, G11⟩ := id VU
  have hin11 : ¬ (x1 < 0 ∨ cl11.slots.size ≤ (x1).toNatClampNeg) := inb_of Sz11 rr
  have hat11 : cl11.slots[(x1).toNatClampNeg]? = some (.int w) := Hs11.at hin11 (hw')
  have p12 : ∀ t, own_W p e below m T8 18 #[.val (.ref x0), .val (.int x1), .val (.int x2), .unset] [(.int w), (.int sz), (.ref x0)] t → Steps p.tables e below S0 t := fun t k => p10 t (by
    show own_W p e below m T8 17 #[.val (.ref x0), .val (.int x1), .val (.int x2), .unset] [(.int x1), (.ref tb), (.int sz), (.ref x0)] _
    refine X8.iaload hx (j := x1) (v := (.int w)) (by rw [e8]; exact Ar11.1) (State.isArrayOf_alike hZ.alike Ar11.2.1) Ar11.2.2 hin11 hat11 (g := (mkF m 17 #[.val (.ref x0), .val (.int x1), .val (.int x2), .unset] [(.int x1), (.ref tb), (.int sz), (.ref x0)])) rfl rfl (hb hby dpb_17) _ ?_
    exact k)
  obtain ⟨add, hadd, p13⟩ : ∃ (add : Int32), (True) ∧ ∀ t, own_W p e below m T8 27 #[.val (.ref x0), .val (.int x1), .val (.int x2), .unset] [(.int add), (.int sz), (.ref x0)] t → Steps p.tables e below S0 t := by
    have p14 : ∀ t, own_W p e below m T8 19 #[.val (.ref x0), .val (.int x1), .val (.int x2), .unset] [(.int (-1 : Int32)), (.int w), (.int sz), (.ref x0)] t → Steps p.tables e below S0 t := fun t k => p12 t (by
      show own_W p e below m T8 18 #[.val (.ref x0), .val (.int x1), .val (.int x2), .unset] [(.int w), (.int sz), (.ref x0)] _
      refine XS.iconst X8.here hx rfl (hb hby dpb_18) ?_
      exact k)
    by_cases hw19 : w = (-1 : Int32)
    · have p15 : ∀ t, own_W p e below m T8 27 #[.val (.ref x0), .val (.int x1), .val (.int x2), .unset] [(.int (1 : Int32)), (.int sz), (.ref x0)] t → Steps p.tables e below S0 t := fun t k => p14 t (by
        show own_W p e below m T8 19 #[.val (.ref x0), .val (.int x1), .val (.int x2), .unset] [(.int (-1 : Int32)), (.int w), (.int sz), (.ref x0)] _
        refine XS.icmpNo X8.here hx rfl (hb hby dpb_19) rfl ((teq (hw19)).2) ?_
        refine XS.iconst X8.here hx rfl (hb hby dpb_22) ?_
        refine XS.goto X8.here hx rfl (pc0 := 23) (pc' := 27) rfl (hb hby dpb_23) (by decide) (by decide) ?_
        exact k)
      exact ⟨(1 : Int32), trivial, p15⟩
    · have p16 : ∀ t, own_W p e below m T8 27 #[.val (.ref x0), .val (.int x1), .val (.int x2), .unset] [(.int (0 : Int32)), (.int sz), (.ref x0)] t → Steps p.tables e below S0 t := fun t k => p14 t (by
        show own_W p e below m T8 19 #[.val (.ref x0), .val (.int x1), .val (.int x2), .unset] [(.int (-1 : Int32)), (.int w), (.int sz), (.ref x0)] _
        refine XS.icmpYes X8.here hx rfl (pc0 := 19) (pc' := 26) rfl (hb hby dpb_19) rfl ((feq (hw19)).2) (by decide) (by decide) ?_
        refine XS.iconst X8.here hx rfl (hb hby dpb_26) ?_
        exact k)
      exact ⟨(0 : Int32), trivial, p16⟩
  have p17 : ∀ t, own_W p e below m T8 28 #[.val (.ref x0), .val (.int x1), .val (.int x2), .unset] [(.int (sz + add)), (.ref x0)] t → Steps p.tables e below S0 t := fun t k => p13 t (by
    show own_W p e below m T8 27 #[.val (.ref x0), .val (.int x1), .val (.int x2), .unset] [(.int add), (.int sz), (.ref x0)] _
    refine XS.iadd X8.here hx rfl (hb hby dpb_27) rfl ?_
    exact k)
  obtain ⟨T18, h18, X18, e18, W18, st18⟩ := putF X8 hx hZ hown (host := "") (Or.inl (hw _ (List.mem_of_getElem? (i := 61) rfl))) Via.refl e8 Fs E0 (Or.inl (hw _ (List.mem_of_getElem? (i := 62) rfl))) (hw _ (List.mem_of_getElem? (i := 2) rfl)) (ty := .int) (by decide) rfl rfl (g := (mkF m 28 #[.val (.ref x0), .val (.int x1), .val (.int x2), .unset] [(.int (sz + add)), (.ref x0)])) rfl rfl (hb hby dpb_28)
  have f19 := Fs.same W18
  have f20 := E0.wr W18
  have f21 := Ft.other W18 (Or.inr (slot_ne (Or.inl (hw _ (List.mem_of_getElem? (i := 28) rfl))) (Or.inl (hw _ (List.mem_of_getElem? (i := 62) rfl))) (by decide) (t := (.array .int)) (t' := .int) (by decide) (by decide)))
  have f22 := Fb.other W18 (Or.inr (slot_ne (Or.inl (hw _ (List.mem_of_getElem? (i := 30) rfl))) (Or.inl (hw _ (List.mem_of_getElem? (i := 62) rfl))) (by decide) (t := (.array .int)) (t' := .int) (by decide) (by decide)))
  have f23 := Fh.other W18 (Or.inr (slot_ne (Or.inl (hw _ (List.mem_of_getElem? (i := 22) rfl))) (Or.inl (hw _ (List.mem_of_getElem? (i := 62) rfl))) (by decide) (t := .int) (t' := .int) (by decide) (by decide)))
  have f24 := Fl.other W18 (Or.inr (slot_ne (Or.inl (hw _ (List.mem_of_getElem? (i := 24) rfl))) (Or.inl (hw _ (List.mem_of_getElem? (i := 62) rfl))) (by decide) (t := .int) (t' := .int) (by decide) (by decide)))
  have f25 := Fv.other W18 (Or.inr (slot_ne (Or.inl (hw _ (List.mem_of_getElem? (i := 26) rfl))) (Or.inl (hw _ (List.mem_of_getElem? (i := 62) rfl))) (by decide) (t := .int) (t' := .int) (by decide) (by decide)))
  have f26 := VU.other W18 (Ne.symm nx)
  have Z18 := Nat.le_trans Z0 (Keep.of_wr W18).1
  have N18 := Fr.snoc X18 N0 g0
  have KK18 := K0.wr W18 (Or.inl (List.mem_cons_self ..))
  have p27 : ∀ t, own_W p e below m T18 31 #[.val (.ref x0), .val (.int x1), .val (.int x2), .unset] [] t → Steps p.tables e below S0 t := fun t k => p17 t (st18 t k)
  have p28 : ∀ t, own_W p e below m T18 32 #[.val (.ref x0), .val (.int x1), .val (.int x2), .unset] [(.ref x0)] t → Steps p.tables e below S0 t := fun t k => p27 t (by
    show own_W p e below m T18 31 #[.val (.ref x0), .val (.int x1), .val (.int x2), .unset] [] _
    refine XS.aloadN X18.here hx rfl (hb hby dpb_31) rfl rfl ?_
    exact k)
  obtain ⟨T29, X29, e29, st29⟩ := getF X18 hx hZ hown (host := "") (Or.inl (hw _ (List.mem_of_getElem? (i := 29) rfl))) Via.refl e18 f22 (g := (mkF m 32 #[.val (.ref x0), .val (.int x1), .val (.int x2), .unset] [(.ref x0)])) rfl rfl (hb hby dpb_32)
  have p30 : ∀ t, own_W p e below m T29 35 #[.val (.ref x0), .val (.int x1), .val (.int x2), .unset] [(.ref tb)] t → Steps p.tables e below S0 t := fun t k => p28 t (st29 t k)
  have p31 : ∀ t, own_W p e below m T29 37 #[.val (.ref x0), .val (.int x1), .val (.int x2), .unset] [(.int x2), (.int x1), (.ref tb)] t → Steps p.tables e below S0 t := fun t k => p30 t (by
    show own_W p e below m T29 35 #[.val (.ref x0), .val (.int x1), .val (.int x2), .unset] [(.ref tb)] _
    refine XS.iloadN X29.here hx rfl (hb hby dpb_35) rfl ?_
    refine XS.iloadN X29.here hx rfl (hb hby dpb_36) rfl ?_
    exact k)
  obtain ⟨cl32, Ar32, q32, Sz32, Ng32, Hs32, G32⟩ := id f26
  have hin32 : ¬ (x1 < 0 ∨ cl32.slots.size ≤ (x1).toNatClampNeg) := inb_of Sz32 (rr)
  obtain ⟨T32, h32, X32, e32, W32, st32⟩ := stI X29 hx hZ e29 Ar32 (j := x1) hin32 (g := (mkF m 37 #[.val (.ref x0), .val (.int x1), .val (.int x2), .unset] [(.int x2), (.int x1), (.ref tb)])) rfl rfl (hb hby dpb_37)
  have VV32 : Arv Z h32 tb kt .int N (us.set (x1.toNatClampNeg) (.int x2)) (.int (0 : Int32)) := Arv.set Ar32 q32 Sz32 Ng32 Hs32 G32 rfl W32 (x1.toNatClampNeg) (rfl) (own_ltl rr hus)
  have f33 := f20.wr W32
  have f34 := f21.other W32 (Or.inl nx)
  have f35 := f22.other W32 (Or.inl nx)
  have f36 := f23.other W32 (Or.inl nx)
  have f37 := f24.other W32 (Or.inl nx)
  have f38 := f25.other W32 (Or.inl nx)
  have f39 := f19.other W32 (Or.inl nx)
  have Z32 := Nat.le_trans Z18 (Keep.of_wr W32).1
  have N32 := Fr.snoc X32 N18 gt
  have KK32 := KK18.wr W32 (Or.inl (List.mem_cons_of_mem _ (List.mem_singleton.mpr rfl)))
  have p40 : ∀ t, own_W p e below m T32 38 #[.val (.ref x0), .val (.int x1), .val (.int x2), .unset] [] t → Steps p.tables e below S0 t := fun t k => p31 t (st32 t k)
  have p41 : ∀ t, own_W p e below m T32 88 #[.val (.ref x0), .val (.int x1), .val (.int x2), .unset] [(.ref x0), (.ref x0)] t → Steps p.tables e below S0 t := fun t k => p40 t (by
    show own_W p e below m T32 38 #[.val (.ref x0), .val (.int x1), .val (.int x2), .unset] [] _
    refine XS.goto X32.here hx rfl (pc0 := 38) (pc' := 86) rfl (hb hby dpb_38) (by decide) (by decide) ?_
    refine XS.aloadN X32.here hx rfl (hb hby dpb_86) rfl rfl ?_
    refine XS.aloadN X32.here hx rfl (hb hby dpb_87) rfl rfl ?_
    exact k)
  obtain ⟨T42, X42, e42, st42⟩ := getF X32 hx hZ hown (host := "") (Or.inl (hw _ (List.mem_of_getElem? (i := 21) rfl))) Via.refl e32 f36 (g := (mkF m 88 #[.val (.ref x0), .val (.int x1), .val (.int x2), .unset] [(.ref x0), (.ref x0)])) rfl rfl (hb hby dpb_88)
  have p43 : ∀ t, own_W p e below m T42 91 #[.val (.ref x0), .val (.int x1), .val (.int x2), .unset] [(.int hi), (.ref x0)] t → Steps p.tables e below S0 t := fun t k => p41 t (st42 t k)
  have p44 : ∀ t, own_W p e below m T42 92 #[.val (.ref x0), .val (.int x1), .val (.int x2), .unset] [(.int x1), (.int hi), (.ref x0)] t → Steps p.tables e below S0 t := fun t k => p43 t (by
    show own_W p e below m T42 91 #[.val (.ref x0), .val (.int x1), .val (.int x2), .unset] [(.int hi), (.ref x0)] _
    refine XS.iloadN X42.here hx rfl (hb hby dpb_91) rfl ?_
    exact k)
  obtain ⟨_, _, ⟨T45, L45, k45, n45⟩, -, X45, ⟨Lc45, hQ45, l45, y45, z45⟩, st45⟩ := Jvm.LawKit.callS X42 hx (y := (⟨"java/lang/Math", "max", "(II)I"⟩ : MethodName)) hown (mvT hZ (hw _ (List.mem_of_getElem? (i := 67) rfl))) (mvT hZ (hw _ (List.mem_of_getElem? (i := 68) rfl))) (mvT hZ (hw _ (List.mem_of_getElem? (i := 69) rfl))) (mvT hZ (hw _ (List.mem_of_getElem? (i := 70) rfl))) (by decide) (backOf (W := 1) (rmmxg l Z a0 hw [] hi x1  h32 n0 Z32 ) hZ (hw _ (List.mem_of_getElem? (i := 70) rfl)) (hw _ (List.mem_of_getElem? (i := 69) rfl)) (by decide) (by decide)) (g := (mkF m 92 #[.val (.ref x0), .val (.int x1), .val (.int x2), .unset] [(.int x1), (.int hi), (.ref x0)])) rfl (by rw [hml]; rfl) (argsL := [(.int hi), (.int x1)]) (rest := [(.ref x0)]) (lenOf pdpb_0 rfl) rfl (by show 2 * 0 + _ ≤ _; exact Nat.le_of_eq rfl) (hb hby dpb_92) (fun _ _ => ⟨rfl, e42, (by decide : 0 + 0 ≤ _), (by decide : 0 + 0 ≤ _)⟩)
  dsimp only [Pt.U, Pt.locs, Pt.cells, Pt.slots] at X45 l45 y45 z45 st45 hQ45
  subst l45 y45 z45
  obtain ⟨q45, rfl, Nq45, e45, hq45⟩ := hQ45
  have N45 := Fr.app N32 Nq45
  have p46 : ∀ t, own_W p e below m T45 95 #[.val (.ref x0), .val (.int x1), .val (.int x2), .unset] [(.int q45), (.ref x0)] t → Steps p.tables e below S0 t := fun t k => p44 t (st45 _ k)
  obtain ⟨T47, h47, X47, e47, W47, st47⟩ := putF X45 hx hZ hown (host := "") (Or.inl (hw _ (List.mem_of_getElem? (i := 21) rfl))) Via.refl e45 f36 f33 (Or.inl (hw _ (List.mem_of_getElem? (i := 22) rfl))) (hw _ (List.mem_of_getElem? (i := 2) rfl)) (ty := .int) (by decide) rfl rfl (g := (mkF m 95 #[.val (.ref x0), .val (.int x1), .val (.int x2), .unset] [(.int q45), (.ref x0)])) rfl rfl (hb hby dpb_95)
  have f48 := f36.same W47
  have f49 := f33.wr W47
  have f50 := f34.other W47 (Or.inr (slot_ne (Or.inl (hw _ (List.mem_of_getElem? (i := 28) rfl))) (Or.inl (hw _ (List.mem_of_getElem? (i := 22) rfl))) (by decide) (t := (.array .int)) (t' := .int) (by decide) (by decide)))
  have f51 := f35.other W47 (Or.inr (slot_ne (Or.inl (hw _ (List.mem_of_getElem? (i := 30) rfl))) (Or.inl (hw _ (List.mem_of_getElem? (i := 22) rfl))) (by decide) (t := (.array .int)) (t' := .int) (by decide) (by decide)))
  have f52 := f37.other W47 (Or.inr (slot_ne (Or.inl (hw _ (List.mem_of_getElem? (i := 24) rfl))) (Or.inl (hw _ (List.mem_of_getElem? (i := 22) rfl))) (by decide) (t := .int) (t' := .int) (by decide) (by decide)))
  have f53 := f38.other W47 (Or.inr (slot_ne (Or.inl (hw _ (List.mem_of_getElem? (i := 26) rfl))) (Or.inl (hw _ (List.mem_of_getElem? (i := 22) rfl))) (by decide) (t := .int) (t' := .int) (by decide) (by decide)))
  have f54 := f39.other W47 (Or.inr (slot_ne (Or.inl (hw _ (List.mem_of_getElem? (i := 62) rfl))) (Or.inl (hw _ (List.mem_of_getElem? (i := 22) rfl))) (by decide) (t := .int) (t' := .int) (by decide) (by decide)))
  have f55 := VV32.other W47 (Ne.symm nx)
  have Z47 := Nat.le_trans Z32 (Keep.of_wr W47).1
  have N47 := Fr.snoc X47 N45 g0
  have KK47 := KK32.wr W47 (Or.inl (List.mem_cons_self ..))
  have p56 : ∀ t, own_W p e below m T47 98 #[.val (.ref x0), .val (.int x1), .val (.int x2), .unset] [] t → Steps p.tables e below S0 t := fun t k => p46 t (st47 t k)
  obtain ⟨lvn, T57, Lj57, X57, e57, N57, hj57, p57⟩ : ∃ (lvn : Int32) (T' : State) (Lj : List Loc), Stand p l e ({ frames := 1, cells := 0, slots := 0, locals := 16 } : Room) s m #[(.ref x0), (.int x1), (.int x2)] below meth c T' Lj 0 0 ∧ T'.heap = h47 ∧ Fr n0 Lj ∧ (True) ∧ ∀ t, Steps p.tables e below (T'.setTop (mkF m 119 #[.val (.ref x0), .val (.int x1), .val (.int x2), .unset] [(.int lvn), (.ref x0)])) t → Steps p.tables e below S0 t := by
    have p58 : ∀ t, own_W p e below m T47 100 #[.val (.ref x0), .val (.int x1), .val (.int x2), .unset] [(.ref x0), (.ref x0)] t → Steps p.tables e below S0 t := fun t k => p56 t (by
      show own_W p e below m T47 98 #[.val (.ref x0), .val (.int x1), .val (.int x2), .unset] [] _
      refine XS.aloadN X47.here hx rfl (hb hby dpb_98) rfl rfl ?_
      refine XS.aloadN X47.here hx rfl (hb hby dpb_99) rfl rfl ?_
      exact k)
    obtain ⟨T59, X59, e59, st59⟩ := getF X47 hx hZ hown (host := "") (Or.inl (hw _ (List.mem_of_getElem? (i := 23) rfl))) Via.refl e47 f52 (g := (mkF m 100 #[.val (.ref x0), .val (.int x1), .val (.int x2), .unset] [(.ref x0), (.ref x0)])) rfl rfl (hb hby dpb_100)
    have p60 : ∀ t, own_W p e below m T59 103 #[.val (.ref x0), .val (.int x1), .val (.int x2), .unset] [(.int lv), (.ref x0)] t → Steps p.tables e below S0 t := fun t k => p58 t (st59 t k)
    have p61 : ∀ t, own_W p e below m T59 104 #[.val (.ref x0), .val (.int x1), .val (.int x2), .unset] [(.int (-1 : Int32)), (.int lv), (.ref x0)] t → Steps p.tables e below S0 t := fun t k => p60 t (by
      show own_W p e below m T59 103 #[.val (.ref x0), .val (.int x1), .val (.int x2), .unset] [(.int lv), (.ref x0)] _
      refine XS.iconst X59.here hx rfl (hb hby dpb_103) ?_
      exact k)
    by_cases hc104 : lv = (-1 : Int32)
    · have p62 : ∀ t, own_W p e below m T59 119 #[.val (.ref x0), .val (.int x1), .val (.int x2), .unset] [(.int x2), (.ref x0)] t → Steps p.tables e below S0 t := fun t k => p61 t (by
        show own_W p e below m T59 104 #[.val (.ref x0), .val (.int x1), .val (.int x2), .unset] [(.int (-1 : Int32)), (.int lv), (.ref x0)] _
        refine XS.icmpNo X59.here hx rfl (hb hby dpb_104) rfl ((teq (hc104)).2) ?_
        refine XS.iloadN X59.here hx rfl (hb hby dpb_107) rfl ?_
        refine XS.goto X59.here hx rfl (pc0 := 108) (pc' := 119) rfl (hb hby dpb_108) (by decide) (by decide) ?_
        exact k)
      exact ⟨x2, T59, _, X59, e59, N47, trivial, p62⟩
    · have p63 : ∀ t, own_W p e below m T59 112 #[.val (.ref x0), .val (.int x1), .val (.int x2), .unset] [(.ref x0), (.ref x0)] t → Steps p.tables e below S0 t := fun t k => p61 t (by
        show own_W p e below m T59 104 #[.val (.ref x0), .val (.int x1), .val (.int x2), .unset] [(.int (-1 : Int32)), (.int lv), (.ref x0)] _
        refine XS.icmpYes X59.here hx rfl (pc0 := 104) (pc' := 111) rfl (hb hby dpb_104) rfl ((feq (hc104)).2) (by decide) (by decide) ?_
        refine XS.aloadN X59.here hx rfl (hb hby dpb_111) rfl rfl ?_
        exact k)
      obtain ⟨T64, X64, e64, st64⟩ := getF X59 hx hZ hown (host := "") (Or.inl (hw _ (List.mem_of_getElem? (i := 23) rfl))) Via.refl e59 f52 (g := (mkF m 112 #[.val (.ref x0), .val (.int x1), .val (.int x2), .unset] [(.ref x0), (.ref x0)])) rfl rfl (hb hby dpb_112)
      have p65 : ∀ t, own_W p e below m T64 115 #[.val (.ref x0), .val (.int x1), .val (.int x2), .unset] [(.int lv), (.ref x0)] t → Steps p.tables e below S0 t := fun t k => p63 t (st64 t k)
      have p66 : ∀ t, own_W p e below m T64 116 #[.val (.ref x0), .val (.int x1), .val (.int x2), .unset] [(.int x2), (.int lv), (.ref x0)] t → Steps p.tables e below S0 t := fun t k => p65 t (by
        show own_W p e below m T64 115 #[.val (.ref x0), .val (.int x1), .val (.int x2), .unset] [(.int lv), (.ref x0)] _
        refine XS.iloadN X64.here hx rfl (hb hby dpb_115) rfl ?_
        exact k)
      obtain ⟨_, _, ⟨T67, L67, k67, n67⟩, -, X67, ⟨Lc67, hQ67, l67, y67, z67⟩, st67⟩ := Jvm.LawKit.callS X64 hx (y := (⟨"java/lang/Math", "min", "(II)I"⟩ : MethodName)) hown (mvT hZ (hw _ (List.mem_of_getElem? (i := 72) rfl))) (mvT hZ (hw _ (List.mem_of_getElem? (i := 73) rfl))) (mvT hZ (hw _ (List.mem_of_getElem? (i := 69) rfl))) (mvT hZ (hw _ (List.mem_of_getElem? (i := 74) rfl))) (by decide) (backOf (W := 1) (rmmng l Z a0 hw [] lv x2  h47 n0 Z47 ) hZ (hw _ (List.mem_of_getElem? (i := 74) rfl)) (hw _ (List.mem_of_getElem? (i := 69) rfl)) (by decide) (by decide)) (g := (mkF m 116 #[.val (.ref x0), .val (.int x1), .val (.int x2), .unset] [(.int x2), (.int lv), (.ref x0)])) rfl (by rw [hml]; rfl) (argsL := [(.int lv), (.int x2)]) (rest := [(.ref x0)]) (lenOf pdpb_0 rfl) rfl (by show 2 * 0 + _ ≤ _; exact Nat.le_of_eq rfl) (hb hby dpb_116) (fun _ _ => ⟨rfl, e64, (by decide : 0 + 0 ≤ _), (by decide : 0 + 0 ≤ _)⟩)
      dsimp only [Pt.U, Pt.locs, Pt.cells, Pt.slots] at X67 l67 y67 z67 st67 hQ67
      subst l67 y67 z67
      obtain ⟨q67, rfl, Nq67, e67⟩ := hQ67
      have N67 := Fr.app N47 Nq67
      have p68 : ∀ t, own_W p e below m T67 119 #[.val (.ref x0), .val (.int x1), .val (.int x2), .unset] [(.int q67), (.ref x0)] t → Steps p.tables e below S0 t := fun t k => p66 t (st67 _ k)
      exact ⟨q67, T67, _, X67, e67, N67, trivial, p68⟩
  obtain ⟨T69, h69, X69, e69, W69, st69⟩ := putF X57 hx hZ hown (host := "") (Or.inl (hw _ (List.mem_of_getElem? (i := 23) rfl))) Via.refl e57 f52 f49 (Or.inl (hw _ (List.mem_of_getElem? (i := 24) rfl))) (hw _ (List.mem_of_getElem? (i := 2) rfl)) (ty := .int) (by decide) rfl rfl (g := (mkF m 119 #[.val (.ref x0), .val (.int x1), .val (.int x2), .unset] [(.int lvn), (.ref x0)])) rfl rfl (hb hby dpb_119)
  have f70 := f52.same W69
  have f71 := f49.wr W69
  have f72 := f50.other W69 (Or.inr (slot_ne (Or.inl (hw _ (List.mem_of_getElem? (i := 28) rfl))) (Or.inl (hw _ (List.mem_of_getElem? (i := 24) rfl))) (by decide) (t := (.array .int)) (t' := .int) (by decide) (by decide)))
  have f73 := f51.other W69 (Or.inr (slot_ne (Or.inl (hw _ (List.mem_of_getElem? (i := 30) rfl))) (Or.inl (hw _ (List.mem_of_getElem? (i := 24) rfl))) (by decide) (t := (.array .int)) (t' := .int) (by decide) (by decide)))
  have f74 := f53.other W69 (Or.inr (slot_ne (Or.inl (hw _ (List.mem_of_getElem? (i := 26) rfl))) (Or.inl (hw _ (List.mem_of_getElem? (i := 24) rfl))) (by decide) (t := .int) (t' := .int) (by decide) (by decide)))
  have f75 := f54.other W69 (Or.inr (slot_ne (Or.inl (hw _ (List.mem_of_getElem? (i := 62) rfl))) (Or.inl (hw _ (List.mem_of_getElem? (i := 24) rfl))) (by decide) (t := .int) (t' := .int) (by decide) (by decide)))
  have f76 := f55.other W69 (Ne.symm nx)
  have f77 := f48.other W69 (Or.inr (slot_ne (Or.inl (hw _ (List.mem_of_getElem? (i := 22) rfl))) (Or.inl (hw _ (List.mem_of_getElem? (i := 24) rfl))) (by decide) (t := .int) (t' := .int) (by decide) (by decide)))
  have Z69 := Nat.le_trans Z47 (Keep.of_wr W69).1
  have N69 := Fr.snoc X69 N57 g0
  have KK69 := KK47.wr W69 (Or.inl (List.mem_cons_self ..))
  have p78 : ∀ t, own_W p e below m T69 122 #[.val (.ref x0), .val (.int x1), .val (.int x2), .unset] [] t → Steps p.tables e below S0 t := fun t k => p57 t (st69 t k)
  have p79 : ∀ t, own_W p e below m T69 124 #[.val (.ref x0), .val (.int x1), .val (.int x2), .unset] [(.ref x0), (.ref x0)] t → Steps p.tables e below S0 t := fun t k => p78 t (by
    show own_W p e below m T69 122 #[.val (.ref x0), .val (.int x1), .val (.int x2), .unset] [] _
    refine XS.aloadN X69.here hx rfl (hb hby dpb_122) rfl rfl ?_
    refine XS.aloadN X69.here hx rfl (hb hby dpb_123) rfl rfl ?_
    exact k)
  obtain ⟨T80, X80, e80, st80⟩ := getF X69 hx hZ hown (host := "") (Or.inl (hw _ (List.mem_of_getElem? (i := 25) rfl))) Via.refl e69 f74 (g := (mkF m 124 #[.val (.ref x0), .val (.int x1), .val (.int x2), .unset] [(.ref x0), (.ref x0)])) rfl rfl (hb hby dpb_124)
  have p81 : ∀ t, own_W p e below m T80 127 #[.val (.ref x0), .val (.int x1), .val (.int x2), .unset] [(.int hv), (.ref x0)] t → Steps p.tables e below S0 t := fun t k => p79 t (st80 t k)
  have p82 : ∀ t, own_W p e below m T80 128 #[.val (.ref x0), .val (.int x1), .val (.int x2), .unset] [(.int x2), (.int hv), (.ref x0)] t → Steps p.tables e below S0 t := fun t k => p81 t (by
    show own_W p e below m T80 127 #[.val (.ref x0), .val (.int x1), .val (.int x2), .unset] [(.int hv), (.ref x0)] _
    refine XS.iloadN X80.here hx rfl (hb hby dpb_127) rfl ?_
    exact k)
  obtain ⟨_, _, ⟨T83, L83, k83, n83⟩, -, X83, ⟨Lc83, hQ83, l83, y83, z83⟩, st83⟩ := Jvm.LawKit.callS X80 hx (y := (⟨"java/lang/Math", "max", "(II)I"⟩ : MethodName)) hown (mvT hZ (hw _ (List.mem_of_getElem? (i := 67) rfl))) (mvT hZ (hw _ (List.mem_of_getElem? (i := 68) rfl))) (mvT hZ (hw _ (List.mem_of_getElem? (i := 69) rfl))) (mvT hZ (hw _ (List.mem_of_getElem? (i := 70) rfl))) (by decide) (backOf (W := 1) (rmmxg l Z a0 hw [] hv x2  h69 n0 Z69 ) hZ (hw _ (List.mem_of_getElem? (i := 70) rfl)) (hw _ (List.mem_of_getElem? (i := 69) rfl)) (by decide) (by decide)) (g := (mkF m 128 #[.val (.ref x0), .val (.int x1), .val (.int x2), .unset] [(.int x2), (.int hv), (.ref x0)])) rfl (by rw [hml]; rfl) (argsL := [(.int hv), (.int x2)]) (rest := [(.ref x0)]) (lenOf pdpb_0 rfl) rfl (by show 2 * 0 + _ ≤ _; exact Nat.le_of_eq rfl) (hb hby dpb_128) (fun _ _ => ⟨rfl, e80, (by decide : 0 + 0 ≤ _), (by decide : 0 + 0 ≤ _)⟩)
  dsimp only [Pt.U, Pt.locs, Pt.cells, Pt.slots] at X83 l83 y83 z83 st83 hQ83
  subst l83 y83 z83
  obtain ⟨q83, rfl, Nq83, e83, hq83⟩ := hQ83
  have N83 := Fr.app N69 Nq83
  have p84 : ∀ t, own_W p e below m T83 131 #[.val (.ref x0), .val (.int x1), .val (.int x2), .unset] [(.int q83), (.ref x0)] t → Steps p.tables e below S0 t := fun t k => p82 t (st83 _ k)
  obtain ⟨T85, h85, X85, e85, W85, st85⟩ := putF X83 hx hZ hown (host := "") (Or.inl (hw _ (List.mem_of_getElem? (i := 25) rfl))) Via.refl e83 f74 f71 (Or.inl (hw _ (List.mem_of_getElem? (i := 26) rfl))) (hw _ (List.mem_of_getElem? (i := 2) rfl)) (ty := .int) (by decide) rfl rfl (g := (mkF m 131 #[.val (.ref x0), .val (.int x1), .val (.int x2), .unset] [(.int q83), (.ref x0)])) rfl rfl (hb hby dpb_131)
  have f86 := f74.same W85
  have f87 := f71.wr W85
  have f88 := f72.other W85 (Or.inr (slot_ne (Or.inl (hw _ (List.mem_of_getElem? (i := 28) rfl))) (Or.inl (hw _ (List.mem_of_getElem? (i := 26) rfl))) (by decide) (t := (.array .int)) (t' := .int) (by decide) (by decide)))
  have f89 := f73.other W85 (Or.inr (slot_ne (Or.inl (hw _ (List.mem_of_getElem? (i := 30) rfl))) (Or.inl (hw _ (List.mem_of_getElem? (i := 26) rfl))) (by decide) (t := (.array .int)) (t' := .int) (by decide) (by decide)))
  have f90 := f75.other W85 (Or.inr (slot_ne (Or.inl (hw _ (List.mem_of_getElem? (i := 62) rfl))) (Or.inl (hw _ (List.mem_of_getElem? (i := 26) rfl))) (by decide) (t := .int) (t' := .int) (by decide) (by decide)))
  have f91 := f76.other W85 (Ne.symm nx)
  have f92 := f77.other W85 (Or.inr (slot_ne (Or.inl (hw _ (List.mem_of_getElem? (i := 22) rfl))) (Or.inl (hw _ (List.mem_of_getElem? (i := 26) rfl))) (by decide) (t := .int) (t' := .int) (by decide) (by decide)))
  have f93 := f70.other W85 (Or.inr (slot_ne (Or.inl (hw _ (List.mem_of_getElem? (i := 24) rfl))) (Or.inl (hw _ (List.mem_of_getElem? (i := 26) rfl))) (by decide) (t := .int) (t' := .int) (by decide) (by decide)))
  have Z85 := Nat.le_trans Z69 (Keep.of_wr W85).1
  have N85 := Fr.snoc X85 N83 g0
  have KK85 := KK69.wr W85 (Or.inl (List.mem_cons_self ..))
  have p94 : ∀ t, own_W p e below m T85 134 #[.val (.ref x0), .val (.int x1), .val (.int x2), .unset] [] t → Steps p.tables e below S0 t := fun t k => p84 t (st85 t k)
  subst hS0
  obtain ⟨fs, hr, hrun, hended, hW, hsame⟩ := X85.leave (v := none) (fun _ => rfl)
  refine ⟨_, _, p94 _ ?_, hrun, hended, _, _, rfl, ?_, ⟨_, rfl⟩, hW, hsame.mono (by decide) (by decide)⟩
  · show own_W p e below m T85 134 #[.val (.ref x0), .val (.int x1), .val (.int x2), .unset] [] _
    exact X85.returnOut hx Bd.returns (hb hby dpb_134) hr
  · show Qpb Z x0 x1 x2 tb kt sz hi lv hv N vs h0 n0 _ T85.heap _
    rw [e85]
    exact ⟨rfl, N85, KK85, _, _, _, _, _, f87, f88, f89, f90, f92, f93, f86, f91⟩
theorem dmkg_0 : decode prog_53_method_10_code 0 = .ok (.iload_n 1, 1) := by decide +kernel
theorem dmkg_1 : decode prog_53_method_10_code 1 = .ok (.ifCond .ge 17, 3) := by decide +kernel
theorem dmkg_18 : decode prog_53_method_10_code 18 = .ok (.aload_n 0, 1) := by decide +kernel
theorem dmkg_19 : decode prog_53_method_10_code 19 = .ok (.iload_n 1, 1) := by decide +kernel
theorem dmkg_20 : decode prog_53_method_10_code 20 = .ok (.invokevirtual 75, 3) := by decide +kernel
theorem dmkg_23 : decode prog_53_method_10_code 23 = .ok (.ifCond .ne 21, 3) := by decide +kernel
theorem dmkg_44 : decode prog_53_method_10_code 44 = .ok (.return_, 1) := by decide +kernel
theorem pnmkg : plainName "com/example/kinwarden/kinwarden/IntMap" = true := by first | (simp [plainName, overriddenIn]; done) | decide +kernel
theorem pdmkg_0 : parseMethodDescriptor "(I)Z" = some ⟨[.int], some .boolean⟩ := by decide +kernel
theorem efmkg (m : MethodId) (x0 : Addr) (x1 : Int32) : entryFrame m #[(.ref x0), (.int x1)] 2 = mkF m 0 #[.val (.ref x0), .val (.int x1)] [] := by first | (simp [entryFrame, mkF, argsToLocals, Value.category]; done) | rfl
def Qmkg (Z : State) (x0 : Addr) (x1 : Int32) (tb : Addr) (kt : ClassId) (vs : List Value) (sz : Int32) (h0 : Heap) (n0 : Nat) (v : Option Value) (h : Heap) (L : List Loc) : Prop := v = none ∧ Fr n0 L ∧ h = h0
set_option maxRecDepth 65536 in
set_option maxHeartbeats 40000000 in
theorem rmmkg (l : Launch) (Z : State) (a0 : Array Value) (hw : ∀ d ∈ tables_1, d.before a0 Z = true) (ws : List Jvm.Cond) (x0 : Addr) (x1 : Int32) (tb : Addr) (kt : ClassId) (vs : List Value) (sz : Int32) (h0 : Heap) (n0 : Nat) (Z0 : n0 ≤ h0.size) (E0 : Exa Z h0 x0 "com/example/kinwarden/kinwarden/IntMap") (Ft : Fld Z h0 x0 "com/example/kinwarden/kinwarden/IntMap" "table" "[I" (.ref tb)) (Fb : Fld Z h0 x0 "com/example/kinwarden/kinwarden/IntMap" "byKey" "[I" .null) (Fs : Fld Z h0 x0 "com/example/kinwarden/kinwarden/IntMap" "size" "I" (.int sz)) (V0 : Arv Z h0 tb kt .int (16 : Int32) vs (.int (0 : Int32))) (hsz : ¬ ((3 : Int32) * ((16 : Int32) / (2 : Int32))) < ((4 : Int32) * (sz + (1 : Int32)))) (hk0 : ¬ x1 < (0 : Int32)) :
    MetFree l (⟨"com/example/kinwarden/kinwarden/IntMap", "makeRoomFor", "(I)V"⟩ : MethodName) (head1 (Jvm.Cond.code (⟨"com/example/kinwarden/kinwarden/IntMap", "makeRoomFor", "(I)V"⟩ : MethodName) prog_53_method_10_code 2 none :: ws) ({ frames := 3, cells := 0, slots := 0, locals := 45 } : Room)) (fun a U => a = #[(.ref x0), (.int x1)] ∧ Z.Warmed39 U.vm ∧ U.heap = h0) (fun _ _ _ _ _ => True) (fun _ U o U' => ∃ v L, o = .returned v ∧ Qmkg Z x0 x1 tb kt vs sz h0 n0 v U'.heap L ∧ FrameEnd U o U' L ({ frames := 3, cells := 0, slots := 0, locals := 45 } : Room).cells ({ frames := 3, cells := 0, slots := 0, locals := 45 } : Room).slots) := by
  refine MetFree.of_bodySF (plainFor_of_name pnmkg) hisR ?_
  intro p e s m args below meth c s₁ Bd hml0 hP hK
  obtain ⟨rfl, hZ, hh⟩ := hP
  have hx := Bd.exec
  have hby := Bd.bytes
  have hml : c.maxLocals = 2 := hml0
  have hown : s.vm.findClass "com/example/kinwarden/kinwarden/IntMap" = some m.cls := findClass_of_methodNamed Bd.named
  have hnm := (name_of_methodNamed Bd.named Bd.method).1
  have X0 : Stand p l e ({ frames := 3, cells := 0, slots := 0, locals := 45 } : Room) s m #[(.ref x0), (.int x1)] below meth c s₁ [] 0 0 := Stand.of_body Bd
  have e0 : s₁.heap = h0 := by rw [← hh, Bd.state]; rfl
  have N0 := Fr.nil n0
  have pre0 : ∀ t, Steps p.tables e below (s₁.setTop (mkF m 0 #[.val (.ref x0), .val (.int x1)] [])) t → Steps p.tables e below (s₁.setTop (entryFrame m #[(.ref x0), (.int x1)] 2)) t := fun t k => castTop (efmkg m x0 x1) k
  obtain ⟨S0, hS0⟩ : ∃ z, z = (s₁.setTop (entryFrame m #[(.ref x0), (.int x1)] 2)) := ⟨_, rfl⟩
  rw [← hS0] at pre0
  have p1 : ∀ t, own_W p e below m s₁ 20 #[.val (.ref x0), .val (.int x1)] [(.int x1), (.ref x0)] t → Steps p.tables e below S0 t := fun t k => pre0 t (by
    show own_W p e below m s₁ 0 #[.val (.ref x0), .val (.int x1)] [] _
    refine XS.iloadN X0.here hx rfl (hb hby dmkg_0) rfl ?_
    refine XS.ifYes X0.here hx rfl (pc0 := 1) (pc' := 18) rfl (hb hby dmkg_1) rfl ((if0 _ _).trans (flt (hk0)).2.1) (by decide) (by decide) ?_
    refine XS.aloadN X0.here hx rfl (hb hby dmkg_18) rfl rfl ?_
    refine XS.iloadN X0.here hx rfl (hb hby dmkg_19) rfl ?_
    exact k)
  obtain ⟨cq2, qa2, qb2⟩ := Exa.cell E0
  obtain ⟨_, _, ⟨T2, L2, k2, n2⟩, -, X2, ⟨Lc2, hQ2, l2, y2, z2⟩, st2⟩ := X0.privateBack hx (y := (⟨"com/example/kinwarden/kinwarden/IntMap", "hasRoomFor", "(I)Z"⟩ : MethodName)) hown (mvT hZ (hw _ (List.mem_of_getElem? (i := 48) rfl))) (mvT hZ (hw _ (List.mem_of_getElem? (i := 49) rfl))) (own_sel hZ hw (hw _ (List.mem_of_getElem? (i := 49) rfl)) (hw _ (List.mem_of_getElem? (i := 50) rfl))) (Cond.privateMethod_at (mvP (args := #[]) hZ (hw _ (List.mem_of_getElem? (i := 50) rfl)))) (mvT hZ (hw _ (List.mem_of_getElem? (i := 51) rfl))) (by decide) (backOf (W := 0) (rmhg l Z a0 hw [] x0 x1 tb kt vs sz h0 n0 Z0 E0 Ft Fb Fs V0 hsz) hZ (hw _ (List.mem_of_getElem? (i := 51) rfl)) (hw _ (List.mem_of_getElem? (i := 3) rfl)) (by decide) (by decide)) (g := (mkF m 20 #[.val (.ref x0), .val (.int x1)] [(.int x1), (.ref x0)])) rfl (by rw [hml]; rfl) (Steps.refl _) (a := x0) (cell := cq2) (by rw [e0]; exact qa2) qb2 (argsL := [(.int x1)]) (rest := []) (lenOf pdmkg_0 rfl) rfl (by show 2 * 0 + _ ≤ _; exact Nat.le_of_eq rfl) (hb hby dmkg_20) (fun _ _ => ⟨rfl, e0, (by decide : 0 + 0 ≤ _), (by decide : 0 + 0 ≤ _)⟩)
  dsimp only [Pt.U, Pt.locs, Pt.cells, Pt.slots] at X2 l2 y2 z2 st2 hQ2
  subst l2 y2 z2
  obtain ⟨rfl, Nq2, e2⟩ := hQ2
  have N2 := Fr.app N0 Nq2
  have p3 : ∀ t, own_W p e below m T2 23 #[.val (.ref x0), .val (.int x1)] [(.int (1 : Int32))] t → Steps p.tables e below S0 t := fun t k => p1 t (st2.trans k)
  have p4 : ∀ t, own_W p e below m T2 44 #[.val (.ref x0), .val (.int x1)] [] t → Steps p.tables e below S0 t := fun t k => p3 t (by
    show own_W p e below m T2 23 #[.val (.ref x0), .val (.int x1)] [(.int (1 : Int32))] _
    refine XS.ifYes X2.here hx rfl (pc0 := 23) (pc' := 44) rfl (hb hby dmkg_23) rfl ((if0 _ _).trans (feq (by decide)).2) (by decide) (by decide) ?_
    exact k)
  subst hS0
  obtain ⟨fs, hr, hrun, hended, hW, hsame⟩ := X2.leave (v := none) (fun _ => rfl)
  refine ⟨_, _, p4 _ ?_, hrun, hended, _, _, rfl, ?_, ⟨_, rfl⟩, hW, hsame.mono (by decide) (by decide)⟩
  · show own_W p e below m T2 44 #[.val (.ref x0), .val (.int x1)] [] _
    exact X2.returnOut hx Bd.returns (hb hby dmkg_44) hr
  · show Qmkg Z x0 x1 tb kt vs sz h0 n0 _ T2.heap _
    rw [e2]
    exact ⟨rfl, N2, rfl⟩
theorem dmke_0 : decode prog_53_method_10_code 0 = .ok (.iload_n 1, 1) := by decide +kernel
theorem dmke_1 : decode prog_53_method_10_code 1 = .ok (.ifCond .ge 17, 3) := by decide +kernel
theorem dmke_18 : decode prog_53_method_10_code 18 = .ok (.aload_n 0, 1) := by decide +kernel
theorem dmke_19 : decode prog_53_method_10_code 19 = .ok (.iload_n 1, 1) := by decide +kernel
theorem dmke_20 : decode prog_53_method_10_code 20 = .ok (.invokevirtual 75, 3) := by decide +kernel
theorem dmke_23 : decode prog_53_method_10_code 23 = .ok (.ifCond .ne 21, 3) := by decide +kernel
theorem dmke_44 : decode prog_53_method_10_code 44 = .ok (.return_, 1) := by decide +kernel
theorem pnmke : plainName "com/example/kinwarden/kinwarden/IntMap" = true := by first | (simp [plainName, overriddenIn]; done) | decide +kernel
theorem pdmke_0 : parseMethodDescriptor "(I)Z" = some ⟨[.int], some .boolean⟩ := by decide +kernel
theorem efmke (m : MethodId) (x0 : Addr) (x1 : Int32) : entryFrame m #[(.ref x0), (.int x1)] 2 = mkF m 0 #[.val (.ref x0), .val (.int x1)] [] := by first | (simp [entryFrame, mkF, argsToLocals, Value.category]; done) | rfl
def Qmke (Z : State) (x0 : Addr) (x1 : Int32) (tb : Addr) (kt : ClassId) (vv : Int32) (h0 : Heap) (n0 : Nat) (v : Option Value) (h : Heap) (L : List Loc) : Prop := v = none ∧ Fr n0 L ∧ h = h0
set_option maxRecDepth 65536 in
set_option maxHeartbeats 40000000 in
theorem rmmke (l : Launch) (Z : State) (a0 : Array Value) (hw : ∀ d ∈ tables_1, d.before a0 Z = true) (ws : List Jvm.Cond) (x0 : Addr) (x1 : Int32) (tb : Addr) (kt : ClassId) (vv : Int32) (h0 : Heap) (n0 : Nat) (Z0 : n0 ≤ h0.size) (E0 : Exa Z h0 x0 "com/example/kinwarden/kinwarden/IntMap") (Ft : Fld Z h0 x0 "com/example/kinwarden/kinwarden/IntMap" "table" "[I" (.ref tb)) (Fb : Fld Z h0 x0 "com/example/kinwarden/kinwarden/IntMap" "byKey" "[I" .null) (Fs : Fld Z h0 x0 "com/example/kinwarden/kinwarden/IntMap" "size" "I" (.int (6 : Int32))) (V0 : Arv Z h0 tb kt .int (16 : Int32) (own_T6 vv) (.int (0 : Int32))) (hkx : x1 = (0 : Int32) ∨ x1 = (1 : Int32) ∨ x1 = (2 : Int32) ∨ x1 = (3 : Int32) ∨ x1 = (4 : Int32) ∨ x1 = (5 : Int32)) (hk0 : ¬ x1 < (0 : Int32)) :
    MetFree l (⟨"com/example/kinwarden/kinwarden/IntMap", "makeRoomFor", "(I)V"⟩ : MethodName) (head1 (Jvm.Cond.code (⟨"com/example/kinwarden/kinwarden/IntMap", "makeRoomFor", "(I)V"⟩ : MethodName) prog_53_method_10_code 2 none :: ws) ({ frames := 3, cells := 0, slots := 0, locals := 45 } : Room)) (fun a U => a = #[(.ref x0), (.int x1)] ∧ Z.Warmed39 U.vm ∧ U.heap = h0) (fun _ _ _ _ _ => True) (fun _ U o U' => ∃ v L, o = .returned v ∧ Qmke Z x0 x1 tb kt vv h0 n0 v U'.heap L ∧ FrameEnd U o U' L ({ frames := 3, cells := 0, slots := 0, locals := 45 } : Room).cells ({ frames := 3, cells := 0, slots := 0, locals := 45 } : Room).slots) := by
  refine MetFree.of_bodySF (plainFor_of_name pnmke) hisR ?_
  intro p e s m args below meth c s₁ Bd hml0 hP hK
  obtain ⟨rfl, hZ, hh⟩ := hP
  have hx := Bd.exec
  have hby := Bd.bytes
  have hml : c.maxLocals = 2 := hml0
  have hown : s.vm.findClass "com/example/kinwarden/kinwarden/IntMap" = some m.cls := findClass_of_methodNamed Bd.named
  have hnm := (name_of_methodNamed Bd.named Bd.method).1
  have X0 : Stand p l e ({ frames := 3, cells := 0, slots := 0, locals := 45 } : Room) s m #[(.ref x0), (.int x1)] below meth c s₁ [] 0 0 := Stand.of_body Bd
  have e0 : s₁.heap = h0 := by rw [← hh, Bd.state]; rfl
  have N0 := Fr.nil n0
  have pre0 : ∀ t, Steps p.tables e below (s₁.setTop (mkF m 0 #[.val (.ref x0), .val (.int x1)] [])) t → Steps p.tables e below (s₁.setTop (entryFrame m #[(.ref x0), (.int x1)] 2)) t := fun t k => castTop (efmke m x0 x1) k
  obtain ⟨S0, hS0⟩ : ∃ z, z = (s₁.setTop (entryFrame m #[(.ref x0), (.int x1)] 2)) := ⟨_, rfl⟩
  rw [← hS0] at pre0
  have p1 : ∀ t, own_W p e below m s₁ 20 #[.val (.ref x0), .val (.int x1)] [(.int x1), (.ref x0)] t → Steps p.tables e below S0 t := fun t k => pre0 t (by
    show own_W p e below m s₁ 0 #[.val (.ref x0), .val (.int x1)] [] _
    refine XS.iloadN X0.here hx rfl (hb hby dmke_0) rfl ?_
    refine XS.ifYes X0.here hx rfl (pc0 := 1) (pc' := 18) rfl (hb hby dmke_1) rfl ((if0 _ _).trans (flt (hk0)).2.1) (by decide) (by decide) ?_
    refine XS.aloadN X0.here hx rfl (hb hby dmke_18) rfl rfl ?_
    refine XS.iloadN X0.here hx rfl (hb hby dmke_19) rfl ?_
    exact k)
  obtain ⟨cq2, qa2, qb2⟩ := Exa.cell E0
  obtain ⟨_, _, ⟨T2, L2, k2, n2⟩, -, X2, ⟨Lc2, hQ2, l2, y2, z2⟩, st2⟩ := X0.privateBack hx (y := (⟨"com/example/kinwarden/kinwarden/IntMap", "hasRoomFor", "(I)Z"⟩ : MethodName)) hown (mvT hZ (hw _ (List.mem_of_getElem? (i := 48) rfl))) (mvT hZ (hw _ (List.mem_of_getElem? (i := 49) rfl))) (own_sel hZ hw (hw _ (List.mem_of_getElem? (i := 49) rfl)) (hw _ (List.mem_of_getElem? (i := 50) rfl))) (Cond.privateMethod_at (mvP (args := #[]) hZ (hw _ (List.mem_of_getElem? (i := 50) rfl)))) (mvT hZ (hw _ (List.mem_of_getElem? (i := 51) rfl))) (by decide) (backOf (W := 0) (rmhe l Z a0 hw [] x0 x1 tb kt vv h0 n0 Z0 E0 Ft Fb Fs V0 hkx) hZ (hw _ (List.mem_of_getElem? (i := 51) rfl)) (hw _ (List.mem_of_getElem? (i := 3) rfl)) (by decide) (by decide)) (g := (mkF m 20 #[.val (.ref x0), .val (.int x1)] [(.int x1), (.ref x0)])) rfl (by rw [hml]; rfl) (Steps.refl _) (a := x0) (cell := cq2) (by rw [e0]; exact qa2) qb2 (argsL := [(.int x1)]) (rest := []) (lenOf pdmke_0 rfl) rfl (by show 2 * 0 + _ ≤ _; exact Nat.le_of_eq rfl) (hb hby dmke_20) (fun _ _ => ⟨rfl, e0, (by decide : 0 + 0 ≤ _), (by decide : 0 + 0 ≤ _)⟩)
  dsimp only [Pt.U, Pt.locs, Pt.cells, Pt.slots] at X2 l2 y2 z2 st2 hQ2
  subst l2 y2 z2
  obtain ⟨rfl, Nq2, e2⟩ := hQ2
  have N2 := Fr.app N0 Nq2
  have p3 : ∀ t, own_W p e below m T2 23 #[.val (.ref x0), .val (.int x1)] [(.int (1 : Int32))] t → Steps p.tables e below S0 t := fun t k => p1 t (st2.trans k)
  have p4 : ∀ t, own_W p e below m T2 44 #[.val (.ref x0), .val (.int x1)] [] t → Steps p.tables e below S0 t := fun t k => p3 t (by
    show own_W p e below m T2 23 #[.val (.ref x0), .val (.int x1)] [(.int (1 : Int32))] _
    refine XS.ifYes X2.here hx rfl (pc0 := 23) (pc' := 44) rfl (hb hby dmke_23) rfl ((if0 _ _).trans (feq (by decide)).2) (by decide) (by decide) ?_
    exact k)
  subst hS0
  obtain ⟨fs, hr, hrun, hended, hW, hsame⟩ := X2.leave (v := none) (fun _ => rfl)
  refine ⟨_, _, p4 _ ?_, hrun, hended, _, _, rfl, ?_, ⟨_, rfl⟩, hW, hsame.mono (by decide) (by decide)⟩
  · show own_W p e below m T2 44 #[.val (.ref x0), .val (.int x1)] [] _
    exact X2.returnOut hx Bd.returns (hb hby dmke_44) hr
  · show Qmke Z x0 x1 tb kt vv h0 n0 _ T2.heap _
    rw [e2]
    exact ⟨rfl, N2, rfl⟩
theorem dpug_0 : decode prog_53_method_9_code 0 = .ok (.iload_n 1, 1) := by decide +kernel
theorem dpug_1 : decode prog_53_method_9_code 1 = .ok (.ifCond .lt 7, 3) := by decide +kernel
theorem dpug_4 : decode prog_53_method_9_code 4 = .ok (.iload_n 2, 1) := by decide +kernel
theorem dpug_5 : decode prog_53_method_9_code 5 = .ok (.ifCond .ge 18, 3) := by decide +kernel
theorem dpug_23 : decode prog_53_method_9_code 23 = .ok (.aload_n 0, 1) := by decide +kernel
theorem dpug_24 : decode prog_53_method_9_code 24 = .ok (.iload_n 1, 1) := by decide +kernel
theorem dpug_25 : decode prog_53_method_9_code 25 = .ok (.invokevirtual 64, 3) := by decide +kernel
theorem dpug_28 : decode prog_53_method_9_code 28 = .ok (.aload_n 0, 1) := by decide +kernel
theorem dpug_29 : decode prog_53_method_9_code 29 = .ok (.iload_n 1, 1) := by decide +kernel
theorem dpug_30 : decode prog_53_method_9_code 30 = .ok (.iload_n 2, 1) := by decide +kernel
theorem dpug_31 : decode prog_53_method_9_code 31 = .ok (.invokevirtual 68, 3) := by decide +kernel
theorem dpug_34 : decode prog_53_method_9_code 34 = .ok (.return_, 1) := by decide +kernel
theorem pnpug : plainName "com/example/kinwarden/kinwarden/IntMap" = true := by first | (simp [plainName, overriddenIn]; done) | decide +kernel
theorem pdpug_0 : parseMethodDescriptor "(I)V" = some ⟨[.int], none⟩ := by decide +kernel
theorem pdpug_1 : parseMethodDescriptor "(II)V" = some ⟨[.int, .int], none⟩ := by decide +kernel
theorem efpug (m : MethodId) (x0 : Addr) (x1 : Int32) (x2 : Int32) : entryFrame m #[(.ref x0), (.int x1), (.int x2)] 3 = mkF m 0 #[.val (.ref x0), .val (.int x1), .val (.int x2)] [] := by first | (simp [entryFrame, mkF, argsToLocals, Value.category]; done) | rfl
def Qpug (Z : State) (x0 : Addr) (x1 : Int32) (x2 : Int32) (tb : Addr) (kt : ClassId) (sz : Int32) (hi : Int32) (lv : Int32) (hv : Int32) (vs : List Value) (h0 : Heap) (n0 : Nat) (v : Option Value) (h : Heap) (L : List Loc) : Prop := v = none ∧ Fr n0 L ∧ Keep h0 h [x0, tb] ∧ ∃ (sz' hi' lv' hv' r : Int32) (vs' : List Value), Exa Z h x0 "com/example/kinwarden/kinwarden/IntMap" ∧ Fld Z h x0 "com/example/kinwarden/kinwarden/IntMap" "table" "[I" (.ref tb) ∧ Fld Z h x0 "com/example/kinwarden/kinwarden/IntMap" "byKey" "[I" .null ∧ Fld Z h x0 "com/example/kinwarden/kinwarden/IntMap" "size" "I" (.int sz') ∧ Fld Z h x0 "com/example/kinwarden/kinwarden/IntMap" "highest" "I" (.int hi') ∧ Fld Z h x0 "com/example/kinwarden/kinwarden/IntMap" "lowestValue" "I" (.int lv') ∧ Fld Z h x0 "com/example/kinwarden/kinwarden/IntMap" "highestValue" "I" (.int hv') ∧ Arv Z h tb kt .int (16 : Int32) vs' (.int (0 : Int32)) ∧ (hi < x1 → hi' = x1) ∧ r = ((2 : Int32) * own_pr8 vs x1 7 (((x1 * (-1640531527 : Int32)).toUInt32 >>> (((28 : Int32) + (1 : Int32)) &&& 31).toUInt32).toInt32)) ∧ (vs.getD r.toNatClampNeg (.int (0 : Int32)) = .int (-1 : Int32) → sz' = (sz + (1 : Int32)) ∧ vs' = ((vs.set r.toNatClampNeg (.int x1)).set (r + (1 : Int32)).toNatClampNeg (.int x2)))
set_option maxRecDepth 65536 in
set_option maxHeartbeats 40000000 in
theorem rmpug (l : Launch) (Z : State) (a0 : Array Value) (hw : ∀ d ∈ tables_1, d.before a0 Z = true) (ws : List Jvm.Cond) (x0 : Addr) (x1 : Int32) (x2 : Int32) (tb : Addr) (kt : ClassId) (sz : Int32) (hi : Int32) (lv : Int32) (hv : Int32) (vs : List Value) (h0 : Heap) (n0 : Nat) (Z0 : n0 ≤ h0.size) (E0 : Exa Z h0 x0 "com/example/kinwarden/kinwarden/IntMap") (Ft : Fld Z h0 x0 "com/example/kinwarden/kinwarden/IntMap" "table" "[I" (.ref tb)) (Fb : Fld Z h0 x0 "com/example/kinwarden/kinwarden/IntMap" "byKey" "[I" .null) (Fs : Fld Z h0 x0 "com/example/kinwarden/kinwarden/IntMap" "size" "I" (.int sz)) (Fh : Fld Z h0 x0 "com/example/kinwarden/kinwarden/IntMap" "highest" "I" (.int hi)) (Fl : Fld Z h0 x0 "com/example/kinwarden/kinwarden/IntMap" "lowestValue" "I" (.int lv)) (Fv : Fld Z h0 x0 "com/example/kinwarden/kinwarden/IntMap" "highestValue" "I" (.int hv)) (V0 : Arv Z h0 tb kt .int (16 : Int32) vs (.int (0 : Int32))) (g0 : n0 ≤ x0) (gt : n0 ≤ tb) (nx : x0 ≠ tb) (hvl : vs.length = 16) (hsz : ¬ ((3 : Int32) * ((16 : Int32) / (2 : Int32))) < ((4 : Int32) * (sz + (1 : Int32)))) (hk0 : ¬ x1 < (0 : Int32)) (hv0 : ¬ x2 < (0 : Int32)) :
    MetFree l (⟨"com/example/kinwarden/kinwarden/IntMap", "put", "(II)V"⟩ : MethodName) (head1 (Jvm.Cond.code (⟨"com/example/kinwarden/kinwarden/IntMap", "put", "(II)V"⟩ : MethodName) prog_53_method_9_code 3 none :: ws) ({ frames := 4, cells := 0, slots := 0, locals := 58 } : Room)) (fun a U => a = #[(.ref x0), (.int x1), (.int x2)] ∧ Z.Warmed39 U.vm ∧ U.heap = h0) (fun _ _ _ _ _ => True) (fun _ U o U' => ∃ v L, o = .returned v ∧ Qpug Z x0 x1 x2 tb kt sz hi lv hv vs h0 n0 v U'.heap L ∧ FrameEnd U o U' L ({ frames := 4, cells := 0, slots := 0, locals := 58 } : Room).cells ({ frames := 4, cells := 0, slots := 0, locals := 58 } : Room).slots) := by
  refine MetFree.of_bodySF (plainFor_of_name pnpug) hisR ?_
  intro p e s m args below meth c s₁ Bd hml0 hP hK
  obtain ⟨rfl, hZ, hh⟩ := hP
  have hx := Bd.exec
  have hby := Bd.bytes
  have hml : c.maxLocals = 3 := hml0
  have hown : s.vm.findClass "com/example/kinwarden/kinwarden/IntMap" = some m.cls := findClass_of_methodNamed Bd.named
  have hnm := (name_of_methodNamed Bd.named Bd.method).1
  have X0 : Stand p l e ({ frames := 4, cells := 0, slots := 0, locals := 58 } : Room) s m #[(.ref x0), (.int x1), (.int x2)] below meth c s₁ [] 0 0 := Stand.of_body Bd
  have e0 : s₁.heap = h0 := by rw [← hh, Bd.state]; rfl
  have N0 := Fr.nil n0
  have pre0 : ∀ t, Steps p.tables e below (s₁.setTop (mkF m 0 #[.val (.ref x0), .val (.int x1), .val (.int x2)] [])) t → Steps p.tables e below (s₁.setTop (entryFrame m #[(.ref x0), (.int x1), (.int x2)] 3)) t := fun t k => castTop (efpug m x0 x1 x2) k
  obtain ⟨S0, hS0⟩ : ∃ z, z = (s₁.setTop (entryFrame m #[(.ref x0), (.int x1), (.int x2)] 3)) := ⟨_, rfl⟩
  rw [← hS0] at pre0
  have K0 := Keep.refl h0 [x0, tb]
  have p1 : ∀ t, own_W p e below m s₁ 25 #[.val (.ref x0), .val (.int x1), .val (.int x2)] [(.int x1), (.ref x0)] t → Steps p.tables e below S0 t := fun t k => pre0 t (by
    show own_W p e below m s₁ 0 #[.val (.ref x0), .val (.int x1), .val (.int x2)] [] _
    refine XS.iloadN X0.here hx rfl (hb hby dpug_0) rfl ?_
    refine XS.ifNo X0.here hx rfl (hb hby dpug_1) rfl ((if0 _ _).trans (flt (hk0)).1) ?_
    refine XS.iloadN X0.here hx rfl (hb hby dpug_4) rfl ?_
    refine XS.ifYes X0.here hx rfl (pc0 := 5) (pc' := 23) rfl (hb hby dpug_5) rfl ((if0 _ _).trans (flt (hv0)).2.1) (by decide) (by decide) ?_
    refine XS.aloadN X0.here hx rfl (hb hby dpug_23) rfl rfl ?_
    refine XS.iloadN X0.here hx rfl (hb hby dpug_24) rfl ?_
    exact k)
  obtain ⟨cq2, kq2, qa2, qb2, qc2⟩ := isOf hZ e0 E0
  obtain ⟨_, _, ⟨T2, L2, k2, n2⟩, -, X2, ⟨Lc2, hQ2, l2, y2, z2⟩, st2⟩ := X0.virtualBack hx (y := (⟨"com/example/kinwarden/kinwarden/IntMap", "makeRoomFor", "(I)V"⟩ : MethodName)) (z := (⟨"com/example/kinwarden/kinwarden/IntMap", "makeRoomFor", "(I)V"⟩ : MethodName)) hown (mvT hZ (hw _ (List.mem_of_getElem? (i := 43) rfl))) (mvT hZ (hw _ (List.mem_of_getElem? (i := 44) rfl))) (notFace_of_selects (args := #[]) (mvT hZ (hw _ (List.mem_of_getElem? (i := 46) rfl)))) (mvT hZ (hw _ (List.mem_of_getElem? (i := 46) rfl))) (mvT hZ (hw _ (List.mem_of_getElem? (i := 45) rfl))) (by decide) (backOf (W := 0) (rmmkg l Z a0 hw [] x0 x1 tb kt vs sz h0 n0 Z0 E0 Ft Fb Fs V0 hsz hk0) hZ (hw _ (List.mem_of_getElem? (i := 47) rfl)) (hw _ (List.mem_of_getElem? (i := 3) rfl)) (by decide) (by decide)) qa2 qc2 (g := (mkF m 25 #[.val (.ref x0), .val (.int x1), .val (.int x2)] [(.int x1), (.ref x0)])) rfl (by rw [hml]; rfl) (Steps.refl _) (argsL := [(.int x1)]) (rest := []) (lenOf pdpug_0 rfl) rfl (by show 2 * 0 + _ ≤ _; exact Nat.le_of_eq rfl) (hb hby dpug_25) (fun _ _ => ⟨rfl, e0, (by decide : 0 + 0 ≤ _), (by decide : 0 + 0 ≤ _)⟩)
  dsimp only [Pt.U, Pt.locs, Pt.cells, Pt.slots] at X2 l2 y2 z2 st2 hQ2
  subst l2 y2 z2
  obtain ⟨rfl, Nq2, e2⟩ := hQ2
  have N2 := Fr.app N0 Nq2
  have p3 : ∀ t, own_W p e below m T2 28 #[.val (.ref x0), .val (.int x1), .val (.int x2)] [] t → Steps p.tables e below S0 t := fun t k => p1 t (st2.trans k)
  have p4 : ∀ t, own_W p e below m T2 31 #[.val (.ref x0), .val (.int x1), .val (.int x2)] [(.int x2), (.int x1), (.ref x0)] t → Steps p.tables e below S0 t := fun t k => p3 t (by
    show own_W p e below m T2 28 #[.val (.ref x0), .val (.int x1), .val (.int x2)] [] _
    refine XS.aloadN X2.here hx rfl (hb hby dpug_28) rfl rfl ?_
    refine XS.iloadN X2.here hx rfl (hb hby dpug_29) rfl ?_
    refine XS.iloadN X2.here hx rfl (hb hby dpug_30) rfl ?_
    exact k)
  obtain ⟨cq5, qa5, qb5⟩ := Exa.cell E0
  obtain ⟨_, _, ⟨T5, L5, k5, n5⟩, -, X5, ⟨Lc5, hQ5, l5, y5, z5⟩, st5⟩ := X2.privateBack hx (y := (⟨"com/example/kinwarden/kinwarden/IntMap", "putInRoom", "(II)V"⟩ : MethodName)) hown (mvT hZ (hw _ (List.mem_of_getElem? (i := 63) rfl))) (mvT hZ (hw _ (List.mem_of_getElem? (i := 64) rfl))) (own_sel hZ hw (hw _ (List.mem_of_getElem? (i := 64) rfl)) (hw _ (List.mem_of_getElem? (i := 65) rfl))) (Cond.privateMethod_at (mvP (args := #[]) hZ (hw _ (List.mem_of_getElem? (i := 65) rfl)))) (mvT hZ (hw _ (List.mem_of_getElem? (i := 66) rfl))) (by decide) (backOf (W := 0) (rmpg8 l Z a0 hw [] x0 x1 x2 tb kt sz hi lv hv vs h0 n0 Z0 E0 Ft Fb Fs Fh Fl Fv V0 g0 gt nx hvl) hZ (hw _ (List.mem_of_getElem? (i := 66) rfl)) (hw _ (List.mem_of_getElem? (i := 3) rfl)) (by decide) (by decide)) (g := (mkF m 31 #[.val (.ref x0), .val (.int x1), .val (.int x2)] [(.int x2), (.int x1), (.ref x0)])) rfl (by rw [hml]; rfl) (Steps.refl _) (a := x0) (cell := cq5) (by rw [e2]; exact qa5) qb5 (argsL := [(.int x1), (.int x2)]) (rest := []) (lenOf pdpug_1 rfl) rfl (by show 2 * 0 + _ ≤ _; exact Nat.le_of_eq rfl) (hb hby dpug_31) (fun _ _ => ⟨rfl, e2, (by decide : 0 + 0 ≤ _), (by decide : 0 + 0 ≤ _)⟩)
  dsimp only [Pt.U, Pt.locs, Pt.cells, Pt.slots] at X5 l5 y5 z5 st5 hQ5
  subst l5 y5 z5
  obtain ⟨rfl, Nq5, K5, HP⟩ := hQ5
  have N5 := Fr.app N2 Nq5
  have f6 := E0.keep K5
  have Z5 := Nat.le_trans Z0 K5.1
  have KK5 := K0.trans K5 (allS (Or.inl (List.mem_cons_self ..)) (allS (Or.inl (List.mem_cons_of_mem _ (List.mem_singleton.mpr rfl))) all0))
  have p7 : ∀ t, own_W p e below m T5 34 #[.val (.ref x0), .val (.int x1), .val (.int x2)] [] t → Steps p.tables e below S0 t := fun t k => p4 t (st5.trans k)
  subst hS0
  obtain ⟨fs, hr, hrun, hended, hW, hsame⟩ := X5.leave (v := none) (fun _ => rfl)
  refine ⟨_, _, p7 _ ?_, hrun, hended, _, _, rfl, ?_, ⟨_, rfl⟩, hW, hsame.mono (by decide) (by decide)⟩
  · show own_W p e below m T5 34 #[.val (.ref x0), .val (.int x1), .val (.int x2)] [] _
    exact X5.returnOut hx Bd.returns (hb hby dpug_34) hr
  · show Qpug Z x0 x1 x2 tb kt sz hi lv hv vs h0 n0 _ T5.heap _
    skip
    exact ⟨rfl, N5, KK5, HP⟩
theorem dpue_0 : decode prog_53_method_9_code 0 = .ok (.iload_n 1, 1) := by decide +kernel
theorem dpue_1 : decode prog_53_method_9_code 1 = .ok (.ifCond .lt 7, 3) := by decide +kernel
theorem dpue_4 : decode prog_53_method_9_code 4 = .ok (.iload_n 2, 1) := by decide +kernel
theorem dpue_5 : decode prog_53_method_9_code 5 = .ok (.ifCond .ge 18, 3) := by decide +kernel
theorem dpue_23 : decode prog_53_method_9_code 23 = .ok (.aload_n 0, 1) := by decide +kernel
theorem dpue_24 : decode prog_53_method_9_code 24 = .ok (.iload_n 1, 1) := by decide +kernel
theorem dpue_25 : decode prog_53_method_9_code 25 = .ok (.invokevirtual 64, 3) := by decide +kernel
theorem dpue_28 : decode prog_53_method_9_code 28 = .ok (.aload_n 0, 1) := by decide +kernel
theorem dpue_29 : decode prog_53_method_9_code 29 = .ok (.iload_n 1, 1) := by decide +kernel
theorem dpue_30 : decode prog_53_method_9_code 30 = .ok (.iload_n 2, 1) := by decide +kernel
theorem dpue_31 : decode prog_53_method_9_code 31 = .ok (.invokevirtual 68, 3) := by decide +kernel
theorem dpue_34 : decode prog_53_method_9_code 34 = .ok (.return_, 1) := by decide +kernel
theorem pnpue : plainName "com/example/kinwarden/kinwarden/IntMap" = true := by first | (simp [plainName, overriddenIn]; done) | decide +kernel
theorem pdpue_0 : parseMethodDescriptor "(I)V" = some ⟨[.int], none⟩ := by decide +kernel
theorem pdpue_1 : parseMethodDescriptor "(II)V" = some ⟨[.int, .int], none⟩ := by decide +kernel
theorem efpue (m : MethodId) (x0 : Addr) (x1 : Int32) (x2 : Int32) : entryFrame m #[(.ref x0), (.int x1), (.int x2)] 3 = mkF m 0 #[.val (.ref x0), .val (.int x1), .val (.int x2)] [] := by first | (simp [entryFrame, mkF, argsToLocals, Value.category]; done) | rfl
def Qpue (Z : State) (x0 : Addr) (x1 : Int32) (x2 : Int32) (tb : Addr) (kt : ClassId) (hi : Int32) (lv : Int32) (hv : Int32) (vv : Int32) (h0 : Heap) (n0 : Nat) (v : Option Value) (h : Heap) (L : List Loc) : Prop := v = none ∧ Fr n0 L ∧ Keep h0 h [x0, tb] ∧ ∃ (sz' hi' lv' hv' r : Int32) (vs' : List Value), Exa Z h x0 "com/example/kinwarden/kinwarden/IntMap" ∧ Fld Z h x0 "com/example/kinwarden/kinwarden/IntMap" "table" "[I" (.ref tb) ∧ Fld Z h x0 "com/example/kinwarden/kinwarden/IntMap" "byKey" "[I" .null ∧ Fld Z h x0 "com/example/kinwarden/kinwarden/IntMap" "size" "I" (.int sz') ∧ Fld Z h x0 "com/example/kinwarden/kinwarden/IntMap" "highest" "I" (.int hi') ∧ Fld Z h x0 "com/example/kinwarden/kinwarden/IntMap" "lowestValue" "I" (.int lv') ∧ Fld Z h x0 "com/example/kinwarden/kinwarden/IntMap" "highestValue" "I" (.int hv') ∧ Arv Z h tb kt .int (16 : Int32) vs' (.int (0 : Int32)) ∧ (hi < x1 → hi' = x1) ∧ r = ((2 : Int32) * own_pr8 (own_T6 vv) x1 7 (((x1 * (-1640531527 : Int32)).toUInt32 >>> (((28 : Int32) + (1 : Int32)) &&& 31).toUInt32).toInt32)) ∧ ((own_T6 vv).getD r.toNatClampNeg (.int (0 : Int32)) = .int (-1 : Int32) → sz' = ((6 : Int32) + (1 : Int32)) ∧ vs' = (((own_T6 vv).set r.toNatClampNeg (.int x1)).set (r + (1 : Int32)).toNatClampNeg (.int x2)))
set_option maxRecDepth 65536 in
set_option maxHeartbeats 40000000 in
theorem rmpue (l : Launch) (Z : State) (a0 : Array Value) (hw : ∀ d ∈ tables_1, d.before a0 Z = true) (ws : List Jvm.Cond) (x0 : Addr) (x1 : Int32) (x2 : Int32) (tb : Addr) (kt : ClassId) (hi : Int32) (lv : Int32) (hv : Int32) (vv : Int32) (h0 : Heap) (n0 : Nat) (Z0 : n0 ≤ h0.size) (E0 : Exa Z h0 x0 "com/example/kinwarden/kinwarden/IntMap") (Ft : Fld Z h0 x0 "com/example/kinwarden/kinwarden/IntMap" "table" "[I" (.ref tb)) (Fb : Fld Z h0 x0 "com/example/kinwarden/kinwarden/IntMap" "byKey" "[I" .null) (Fs : Fld Z h0 x0 "com/example/kinwarden/kinwarden/IntMap" "size" "I" (.int (6 : Int32))) (Fh : Fld Z h0 x0 "com/example/kinwarden/kinwarden/IntMap" "highest" "I" (.int hi)) (Fl : Fld Z h0 x0 "com/example/kinwarden/kinwarden/IntMap" "lowestValue" "I" (.int lv)) (Fv : Fld Z h0 x0 "com/example/kinwarden/kinwarden/IntMap" "highestValue" "I" (.int hv)) (V0 : Arv Z h0 tb kt .int (16 : Int32) (own_T6 vv) (.int (0 : Int32))) (g0 : n0 ≤ x0) (gt : n0 ≤ tb) (nx : x0 ≠ tb) (hkx : x1 = (0 : Int32) ∨ x1 = (1 : Int32) ∨ x1 = (2 : Int32) ∨ x1 = (3 : Int32) ∨ x1 = (4 : Int32) ∨ x1 = (5 : Int32)) (hk0 : ¬ x1 < (0 : Int32)) (hv0 : ¬ x2 < (0 : Int32)) :
    MetFree l (⟨"com/example/kinwarden/kinwarden/IntMap", "put", "(II)V"⟩ : MethodName) (head1 (Jvm.Cond.code (⟨"com/example/kinwarden/kinwarden/IntMap", "put", "(II)V"⟩ : MethodName) prog_53_method_9_code 3 none :: ws) ({ frames := 4, cells := 0, slots := 0, locals := 58 } : Room)) (fun a U => a = #[(.ref x0), (.int x1), (.int x2)] ∧ Z.Warmed39 U.vm ∧ U.heap = h0) (fun _ _ _ _ _ => True) (fun _ U o U' => ∃ v L, o = .returned v ∧ Qpue Z x0 x1 x2 tb kt hi lv hv vv h0 n0 v U'.heap L ∧ FrameEnd U o U' L ({ frames := 4, cells := 0, slots := 0, locals := 58 } : Room).cells ({ frames := 4, cells := 0, slots := 0, locals := 58 } : Room).slots) := by
  refine MetFree.of_bodySF (plainFor_of_name pnpue) hisR ?_
  intro p e s m args below meth c s₁ Bd hml0 hP hK
  obtain ⟨rfl, hZ, hh⟩ := hP
  have hx := Bd.exec
  have hby := Bd.bytes
  have hml : c.maxLocals = 3 := hml0
  have hown : s.vm.findClass "com/example/kinwarden/kinwarden/IntMap" = some m.cls := findClass_of_methodNamed Bd.named
  have hnm := (name_of_methodNamed Bd.named Bd.method).1
  have X0 : Stand p l e ({ frames := 4, cells := 0, slots := 0, locals := 58 } : Room) s m #[(.ref x0), (.int x1), (.int x2)] below meth c s₁ [] 0 0 := Stand.of_body Bd
  have e0 : s₁.heap = h0 := by rw [← hh, Bd.state]; rfl
  have N0 := Fr.nil n0
  have pre0 : ∀ t, Steps p.tables e below (s₁.setTop (mkF m 0 #[.val (.ref x0), .val (.int x1), .val (.int x2)] [])) t → Steps p.tables e below (s₁.setTop (entryFrame m #[(.ref x0), (.int x1), (.int x2)] 3)) t := fun t k => castTop (efpue m x0 x1 x2) k
  obtain ⟨S0, hS0⟩ : ∃ z, z = (s₁.setTop (entryFrame m #[(.ref x0), (.int x1), (.int x2)] 3)) := ⟨_, rfl⟩
  rw [← hS0] at pre0
  have K0 := Keep.refl h0 [x0, tb]
  have p1 : ∀ t, own_W p e below m s₁ 25 #[.val (.ref x0), .val (.int x1), .val (.int x2)] [(.int x1), (.ref x0)] t → Steps p.tables e below S0 t := fun t k => pre0 t (by
    show own_W p e below m s₁ 0 #[.val (.ref x0), .val (.int x1), .val (.int x2)] [] _
    refine XS.iloadN X0.here hx rfl (hb hby dpue_0) rfl ?_
    refine XS.ifNo X0.here hx rfl (hb hby dpue_1) rfl ((if0 _ _).trans (flt (hk0)).1) ?_
    refine XS.iloadN X0.here hx rfl (hb hby dpue_4) rfl ?_
    refine XS.ifYes X0.here hx rfl (pc0 := 5) (pc' := 23) rfl (hb hby dpue_5) rfl ((if0 _ _).trans (flt (hv0)).2.1) (by decide) (by decide) ?_
    refine XS.aloadN X0.here hx rfl (hb hby dpue_23) rfl rfl ?_
    refine XS.iloadN X0.here hx rfl (hb hby dpue_24) rfl ?_
    exact k)
  obtain ⟨cq2, kq2, qa2, qb2, qc2⟩ := isOf hZ e0 E0
  obtain ⟨_, _, ⟨T2, L2, k2, n2⟩, -, X2, ⟨Lc2, hQ2, l2, y2, z2⟩, st2⟩ := X0.virtualBack hx (y := (⟨"com/example/kinwarden/kinwarden/IntMap", "makeRoomFor", "(I)V"⟩ : MethodName)) (z := (⟨"com/example/kinwarden/kinwarden/IntMap", "makeRoomFor", "(I)V"⟩ : MethodName)) hown (mvT hZ (hw _ (List.mem_of_getElem? (i := 43) rfl))) (mvT hZ (hw _ (List.mem_of_getElem? (i := 44) rfl))) (notFace_of_selects (args := #[]) (mvT hZ (hw _ (List.mem_of_getElem? (i := 46) rfl)))) (mvT hZ (hw _ (List.mem_of_getElem? (i := 46) rfl))) (mvT hZ (hw _ (List.mem_of_getElem? (i := 45) rfl))) (by decide) (backOf (W := 0) (rmmke l Z a0 hw [] x0 x1 tb kt vv h0 n0 Z0 E0 Ft Fb Fs V0 hkx hk0) hZ (hw _ (List.mem_of_getElem? (i := 47) rfl)) (hw _ (List.mem_of_getElem? (i := 3) rfl)) (by decide) (by decide)) qa2 qc2 (g := (mkF m 25 #[.val (.ref x0), .val (.int x1), .val (.int x2)] [(.int x1), (.ref x0)])) rfl (by rw [hml]; rfl) (Steps.refl _) (argsL := [(.int x1)]) (rest := []) (lenOf pdpue_0 rfl) rfl (by show 2 * 0 + _ ≤ _; exact Nat.le_of_eq rfl) (hb hby dpue_25) (fun _ _ => ⟨rfl, e0, (by decide : 0 + 0 ≤ _), (by decide : 0 + 0 ≤ _)⟩)
  dsimp only [Pt.U, Pt.locs, Pt.cells, Pt.slots] at X2 l2 y2 z2 st2 hQ2
  subst l2 y2 z2
  obtain ⟨rfl, Nq2, e2⟩ := hQ2
  have N2 := Fr.app N0 Nq2
  have p3 : ∀ t, own_W p e below m T2 28 #[.val (.ref x0), .val (.int x1), .val (.int x2)] [] t → Steps p.tables e below S0 t := fun t k => p1 t (st2.trans k)
  have p4 : ∀ t, own_W p e below m T2 31 #[.val (.ref x0), .val (.int x1), .val (.int x2)] [(.int x2), (.int x1), (.ref x0)] t → Steps p.tables e below S0 t := fun t k => p3 t (by
    show own_W p e below m T2 28 #[.val (.ref x0), .val (.int x1), .val (.int x2)] [] _
    refine XS.aloadN X2.here hx rfl (hb hby dpue_28) rfl rfl ?_
    refine XS.iloadN X2.here hx rfl (hb hby dpue_29) rfl ?_
    refine XS.iloadN X2.here hx rfl (hb hby dpue_30) rfl ?_
    exact k)
  obtain ⟨cq5, qa5, qb5⟩ := Exa.cell E0
  obtain ⟨_, _, ⟨T5, L5, k5, n5⟩, -, X5, ⟨Lc5, hQ5, l5, y5, z5⟩, st5⟩ := X2.privateBack hx (y := (⟨"com/example/kinwarden/kinwarden/IntMap", "putInRoom", "(II)V"⟩ : MethodName)) hown (mvT hZ (hw _ (List.mem_of_getElem? (i := 63) rfl))) (mvT hZ (hw _ (List.mem_of_getElem? (i := 64) rfl))) (own_sel hZ hw (hw _ (List.mem_of_getElem? (i := 64) rfl)) (hw _ (List.mem_of_getElem? (i := 65) rfl))) (Cond.privateMethod_at (mvP (args := #[]) hZ (hw _ (List.mem_of_getElem? (i := 65) rfl)))) (mvT hZ (hw _ (List.mem_of_getElem? (i := 66) rfl))) (by decide) (backOf (W := 0) (rmpg8 l Z a0 hw [] x0 x1 x2 tb kt (6 : Int32) hi lv hv (own_T6 vv) h0 n0 Z0 E0 Ft Fb Fs Fh Fl Fv V0 g0 gt nx rfl) hZ (hw _ (List.mem_of_getElem? (i := 66) rfl)) (hw _ (List.mem_of_getElem? (i := 3) rfl)) (by decide) (by decide)) (g := (mkF m 31 #[.val (.ref x0), .val (.int x1), .val (.int x2)] [(.int x2), (.int x1), (.ref x0)])) rfl (by rw [hml]; rfl) (Steps.refl _) (a := x0) (cell := cq5) (by rw [e2]; exact qa5) qb5 (argsL := [(.int x1), (.int x2)]) (rest := []) (lenOf pdpue_1 rfl) rfl (by show 2 * 0 + _ ≤ _; exact Nat.le_of_eq rfl) (hb hby dpue_31) (fun _ _ => ⟨rfl, e2, (by decide : 0 + 0 ≤ _), (by decide : 0 + 0 ≤ _)⟩)
  dsimp only [Pt.U, Pt.locs, Pt.cells, Pt.slots] at X5 l5 y5 z5 st5 hQ5
  subst l5 y5 z5
  obtain ⟨rfl, Nq5, K5, HP⟩ := hQ5
  have N5 := Fr.app N2 Nq5
  have f6 := E0.keep K5
  have Z5 := Nat.le_trans Z0 K5.1
  have KK5 := K0.trans K5 (allS (Or.inl (List.mem_cons_self ..)) (allS (Or.inl (List.mem_cons_of_mem _ (List.mem_singleton.mpr rfl))) all0))
  have p7 : ∀ t, own_W p e below m T5 34 #[.val (.ref x0), .val (.int x1), .val (.int x2)] [] t → Steps p.tables e below S0 t := fun t k => p4 t (st5.trans k)
  subst hS0
  obtain ⟨fs, hr, hrun, hended, hW, hsame⟩ := X5.leave (v := none) (fun _ => rfl)
  refine ⟨_, _, p7 _ ?_, hrun, hended, _, _, rfl, ?_, ⟨_, rfl⟩, hW, hsame.mono (by decide) (by decide)⟩
  · show own_W p e below m T5 34 #[.val (.ref x0), .val (.int x1), .val (.int x2)] [] _
    exact X5.returnOut hx Bd.returns (hb hby dpue_34) hr
  · show Qpue Z x0 x1 x2 tb kt hi lv hv vv h0 n0 _ T5.heap _
    skip
    exact ⟨rfl, N5, KK5, HP⟩
theorem dfsb_0 : decode prog_53_method_16_code 0 = .ok (.aload_n 1, 1) := by decide +kernel
theorem dfsb_1 : decode prog_53_method_16_code 1 = .ok (.ifnull 37, 3) := by decide +kernel
theorem dfsb_38 : decode prog_53_method_16_code 38 = .ok (.iconst 0, 1) := by decide +kernel
theorem dfsb_39 : decode prog_53_method_16_code 39 = .ok (.istore_n 3, 1) := by decide +kernel
theorem dfsb_40 : decode prog_53_method_16_code 40 = .ok (.iload_n 3, 1) := by decide +kernel
theorem dfsb_41 : decode prog_53_method_16_code 41 = .ok (.aload_n 0, 1) := by decide +kernel
theorem dfsb_42 : decode prog_53_method_16_code 42 = .ok (.arraylength, 1) := by decide +kernel
theorem dfsb_43 : decode prog_53_method_16_code 43 = .ok (.if_icmp .ge 30, 3) := by decide +kernel
theorem dfsb_46 : decode prog_53_method_16_code 46 = .ok (.aload_n 0, 1) := by decide +kernel
theorem dfsb_47 : decode prog_53_method_16_code 47 = .ok (.iload_n 3, 1) := by decide +kernel
theorem dfsb_48 : decode prog_53_method_16_code 48 = .ok (.iaload, 1) := by decide +kernel
theorem dfsb_49 : decode prog_53_method_16_code 49 = .ok (.iconst (-1), 1) := by decide +kernel
theorem dfsb_50 : decode prog_53_method_16_code 50 = .ok (.if_icmp .eq 17, 3) := by decide +kernel
theorem dfsb_53 : decode prog_53_method_16_code 53 = .ok (.aload_n 2, 1) := by decide +kernel
theorem dfsb_54 : decode prog_53_method_16_code 54 = .ok (.aload_n 0, 1) := by decide +kernel
theorem dfsb_55 : decode prog_53_method_16_code 55 = .ok (.iload_n 3, 1) := by decide +kernel
theorem dfsb_56 : decode prog_53_method_16_code 56 = .ok (.iaload, 1) := by decide +kernel
theorem dfsb_57 : decode prog_53_method_16_code 57 = .ok (.aload_n 0, 1) := by decide +kernel
theorem dfsb_58 : decode prog_53_method_16_code 58 = .ok (.iload_n 3, 1) := by decide +kernel
theorem dfsb_59 : decode prog_53_method_16_code 59 = .ok (.iconst 1, 1) := by decide +kernel
theorem dfsb_60 : decode prog_53_method_16_code 60 = .ok (.iadd, 1) := by decide +kernel
theorem dfsb_61 : decode prog_53_method_16_code 61 = .ok (.iaload, 1) := by decide +kernel
theorem dfsb_62 : decode prog_53_method_16_code 62 = .ok (.invokeinterface 119 3, 5) := by decide +kernel
theorem dfsb_67 : decode prog_53_method_16_code 67 = .ok (.iinc 3 2, 3) := by decide +kernel
theorem dfsb_70 : decode prog_53_method_16_code 70 = .ok (.goto (-30), 3) := by decide +kernel
theorem dfsb_73 : decode prog_53_method_16_code 73 = .ok (.return_, 1) := by decide +kernel
theorem pnfsb : plainName "com/example/kinwarden/kinwarden/IntMap" = true := by first | (simp [plainName, overriddenIn]; done) | decide +kernel
theorem effsb (m : MethodId) (x0 : Addr) (x2 : Addr) : entryFrame m #[(.ref x0), .null, (.ref x2)] 4 = mkF m 0 #[.val (.ref x0), .val .null, .val (.ref x2), .unset] [] := by first | (simp [entryFrame, mkF, argsToLocals, Value.category]; done) | rfl
def Qfsb (Z : State) (x0 : Addr) (x2 : Addr) (kt : ClassId) (vv : Int32) (cK : ClassId) (fr : Addr) (nb : Addr) (kn : ClassId) (sz : Int32) (hi : Int32) (lv : Int32) (hv : Int32) (N : Int32) (vs : List Value) (h0 : Heap) (n0 : Nat) (v : Option Value) (h : Heap) (L : List Loc) : Prop := v = none ∧ Fr n0 L ∧ Keep h0 h [fr, nb] ∧ ∃ (sz' hi' lv' hv' : Int32) (vs' : List Value), Exa Z h fr "com/example/kinwarden/kinwarden/IntMap" ∧ Fld Z h fr "com/example/kinwarden/kinwarden/IntMap" "table" "[I" .null ∧ Fld Z h fr "com/example/kinwarden/kinwarden/IntMap" "byKey" "[I" (.ref nb) ∧ Fld Z h fr "com/example/kinwarden/kinwarden/IntMap" "size" "I" (.int sz') ∧ Fld Z h fr "com/example/kinwarden/kinwarden/IntMap" "highest" "I" (.int hi') ∧ Fld Z h fr "com/example/kinwarden/kinwarden/IntMap" "lowestValue" "I" (.int lv') ∧ Fld Z h fr "com/example/kinwarden/kinwarden/IntMap" "highestValue" "I" (.int hv') ∧ Arv Z h nb kn .int N vs' (.int (0 : Int32))
set_option maxRecDepth 65536 in
set_option maxHeartbeats 40000000 in
theorem rmfsb (l : Launch) (Z : State) (a0 : Array Value) (hw : ∀ d ∈ tables_1, d.before a0 Z = true) (ws : List Jvm.Cond) (x0 : Addr) (x2 : Addr) (kt : ClassId) (vv : Int32) (cK : ClassId) (fr : Addr) (nb : Addr) (kn : ClassId) (sz : Int32) (hi : Int32) (lv : Int32) (hv : Int32) (N : Int32) (vs : List Value) (h0 : Heap) (n0 : Nat) (Z0 : n0 ≤ h0.size) (hLZ : own_LZ Z cK) (V0 : Arv Z h0 x0 kt .int (16 : Int32) (own_T6 vv) (.int (0 : Int32))) (HC : own_C h0 x2 { cls := cK, slots := #[.ref fr], vm := .none }) (E0 : Exa Z h0 fr "com/example/kinwarden/kinwarden/IntMap") (Ft : Fld Z h0 fr "com/example/kinwarden/kinwarden/IntMap" "table" "[I" .null) (Fb : Fld Z h0 fr "com/example/kinwarden/kinwarden/IntMap" "byKey" "[I" (.ref nb)) (Fs : Fld Z h0 fr "com/example/kinwarden/kinwarden/IntMap" "size" "I" (.int sz)) (Fh : Fld Z h0 fr "com/example/kinwarden/kinwarden/IntMap" "highest" "I" (.int hi)) (Fl : Fld Z h0 fr "com/example/kinwarden/kinwarden/IntMap" "lowestValue" "I" (.int lv)) (Fv : Fld Z h0 fr "com/example/kinwarden/kinwarden/IntMap" "highestValue" "I" (.int hv)) (VN : Arv Z h0 nb kn .int N vs (.int (0 : Int32))) (gf : n0 ≤ fr) (gb : n0 ≤ nb) (nfb : fr ≠ nb) (n0f : x0 ≠ fr) (n0b : x0 ≠ nb) (n2f : x2 ≠ fr) (n2b : x2 ≠ nb) (h5N : (5 : Int32) < N) :
    MetFree l (⟨"com/example/kinwarden/kinwarden/IntMap", "forEach", "([I[ILcom/example/kinwarden/kinwarden/IntMap$EntryConsumer;)V"⟩ : MethodName) (head1 (Jvm.Cond.code (⟨"com/example/kinwarden/kinwarden/IntMap", "forEach", "([I[ILcom/example/kinwarden/kinwarden/IntMap$EntryConsumer;)V"⟩ : MethodName) prog_53_method_16_code 4 none :: ws) ({ frames := 4, cells := 0, slots := 0, locals := 59 } : Room)) (fun a U => a = #[(.ref x0), .null, (.ref x2)] ∧ Z.Warmed39 U.vm ∧ U.heap = h0 ∧ Z.WarmedH U.vm) (fun _ _ _ _ _ => True) (fun _ U o U' => ∃ v L, o = .returned v ∧ Qfsb Z x0 x2 kt vv cK fr nb kn sz hi lv hv N vs h0 n0 v U'.heap L ∧ FrameEnd U o U' L ({ frames := 4, cells := 0, slots := 0, locals := 59 } : Room).cells ({ frames := 4, cells := 0, slots := 0, locals := 59 } : Room).slots) := by
  refine MetFree.of_bodySF (plainFor_of_name pnfsb) hisR ?_
  intro p e s m args below meth c s₁ Bd hml0 hP hK
  obtain ⟨rfl, hZ, hh, hH⟩ := hP
  have hx := Bd.exec
  have hby := Bd.bytes
  have hml : c.maxLocals = 4 := hml0
  have hown : s.vm.findClass "com/example/kinwarden/kinwarden/IntMap" = some m.cls := findClass_of_methodNamed Bd.named
  have hnm := (name_of_methodNamed Bd.named Bd.method).1
  have X0 : Stand p l e ({ frames := 4, cells := 0, slots := 0, locals := 59 } : Room) s m #[(.ref x0), .null, (.ref x2)] below meth c s₁ [] 0 0 := Stand.of_body Bd
  have e0 : s₁.heap = h0 := by rw [← hh, Bd.state]; rfl
  have N0 := Fr.nil n0
  have pre0 : ∀ t, Steps p.tables e below (s₁.setTop (mkF m 0 #[.val (.ref x0), .val .null, .val (.ref x2), .unset] [])) t → Steps p.tables e below (s₁.setTop (entryFrame m #[(.ref x0), .null, (.ref x2)] 4)) t := fun t k => castTop (effsb m x0 x2) k
  obtain ⟨S0, hS0⟩ : ∃ z, z = (s₁.setTop (entryFrame m #[(.ref x0), .null, (.ref x2)] 4)) := ⟨_, rfl⟩
  rw [← hS0] at pre0
  obtain ⟨mz, kz, cfz, iz, pz, -, -, -, -, -, hmZ⟩ := id hLZ
  have hms := own_madeS hH hmZ
  have K0 := Keep.refl h0 [fr, nb]
  have p1 : ∀ t, own_W p e below m s₁ 40 #[.val (.ref x0), .val .null, .val (.ref x2), .val (.int (0 : Int32))] [] t → Steps p.tables e below S0 t := fun t k => pre0 t (by
    show own_W p e below m s₁ 0 #[.val (.ref x0), .val .null, .val (.ref x2), .unset] [] _
    refine XS.aloadN X0.here hx rfl (hb hby dfsb_0) rfl rfl ?_
    refine XS.ifnullYes X0.here hx rfl (pc0 := 1) (pc' := 38) rfl (hb hby dfsb_1) rfl (by decide) (by decide) ?_
    refine XS.iconst X0.here hx rfl (hb hby dfsb_38) ?_
    refine XS.istoreN X0.here hx rfl (hb hby dfsb_39) rfl (l' := #[.val (.ref x0), .val .null, .val (.ref x2), .val (.int (0 : Int32))]) rfl ?_
    exact k)
  have p2 : ∀ t, own_W p e below m s₁ 42 #[.val (.ref x0), .val .null, .val (.ref x2), .val (.int (0 : Int32))] [(.ref x0), (.int (0 : Int32))] t → Steps p.tables e below S0 t := fun t k => p1 t (by
    show own_W p e below m s₁ 40 #[.val (.ref x0), .val .null, .val (.ref x2), .val (.int (0 : Int32))] [] _
    refine XS.iloadN X0.here hx rfl (hb hby dfsb_40) rfl ?_
    refine XS.aloadN X0.here hx rfl (hb hby dfsb_41) rfl rfl ?_
    exact k)
  obtain ⟨cl3, Ar3, -, Sz3, Ng3, -, -⟩ := id V0
  have p4 : ∀ t, own_W p e below m s₁ 48 #[.val (.ref x0), .val .null, .val (.ref x2), .val (.int (0 : Int32))] [(.int (0 : Int32)), (.ref x0)] t → Steps p.tables e below S0 t := fun t k => p2 t (by
    show own_W p e below m s₁ 42 #[.val (.ref x0), .val .null, .val (.ref x2), .val (.int (0 : Int32))] [(.ref x0), (.int (0 : Int32))] _
    refine X0.arraylength hx (by rw [e0]; exact Ar3.1) (State.isArrayOf_alike hZ.alike Ar3.2.1) (g := (mkF m 42 #[.val (.ref x0), .val .null, .val (.ref x2), .val (.int (0 : Int32))] [(.ref x0), (.int (0 : Int32))])) rfl rfl (hb hby dfsb_42) _ ?_
    rw [len_of Sz3 Ng3]
    refine XS.icmpNo X0.here hx rfl (hb hby dfsb_43) rfl ((tlt (by decide)).2.1) ?_
    refine XS.aloadN X0.here hx rfl (hb hby dfsb_46) rfl rfl ?_
    refine XS.iloadN X0.here hx rfl (hb hby dfsb_47) rfl ?_
    exact k)
  obtain ⟨cl5, Ar5, q5, Sz5, Ng5, Hs5, G5⟩ := id V0
  have hin5 : ¬ ((0 : Int32) < 0 ∨ cl5.slots.size ≤ ((0 : Int32)).toNatClampNeg) := inb_of Sz5 ⟨by decide, by decide⟩
  have hat5 : cl5.slots[((0 : Int32)).toNatClampNeg]? = some (.int (0 : Int32)) := Hs5.at hin5 (rfl)
  have p6 : ∀ t, own_W p e below m s₁ 56 #[.val (.ref x0), .val .null, .val (.ref x2), .val (.int (0 : Int32))] [(.int (0 : Int32)), (.ref x0), (.ref x2)] t → Steps p.tables e below S0 t := fun t k => p4 t (by
    show own_W p e below m s₁ 48 #[.val (.ref x0), .val .null, .val (.ref x2), .val (.int (0 : Int32))] [(.int (0 : Int32)), (.ref x0)] _
    refine X0.iaload hx (j := (0 : Int32)) (v := (.int (0 : Int32))) (by rw [e0]; exact Ar5.1) (State.isArrayOf_alike hZ.alike Ar5.2.1) Ar5.2.2 hin5 hat5 (g := (mkF m 48 #[.val (.ref x0), .val .null, .val (.ref x2), .val (.int (0 : Int32))] [(.int (0 : Int32)), (.ref x0)])) rfl rfl (hb hby dfsb_48) _ ?_
    refine XS.iconst X0.here hx rfl (hb hby dfsb_49) ?_
    refine XS.icmpNo X0.here hx rfl (hb hby dfsb_50) rfl ((feq (by decide)).1) ?_
    refine XS.aloadN X0.here hx rfl (hb hby dfsb_53) rfl rfl ?_
    refine XS.aloadN X0.here hx rfl (hb hby dfsb_54) rfl rfl ?_
    refine XS.iloadN X0.here hx rfl (hb hby dfsb_55) rfl ?_
    exact k)
  obtain ⟨cl7, Ar7, q7, Sz7, Ng7, Hs7, G7⟩ := id V0
  have hin7 : ¬ ((0 : Int32) < 0 ∨ cl7.slots.size ≤ ((0 : Int32)).toNatClampNeg) := inb_of Sz7 ⟨by decide, by decide⟩
  have hat7 : cl7.slots[((0 : Int32)).toNatClampNeg]? = some (.int (0 : Int32)) := Hs7.at hin7 (rfl)
  have p8 : ∀ t, own_W p e below m s₁ 61 #[.val (.ref x0), .val .null, .val (.ref x2), .val (.int (0 : Int32))] [(.int ((0 : Int32) + (1 : Int32))), (.ref x0), (.int (0 : Int32)), (.ref x2)] t → Steps p.tables e below S0 t := fun t k => p6 t (by
    show own_W p e below m s₁ 56 #[.val (.ref x0), .val .null, .val (.ref x2), .val (.int (0 : Int32))] [(.int (0 : Int32)), (.ref x0), (.ref x2)] _
    refine X0.iaload hx (j := (0 : Int32)) (v := (.int (0 : Int32))) (by rw [e0]; exact Ar7.1) (State.isArrayOf_alike hZ.alike Ar7.2.1) Ar7.2.2 hin7 hat7 (g := (mkF m 56 #[.val (.ref x0), .val .null, .val (.ref x2), .val (.int (0 : Int32))] [(.int (0 : Int32)), (.ref x0), (.ref x2)])) rfl rfl (hb hby dfsb_56) _ ?_
    refine XS.aloadN X0.here hx rfl (hb hby dfsb_57) rfl rfl ?_
    refine XS.iloadN X0.here hx rfl (hb hby dfsb_58) rfl ?_
    refine XS.iconst X0.here hx rfl (hb hby dfsb_59) ?_
    refine XS.iadd X0.here hx rfl (hb hby dfsb_60) rfl ?_
    exact k)
  obtain ⟨cl9, Ar9, q9, Sz9, Ng9, Hs9, G9⟩ := id V0
  have hin9 : ¬ (((0 : Int32) + (1 : Int32)) < 0 ∨ cl9.slots.size ≤ (((0 : Int32) + (1 : Int32))).toNatClampNeg) := inb_of Sz9 ⟨by decide, by decide⟩
  have hat9 : cl9.slots[(((0 : Int32) + (1 : Int32))).toNatClampNeg]? = some (.int vv) := Hs9.at hin9 (rfl)
  have p10 : ∀ t, own_W p e below m s₁ 62 #[.val (.ref x0), .val .null, .val (.ref x2), .val (.int (0 : Int32))] [(.int vv), (.int (0 : Int32)), (.ref x2)] t → Steps p.tables e below S0 t := fun t k => p8 t (by
    show own_W p e below m s₁ 61 #[.val (.ref x0), .val .null, .val (.ref x2), .val (.int (0 : Int32))] [(.int ((0 : Int32) + (1 : Int32))), (.ref x0), (.int (0 : Int32)), (.ref x2)] _
    refine X0.iaload hx (j := ((0 : Int32) + (1 : Int32))) (v := (.int vv)) (by rw [e0]; exact Ar9.1) (State.isArrayOf_alike hZ.alike Ar9.2.1) Ar9.2.2 hin9 hat9 (g := (mkF m 61 #[.val (.ref x0), .val .null, .val (.ref x2), .val (.int (0 : Int32))] [(.int ((0 : Int32) + (1 : Int32))), (.ref x0), (.int (0 : Int32)), (.ref x2)])) rfl rfl (hb hby dfsb_61) _ ?_
    exact k)
  obtain ⟨cq11, qa11, qb11⟩ := Exa.cell E0
  obtain ⟨T11, L11, X11, hQ11, st11⟩ := own_fwd (a0 := a0) X0 hx hZ hw hms e0 HC qa11 qb11 (rmpb l Z a0 hw [] fr (0 : Int32) vv nb kn sz hi lv hv N vs h0 n0 Z0 E0 Ft Fb Fs Fh Fl Fv VN gf gb nfb (own_kn h5N 0 (by decide))) (fun _ _ _ q => q.1) hown (g := (mkF m 62 #[.val (.ref x0), .val .null, .val (.ref x2), .val (.int (0 : Int32))] [(.int vv), (.int (0 : Int32)), (.ref x2)])) rfl (by rw [hml]; rfl) (rest := []) rfl (hb hby dfsb_62) (by decide) (Nat.le_of_ble_eq_true rfl) (by decide) (by decide)
  obtain ⟨-, Nq11, K11, sz11, hi11, lv11, hv11, vs11, E011, Ft11, Fb11, Fs11, Fh11, Fl11, Fv11, VN11⟩ := hQ11
  have N11 := Fr.app N0 Nq11
  have f12 := V0.keep K11 (ninS n0f (ninS n0b nin0))
  have f13 := HC.keep K11 (ninS n2f (ninS n2b nin0))
  have Z11 := Nat.le_trans Z0 K11.1
  have KK11 := K0.trans K11 (allS (Or.inl (List.mem_cons_self ..)) (allS (Or.inl (List.mem_cons_of_mem _ (List.mem_singleton.mpr rfl))) all0))
  have p14 : ∀ t, own_W p e below m T11 67 #[.val (.ref x0), .val .null, .val (.ref x2), .val (.int (0 : Int32))] [] t → Steps p.tables e below S0 t := fun t k => p10 t (st11 t k)
  have p15 : ∀ t, own_W p e below m T11 40 #[.val (.ref x0), .val .null, .val (.ref x2), .val (.int ((0 : Int32) + (2 : Int32)))] [] t → Steps p.tables e below S0 t := fun t k => p14 t (by
    show own_W p e below m T11 67 #[.val (.ref x0), .val .null, .val (.ref x2), .val (.int (0 : Int32))] [] _
    refine XS.iinc X11.here hx rfl (hb hby dfsb_67) rfl (l' := #[.val (.ref x0), .val .null, .val (.ref x2), .val (.int ((0 : Int32) + (2 : Int32)))]) rfl ?_
    refine XS.goto X11.here hx rfl (pc0 := 70) (pc' := 40) rfl (hb hby dfsb_70) (by decide) (by decide) ?_
    exact k)
  have p16 : ∀ t, own_W p e below m T11 40 #[.val (.ref x0), .val .null, .val (.ref x2), .val (.int (2 : Int32))] [] t → Steps p.tables e below S0 t := by
    have k := p15
    rw [show ((0 : Int32) + (2 : Int32)) = (2 : Int32) from by decide] at k
    exact k
  have p17 : ∀ t, own_W p e below m T11 42 #[.val (.ref x0), .val .null, .val (.ref x2), .val (.int (2 : Int32))] [(.ref x0), (.int (2 : Int32))] t → Steps p.tables e below S0 t := fun t k => p16 t (by
    show own_W p e below m T11 40 #[.val (.ref x0), .val .null, .val (.ref x2), .val (.int (2 : Int32))] [] _
    refine XS.iloadN X11.here hx rfl (hb hby dfsb_40) rfl ?_
    refine XS.aloadN X11.here hx rfl (hb hby dfsb_41) rfl rfl ?_
    exact k)
  obtain ⟨cl18, Ar18, -, Sz18, Ng18, -, -⟩ := id f12
  have p19 : ∀ t, own_W p e below m T11 48 #[.val (.ref x0), .val .null, .val (.ref x2), .val (.int (2 : Int32))] [(.int (2 : Int32)), (.ref x0)] t → Steps p.tables e below S0 t := fun t k => p17 t (by
    show own_W p e below m T11 42 #[.val (.ref x0), .val .null, .val (.ref x2), .val (.int (2 : Int32))] [(.ref x0), (.int (2 : Int32))] _
    refine X11.arraylength hx Ar18.1 (State.isArrayOf_alike hZ.alike Ar18.2.1) (g := (mkF m 42 #[.val (.ref x0), .val .null, .val (.ref x2), .val (.int (2 : Int32))] [(.ref x0), (.int (2 : Int32))])) rfl rfl (hb hby dfsb_42) _ ?_
    rw [len_of Sz18 Ng18]
    refine XS.icmpNo X11.here hx rfl (hb hby dfsb_43) rfl ((tlt (by decide)).2.1) ?_
    refine XS.aloadN X11.here hx rfl (hb hby dfsb_46) rfl rfl ?_
    refine XS.iloadN X11.here hx rfl (hb hby dfsb_47) rfl ?_
    exact k)
  obtain ⟨cl20, Ar20, q20, Sz20, Ng20, Hs20, G20⟩ := id f12
  have hin20 : ¬ ((2 : Int32) < 0 ∨ cl20.slots.size ≤ ((2 : Int32)).toNatClampNeg) := inb_of Sz20 ⟨by decide, by decide⟩
  have hat20 : cl20.slots[((2 : Int32)).toNatClampNeg]? = some (.int (2 : Int32)) := Hs20.at hin20 (rfl)
  have p21 : ∀ t, own_W p e below m T11 56 #[.val (.ref x0), .val .null, .val (.ref x2), .val (.int (2 : Int32))] [(.int (2 : Int32)), (.ref x0), (.ref x2)] t → Steps p.tables e below S0 t := fun t k => p19 t (by
    show own_W p e below m T11 48 #[.val (.ref x0), .val .null, .val (.ref x2), .val (.int (2 : Int32))] [(.int (2 : Int32)), (.ref x0)] _
    refine X11.iaload hx (j := (2 : Int32)) (v := (.int (2 : Int32))) Ar20.1 (State.isArrayOf_alike hZ.alike Ar20.2.1) Ar20.2.2 hin20 hat20 (g := (mkF m 48 #[.val (.ref x0), .val .null, .val (.ref x2), .val (.int (2 : Int32))] [(.int (2 : Int32)), (.ref x0)])) rfl rfl (hb hby dfsb_48) _ ?_
    refine XS.iconst X11.here hx rfl (hb hby dfsb_49) ?_
    refine XS.icmpNo X11.here hx rfl (hb hby dfsb_50) rfl ((feq (by decide)).1) ?_
    refine XS.aloadN X11.here hx rfl (hb hby dfsb_53) rfl rfl ?_
    refine XS.aloadN X11.here hx rfl (hb hby dfsb_54) rfl rfl ?_
    refine XS.iloadN X11.here hx rfl (hb hby dfsb_55) rfl ?_
    exact k)
  obtain ⟨cl22, Ar22, q22, Sz22, Ng22, Hs22, G22⟩ := id f12
  have hin22 : ¬ ((2 : Int32) < 0 ∨ cl22.slots.size ≤ ((2 : Int32)).toNatClampNeg) := inb_of Sz22 ⟨by decide, by decide⟩
  have hat22 : cl22.slots[((2 : Int32)).toNatClampNeg]? = some (.int (2 : Int32)) := Hs22.at hin22 (rfl)
  have p23 : ∀ t, own_W p e below m T11 61 #[.val (.ref x0), .val .null, .val (.ref x2), .val (.int (2 : Int32))] [(.int ((2 : Int32) + (1 : Int32))), (.ref x0), (.int (2 : Int32)), (.ref x2)] t → Steps p.tables e below S0 t := fun t k => p21 t (by
    show own_W p e below m T11 56 #[.val (.ref x0), .val .null, .val (.ref x2), .val (.int (2 : Int32))] [(.int (2 : Int32)), (.ref x0), (.ref x2)] _
    refine X11.iaload hx (j := (2 : Int32)) (v := (.int (2 : Int32))) Ar22.1 (State.isArrayOf_alike hZ.alike Ar22.2.1) Ar22.2.2 hin22 hat22 (g := (mkF m 56 #[.val (.ref x0), .val .null, .val (.ref x2), .val (.int (2 : Int32))] [(.int (2 : Int32)), (.ref x0), (.ref x2)])) rfl rfl (hb hby dfsb_56) _ ?_
    refine XS.aloadN X11.here hx rfl (hb hby dfsb_57) rfl rfl ?_
    refine XS.iloadN X11.here hx rfl (hb hby dfsb_58) rfl ?_
    refine XS.iconst X11.here hx rfl (hb hby dfsb_59) ?_
    refine XS.iadd X11.here hx rfl (hb hby dfsb_60) rfl ?_
    exact k)
  obtain ⟨cl24, Ar24, q24, Sz24, Ng24, Hs24, G24⟩ := id f12
  have hin24 : ¬ (((2 : Int32) + (1 : Int32)) < 0 ∨ cl24.slots.size ≤ (((2 : Int32) + (1 : Int32))).toNatClampNeg) := inb_of Sz24 ⟨by decide, by decide⟩
  have hat24 : cl24.slots[(((2 : Int32) + (1 : Int32))).toNatClampNeg]? = some (.int vv) := Hs24.at hin24 (rfl)
  have p25 : ∀ t, own_W p e below m T11 62 #[.val (.ref x0), .val .null, .val (.ref x2), .val (.int (2 : Int32))] [(.int vv), (.int (2 : Int32)), (.ref x2)] t → Steps p.tables e below S0 t := fun t k => p23 t (by
    show own_W p e below m T11 61 #[.val (.ref x0), .val .null, .val (.ref x2), .val (.int (2 : Int32))] [(.int ((2 : Int32) + (1 : Int32))), (.ref x0), (.int (2 : Int32)), (.ref x2)] _
    refine X11.iaload hx (j := ((2 : Int32) + (1 : Int32))) (v := (.int vv)) Ar24.1 (State.isArrayOf_alike hZ.alike Ar24.2.1) Ar24.2.2 hin24 hat24 (g := (mkF m 61 #[.val (.ref x0), .val .null, .val (.ref x2), .val (.int (2 : Int32))] [(.int ((2 : Int32) + (1 : Int32))), (.ref x0), (.int (2 : Int32)), (.ref x2)])) rfl rfl (hb hby dfsb_61) _ ?_
    exact k)
  obtain ⟨cq26, qa26, qb26⟩ := Exa.cell E011
  obtain ⟨T26, L26, X26, hQ26, st26⟩ := own_fwd (a0 := a0) X11 hx hZ hw hms rfl f13 qa26 qb26 (rmpb l Z a0 hw [] fr (2 : Int32) vv nb kn sz11 hi11 lv11 hv11 N vs11 T11.heap n0 Z11 E011 Ft11 Fb11 Fs11 Fh11 Fl11 Fv11 VN11 gf gb nfb (own_kn h5N 2 (by decide))) (fun _ _ _ q => q.1) hown (g := (mkF m 62 #[.val (.ref x0), .val .null, .val (.ref x2), .val (.int (2 : Int32))] [(.int vv), (.int (2 : Int32)), (.ref x2)])) rfl (by rw [hml]; rfl) (rest := []) rfl (hb hby dfsb_62) (by decide) (Nat.le_of_ble_eq_true rfl) (by decide) (by decide)
  obtain ⟨-, Nq26, K26, sz26, hi26, lv26, hv26, vs26, E026, Ft26, Fb26, Fs26, Fh26, Fl26, Fv26, VN26⟩ := hQ26
  have N26 := Fr.app N11 Nq26
  have f27 := f12.keep K26 (ninS n0f (ninS n0b nin0))
  have f28 := f13.keep K26 (ninS n2f (ninS n2b nin0))
  have Z26 := Nat.le_trans Z11 K26.1
  have KK26 := KK11.trans K26 (allS (Or.inl (List.mem_cons_self ..)) (allS (Or.inl (List.mem_cons_of_mem _ (List.mem_singleton.mpr rfl))) all0))
  have p29 : ∀ t, own_W p e below m T26 67 #[.val (.ref x0), .val .null, .val (.ref x2), .val (.int (2 : Int32))] [] t → Steps p.tables e below S0 t := fun t k => p25 t (st26 t k)
  have p30 : ∀ t, own_W p e below m T26 40 #[.val (.ref x0), .val .null, .val (.ref x2), .val (.int ((2 : Int32) + (2 : Int32)))] [] t → Steps p.tables e below S0 t := fun t k => p29 t (by
    show own_W p e below m T26 67 #[.val (.ref x0), .val .null, .val (.ref x2), .val (.int (2 : Int32))] [] _
    refine XS.iinc X26.here hx rfl (hb hby dfsb_67) rfl (l' := #[.val (.ref x0), .val .null, .val (.ref x2), .val (.int ((2 : Int32) + (2 : Int32)))]) rfl ?_
    refine XS.goto X26.here hx rfl (pc0 := 70) (pc' := 40) rfl (hb hby dfsb_70) (by decide) (by decide) ?_
    exact k)
  have p31 : ∀ t, own_W p e below m T26 40 #[.val (.ref x0), .val .null, .val (.ref x2), .val (.int (4 : Int32))] [] t → Steps p.tables e below S0 t := by
    have k := p30
    rw [show ((2 : Int32) + (2 : Int32)) = (4 : Int32) from by decide] at k
    exact k
  have p32 : ∀ t, own_W p e below m T26 42 #[.val (.ref x0), .val .null, .val (.ref x2), .val (.int (4 : Int32))] [(.ref x0), (.int (4 : Int32))] t → Steps p.tables e below S0 t := fun t k => p31 t (by
    show own_W p e below m T26 40 #[.val (.ref x0), .val .null, .val (.ref x2), .val (.int (4 : Int32))] [] _
    refine XS.iloadN X26.here hx rfl (hb hby dfsb_40) rfl ?_
    refine XS.aloadN X26.here hx rfl (hb hby dfsb_41) rfl rfl ?_
    exact k)
  obtain ⟨cl33, Ar33, -, Sz33, Ng33, -, -⟩ := id f27
  have p34 : ∀ t, own_W p e below m T26 48 #[.val (.ref x0), .val .null, .val (.ref x2), .val (.int (4 : Int32))] [(.int (4 : Int32)), (.ref x0)] t → Steps p.tables e below S0 t := fun t k => p32 t (by
    show own_W p e below m T26 42 #[.val (.ref x0), .val .null, .val (.ref x2), .val (.int (4 : Int32))] [(.ref x0), (.int (4 : Int32))] _
    refine X26.arraylength hx Ar33.1 (State.isArrayOf_alike hZ.alike Ar33.2.1) (g := (mkF m 42 #[.val (.ref x0), .val .null, .val (.ref x2), .val (.int (4 : Int32))] [(.ref x0), (.int (4 : Int32))])) rfl rfl (hb hby dfsb_42) _ ?_
    rw [len_of Sz33 Ng33]
    refine XS.icmpNo X26.here hx rfl (hb hby dfsb_43) rfl ((tlt (by decide)).2.1) ?_
    refine XS.aloadN X26.here hx rfl (hb hby dfsb_46) rfl rfl ?_
    refine XS.iloadN X26.here hx rfl (hb hby dfsb_47) rfl ?_
    exact k)
  obtain ⟨cl35, Ar35, q35, Sz35, Ng35, Hs35, G35⟩ := id f27
  have hin35 : ¬ ((4 : Int32) < 0 ∨ cl35.slots.size ≤ ((4 : Int32)).toNatClampNeg) := inb_of Sz35 ⟨by decide, by decide⟩
  have hat35 : cl35.slots[((4 : Int32)).toNatClampNeg]? = some (.int (5 : Int32)) := Hs35.at hin35 (rfl)
  have p36 : ∀ t, own_W p e below m T26 56 #[.val (.ref x0), .val .null, .val (.ref x2), .val (.int (4 : Int32))] [(.int (4 : Int32)), (.ref x0), (.ref x2)] t → Steps p.tables e below S0 t := fun t k => p34 t (by
    show own_W p e below m T26 48 #[.val (.ref x0), .val .null, .val (.ref x2), .val (.int (4 : Int32))] [(.int (4 : Int32)), (.ref x0)] _
    refine X26.iaload hx (j := (4 : Int32)) (v := (.int (5 : Int32))) Ar35.1 (State.isArrayOf_alike hZ.alike Ar35.2.1) Ar35.2.2 hin35 hat35 (g := (mkF m 48 #[.val (.ref x0), .val .null, .val (.ref x2), .val (.int (4 : Int32))] [(.int (4 : Int32)), (.ref x0)])) rfl rfl (hb hby dfsb_48) _ ?_
    refine XS.iconst X26.here hx rfl (hb hby dfsb_49) ?_
    refine XS.icmpNo X26.here hx rfl (hb hby dfsb_50) rfl ((feq (by decide)).1) ?_
    refine XS.aloadN X26.here hx rfl (hb hby dfsb_53) rfl rfl ?_
    refine XS.aloadN X26.here hx rfl (hb hby dfsb_54) rfl rfl ?_
    refine XS.iloadN X26.here hx rfl (hb hby dfsb_55) rfl ?_
    exact k)
  obtain ⟨cl37, Ar37, q37, Sz37, Ng37, Hs37, G37⟩ := id f27
  have hin37 : ¬ ((4 : Int32) < 0 ∨ cl37.slots.size ≤ ((4 : Int32)).toNatClampNeg) := inb_of Sz37 ⟨by decide, by decide⟩
  have hat37 : cl37.slots[((4 : Int32)).toNatClampNeg]? = some (.int (5 : Int32)) := Hs37.at hin37 (rfl)
  have p38 : ∀ t, own_W p e below m T26 61 #[.val (.ref x0), .val .null, .val (.ref x2), .val (.int (4 : Int32))] [(.int ((4 : Int32) + (1 : Int32))), (.ref x0), (.int (5 : Int32)), (.ref x2)] t → Steps p.tables e below S0 t := fun t k => p36 t (by
    show own_W p e below m T26 56 #[.val (.ref x0), .val .null, .val (.ref x2), .val (.int (4 : Int32))] [(.int (4 : Int32)), (.ref x0), (.ref x2)] _
    refine X26.iaload hx (j := (4 : Int32)) (v := (.int (5 : Int32))) Ar37.1 (State.isArrayOf_alike hZ.alike Ar37.2.1) Ar37.2.2 hin37 hat37 (g := (mkF m 56 #[.val (.ref x0), .val .null, .val (.ref x2), .val (.int (4 : Int32))] [(.int (4 : Int32)), (.ref x0), (.ref x2)])) rfl rfl (hb hby dfsb_56) _ ?_
    refine XS.aloadN X26.here hx rfl (hb hby dfsb_57) rfl rfl ?_
    refine XS.iloadN X26.here hx rfl (hb hby dfsb_58) rfl ?_
    refine XS.iconst X26.here hx rfl (hb hby dfsb_59) ?_
    show own_W p e below m T26 60 #[.val (.ref x0), .val .null, .val (.ref x2), .val (.int (4 : Int32))] [(.int (1 : Int32)), (.int (4 : Int32)), (.ref x0), (.int (5 : Int32)), (.ref x2)] _
    refine XS.iadd X26.here hx rfl (hb hby dfsb_60) rfl ?_
    exact k)
  obtain ⟨cl39, Ar39, q39, Sz39, Ng39, Hs39, G39⟩ := id f27
  have hin39 : ¬ (((4 : Int32) + (1 : Int32)) < 0 ∨ cl39.slots.size ≤ (((4 : Int32) + (1 : Int32))).toNatClampNeg) := inb_of Sz39 ⟨by decide, by decide⟩
  have hat39 : cl39.slots[(((4 : Int32) + (1 : Int32))).toNatClampNeg]? = some (.int vv) := Hs39.at hin39 (rfl)
  have p40 : ∀ t, own_W p e below m T26 62 #[.val (.ref x0), .val .null, .val (.ref x2), .val (.int (4 : Int32))] [(.int vv), (.int (5 : Int32)), (.ref x2)] t → Steps p.tables e below S0 t := fun t k => p38 t (by
    show own_W p e below m T26 61 #[.val (.ref x0), .val .null, .val (.ref x2), .val (.int (4 : Int32))] [(.int ((4 : Int32) + (1 : Int32))), (.ref x0), (.int (5 : Int32)), (.ref x2)] _
    refine X26.iaload hx (j := ((4 : Int32) + (1 : Int32))) (v := (.int vv)) Ar39.1 (State.isArrayOf_alike hZ.alike Ar39.2.1) Ar39.2.2 hin39 hat39 (g := (mkF m 61 #[.val (.ref x0), .val .null, .val (.ref x2), .val (.int (4 : Int32))] [(.int ((4 : Int32) + (1 : Int32))), (.ref x0), (.int (5 : Int32)), (.ref x2)])) rfl rfl (hb hby dfsb_61) _ ?_
    exact k)
  obtain ⟨cq41, qa41, qb41⟩ := Exa.cell E026
  obtain ⟨T41, L41, X41, hQ41, st41⟩ := own_fwd (a0 := a0) X26 hx hZ hw hms rfl f28 qa41 qb41 (rmpb l Z a0 hw [] fr (5 : Int32) vv nb kn sz26 hi26 lv26 hv26 N vs26 T26.heap n0 Z26 E026 Ft26 Fb26 Fs26 Fh26 Fl26 Fv26 VN26 gf gb nfb (own_kn h5N 5 (by decide))) (fun _ _ _ q => q.1) hown (g := (mkF m 62 #[.val (.ref x0), .val .null, .val (.ref x2), .val (.int (4 : Int32))] [(.int vv), (.int (5 : Int32)), (.ref x2)])) rfl (by rw [hml]; rfl) (rest := []) rfl (hb hby dfsb_62) (by decide) (Nat.le_of_ble_eq_true rfl) (by decide) (by decide)
  obtain ⟨-, Nq41, K41, sz41, hi41, lv41, hv41, vs41, E041, Ft41, Fb41, Fs41, Fh41, Fl41, Fv41, VN41⟩ := hQ41
  have N41 := Fr.app N26 Nq41
  have f42 := f27.keep K41 (ninS n0f (ninS n0b nin0))
  have f43 := f28.keep K41 (ninS n2f (ninS n2b nin0))
  have Z41 := Nat.le_trans Z26 K41.1
  have KK41 := KK26.trans K41 (allS (Or.inl (List.mem_cons_self ..)) (allS (Or.inl (List.mem_cons_of_mem _ (List.mem_singleton.mpr rfl))) all0))
  have p44 : ∀ t, own_W p e below m T41 67 #[.val (.ref x0), .val .null, .val (.ref x2), .val (.int (4 : Int32))] [] t → Steps p.tables e below S0 t := fun t k => p40 t (st41 t k)
  have p45 : ∀ t, own_W p e below m T41 40 #[.val (.ref x0), .val .null, .val (.ref x2), .val (.int ((4 : Int32) + (2 : Int32)))] [] t → Steps p.tables e below S0 t := fun t k => p44 t (by
    show own_W p e below m T41 67 #[.val (.ref x0), .val .null, .val (.ref x2), .val (.int (4 : Int32))] [] _
    refine XS.iinc X41.here hx rfl (hb hby dfsb_67) rfl (l' := #[.val (.ref x0), .val .null, .val (.ref x2), .val (.int ((4 : Int32) + (2 : Int32)))]) rfl ?_
    refine XS.goto X41.here hx rfl (pc0 := 70) (pc' := 40) rfl (hb hby dfsb_70) (by decide) (by decide) ?_
    exact k)
  have p46 : ∀ t, own_W p e below m T41 40 #[.val (.ref x0), .val .null, .val (.ref x2), .val (.int (6 : Int32))] [] t → Steps p.tables e below S0 t := by
    have k := p45
    rw [show ((4 : Int32) + (2 : Int32)) = (6 : Int32) from by decide] at k
    exact k
  have p47 : ∀ t, own_W p e below m T41 42 #[.val (.ref x0), .val .null, .val (.ref x2), .val (.int (6 : Int32))] [(.ref x0), (.int (6 : Int32))] t → Steps p.tables e below S0 t := fun t k => p46 t (by
    show own_W p e below m T41 40 #[.val (.ref x0), .val .null, .val (.ref x2), .val (.int (6 : Int32))] [] _
    refine XS.iloadN X41.here hx rfl (hb hby dfsb_40) rfl ?_
    refine XS.aloadN X41.here hx rfl (hb hby dfsb_41) rfl rfl ?_
    exact k)
  obtain ⟨cl48, Ar48, -, Sz48, Ng48, -, -⟩ := id f42
  have p49 : ∀ t, own_W p e below m T41 48 #[.val (.ref x0), .val .null, .val (.ref x2), .val (.int (6 : Int32))] [(.int (6 : Int32)), (.ref x0)] t → Steps p.tables e below S0 t := fun t k => p47 t (by
    show own_W p e below m T41 42 #[.val (.ref x0), .val .null, .val (.ref x2), .val (.int (6 : Int32))] [(.ref x0), (.int (6 : Int32))] _
    refine X41.arraylength hx Ar48.1 (State.isArrayOf_alike hZ.alike Ar48.2.1) (g := (mkF m 42 #[.val (.ref x0), .val .null, .val (.ref x2), .val (.int (6 : Int32))] [(.ref x0), (.int (6 : Int32))])) rfl rfl (hb hby dfsb_42) _ ?_
    rw [len_of Sz48 Ng48]
    refine XS.icmpNo X41.here hx rfl (hb hby dfsb_43) rfl ((tlt (by decide)).2.1) ?_
    refine XS.aloadN X41.here hx rfl (hb hby dfsb_46) rfl rfl ?_
    refine XS.iloadN X41.here hx rfl (hb hby dfsb_47) rfl ?_
    exact k)
  obtain ⟨cl50, Ar50, q50, Sz50, Ng50, Hs50, G50⟩ := id f42
  have hin50 : ¬ ((6 : Int32) < 0 ∨ cl50.slots.size ≤ ((6 : Int32)).toNatClampNeg) := inb_of Sz50 ⟨by decide, by decide⟩
  have hat50 : cl50.slots[((6 : Int32)).toNatClampNeg]? = some (.int (4 : Int32)) := Hs50.at hin50 (rfl)
  have p51 : ∀ t, own_W p e below m T41 56 #[.val (.ref x0), .val .null, .val (.ref x2), .val (.int (6 : Int32))] [(.int (6 : Int32)), (.ref x0), (.ref x2)] t → Steps p.tables e below S0 t := fun t k => p49 t (by
    show own_W p e below m T41 48 #[.val (.ref x0), .val .null, .val (.ref x2), .val (.int (6 : Int32))] [(.int (6 : Int32)), (.ref x0)] _
    refine X41.iaload hx (j := (6 : Int32)) (v := (.int (4 : Int32))) Ar50.1 (State.isArrayOf_alike hZ.alike Ar50.2.1) Ar50.2.2 hin50 hat50 (g := (mkF m 48 #[.val (.ref x0), .val .null, .val (.ref x2), .val (.int (6 : Int32))] [(.int (6 : Int32)), (.ref x0)])) rfl rfl (hb hby dfsb_48) _ ?_
    refine XS.iconst X41.here hx rfl (hb hby dfsb_49) ?_
    refine XS.icmpNo X41.here hx rfl (hb hby dfsb_50) rfl ((feq (by decide)).1) ?_
    refine XS.aloadN X41.here hx rfl (hb hby dfsb_53) rfl rfl ?_
    refine XS.aloadN X41.here hx rfl (hb hby dfsb_54) rfl rfl ?_
    refine XS.iloadN X41.here hx rfl (hb hby dfsb_55) rfl ?_
    exact k)
  obtain ⟨cl52, Ar52, q52, Sz52, Ng52, Hs52, G52⟩ := id f42
  have hin52 : ¬ ((6 : Int32) < 0 ∨ cl52.slots.size ≤ ((6 : Int32)).toNatClampNeg) := inb_of Sz52 ⟨by decide, by decide⟩
  have hat52 : cl52.slots[((6 : Int32)).toNatClampNeg]? = some (.int (4 : Int32)) := Hs52.at hin52 (rfl)
  have p53 : ∀ t, own_W p e below m T41 61 #[.val (.ref x0), .val .null, .val (.ref x2), .val (.int (6 : Int32))] [(.int ((6 : Int32) + (1 : Int32))), (.ref x0), (.int (4 : Int32)), (.ref x2)] t → Steps p.tables e below S0 t := fun t k => p51 t (by
    show own_W p e below m T41 56 #[.val (.ref x0), .val .null, .val (.ref x2), .val (.int (6 : Int32))] [(.int (6 : Int32)), (.ref x0), (.ref x2)] _
    refine X41.iaload hx (j := (6 : Int32)) (v := (.int (4 : Int32))) Ar52.1 (State.isArrayOf_alike hZ.alike Ar52.2.1) Ar52.2.2 hin52 hat52 (g := (mkF m 56 #[.val (.ref x0), .val .null, .val (.ref x2), .val (.int (6 : Int32))] [(.int (6 : Int32)), (.ref x0), (.ref x2)])) rfl rfl (hb hby dfsb_56) _ ?_
    refine XS.aloadN X41.here hx rfl (hb hby dfsb_57) rfl rfl ?_
    refine XS.iloadN X41.here hx rfl (hb hby dfsb_58) rfl ?_
    refine XS.iconst X41.here hx rfl (hb hby dfsb_59) ?_
    refine XS.iadd X41.here hx rfl (hb hby dfsb_60) rfl ?_
    exact k)
  obtain ⟨cl54, Ar54, q54, Sz54, Ng54, Hs54, G54⟩ := id f42
  have hin54 : ¬ (((6 : Int32) + (1 : Int32)) < 0 ∨ cl54.slots.size ≤ (((6 : Int32) + (1 : Int32))).toNatClampNeg) := inb_of Sz54 ⟨by decide, by decide⟩
  have hat54 : cl54.slots[(((6 : Int32) + (1 : Int32))).toNatClampNeg]? = some (.int vv) := Hs54.at hin54 (rfl)
  have p55 : ∀ t, own_W p e below m T41 62 #[.val (.ref x0), .val .null, .val (.ref x2), .val (.int (6 : Int32))] [(.int vv), (.int (4 : Int32)), (.ref x2)] t → Steps p.tables e below S0 t := fun t k => p53 t (by
    show own_W p e below m T41 61 #[.val (.ref x0), .val .null, .val (.ref x2), .val (.int (6 : Int32))] [(.int ((6 : Int32) + (1 : Int32))), (.ref x0), (.int (4 : Int32)), (.ref x2)] _
    refine X41.iaload hx (j := ((6 : Int32) + (1 : Int32))) (v := (.int vv)) Ar54.1 (State.isArrayOf_alike hZ.alike Ar54.2.1) Ar54.2.2 hin54 hat54 (g := (mkF m 61 #[.val (.ref x0), .val .null, .val (.ref x2), .val (.int (6 : Int32))] [(.int ((6 : Int32) + (1 : Int32))), (.ref x0), (.int (4 : Int32)), (.ref x2)])) rfl rfl (hb hby dfsb_61) _ ?_
    exact k)
  obtain ⟨cq56, qa56, qb56⟩ := Exa.cell E041
  obtain ⟨T56, L56, X56, hQ56, st56⟩ := own_fwd (a0 := a0) X41 hx hZ hw hms rfl f43 qa56 qb56 (rmpb l Z a0 hw [] fr (4 : Int32) vv nb kn sz41 hi41 lv41 hv41 N vs41 T41.heap n0 Z41 E041 Ft41 Fb41 Fs41 Fh41 Fl41 Fv41 VN41 gf gb nfb (own_kn h5N 4 (by decide))) (fun _ _ _ q => q.1) hown (g := (mkF m 62 #[.val (.ref x0), .val .null, .val (.ref x2), .val (.int (6 : Int32))] [(.int vv), (.int (4 : Int32)), (.ref x2)])) rfl (by rw [hml]; rfl) (rest := []) rfl (hb hby dfsb_62) (by decide) (Nat.le_of_ble_eq_true rfl) (by decide) (by decide)
  obtain ⟨-, Nq56, K56, sz56, hi56, lv56, hv56, vs56, E056, Ft56, Fb56, Fs56, Fh56, Fl56, Fv56, VN56⟩ := hQ56
  have N56 := Fr.app N41 Nq56
  have f57 := f42.keep K56 (ninS n0f (ninS n0b nin0))
  have f58 := f43.keep K56 (ninS n2f (ninS n2b nin0))
  have Z56 := Nat.le_trans Z41 K56.1
  have KK56 := KK41.trans K56 (allS (Or.inl (List.mem_cons_self ..)) (allS (Or.inl (List.mem_cons_of_mem _ (List.mem_singleton.mpr rfl))) all0))
  have p59 : ∀ t, own_W p e below m T56 67 #[.val (.ref x0), .val .null, .val (.ref x2), .val (.int (6 : Int32))] [] t → Steps p.tables e below S0 t := fun t k => p55 t (st56 t k)
  have p60 : ∀ t, own_W p e below m T56 40 #[.val (.ref x0), .val .null, .val (.ref x2), .val (.int ((6 : Int32) + (2 : Int32)))] [] t → Steps p.tables e below S0 t := fun t k => p59 t (by
    show own_W p e below m T56 67 #[.val (.ref x0), .val .null, .val (.ref x2), .val (.int (6 : Int32))] [] _
    refine XS.iinc X56.here hx rfl (hb hby dfsb_67) rfl (l' := #[.val (.ref x0), .val .null, .val (.ref x2), .val (.int ((6 : Int32) + (2 : Int32)))]) rfl ?_
    refine XS.goto X56.here hx rfl (pc0 := 70) (pc' := 40) rfl (hb hby dfsb_70) (by decide) (by decide) ?_
    exact k)
  have p61 : ∀ t, own_W p e below m T56 40 #[.val (.ref x0), .val .null, .val (.ref x2), .val (.int (8 : Int32))] [] t → Steps p.tables e below S0 t := by
    have k := p60
    rw [show ((6 : Int32) + (2 : Int32)) = (8 : Int32) from by decide] at k
    exact k
  have p62 : ∀ t, own_W p e below m T56 42 #[.val (.ref x0), .val .null, .val (.ref x2), .val (.int (8 : Int32))] [(.ref x0), (.int (8 : Int32))] t → Steps p.tables e below S0 t := fun t k => p61 t (by
    show own_W p e below m T56 40 #[.val (.ref x0), .val .null, .val (.ref x2), .val (.int (8 : Int32))] [] _
    refine XS.iloadN X56.here hx rfl (hb hby dfsb_40) rfl ?_
    refine XS.aloadN X56.here hx rfl (hb hby dfsb_41) rfl rfl ?_
    exact k)
  obtain ⟨cl63, Ar63, -, Sz63, Ng63, -, -⟩ := id f57
  have p64 : ∀ t, own_W p e below m T56 48 #[.val (.ref x0), .val .null, .val (.ref x2), .val (.int (8 : Int32))] [(.int (8 : Int32)), (.ref x0)] t → Steps p.tables e below S0 t := fun t k => p62 t (by
    show own_W p e below m T56 42 #[.val (.ref x0), .val .null, .val (.ref x2), .val (.int (8 : Int32))] [(.ref x0), (.int (8 : Int32))] _
    refine X56.arraylength hx Ar63.1 (State.isArrayOf_alike hZ.alike Ar63.2.1) (g := (mkF m 42 #[.val (.ref x0), .val .null, .val (.ref x2), .val (.int (8 : Int32))] [(.ref x0), (.int (8 : Int32))])) rfl rfl (hb hby dfsb_42) _ ?_
    rw [len_of Sz63 Ng63]
    refine XS.icmpNo X56.here hx rfl (hb hby dfsb_43) rfl ((tlt (by decide)).2.1) ?_
    refine XS.aloadN X56.here hx rfl (hb hby dfsb_46) rfl rfl ?_
    refine XS.iloadN X56.here hx rfl (hb hby dfsb_47) rfl ?_
    exact k)
  obtain ⟨cl65, Ar65, q65, Sz65, Ng65, Hs65, G65⟩ := id f57
  have hin65 : ¬ ((8 : Int32) < 0 ∨ cl65.slots.size ≤ ((8 : Int32)).toNatClampNeg) := inb_of Sz65 ⟨by decide, by decide⟩
  have hat65 : cl65.slots[((8 : Int32)).toNatClampNeg]? = some (.int (1 : Int32)) := Hs65.at hin65 (rfl)
  have p66 : ∀ t, own_W p e below m T56 56 #[.val (.ref x0), .val .null, .val (.ref x2), .val (.int (8 : Int32))] [(.int (8 : Int32)), (.ref x0), (.ref x2)] t → Steps p.tables e below S0 t := fun t k => p64 t (by
    show own_W p e below m T56 48 #[.val (.ref x0), .val .null, .val (.ref x2), .val (.int (8 : Int32))] [(.int (8 : Int32)), (.ref x0)] _
    refine X56.iaload hx (j := (8 : Int32)) (v := (.int (1 : Int32))) Ar65.1 (State.isArrayOf_alike hZ.alike Ar65.2.1) Ar65.2.2 hin65 hat65 (g := (mkF m 48 #[.val (.ref x0), .val .null, .val (.ref x2), .val (.int (8 : Int32))] [(.int (8 : Int32)), (.ref x0)])) rfl rfl (hb hby dfsb_48) _ ?_
    refine XS.iconst X56.here hx rfl (hb hby dfsb_49) ?_
    refine XS.icmpNo X56.here hx rfl (hb hby dfsb_50) rfl ((feq (by decide)).1) ?_
    refine XS.aloadN X56.here hx rfl (hb hby dfsb_53) rfl rfl ?_
    refine XS.aloadN X56.here hx rfl (hb hby dfsb_54) rfl rfl ?_
    refine XS.iloadN X56.here hx rfl (hb hby dfsb_55) rfl ?_
    exact k)
  obtain ⟨cl67, Ar67, q67, Sz67, Ng67, Hs67, G67⟩ := id f57
  have hin67 : ¬ ((8 : Int32) < 0 ∨ cl67.slots.size ≤ ((8 : Int32)).toNatClampNeg) := inb_of Sz67 ⟨by decide, by decide⟩
  have hat67 : cl67.slots[((8 : Int32)).toNatClampNeg]? = some (.int (1 : Int32)) := Hs67.at hin67 (rfl)
  have p68 : ∀ t, own_W p e below m T56 61 #[.val (.ref x0), .val .null, .val (.ref x2), .val (.int (8 : Int32))] [(.int ((8 : Int32) + (1 : Int32))), (.ref x0), (.int (1 : Int32)), (.ref x2)] t → Steps p.tables e below S0 t := fun t k => p66 t (by
    show own_W p e below m T56 56 #[.val (.ref x0), .val .null, .val (.ref x2), .val (.int (8 : Int32))] [(.int (8 : Int32)), (.ref x0), (.ref x2)] _
    refine X56.iaload hx (j := (8 : Int32)) (v := (.int (1 : Int32))) Ar67.1 (State.isArrayOf_alike hZ.alike Ar67.2.1) Ar67.2.2 hin67 hat67 (g := (mkF m 56 #[.val (.ref x0), .val .null, .val (.ref x2), .val (.int (8 : Int32))] [(.int (8 : Int32)), (.ref x0), (.ref x2)])) rfl rfl (hb hby dfsb_56) _ ?_
    refine XS.aloadN X56.here hx rfl (hb hby dfsb_57) rfl rfl ?_
    refine XS.iloadN X56.here hx rfl (hb hby dfsb_58) rfl ?_
    refine XS.iconst X56.here hx rfl (hb hby dfsb_59) ?_
    refine XS.iadd X56.here hx rfl (hb hby dfsb_60) rfl ?_
    exact k)
  obtain ⟨cl69, Ar69, q69, Sz69, Ng69, Hs69, G69⟩ := id f57
  have hin69 : ¬ (((8 : Int32) + (1 : Int32)) < 0 ∨ cl69.slots.size ≤ (((8 : Int32) + (1 : Int32))).toNatClampNeg) := inb_of Sz69 ⟨by decide, by decide⟩
  have hat69 : cl69.slots[(((8 : Int32) + (1 : Int32))).toNatClampNeg]? = some (.int vv) := Hs69.at hin69 (rfl)
  have p70 : ∀ t, own_W p e below m T56 62 #[.val (.ref x0), .val .null, .val (.ref x2), .val (.int (8 : Int32))] [(.int vv), (.int (1 : Int32)), (.ref x2)] t → Steps p.tables e below S0 t := fun t k => p68 t (by
    show own_W p e below m T56 61 #[.val (.ref x0), .val .null, .val (.ref x2), .val (.int (8 : Int32))] [(.int ((8 : Int32) + (1 : Int32))), (.ref x0), (.int (1 : Int32)), (.ref x2)] _
    refine X56.iaload hx (j := ((8 : Int32) + (1 : Int32))) (v := (.int vv)) Ar69.1 (State.isArrayOf_alike hZ.alike Ar69.2.1) Ar69.2.2 hin69 hat69 (g := (mkF m 61 #[.val (.ref x0), .val .null, .val (.ref x2), .val (.int (8 : Int32))] [(.int ((8 : Int32) + (1 : Int32))), (.ref x0), (.int (1 : Int32)), (.ref x2)])) rfl rfl (hb hby dfsb_61) _ ?_
    exact k)
  obtain ⟨cq71, qa71, qb71⟩ := Exa.cell E056
  obtain ⟨T71, L71, X71, hQ71, st71⟩ := own_fwd (a0 := a0) X56 hx hZ hw hms rfl f58 qa71 qb71 (rmpb l Z a0 hw [] fr (1 : Int32) vv nb kn sz56 hi56 lv56 hv56 N vs56 T56.heap n0 Z56 E056 Ft56 Fb56 Fs56 Fh56 Fl56 Fv56 VN56 gf gb nfb (own_kn h5N 1 (by decide))) (fun _ _ _ q => q.1) hown (g := (mkF m 62 #[.val (.ref x0), .val .null, .val (.ref x2), .val (.int (8 : Int32))] [(.int vv), (.int (1 : Int32)), (.ref x2)])) rfl (by rw [hml]; rfl) (rest := []) rfl (hb hby dfsb_62) (by decide) (Nat.le_of_ble_eq_true rfl) (by decide) (by decide)
  obtain ⟨-, Nq71, K71, sz71, hi71, lv71, hv71, vs71, E071, Ft71, Fb71, Fs71, Fh71, Fl71, Fv71, VN71⟩ := hQ71
  have N71 := Fr.app N56 Nq71
  have f72 := f57.keep K71 (ninS n0f (ninS n0b nin0))
  have f73 := f58.keep K71 (ninS n2f (ninS n2b nin0))
  have Z71 := Nat.le_trans Z56 K71.1
  have KK71 := KK56.trans K71 (allS (Or.inl (List.mem_cons_self ..)) (allS (Or.inl (List.mem_cons_of_mem _ (List.mem_singleton.mpr rfl))) all0))
  have p74 : ∀ t, own_W p e below m T71 67 #[.val (.ref x0), .val .null, .val (.ref x2), .val (.int (8 : Int32))] [] t → Steps p.tables e below S0 t := fun t k => p70 t (st71 t k)
  have p75 : ∀ t, own_W p e below m T71 40 #[.val (.ref x0), .val .null, .val (.ref x2), .val (.int ((8 : Int32) + (2 : Int32)))] [] t → Steps p.tables e below S0 t := fun t k => p74 t (by
    show own_W p e below m T71 67 #[.val (.ref x0), .val .null, .val (.ref x2), .val (.int (8 : Int32))] [] _
    refine XS.iinc X71.here hx rfl (hb hby dfsb_67) rfl (l' := #[.val (.ref x0), .val .null, .val (.ref x2), .val (.int ((8 : Int32) + (2 : Int32)))]) rfl ?_
    refine XS.goto X71.here hx rfl (pc0 := 70) (pc' := 40) rfl (hb hby dfsb_70) (by decide) (by decide) ?_
    exact k)
  have p76 : ∀ t, own_W p e below m T71 40 #[.val (.ref x0), .val .null, .val (.ref x2), .val (.int (10 : Int32))] [] t → Steps p.tables e below S0 t := by
    have k := p75
    rw [show ((8 : Int32) + (2 : Int32)) = (10 : Int32) from by decide] at k
    exact k
  have p77 : ∀ t, own_W p e below m T71 42 #[.val (.ref x0), .val .null, .val (.ref x2), .val (.int (10 : Int32))] [(.ref x0), (.int (10 : Int32))] t → Steps p.tables e below S0 t := fun t k => p76 t (by
    show own_W p e below m T71 40 #[.val (.ref x0), .val .null, .val (.ref x2), .val (.int (10 : Int32))] [] _
    refine XS.iloadN X71.here hx rfl (hb hby dfsb_40) rfl ?_
    refine XS.aloadN X71.here hx rfl (hb hby dfsb_41) rfl rfl ?_
    exact k)
  obtain ⟨cl78, Ar78, -, Sz78, Ng78, -, -⟩ := id f72
  have p79 : ∀ t, own_W p e below m T71 48 #[.val (.ref x0), .val .null, .val (.ref x2), .val (.int (10 : Int32))] [(.int (10 : Int32)), (.ref x0)] t → Steps p.tables e below S0 t := fun t k => p77 t (by
    show own_W p e below m T71 42 #[.val (.ref x0), .val .null, .val (.ref x2), .val (.int (10 : Int32))] [(.ref x0), (.int (10 : Int32))] _
    refine X71.arraylength hx Ar78.1 (State.isArrayOf_alike hZ.alike Ar78.2.1) (g := (mkF m 42 #[.val (.ref x0), .val .null, .val (.ref x2), .val (.int (10 : Int32))] [(.ref x0), (.int (10 : Int32))])) rfl rfl (hb hby dfsb_42) _ ?_
    rw [len_of Sz78 Ng78]
    refine XS.icmpNo X71.here hx rfl (hb hby dfsb_43) rfl ((tlt (by decide)).2.1) ?_
    refine XS.aloadN X71.here hx rfl (hb hby dfsb_46) rfl rfl ?_
    refine XS.iloadN X71.here hx rfl (hb hby dfsb_47) rfl ?_
    exact k)
  obtain ⟨cl80, Ar80, q80, Sz80, Ng80, Hs80, G80⟩ := id f72
  have hin80 : ¬ ((10 : Int32) < 0 ∨ cl80.slots.size ≤ ((10 : Int32)).toNatClampNeg) := inb_of Sz80 ⟨by decide, by decide⟩
  have hat80 : cl80.slots[((10 : Int32)).toNatClampNeg]? = some (.int (-1 : Int32)) := Hs80.at hin80 (rfl)
  have p81 : ∀ t, own_W p e below m T71 40 #[.val (.ref x0), .val .null, .val (.ref x2), .val (.int ((10 : Int32) + (2 : Int32)))] [] t → Steps p.tables e below S0 t := fun t k => p79 t (by
    show own_W p e below m T71 48 #[.val (.ref x0), .val .null, .val (.ref x2), .val (.int (10 : Int32))] [(.int (10 : Int32)), (.ref x0)] _
    refine X71.iaload hx (j := (10 : Int32)) (v := (.int (-1 : Int32))) Ar80.1 (State.isArrayOf_alike hZ.alike Ar80.2.1) Ar80.2.2 hin80 hat80 (g := (mkF m 48 #[.val (.ref x0), .val .null, .val (.ref x2), .val (.int (10 : Int32))] [(.int (10 : Int32)), (.ref x0)])) rfl rfl (hb hby dfsb_48) _ ?_
    refine XS.iconst X71.here hx rfl (hb hby dfsb_49) ?_
    refine XS.icmpYes X71.here hx rfl (pc0 := 50) (pc' := 67) rfl (hb hby dfsb_50) rfl ((teq (rfl)).1) (by decide) (by decide) ?_
    refine XS.iinc X71.here hx rfl (hb hby dfsb_67) rfl (l' := #[.val (.ref x0), .val .null, .val (.ref x2), .val (.int ((10 : Int32) + (2 : Int32)))]) rfl ?_
    refine XS.goto X71.here hx rfl (pc0 := 70) (pc' := 40) rfl (hb hby dfsb_70) (by decide) (by decide) ?_
    exact k)
  have p82 : ∀ t, own_W p e below m T71 40 #[.val (.ref x0), .val .null, .val (.ref x2), .val (.int (12 : Int32))] [] t → Steps p.tables e below S0 t := by
    have k := p81
    rw [show ((10 : Int32) + (2 : Int32)) = (12 : Int32) from by decide] at k
    exact k
  have p83 : ∀ t, own_W p e below m T71 42 #[.val (.ref x0), .val .null, .val (.ref x2), .val (.int (12 : Int32))] [(.ref x0), (.int (12 : Int32))] t → Steps p.tables e below S0 t := fun t k => p82 t (by
    show own_W p e below m T71 40 #[.val (.ref x0), .val .null, .val (.ref x2), .val (.int (12 : Int32))] [] _
    refine XS.iloadN X71.here hx rfl (hb hby dfsb_40) rfl ?_
    refine XS.aloadN X71.here hx rfl (hb hby dfsb_41) rfl rfl ?_
    exact k)
  obtain ⟨cl84, Ar84, -, Sz84, Ng84, -, -⟩ := id f72
  have p85 : ∀ t, own_W p e below m T71 48 #[.val (.ref x0), .val .null, .val (.ref x2), .val (.int (12 : Int32))] [(.int (12 : Int32)), (.ref x0)] t → Steps p.tables e below S0 t := fun t k => p83 t (by
    show own_W p e below m T71 42 #[.val (.ref x0), .val .null, .val (.ref x2), .val (.int (12 : Int32))] [(.ref x0), (.int (12 : Int32))] _
    refine X71.arraylength hx Ar84.1 (State.isArrayOf_alike hZ.alike Ar84.2.1) (g := (mkF m 42 #[.val (.ref x0), .val .null, .val (.ref x2), .val (.int (12 : Int32))] [(.ref x0), (.int (12 : Int32))])) rfl rfl (hb hby dfsb_42) _ ?_
    rw [len_of Sz84 Ng84]
    refine XS.icmpNo X71.here hx rfl (hb hby dfsb_43) rfl ((tlt (by decide)).2.1) ?_
    refine XS.aloadN X71.here hx rfl (hb hby dfsb_46) rfl rfl ?_
    show own_W p e below m T71 47 #[.val (.ref x0), .val .null, .val (.ref x2), .val (.int (12 : Int32))] [(.ref x0)] _
    refine XS.iloadN X71.here hx rfl (hb hby dfsb_47) rfl ?_
    exact k)
  obtain ⟨cl86, Ar86, q86, Sz86, Ng86, Hs86, G86⟩ := id f72
  have hin86 : ¬ ((12 : Int32) < 0 ∨ cl86.slots.size ≤ ((12 : Int32)).toNatClampNeg) := inb_of Sz86 ⟨by decide, by decide⟩
  have hat86 : cl86.slots[((12 : Int32)).toNatClampNeg]? = some (.int (3 : Int32)) := Hs86.at hin86 (rfl)
  have p87 : ∀ t, own_W p e below m T71 56 #[.val (.ref x0), .val .null, .val (.ref x2), .val (.int (12 : Int32))] [(.int (12 : Int32)), (.ref x0), (.ref x2)] t → Steps p.tables e below S0 t := fun t k => p85 t (by
    show own_W p e below m T71 48 #[.val (.ref x0), .val .null, .val (.ref x2), .val (.int (12 : Int32))] [(.int (12 : Int32)), (.ref x0)] _
    refine X71.iaload hx (j := (12 : Int32)) (v := (.int (3 : Int32))) Ar86.1 (State.isArrayOf_alike hZ.alike Ar86.2.1) Ar86.2.2 hin86 hat86 (g := (mkF m 48 #[.val (.ref x0), .val .null, .val (.ref x2), .val (.int (12 : Int32))] [(.int (12 : Int32)), (.ref x0)])) rfl rfl (hb hby dfsb_48) _ ?_
    refine XS.iconst X71.here hx rfl (hb hby dfsb_49) ?_
    refine XS.icmpNo X71.here hx rfl (hb hby dfsb_50) rfl ((feq (by decide)).1) ?_
    refine XS.aloadN X71.here hx rfl (hb hby dfsb_53) rfl rfl ?_
    refine XS.aloadN X71.here hx rfl (hb hby dfsb_54) rfl rfl ?_
    refine XS.iloadN X71.here hx rfl (hb hby dfsb_55) rfl ?_
    exact k)
  obtain ⟨cl88, Ar88, q88, Sz88, Ng88, Hs88, G88⟩ := id f72
  have hin88 : ¬ ((12 : Int32) < 0 ∨ cl88.slots.size ≤ ((12 : Int32)).toNatClampNeg) := inb_of Sz88 ⟨by decide, by decide⟩
  have hat88 : cl88.slots[((12 : Int32)).toNatClampNeg]? = some (.int (3 : Int32)) := Hs88.at hin88 (rfl)
  have p89 : ∀ t, own_W p e below m T71 61 #[.val (.ref x0), .val .null, .val (.ref x2), .val (.int (12 : Int32))] [(.int ((12 : Int32) + (1 : Int32))), (.ref x0), (.int (3 : Int32)), (.ref x2)] t → Steps p.tables e below S0 t := fun t k => p87 t (by
    show own_W p e below m T71 56 #[.val (.ref x0), .val .null, .val (.ref x2), .val (.int (12 : Int32))] [(.int (12 : Int32)), (.ref x0), (.ref x2)] _
    refine X71.iaload hx (j := (12 : Int32)) (v := (.int (3 : Int32))) Ar88.1 (State.isArrayOf_alike hZ.alike Ar88.2.1) Ar88.2.2 hin88 hat88 (g := (mkF m 56 #[.val (.ref x0), .val .null, .val (.ref x2), .val (.int (12 : Int32))] [(.int (12 : Int32)), (.ref x0), (.ref x2)])) rfl rfl (hb hby dfsb_56) _ ?_
    refine XS.aloadN X71.here hx rfl (hb hby dfsb_57) rfl rfl ?_
    refine XS.iloadN X71.here hx rfl (hb hby dfsb_58) rfl ?_
    refine XS.iconst X71.here hx rfl (hb hby dfsb_59) ?_
    refine XS.iadd X71.here hx rfl (hb hby dfsb_60) rfl ?_
    exact k)
  obtain ⟨cl90, Ar90, q90, Sz90, Ng90, Hs90, G90⟩ := id f72
  have hin90 : ¬ (((12 : Int32) + (1 : Int32)) < 0 ∨ cl90.slots.size ≤ (((12 : Int32) + (1 : Int32))).toNatClampNeg) := inb_of Sz90 ⟨by decide, by decide⟩
  have hat90 : cl90.slots[(((12 : Int32) + (1 : Int32))).toNatClampNeg]? = some (.int vv) := Hs90.at hin90 (rfl)
  have p91 : ∀ t, own_W p e below m T71 62 #[.val (.ref x0), .val .null, .val (.ref x2), .val (.int (12 : Int32))] [(.int vv), (.int (3 : Int32)), (.ref x2)] t → Steps p.tables e below S0 t := fun t k => p89 t (by
    show own_W p e below m T71 61 #[.val (.ref x0), .val .null, .val (.ref x2), .val (.int (12 : Int32))] [(.int ((12 : Int32) + (1 : Int32))), (.ref x0), (.int (3 : Int32)), (.ref x2)] _
    refine X71.iaload hx (j := ((12 : Int32) + (1 : Int32))) (v := (.int vv)) Ar90.1 (State.isArrayOf_alike hZ.alike Ar90.2.1) Ar90.2.2 hin90 hat90 (g := (mkF m 61 #[.val (.ref x0), .val .null, .val (.ref x2), .val (.int (12 : Int32))] [(.int ((12 : Int32) + (1 : Int32))), (.ref x0), (.int (3 : Int32)), (.ref x2)])) rfl rfl (hb hby dfsb_61) _ ?_
    exact k)
  obtain ⟨cq92, qa92, qb92⟩ := Exa.cell E071
  obtain ⟨T92, L92, X92, hQ92, st92⟩ := own_fwd (a0 := a0) X71 hx hZ hw hms rfl f73 qa92 qb92 (rmpb l Z a0 hw [] fr (3 : Int32) vv nb kn sz71 hi71 lv71 hv71 N vs71 T71.heap n0 Z71 E071 Ft71 Fb71 Fs71 Fh71 Fl71 Fv71 VN71 gf gb nfb (own_kn h5N 3 (by decide))) (fun _ _ _ q => q.1) hown (g := (mkF m 62 #[.val (.ref x0), .val .null, .val (.ref x2), .val (.int (12 : Int32))] [(.int vv), (.int (3 : Int32)), (.ref x2)])) rfl (by rw [hml]; rfl) (rest := []) rfl (hb hby dfsb_62) (by decide) (Nat.le_of_ble_eq_true rfl) (by decide) (by decide)
  obtain ⟨-, Nq92, K92, sz92, hi92, lv92, hv92, vs92, E092, Ft92, Fb92, Fs92, Fh92, Fl92, Fv92, VN92⟩ := hQ92
  have N92 := Fr.app N71 Nq92
  have f93 := f72.keep K92 (ninS n0f (ninS n0b nin0))
  have f94 := f73.keep K92 (ninS n2f (ninS n2b nin0))
  have Z92 := Nat.le_trans Z71 K92.1
  have KK92 := KK71.trans K92 (allS (Or.inl (List.mem_cons_self ..)) (allS (Or.inl (List.mem_cons_of_mem _ (List.mem_singleton.mpr rfl))) all0))
  have p95 : ∀ t, own_W p e below m T92 67 #[.val (.ref x0), .val .null, .val (.ref x2), .val (.int (12 : Int32))] [] t → Steps p.tables e below S0 t := fun t k => p91 t (st92 t k)
  have p96 : ∀ t, own_W p e below m T92 40 #[.val (.ref x0), .val .null, .val (.ref x2), .val (.int ((12 : Int32) + (2 : Int32)))] [] t → Steps p.tables e below S0 t := fun t k => p95 t (by
    show own_W p e below m T92 67 #[.val (.ref x0), .val .null, .val (.ref x2), .val (.int (12 : Int32))] [] _
    refine XS.iinc X92.here hx rfl (hb hby dfsb_67) rfl (l' := #[.val (.ref x0), .val .null, .val (.ref x2), .val (.int ((12 : Int32) + (2 : Int32)))]) rfl ?_
    refine XS.goto X92.here hx rfl (pc0 := 70) (pc' := 40) rfl (hb hby dfsb_70) (by decide) (by decide) ?_
    exact k)
  have p97 : ∀ t, own_W p e below m T92 40 #[.val (.ref x0), .val .null, .val (.ref x2), .val (.int (14 : Int32))] [] t → Steps p.tables e below S0 t := by
    have k := p96
    rw [show ((12 : Int32) + (2 : Int32)) = (14 : Int32) from by decide] at k
    exact k
  have p98 : ∀ t, own_W p e below m T92 42 #[.val (.ref x0), .val .null, .val (.ref x2), .val (.int (14 : Int32))] [(.ref x0), (.int (14 : Int32))] t → Steps p.tables e below S0 t := fun t k => p97 t (by
    show own_W p e below m T92 40 #[.val (.ref x0), .val .null, .val (.ref x2), .val (.int (14 : Int32))] [] _
    refine XS.iloadN X92.here hx rfl (hb hby dfsb_40) rfl ?_
    refine XS.aloadN X92.here hx rfl (hb hby dfsb_41) rfl rfl ?_
    exact k)
  obtain ⟨cl99, Ar99, -, Sz99, Ng99, -, -⟩ := id f93
  have p100 : ∀ t, own_W p e below m T92 48 #[.val (.ref x0), .val .null, .val (.ref x2), .val (.int (14 : Int32))] [(.int (14 : Int32)), (.ref x0)] t → Steps p.tables e below S0 t := fun t k => p98 t (by
    show own_W p e below m T92 42 #[.val (.ref x0), .val .null, .val (.ref x2), .val (.int (14 : Int32))] [(.ref x0), (.int (14 : Int32))] _
    refine X92.arraylength hx Ar99.1 (State.isArrayOf_alike hZ.alike Ar99.2.1) (g := (mkF m 42 #[.val (.ref x0), .val .null, .val (.ref x2), .val (.int (14 : Int32))] [(.ref x0), (.int (14 : Int32))])) rfl rfl (hb hby dfsb_42) _ ?_
    rw [len_of Sz99 Ng99]
    refine XS.icmpNo X92.here hx rfl (hb hby dfsb_43) rfl ((tlt (by decide)).2.1) ?_
    refine XS.aloadN X92.here hx rfl (hb hby dfsb_46) rfl rfl ?_
    refine XS.iloadN X92.here hx rfl (hb hby dfsb_47) rfl ?_
    exact k)
  obtain ⟨cl101, Ar101, q101, Sz101, Ng101, Hs101, G101⟩ := id f93
  have hin101 : ¬ ((14 : Int32) < 0 ∨ cl101.slots.size ≤ ((14 : Int32)).toNatClampNeg) := inb_of Sz101 ⟨by decide, by decide⟩
  have hat101 : cl101.slots[((14 : Int32)).toNatClampNeg]? = some (.int (-1 : Int32)) := Hs101.at hin101 (rfl)
  have p102 : ∀ t, own_W p e below m T92 40 #[.val (.ref x0), .val .null, .val (.ref x2), .val (.int ((14 : Int32) + (2 : Int32)))] [] t → Steps p.tables e below S0 t := fun t k => p100 t (by
    show own_W p e below m T92 48 #[.val (.ref x0), .val .null, .val (.ref x2), .val (.int (14 : Int32))] [(.int (14 : Int32)), (.ref x0)] _
    refine X92.iaload hx (j := (14 : Int32)) (v := (.int (-1 : Int32))) Ar101.1 (State.isArrayOf_alike hZ.alike Ar101.2.1) Ar101.2.2 hin101 hat101 (g := (mkF m 48 #[.val (.ref x0), .val .null, .val (.ref x2), .val (.int (14 : Int32))] [(.int (14 : Int32)), (.ref x0)])) rfl rfl (hb hby dfsb_48) _ ?_
    refine XS.iconst X92.here hx rfl (hb hby dfsb_49) ?_
    refine XS.icmpYes X92.here hx rfl (pc0 := 50) (pc' := 67) rfl (hb hby dfsb_50) rfl ((teq (rfl)).1) (by decide) (by decide) ?_
    refine XS.iinc X92.here hx rfl (hb hby dfsb_67) rfl (l' := #[.val (.ref x0), .val .null, .val (.ref x2), .val (.int ((14 : Int32) + (2 : Int32)))]) rfl ?_
    refine XS.goto X92.here hx rfl (pc0 := 70) (pc' := 40) rfl (hb hby dfsb_70) (by decide) (by decide) ?_
    exact k)
  have p103 : ∀ t, own_W p e below m T92 40 #[.val (.ref x0), .val .null, .val (.ref x2), .val (.int (16 : Int32))] [] t → Steps p.tables e below S0 t := by
    have k := p102
    rw [show ((14 : Int32) + (2 : Int32)) = (16 : Int32) from by decide] at k
    exact k
  have p104 : ∀ t, own_W p e below m T92 42 #[.val (.ref x0), .val .null, .val (.ref x2), .val (.int (16 : Int32))] [(.ref x0), (.int (16 : Int32))] t → Steps p.tables e below S0 t := fun t k => p103 t (by
    show own_W p e below m T92 40 #[.val (.ref x0), .val .null, .val (.ref x2), .val (.int (16 : Int32))] [] _
    refine XS.iloadN X92.here hx rfl (hb hby dfsb_40) rfl ?_
    refine XS.aloadN X92.here hx rfl (hb hby dfsb_41) rfl rfl ?_
    exact k)
  obtain ⟨cl105, Ar105, -, Sz105, Ng105, -, -⟩ := id f93
  have p106 : ∀ t, own_W p e below m T92 73 #[.val (.ref x0), .val .null, .val (.ref x2), .val (.int (16 : Int32))] [] t → Steps p.tables e below S0 t := fun t k => p104 t (by
    show own_W p e below m T92 42 #[.val (.ref x0), .val .null, .val (.ref x2), .val (.int (16 : Int32))] [(.ref x0), (.int (16 : Int32))] _
    refine X92.arraylength hx Ar105.1 (State.isArrayOf_alike hZ.alike Ar105.2.1) (g := (mkF m 42 #[.val (.ref x0), .val .null, .val (.ref x2), .val (.int (16 : Int32))] [(.ref x0), (.int (16 : Int32))])) rfl rfl (hb hby dfsb_42) _ ?_
    rw [len_of Sz105 Ng105]
    refine XS.icmpYes X92.here hx rfl (pc0 := 43) (pc' := 73) rfl (hb hby dfsb_43) rfl ((flt (by decide)).2.1) (by decide) (by decide) ?_
    exact k)
  subst hS0
  obtain ⟨fs, hr, hrun, hended, hW, hsame⟩ := X92.leave (v := none) (fun _ => rfl)
  refine ⟨_, _, p106 _ ?_, hrun, hended, _, _, rfl, ?_, ⟨_, rfl⟩, hW, hsame.mono (by decide) (by decide)⟩
  · show own_W p e below m T92 73 #[.val (.ref x0), .val .null, .val (.ref x2), .val (.int (16 : Int32))] [] _
    exact X92.returnOut hx Bd.returns (hb hby dfsb_73) hr
  · show Qfsb Z x0 x2 kt vv cK fr nb kn sz hi lv hv N vs h0 n0 _ T92.heap _
    skip
    exact ⟨rfl, N92, KK92, _, _, _, _, _, E092, Ft92, Fb92, Fs92, Fh92, Fl92, Fv92, VN92⟩
theorem dfst_0 : decode prog_53_method_16_code 0 = .ok (.aload_n 1, 1) := by decide +kernel
theorem dfst_1 : decode prog_53_method_16_code 1 = .ok (.ifnull 37, 3) := by decide +kernel
theorem dfst_38 : decode prog_53_method_16_code 38 = .ok (.iconst 0, 1) := by decide +kernel
theorem dfst_39 : decode prog_53_method_16_code 39 = .ok (.istore_n 3, 1) := by decide +kernel
theorem dfst_40 : decode prog_53_method_16_code 40 = .ok (.iload_n 3, 1) := by decide +kernel
theorem dfst_41 : decode prog_53_method_16_code 41 = .ok (.aload_n 0, 1) := by decide +kernel
theorem dfst_42 : decode prog_53_method_16_code 42 = .ok (.arraylength, 1) := by decide +kernel
theorem dfst_43 : decode prog_53_method_16_code 43 = .ok (.if_icmp .ge 30, 3) := by decide +kernel
theorem dfst_46 : decode prog_53_method_16_code 46 = .ok (.aload_n 0, 1) := by decide +kernel
theorem dfst_47 : decode prog_53_method_16_code 47 = .ok (.iload_n 3, 1) := by decide +kernel
theorem dfst_48 : decode prog_53_method_16_code 48 = .ok (.iaload, 1) := by decide +kernel
theorem dfst_49 : decode prog_53_method_16_code 49 = .ok (.iconst (-1), 1) := by decide +kernel
theorem dfst_50 : decode prog_53_method_16_code 50 = .ok (.if_icmp .eq 17, 3) := by decide +kernel
theorem dfst_53 : decode prog_53_method_16_code 53 = .ok (.aload_n 2, 1) := by decide +kernel
theorem dfst_54 : decode prog_53_method_16_code 54 = .ok (.aload_n 0, 1) := by decide +kernel
theorem dfst_55 : decode prog_53_method_16_code 55 = .ok (.iload_n 3, 1) := by decide +kernel
theorem dfst_56 : decode prog_53_method_16_code 56 = .ok (.iaload, 1) := by decide +kernel
theorem dfst_57 : decode prog_53_method_16_code 57 = .ok (.aload_n 0, 1) := by decide +kernel
theorem dfst_58 : decode prog_53_method_16_code 58 = .ok (.iload_n 3, 1) := by decide +kernel
theorem dfst_59 : decode prog_53_method_16_code 59 = .ok (.iconst 1, 1) := by decide +kernel
theorem dfst_60 : decode prog_53_method_16_code 60 = .ok (.iadd, 1) := by decide +kernel
theorem dfst_61 : decode prog_53_method_16_code 61 = .ok (.iaload, 1) := by decide +kernel
theorem dfst_62 : decode prog_53_method_16_code 62 = .ok (.invokeinterface 119 3, 5) := by decide +kernel
theorem dfst_67 : decode prog_53_method_16_code 67 = .ok (.iinc 3 2, 3) := by decide +kernel
theorem dfst_70 : decode prog_53_method_16_code 70 = .ok (.goto (-30), 3) := by decide +kernel
theorem dfst_73 : decode prog_53_method_16_code 73 = .ok (.return_, 1) := by decide +kernel
theorem pnfst : plainName "com/example/kinwarden/kinwarden/IntMap" = true := by first | (simp [plainName, overriddenIn]; done) | decide +kernel
theorem effst (m : MethodId) (x0 : Addr) (x2 : Addr) : entryFrame m #[(.ref x0), .null, (.ref x2)] 4 = mkF m 0 #[.val (.ref x0), .val .null, .val (.ref x2), .unset] [] := by first | (simp [entryFrame, mkF, argsToLocals, Value.category]; done) | rfl
def Qfst (Z : State) (x0 : Addr) (x2 : Addr) (kt : ClassId) (vv : Int32) (cK : ClassId) (fr : Addr) (nb : Addr) (kn : ClassId) (sz : Int32) (hi : Int32) (lv : Int32) (hv : Int32) (vs : List Value) (h0 : Heap) (n0 : Nat) (v : Option Value) (h : Heap) (L : List Loc) : Prop := v = none ∧ Fr n0 L ∧ Keep h0 h [fr, nb] ∧ ∃ (sz' hi' lv' hv' : Int32) (vs' : List Value), Exa Z h fr "com/example/kinwarden/kinwarden/IntMap" ∧ Fld Z h fr "com/example/kinwarden/kinwarden/IntMap" "table" "[I" (.ref nb) ∧ Fld Z h fr "com/example/kinwarden/kinwarden/IntMap" "byKey" "[I" .null ∧ Fld Z h fr "com/example/kinwarden/kinwarden/IntMap" "size" "I" (.int sz') ∧ Fld Z h fr "com/example/kinwarden/kinwarden/IntMap" "highest" "I" (.int hi') ∧ Fld Z h fr "com/example/kinwarden/kinwarden/IntMap" "lowestValue" "I" (.int lv') ∧ Fld Z h fr "com/example/kinwarden/kinwarden/IntMap" "highestValue" "I" (.int hv') ∧ Arv Z h nb kn .int (32 : Int32) vs' (.int (0 : Int32))
set_option maxRecDepth 65536 in
set_option maxHeartbeats 40000000 in
theorem rmfst (l : Launch) (Z : State) (a0 : Array Value) (hw : ∀ d ∈ tables_1, d.before a0 Z = true) (ws : List Jvm.Cond) (x0 : Addr) (x2 : Addr) (kt : ClassId) (vv : Int32) (cK : ClassId) (fr : Addr) (nb : Addr) (kn : ClassId) (sz : Int32) (hi : Int32) (lv : Int32) (hv : Int32) (vs : List Value) (h0 : Heap) (n0 : Nat) (Z0 : n0 ≤ h0.size) (hLZ : own_LZ Z cK) (V0 : Arv Z h0 x0 kt .int (16 : Int32) (own_T6 vv) (.int (0 : Int32))) (HC : own_C h0 x2 { cls := cK, slots := #[.ref fr], vm := .none }) (E0 : Exa Z h0 fr "com/example/kinwarden/kinwarden/IntMap") (Ft : Fld Z h0 fr "com/example/kinwarden/kinwarden/IntMap" "table" "[I" (.ref nb)) (Fb : Fld Z h0 fr "com/example/kinwarden/kinwarden/IntMap" "byKey" "[I" .null) (Fs : Fld Z h0 fr "com/example/kinwarden/kinwarden/IntMap" "size" "I" (.int sz)) (Fh : Fld Z h0 fr "com/example/kinwarden/kinwarden/IntMap" "highest" "I" (.int hi)) (Fl : Fld Z h0 fr "com/example/kinwarden/kinwarden/IntMap" "lowestValue" "I" (.int lv)) (Fv : Fld Z h0 fr "com/example/kinwarden/kinwarden/IntMap" "highestValue" "I" (.int hv)) (VN : Arv Z h0 nb kn .int (32 : Int32) vs (.int (0 : Int32))) (gf : n0 ≤ fr) (gb : n0 ≤ nb) (nfb : fr ≠ nb) (n0f : x0 ≠ fr) (n0b : x0 ≠ nb) (n2f : x2 ≠ fr) (n2b : x2 ≠ nb) :
    MetFree l (⟨"com/example/kinwarden/kinwarden/IntMap", "forEach", "([I[ILcom/example/kinwarden/kinwarden/IntMap$EntryConsumer;)V"⟩ : MethodName) (head1 (Jvm.Cond.code (⟨"com/example/kinwarden/kinwarden/IntMap", "forEach", "([I[ILcom/example/kinwarden/kinwarden/IntMap$EntryConsumer;)V"⟩ : MethodName) prog_53_method_16_code 4 none :: ws) ({ frames := 4, cells := 0, slots := 0, locals := 59 } : Room)) (fun a U => a = #[(.ref x0), .null, (.ref x2)] ∧ Z.Warmed39 U.vm ∧ U.heap = h0 ∧ Z.WarmedH U.vm) (fun _ _ _ _ _ => True) (fun _ U o U' => ∃ v L, o = .returned v ∧ Qfst Z x0 x2 kt vv cK fr nb kn sz hi lv hv vs h0 n0 v U'.heap L ∧ FrameEnd U o U' L ({ frames := 4, cells := 0, slots := 0, locals := 59 } : Room).cells ({ frames := 4, cells := 0, slots := 0, locals := 59 } : Room).slots) := by
  refine MetFree.of_bodySF (plainFor_of_name pnfst) hisR ?_
  intro p e s m args below meth c s₁ Bd hml0 hP hK
  obtain ⟨rfl, hZ, hh, hH⟩ := hP
  have hx := Bd.exec
  have hby := Bd.bytes
  have hml : c.maxLocals = 4 := hml0
  have hown : s.vm.findClass "com/example/kinwarden/kinwarden/IntMap" = some m.cls := findClass_of_methodNamed Bd.named
  have hnm := (name_of_methodNamed Bd.named Bd.method).1
  have X0 : Stand p l e ({ frames := 4, cells := 0, slots := 0, locals := 59 } : Room) s m #[(.ref x0), .null, (.ref x2)] below meth c s₁ [] 0 0 := Stand.of_body Bd
  have e0 : s₁.heap = h0 := by rw [← hh, Bd.state]; rfl
  have N0 := Fr.nil n0
  have pre0 : ∀ t, Steps p.tables e below (s₁.setTop (mkF m 0 #[.val (.ref x0), .val .null, .val (.ref x2), .unset] [])) t → Steps p.tables e below (s₁.setTop (entryFrame m #[(.ref x0), .null, (.ref x2)] 4)) t := fun t k => castTop (effst m x0 x2) k
  obtain ⟨S0, hS0⟩ : ∃ z, z = (s₁.setTop (entryFrame m #[(.ref x0), .null, (.ref x2)] 4)) := ⟨_, rfl⟩
  rw [← hS0] at pre0
  obtain ⟨mz, kz, cfz, iz, pz, -, -, -, -, -, hmZ⟩ := id hLZ
  have hms := own_madeS hH hmZ
  have K0 := Keep.refl h0 [fr, nb]
  have p1 : ∀ t, own_W p e below m s₁ 40 #[.val (.ref x0), .val .null, .val (.ref x2), .val (.int (0 : Int32))] [] t → Steps p.tables e below S0 t := fun t k => pre0 t (by
    show own_W p e below m s₁ 0 #[.val (.ref x0), .val .null, .val (.ref x2), .unset] [] _
    refine XS.aloadN X0.here hx rfl (hb hby dfst_0) rfl rfl ?_
    refine XS.ifnullYes X0.here hx rfl (pc0 := 1) (pc' := 38) rfl (hb hby dfst_1) rfl (by decide) (by decide) ?_
    refine XS.iconst X0.here hx rfl (hb hby dfst_38) ?_
    refine XS.istoreN X0.here hx rfl (hb hby dfst_39) rfl (l' := #[.val (.ref x0), .val .null, .val (.ref x2), .val (.int (0 : Int32))]) rfl ?_
    exact k)
  have p2 : ∀ t, own_W p e below m s₁ 42 #[.val (.ref x0), .val .null, .val (.ref x2), .val (.int (0 : Int32))] [(.ref x0), (.int (0 : Int32))] t → Steps p.tables e below S0 t := fun t k => p1 t (by
    show own_W p e below m s₁ 40 #[.val (.ref x0), .val .null, .val (.ref x2), .val (.int (0 : Int32))] [] _
    refine XS.iloadN X0.here hx rfl (hb hby dfst_40) rfl ?_
    refine XS.aloadN X0.here hx rfl (hb hby dfst_41) rfl rfl ?_
    exact k)
  obtain ⟨cl3, Ar3, -, Sz3, Ng3, -, -⟩ := id V0
  have p4 : ∀ t, own_W p e below m s₁ 48 #[.val (.ref x0), .val .null, .val (.ref x2), .val (.int (0 : Int32))] [(.int (0 : Int32)), (.ref x0)] t → Steps p.tables e below S0 t := fun t k => p2 t (by
    show own_W p e below m s₁ 42 #[.val (.ref x0), .val .null, .val (.ref x2), .val (.int (0 : Int32))] [(.ref x0), (.int (0 : Int32))] _
    refine X0.arraylength hx (by rw [e0]; exact Ar3.1) (State.isArrayOf_alike hZ.alike Ar3.2.1) (g := (mkF m 42 #[.val (.ref x0), .val .null, .val (.ref x2), .val (.int (0 : Int32))] [(.ref x0), (.int (0 : Int32))])) rfl rfl (hb hby dfst_42) _ ?_
    rw [len_of Sz3 Ng3]
    refine XS.icmpNo X0.here hx rfl (hb hby dfst_43) rfl ((tlt (by decide)).2.1) ?_
    refine XS.aloadN X0.here hx rfl (hb hby dfst_46) rfl rfl ?_
    refine XS.iloadN X0.here hx rfl (hb hby dfst_47) rfl ?_
    exact k)
  obtain ⟨cl5, Ar5, q5, Sz5, Ng5, Hs5, G5⟩ := id V0
  have hin5 : ¬ ((0 : Int32) < 0 ∨ cl5.slots.size ≤ ((0 : Int32)).toNatClampNeg) := inb_of Sz5 ⟨by decide, by decide⟩
  have hat5 : cl5.slots[((0 : Int32)).toNatClampNeg]? = some (.int (0 : Int32)) := Hs5.at hin5 (rfl)
  have p6 : ∀ t, own_W p e below m s₁ 56 #[.val (.ref x0), .val .null, .val (.ref x2), .val (.int (0 : Int32))] [(.int (0 : Int32)), (.ref x0), (.ref x2)] t → Steps p.tables e below S0 t := fun t k => p4 t (by
    show own_W p e below m s₁ 48 #[.val (.ref x0), .val .null, .val (.ref x2), .val (.int (0 : Int32))] [(.int (0 : Int32)), (.ref x0)] _
    refine X0.iaload hx (j := (0 : Int32)) (v := (.int (0 : Int32))) (by rw [e0]; exact Ar5.1) (State.isArrayOf_alike hZ.alike Ar5.2.1) Ar5.2.2 hin5 hat5 (g := (mkF m 48 #[.val (.ref x0), .val .null, .val (.ref x2), .val (.int (0 : Int32))] [(.int (0 : Int32)), (.ref x0)])) rfl rfl (hb hby dfst_48) _ ?_
    refine XS.iconst X0.here hx rfl (hb hby dfst_49) ?_
    refine XS.icmpNo X0.here hx rfl (hb hby dfst_50) rfl ((feq (by decide)).1) ?_
    refine XS.aloadN X0.here hx rfl (hb hby dfst_53) rfl rfl ?_
    refine XS.aloadN X0.here hx rfl (hb hby dfst_54) rfl rfl ?_
    refine XS.iloadN X0.here hx rfl (hb hby dfst_55) rfl ?_
    exact k)
  obtain ⟨cl7, Ar7, q7, Sz7, Ng7, Hs7, G7⟩ := id V0
  have hin7 : ¬ ((0 : Int32) < 0 ∨ cl7.slots.size ≤ ((0 : Int32)).toNatClampNeg) := inb_of Sz7 ⟨by decide, by decide⟩
  have hat7 : cl7.slots[((0 : Int32)).toNatClampNeg]? = some (.int (0 : Int32)) := Hs7.at hin7 (rfl)
  have p8 : ∀ t, own_W p e below m s₁ 61 #[.val (.ref x0), .val .null, .val (.ref x2), .val (.int (0 : Int32))] [(.int ((0 : Int32) + (1 : Int32))), (.ref x0), (.int (0 : Int32)), (.ref x2)] t → Steps p.tables e below S0 t := fun t k => p6 t (by
    show own_W p e below m s₁ 56 #[.val (.ref x0), .val .null, .val (.ref x2), .val (.int (0 : Int32))] [(.int (0 : Int32)), (.ref x0), (.ref x2)] _
    refine X0.iaload hx (j := (0 : Int32)) (v := (.int (0 : Int32))) (by rw [e0]; exact Ar7.1) (State.isArrayOf_alike hZ.alike Ar7.2.1) Ar7.2.2 hin7 hat7 (g := (mkF m 56 #[.val (.ref x0), .val .null, .val (.ref x2), .val (.int (0 : Int32))] [(.int (0 : Int32)), (.ref x0), (.ref x2)])) rfl rfl (hb hby dfst_56) _ ?_
    refine XS.aloadN X0.here hx rfl (hb hby dfst_57) rfl rfl ?_
    refine XS.iloadN X0.here hx rfl (hb hby dfst_58) rfl ?_
    refine XS.iconst X0.here hx rfl (hb hby dfst_59) ?_
    refine XS.iadd X0.here hx rfl (hb hby dfst_60) rfl ?_
    exact k)
  obtain ⟨cl9, Ar9, q9, Sz9, Ng9, Hs9, G9⟩ := id V0
  have hin9 : ¬ (((0 : Int32) + (1 : Int32)) < 0 ∨ cl9.slots.size ≤ (((0 : Int32) + (1 : Int32))).toNatClampNeg) := inb_of Sz9 ⟨by decide, by decide⟩
  have hat9 : cl9.slots[(((0 : Int32) + (1 : Int32))).toNatClampNeg]? = some (.int vv) := Hs9.at hin9 (rfl)
  have p10 : ∀ t, own_W p e below m s₁ 62 #[.val (.ref x0), .val .null, .val (.ref x2), .val (.int (0 : Int32))] [(.int vv), (.int (0 : Int32)), (.ref x2)] t → Steps p.tables e below S0 t := fun t k => p8 t (by
    show own_W p e below m s₁ 61 #[.val (.ref x0), .val .null, .val (.ref x2), .val (.int (0 : Int32))] [(.int ((0 : Int32) + (1 : Int32))), (.ref x0), (.int (0 : Int32)), (.ref x2)] _
    refine X0.iaload hx (j := ((0 : Int32) + (1 : Int32))) (v := (.int vv)) (by rw [e0]; exact Ar9.1) (State.isArrayOf_alike hZ.alike Ar9.2.1) Ar9.2.2 hin9 hat9 (g := (mkF m 61 #[.val (.ref x0), .val .null, .val (.ref x2), .val (.int (0 : Int32))] [(.int ((0 : Int32) + (1 : Int32))), (.ref x0), (.int (0 : Int32)), (.ref x2)])) rfl rfl (hb hby dfst_61) _ ?_
    exact k)
  obtain ⟨cq11, qa11, qb11⟩ := Exa.cell E0
  obtain ⟨T11, L11, X11, hQ11, st11⟩ := own_fwd (a0 := a0) X0 hx hZ hw hms e0 HC qa11 qb11 (rmpg16 l Z a0 hw [] fr (0 : Int32) vv nb kn sz hi lv hv vs h0 n0 Z0 E0 Ft Fb Fs Fh Fl Fv VN gf gb nfb) (fun _ _ _ q => q.1) hown (g := (mkF m 62 #[.val (.ref x0), .val .null, .val (.ref x2), .val (.int (0 : Int32))] [(.int vv), (.int (0 : Int32)), (.ref x2)])) rfl (by rw [hml]; rfl) (rest := []) rfl (hb hby dfst_62) (by decide) (Nat.le_of_ble_eq_true rfl) (by decide) (by decide)
  obtain ⟨-, Nq11, K11, sz11, hi11, lv11, hv11, vs11, E011, Ft11, Fb11, Fs11, Fh11, Fl11, Fv11, VN11⟩ := hQ11
  have N11 := Fr.app N0 Nq11
  have f12 := V0.keep K11 (ninS n0f (ninS n0b nin0))
  have f13 := HC.keep K11 (ninS n2f (ninS n2b nin0))
  have Z11 := Nat.le_trans Z0 K11.1
  have KK11 := K0.trans K11 (allS (Or.inl (List.mem_cons_self ..)) (allS (Or.inl (List.mem_cons_of_mem _ (List.mem_singleton.mpr rfl))) all0))
  have p14 : ∀ t, own_W p e below m T11 67 #[.val (.ref x0), .val .null, .val (.ref x2), .val (.int (0 : Int32))] [] t → Steps p.tables e below S0 t := fun t k => p10 t (st11 t k)
  have p15 : ∀ t, own_W p e below m T11 40 #[.val (.ref x0), .val .null, .val (.ref x2), .val (.int ((0 : Int32) + (2 : Int32)))] [] t → Steps p.tables e below S0 t := fun t k => p14 t (by
    show own_W p e below m T11 67 #[.val (.ref x0), .val .null, .val (.ref x2), .val (.int (0 : Int32))] [] _
    refine XS.iinc X11.here hx rfl (hb hby dfst_67) rfl (l' := #[.val (.ref x0), .val .null, .val (.ref x2), .val (.int ((0 : Int32) + (2 : Int32)))]) rfl ?_
    refine XS.goto X11.here hx rfl (pc0 := 70) (pc' := 40) rfl (hb hby dfst_70) (by decide) (by decide) ?_
    exact k)
  have p16 : ∀ t, own_W p e below m T11 40 #[.val (.ref x0), .val .null, .val (.ref x2), .val (.int (2 : Int32))] [] t → Steps p.tables e below S0 t := by
    have k := p15
    rw [show ((0 : Int32) + (2 : Int32)) = (2 : Int32) from by decide] at k
    exact k
  have p17 : ∀ t, own_W p e below m T11 42 #[.val (.ref x0), .val .null, .val (.ref x2), .val (.int (2 : Int32))] [(.ref x0), (.int (2 : Int32))] t → Steps p.tables e below S0 t := fun t k => p16 t (by
    show own_W p e below m T11 40 #[.val (.ref x0), .val .null, .val (.ref x2), .val (.int (2 : Int32))] [] _
    refine XS.iloadN X11.here hx rfl (hb hby dfst_40) rfl ?_
    refine XS.aloadN X11.here hx rfl (hb hby dfst_41) rfl rfl ?_
    exact k)
  obtain ⟨cl18, Ar18, -, Sz18, Ng18, -, -⟩ := id f12
  have p19 : ∀ t, own_W p e below m T11 48 #[.val (.ref x0), .val .null, .val (.ref x2), .val (.int (2 : Int32))] [(.int (2 : Int32)), (.ref x0)] t → Steps p.tables e below S0 t := fun t k => p17 t (by
    show own_W p e below m T11 42 #[.val (.ref x0), .val .null, .val (.ref x2), .val (.int (2 : Int32))] [(.ref x0), (.int (2 : Int32))] _
    refine X11.arraylength hx Ar18.1 (State.isArrayOf_alike hZ.alike Ar18.2.1) (g := (mkF m 42 #[.val (.ref x0), .val .null, .val (.ref x2), .val (.int (2 : Int32))] [(.ref x0), (.int (2 : Int32))])) rfl rfl (hb hby dfst_42) _ ?_
    rw [len_of Sz18 Ng18]
    refine XS.icmpNo X11.here hx rfl (hb hby dfst_43) rfl ((tlt (by decide)).2.1) ?_
    refine XS.aloadN X11.here hx rfl (hb hby dfst_46) rfl rfl ?_
    refine XS.iloadN X11.here hx rfl (hb hby dfst_47) rfl ?_
    exact k)
  obtain ⟨cl20, Ar20, q20, Sz20, Ng20, Hs20, G20⟩ := id f12
  have hin20 : ¬ ((2 : Int32) < 0 ∨ cl20.slots.size ≤ ((2 : Int32)).toNatClampNeg) := inb_of Sz20 ⟨by decide, by decide⟩
  have hat20 : cl20.slots[((2 : Int32)).toNatClampNeg]? = some (.int (2 : Int32)) := Hs20.at hin20 (rfl)
  have p21 : ∀ t, own_W p e below m T11 56 #[.val (.ref x0), .val .null, .val (.ref x2), .val (.int (2 : Int32))] [(.int (2 : Int32)), (.ref x0), (.ref x2)] t → Steps p.tables e below S0 t := fun t k => p19 t (by
    show own_W p e below m T11 48 #[.val (.ref x0), .val .null, .val (.ref x2), .val (.int (2 : Int32))] [(.int (2 : Int32)), (.ref x0)] _
    refine X11.iaload hx (j := (2 : Int32)) (v := (.int (2 : Int32))) Ar20.1 (State.isArrayOf_alike hZ.alike Ar20.2.1) Ar20.2.2 hin20 hat20 (g := (mkF m 48 #[.val (.ref x0), .val .null, .val (.ref x2), .val (.int (2 : Int32))] [(.int (2 : Int32)), (.ref x0)])) rfl rfl (hb hby dfst_48) _ ?_
    refine XS.iconst X11.here hx rfl (hb hby dfst_49) ?_
    refine XS.icmpNo X11.here hx rfl (hb hby dfst_50) rfl ((feq (by decide)).1) ?_
    refine XS.aloadN X11.here hx rfl (hb hby dfst_53) rfl rfl ?_
    refine XS.aloadN X11.here hx rfl (hb hby dfst_54) rfl rfl ?_
    refine XS.iloadN X11.here hx rfl (hb hby dfst_55) rfl ?_
    exact k)
  obtain ⟨cl22, Ar22, q22, Sz22, Ng22, Hs22, G22⟩ := id f12
  have hin22 : ¬ ((2 : Int32) < 0 ∨ cl22.slots.size ≤ ((2 : Int32)).toNatClampNeg) := inb_of Sz22 ⟨by decide, by decide⟩
  have hat22 : cl22.slots[((2 : Int32)).toNatClampNeg]? = some (.int (2 : Int32)) := Hs22.at hin22 (rfl)
  have p23 : ∀ t, own_W p e below m T11 61 #[.val (.ref x0), .val .null, .val (.ref x2), .val (.int (2 : Int32))] [(.int ((2 : Int32) + (1 : Int32))), (.ref x0), (.int (2 : Int32)), (.ref x2)] t → Steps p.tables e below S0 t := fun t k => p21 t (by
    show own_W p e below m T11 56 #[.val (.ref x0), .val .null, .val (.ref x2), .val (.int (2 : Int32))] [(.int (2 : Int32)), (.ref x0), (.ref x2)] _
    refine X11.iaload hx (j := (2 : Int32)) (v := (.int (2 : Int32))) Ar22.1 (State.isArrayOf_alike hZ.alike Ar22.2.1) Ar22.2.2 hin22 hat22 (g := (mkF m 56 #[.val (.ref x0), .val .null, .val (.ref x2), .val (.int (2 : Int32))] [(.int (2 : Int32)), (.ref x0), (.ref x2)])) rfl rfl (hb hby dfst_56) _ ?_
    refine XS.aloadN X11.here hx rfl (hb hby dfst_57) rfl rfl ?_
    refine XS.iloadN X11.here hx rfl (hb hby dfst_58) rfl ?_
    refine XS.iconst X11.here hx rfl (hb hby dfst_59) ?_
    refine XS.iadd X11.here hx rfl (hb hby dfst_60) rfl ?_
    exact k)
  obtain ⟨cl24, Ar24, q24, Sz24, Ng24, Hs24, G24⟩ := id f12
  have hin24 : ¬ (((2 : Int32) + (1 : Int32)) < 0 ∨ cl24.slots.size ≤ (((2 : Int32) + (1 : Int32))).toNatClampNeg) := inb_of Sz24 ⟨by decide, by decide⟩
  have hat24 : cl24.slots[(((2 : Int32) + (1 : Int32))).toNatClampNeg]? = some (.int vv) := Hs24.at hin24 (rfl)
  have p25 : ∀ t, own_W p e below m T11 62 #[.val (.ref x0), .val .null, .val (.ref x2), .val (.int (2 : Int32))] [(.int vv), (.int (2 : Int32)), (.ref x2)] t → Steps p.tables e below S0 t := fun t k => p23 t (by
    show own_W p e below m T11 61 #[.val (.ref x0), .val .null, .val (.ref x2), .val (.int (2 : Int32))] [(.int ((2 : Int32) + (1 : Int32))), (.ref x0), (.int (2 : Int32)), (.ref x2)] _
    refine X11.iaload hx (j := ((2 : Int32) + (1 : Int32))) (v := (.int vv)) Ar24.1 (State.isArrayOf_alike hZ.alike Ar24.2.1) Ar24.2.2 hin24 hat24 (g := (mkF m 61 #[.val (.ref x0), .val .null, .val (.ref x2), .val (.int (2 : Int32))] [(.int ((2 : Int32) + (1 : Int32))), (.ref x0), (.int (2 : Int32)), (.ref x2)])) rfl rfl (hb hby dfst_61) _ ?_
    exact k)
  obtain ⟨cq26, qa26, qb26⟩ := Exa.cell E011
  obtain ⟨T26, L26, X26, hQ26, st26⟩ := own_fwd (a0 := a0) X11 hx hZ hw hms rfl f13 qa26 qb26 (rmpg16 l Z a0 hw [] fr (2 : Int32) vv nb kn sz11 hi11 lv11 hv11 vs11 T11.heap n0 Z11 E011 Ft11 Fb11 Fs11 Fh11 Fl11 Fv11 VN11 gf gb nfb) (fun _ _ _ q => q.1) hown (g := (mkF m 62 #[.val (.ref x0), .val .null, .val (.ref x2), .val (.int (2 : Int32))] [(.int vv), (.int (2 : Int32)), (.ref x2)])) rfl (by rw [hml]; rfl) (rest := []) rfl (hb hby dfst_62) (by decide) (Nat.le_of_ble_eq_true rfl) (by decide) (by decide)
  obtain ⟨-, Nq26, K26, sz26, hi26, lv26, hv26, vs26, E026, Ft26, Fb26, Fs26, Fh26, Fl26, Fv26, VN26⟩ := hQ26
  have N26 := Fr.app N11 Nq26
  have f27 := f12.keep K26 (ninS n0f (ninS n0b nin0))
  have f28 := f13.keep K26 (ninS n2f (ninS n2b nin0))
  have Z26 := Nat.le_trans Z11 K26.1
  have KK26 := KK11.trans K26 (allS (Or.inl (List.mem_cons_self ..)) (allS (Or.inl (List.mem_cons_of_mem _ (List.mem_singleton.mpr rfl))) all0))
  have p29 : ∀ t, own_W p e below m T26 67 #[.val (.ref x0), .val .null, .val (.ref x2), .val (.int (2 : Int32))] [] t → Steps p.tables e below S0 t := fun t k => p25 t (st26 t k)
  have p30 : ∀ t, own_W p e below m T26 40 #[.val (.ref x0), .val .null, .val (.ref x2), .val (.int ((2 : Int32) + (2 : Int32)))] [] t → Steps p.tables e below S0 t := fun t k => p29 t (by
    show own_W p e below m T26 67 #[.val (.ref x0), .val .null, .val (.ref x2), .val (.int (2 : Int32))] [] _
    refine XS.iinc X26.here hx rfl (hb hby dfst_67) rfl (l' := #[.val (.ref x0), .val .null, .val (.ref x2), .val (.int ((2 : Int32) + (2 : Int32)))]) rfl ?_
    refine XS.goto X26.here hx rfl (pc0 := 70) (pc' := 40) rfl (hb hby dfst_70) (by decide) (by decide) ?_
    exact k)
  have p31 : ∀ t, own_W p e below m T26 40 #[.val (.ref x0), .val .null, .val (.ref x2), .val (.int (4 : Int32))] [] t → Steps p.tables e below S0 t := by
    have k := p30
    rw [show ((2 : Int32) + (2 : Int32)) = (4 : Int32) from by decide] at k
    exact k
  have p32 : ∀ t, own_W p e below m T26 42 #[.val (.ref x0), .val .null, .val (.ref x2), .val (.int (4 : Int32))] [(.ref x0), (.int (4 : Int32))] t → Steps p.tables e below S0 t := fun t k => p31 t (by
    show own_W p e below m T26 40 #[.val (.ref x0), .val .null, .val (.ref x2), .val (.int (4 : Int32))] [] _
    refine XS.iloadN X26.here hx rfl (hb hby dfst_40) rfl ?_
    refine XS.aloadN X26.here hx rfl (hb hby dfst_41) rfl rfl ?_
    exact k)
  obtain ⟨cl33, Ar33, -, Sz33, Ng33, -, -⟩ := id f27
  have p34 : ∀ t, own_W p e below m T26 48 #[.val (.ref x0), .val .null, .val (.ref x2), .val (.int (4 : Int32))] [(.int (4 : Int32)), (.ref x0)] t → Steps p.tables e below S0 t := fun t k => p32 t (by
    show own_W p e below m T26 42 #[.val (.ref x0), .val .null, .val (.ref x2), .val (.int (4 : Int32))] [(.ref x0), (.int (4 : Int32))] _
    refine X26.arraylength hx Ar33.1 (State.isArrayOf_alike hZ.alike Ar33.2.1) (g := (mkF m 42 #[.val (.ref x0), .val .null, .val (.ref x2), .val (.int (4 : Int32))] [(.ref x0), (.int (4 : Int32))])) rfl rfl (hb hby dfst_42) _ ?_
    rw [len_of Sz33 Ng33]
    refine XS.icmpNo X26.here hx rfl (hb hby dfst_43) rfl ((tlt (by decide)).2.1) ?_
    refine XS.aloadN X26.here hx rfl (hb hby dfst_46) rfl rfl ?_
    refine XS.iloadN X26.here hx rfl (hb hby dfst_47) rfl ?_
    exact k)
  obtain ⟨cl35, Ar35, q35, Sz35, Ng35, Hs35, G35⟩ := id f27
  have hin35 : ¬ ((4 : Int32) < 0 ∨ cl35.slots.size ≤ ((4 : Int32)).toNatClampNeg) := inb_of Sz35 ⟨by decide, by decide⟩
  have hat35 : cl35.slots[((4 : Int32)).toNatClampNeg]? = some (.int (5 : Int32)) := Hs35.at hin35 (rfl)
  have p36 : ∀ t, own_W p e below m T26 56 #[.val (.ref x0), .val .null, .val (.ref x2), .val (.int (4 : Int32))] [(.int (4 : Int32)), (.ref x0), (.ref x2)] t → Steps p.tables e below S0 t := fun t k => p34 t (by
    show own_W p e below m T26 48 #[.val (.ref x0), .val .null, .val (.ref x2), .val (.int (4 : Int32))] [(.int (4 : Int32)), (.ref x0)] _
    refine X26.iaload hx (j := (4 : Int32)) (v := (.int (5 : Int32))) Ar35.1 (State.isArrayOf_alike hZ.alike Ar35.2.1) Ar35.2.2 hin35 hat35 (g := (mkF m 48 #[.val (.ref x0), .val .null, .val (.ref x2), .val (.int (4 : Int32))] [(.int (4 : Int32)), (.ref x0)])) rfl rfl (hb hby dfst_48) _ ?_
    refine XS.iconst X26.here hx rfl (hb hby dfst_49) ?_
    refine XS.icmpNo X26.here hx rfl (hb hby dfst_50) rfl ((feq (by decide)).1) ?_
    refine XS.aloadN X26.here hx rfl (hb hby dfst_53) rfl rfl ?_
    refine XS.aloadN X26.here hx rfl (hb hby dfst_54) rfl rfl ?_
    refine XS.iloadN X26.here hx rfl (hb hby dfst_55) rfl ?_
    exact k)
  obtain ⟨cl37, Ar37, q37, Sz37, Ng37, Hs37, G37⟩ := id f27
  have hin37 : ¬ ((4 : Int32) < 0 ∨ cl37.slots.size ≤ ((4 : Int32)).toNatClampNeg) := inb_of Sz37 ⟨by decide, by decide⟩
  have hat37 : cl37.slots[((4 : Int32)).toNatClampNeg]? = some (.int (5 : Int32)) := Hs37.at hin37 (rfl)
  have p38 : ∀ t, own_W p e below m T26 61 #[.val (.ref x0), .val .null, .val (.ref x2), .val (.int (4 : Int32))] [(.int ((4 : Int32) + (1 : Int32))), (.ref x0), (.int (5 : Int32)), (.ref x2)] t → Steps p.tables e below S0 t := fun t k => p36 t (by
    show own_W p e below m T26 56 #[.val (.ref x0), .val .null, .val (.ref x2), .val (.int (4 : Int32))] [(.int (4 : Int32)), (.ref x0), (.ref x2)] _
    refine X26.iaload hx (j := (4 : Int32)) (v := (.int (5 : Int32))) Ar37.1 (State.isArrayOf_alike hZ.alike Ar37.2.1) Ar37.2.2 hin37 hat37 (g := (mkF m 56 #[.val (.ref x0), .val .null, .val (.ref x2), .val (.int (4 : Int32))] [(.int (4 : Int32)), (.ref x0), (.ref x2)])) rfl rfl (hb hby dfst_56) _ ?_
    refine XS.aloadN X26.here hx rfl (hb hby dfst_57) rfl rfl ?_
    refine XS.iloadN X26.here hx rfl (hb hby dfst_58) rfl ?_
    refine XS.iconst X26.here hx rfl (hb hby dfst_59) ?_
    show own_W p e below m T26 60 #[.val (.ref x0), .val .null, .val (.ref x2), .val (.int (4 : Int32))] [(.int (1 : Int32)), (.int (4 : Int32)), (.ref x0), (.int (5 : Int32)), (.ref x2)] _
    refine XS.iadd X26.here hx rfl (hb hby dfst_60) rfl ?_
    exact k)
  obtain ⟨cl39, Ar39, q39, Sz39, Ng39, Hs39, G39⟩ := id f27
  have hin39 : ¬ (((4 : Int32) + (1 : Int32)) < 0 ∨ cl39.slots.size ≤ (((4 : Int32) + (1 : Int32))).toNatClampNeg) := inb_of Sz39 ⟨by decide, by decide⟩
  have hat39 : cl39.slots[(((4 : Int32) + (1 : Int32))).toNatClampNeg]? = some (.int vv) := Hs39.at hin39 (rfl)
  have p40 : ∀ t, own_W p e below m T26 62 #[.val (.ref x0), .val .null, .val (.ref x2), .val (.int (4 : Int32))] [(.int vv), (.int (5 : Int32)), (.ref x2)] t → Steps p.tables e below S0 t := fun t k => p38 t (by
    show own_W p e below m T26 61 #[.val (.ref x0), .val .null, .val (.ref x2), .val (.int (4 : Int32))] [(.int ((4 : Int32) + (1 : Int32))), (.ref x0), (.int (5 : Int32)), (.ref x2)] _
    refine X26.iaload hx (j := ((4 : Int32) + (1 : Int32))) (v := (.int vv)) Ar39.1 (State.isArrayOf_alike hZ.alike Ar39.2.1) Ar39.2.2 hin39 hat39 (g := (mkF m 61 #[.val (.ref x0), .val .null, .val (.ref x2), .val (.int (4 : Int32))] [(.int ((4 : Int32) + (1 : Int32))), (.ref x0), (.int (5 : Int32)), (.ref x2)])) rfl rfl (hb hby dfst_61) _ ?_
    exact k)
  obtain ⟨cq41, qa41, qb41⟩ := Exa.cell E026
  obtain ⟨T41, L41, X41, hQ41, st41⟩ := own_fwd (a0 := a0) X26 hx hZ hw hms rfl f28 qa41 qb41 (rmpg16 l Z a0 hw [] fr (5 : Int32) vv nb kn sz26 hi26 lv26 hv26 vs26 T26.heap n0 Z26 E026 Ft26 Fb26 Fs26 Fh26 Fl26 Fv26 VN26 gf gb nfb) (fun _ _ _ q => q.1) hown (g := (mkF m 62 #[.val (.ref x0), .val .null, .val (.ref x2), .val (.int (4 : Int32))] [(.int vv), (.int (5 : Int32)), (.ref x2)])) rfl (by rw [hml]; rfl) (rest := []) rfl (hb hby dfst_62) (by decide) (Nat.le_of_ble_eq_true rfl) (by decide) (by decide)
  obtain ⟨-, Nq41, K41, sz41, hi41, lv41, hv41, vs41, E041, Ft41, Fb41, Fs41, Fh41, Fl41, Fv41, VN41⟩ := hQ41
  have N41 := Fr.app N26 Nq41
  have f42 := f27.keep K41 (ninS n0f (ninS n0b nin0))
  have f43 := f28.keep K41 (ninS n2f (ninS n2b nin0))
  have Z41 := Nat.le_trans Z26 K41.1
  have KK41 := KK26.trans K41 (allS (Or.inl (List.mem_cons_self ..)) (allS (Or.inl (List.mem_cons_of_mem _ (List.mem_singleton.mpr rfl))) all0))
  have p44 : ∀ t, own_W p e below m T41 67 #[.val (.ref x0), .val .null, .val (.ref x2), .val (.int (4 : Int32))] [] t → Steps p.tables e below S0 t := fun t k => p40 t (st41 t k)
  have p45 : ∀ t, own_W p e below m T41 40 #[.val (.ref x0), .val .null, .val (.ref x2), .val (.int ((4 : Int32) + (2 : Int32)))] [] t → Steps p.tables e below S0 t := fun t k => p44 t (by
    show own_W p e below m T41 67 #[.val (.ref x0), .val .null, .val (.ref x2), .val (.int (4 : Int32))] [] _
    refine XS.iinc X41.here hx rfl (hb hby dfst_67) rfl (l' := #[.val (.ref x0), .val .null, .val (.ref x2), .val (.int ((4 : Int32) + (2 : Int32)))]) rfl ?_
    refine XS.goto X41.here hx rfl (pc0 := 70) (pc' := 40) rfl (hb hby dfst_70) (by decide) (by decide) ?_
    exact k)
  have p46 : ∀ t, own_W p e below m T41 40 #[.val (.ref x0), .val .null, .val (.ref x2), .val (.int (6 : Int32))] [] t → Steps p.tables e below S0 t := by
    have k := p45
    rw [show ((4 : Int32) + (2 : Int32)) = (6 : Int32) from by decide] at k
    exact k
  have p47 : ∀ t, own_W p e below m T41 42 #[.val (.ref x0), .val .null, .val (.ref x2), .val (.int (6 : Int32))] [(.ref x0), (.int (6 : Int32))] t → Steps p.tables e below S0 t := fun t k => p46 t (by
    show own_W p e below m T41 40 #[.val (.ref x0), .val .null, .val (.ref x2), .val (.int (6 : Int32))] [] _
    refine XS.iloadN X41.here hx rfl (hb hby dfst_40) rfl ?_
    refine XS.aloadN X41.here hx rfl (hb hby dfst_41) rfl rfl ?_
    exact k)
  obtain ⟨cl48, Ar48, -, Sz48, Ng48, -, -⟩ := id f42
  have p49 : ∀ t, own_W p e below m T41 48 #[.val (.ref x0), .val .null, .val (.ref x2), .val (.int (6 : Int32))] [(.int (6 : Int32)), (.ref x0)] t → Steps p.tables e below S0 t := fun t k => p47 t (by
    show own_W p e below m T41 42 #[.val (.ref x0), .val .null, .val (.ref x2), .val (.int (6 : Int32))] [(.ref x0), (.int (6 : Int32))] _
    refine X41.arraylength hx Ar48.1 (State.isArrayOf_alike hZ.alike Ar48.2.1) (g := (mkF m 42 #[.val (.ref x0), .val .null, .val (.ref x2), .val (.int (6 : Int32))] [(.ref x0), (.int (6 : Int32))])) rfl rfl (hb hby dfst_42) _ ?_
    rw [len_of Sz48 Ng48]
    refine XS.icmpNo X41.here hx rfl (hb hby dfst_43) rfl ((tlt (by decide)).2.1) ?_
    refine XS.aloadN X41.here hx rfl (hb hby dfst_46) rfl rfl ?_
    refine XS.iloadN X41.here hx rfl (hb hby dfst_47) rfl ?_
    exact k)
  obtain ⟨cl50, Ar50, q50, Sz50, Ng50, Hs50, G50⟩ := id f42
  have hin50 : ¬ ((6 : Int32) < 0 ∨ cl50.slots.size ≤ ((6 : Int32)).toNatClampNeg) := inb_of Sz50 ⟨by decide, by decide⟩
  have hat50 : cl50.slots[((6 : Int32)).toNatClampNeg]? = some (.int (4 : Int32)) := Hs50.at hin50 (rfl)
  have p51 : ∀ t, own_W p e below m T41 56 #[.val (.ref x0), .val .null, .val (.ref x2), .val (.int (6 : Int32))] [(.int (6 : Int32)), (.ref x0), (.ref x2)] t → Steps p.tables e below S0 t := fun t k => p49 t (by
    show own_W p e below m T41 48 #[.val (.ref x0), .val .null, .val (.ref x2), .val (.int (6 : Int32))] [(.int (6 : Int32)), (.ref x0)] _
    refine X41.iaload hx (j := (6 : Int32)) (v := (.int (4 : Int32))) Ar50.1 (State.isArrayOf_alike hZ.alike Ar50.2.1) Ar50.2.2 hin50 hat50 (g := (mkF m 48 #[.val (.ref x0), .val .null, .val (.ref x2), .val (.int (6 : Int32))] [(.int (6 : Int32)), (.ref x0)])) rfl rfl (hb hby dfst_48) _ ?_
    refine XS.iconst X41.here hx rfl (hb hby dfst_49) ?_
    refine XS.icmpNo X41.here hx rfl (hb hby dfst_50) rfl ((feq (by decide)).1) ?_
    refine XS.aloadN X41.here hx rfl (hb hby dfst_53) rfl rfl ?_
    refine XS.aloadN X41.here hx rfl (hb hby dfst_54) rfl rfl ?_
    refine XS.iloadN X41.here hx rfl (hb hby dfst_55) rfl ?_
    exact k)
  obtain ⟨cl52, Ar52, q52, Sz52, Ng52, Hs52, G52⟩ := id f42
  have hin52 : ¬ ((6 : Int32) < 0 ∨ cl52.slots.size ≤ ((6 : Int32)).toNatClampNeg) := inb_of Sz52 ⟨by decide, by decide⟩
  have hat52 : cl52.slots[((6 : Int32)).toNatClampNeg]? = some (.int (4 : Int32)) := Hs52.at hin52 (rfl)
  have p53 : ∀ t, own_W p e below m T41 61 #[.val (.ref x0), .val .null, .val (.ref x2), .val (.int (6 : Int32))] [(.int ((6 : Int32) + (1 : Int32))), (.ref x0), (.int (4 : Int32)), (.ref x2)] t → Steps p.tables e below S0 t := fun t k => p51 t (by
    show own_W p e below m T41 56 #[.val (.ref x0), .val .null, .val (.ref x2), .val (.int (6 : Int32))] [(.int (6 : Int32)), (.ref x0), (.ref x2)] _
    refine X41.iaload hx (j := (6 : Int32)) (v := (.int (4 : Int32))) Ar52.1 (State.isArrayOf_alike hZ.alike Ar52.2.1) Ar52.2.2 hin52 hat52 (g := (mkF m 56 #[.val (.ref x0), .val .null, .val (.ref x2), .val (.int (6 : Int32))] [(.int (6 : Int32)), (.ref x0), (.ref x2)])) rfl rfl (hb hby dfst_56) _ ?_
    refine XS.aloadN X41.here hx rfl (hb hby dfst_57) rfl rfl ?_
    refine XS.iloadN X41.here hx rfl (hb hby dfst_58) rfl ?_
    refine XS.iconst X41.here hx rfl (hb hby dfst_59) ?_
    refine XS.iadd X41.here hx rfl (hb hby dfst_60) rfl ?_
    exact k)
  obtain ⟨cl54, Ar54, q54, Sz54, Ng54, Hs54, G54⟩ := id f42
  have hin54 : ¬ (((6 : Int32) + (1 : Int32)) < 0 ∨ cl54.slots.size ≤ (((6 : Int32) + (1 : Int32))).toNatClampNeg) := inb_of Sz54 ⟨by decide, by decide⟩
  have hat54 : cl54.slots[(((6 : Int32) + (1 : Int32))).toNatClampNeg]? = some (.int vv) := Hs54.at hin54 (rfl)
  have p55 : ∀ t, own_W p e below m T41 62 #[.val (.ref x0), .val .null, .val (.ref x2), .val (.int (6 : Int32))] [(.int vv), (.int (4 : Int32)), (.ref x2)] t → Steps p.tables e below S0 t := fun t k => p53 t (by
    show own_W p e below m T41 61 #[.val (.ref x0), .val .null, .val (.ref x2), .val (.int (6 : Int32))] [(.int ((6 : Int32) + (1 : Int32))), (.ref x0), (.int (4 : Int32)), (.ref x2)] _
    refine X41.iaload hx (j := ((6 : Int32) + (1 : Int32))) (v := (.int vv)) Ar54.1 (State.isArrayOf_alike hZ.alike Ar54.2.1) Ar54.2.2 hin54 hat54 (g := (mkF m 61 #[.val (.ref x0), .val .null, .val (.ref x2), .val (.int (6 : Int32))] [(.int ((6 : Int32) + (1 : Int32))), (.ref x0), (.int (4 : Int32)), (.ref x2)])) rfl rfl (hb hby dfst_61) _ ?_
    exact k)
  obtain ⟨cq56, qa56, qb56⟩ := Exa.cell E041
  obtain ⟨T56, L56, X56, hQ56, st56⟩ := own_fwd (a0 := a0) X41 hx hZ hw hms rfl f43 qa56 qb56 (rmpg16 l Z a0 hw [] fr (4 : Int32) vv nb kn sz41 hi41 lv41 hv41 vs41 T41.heap n0 Z41 E041 Ft41 Fb41 Fs41 Fh41 Fl41 Fv41 VN41 gf gb nfb) (fun _ _ _ q => q.1) hown (g := (mkF m 62 #[.val (.ref x0), .val .null, .val (.ref x2), .val (.int (6 : Int32))] [(.int vv), (.int (4 : Int32)), (.ref x2)])) rfl (by rw [hml]; rfl) (rest := []) rfl (hb hby dfst_62) (by decide) (Nat.le_of_ble_eq_true rfl) (by decide) (by decide)
  obtain ⟨-, Nq56, K56, sz56, hi56, lv56, hv56, vs56, E056, Ft56, Fb56, Fs56, Fh56, Fl56, Fv56, VN56⟩ := hQ56
  have N56 := Fr.app N41 Nq56
  have f57 := f42.keep K56 (ninS n0f (ninS n0b nin0))
  have f58 := f43.keep K56 (ninS n2f (ninS n2b nin0))
  have Z56 := Nat.le_trans Z41 K56.1
  have KK56 := KK41.trans K56 (allS (Or.inl (List.mem_cons_self ..)) (allS (Or.inl (List.mem_cons_of_mem _ (List.mem_singleton.mpr rfl))) all0))
  have p59 : ∀ t, own_W p e below m T56 67 #[.val (.ref x0), .val .null, .val (.ref x2), .val (.int (6 : Int32))] [] t → Steps p.tables e below S0 t := fun t k => p55 t (st56 t k)
  have p60 : ∀ t, own_W p e below m T56 40 #[.val (.ref x0), .val .null, .val (.ref x2), .val (.int ((6 : Int32) + (2 : Int32)))] [] t → Steps p.tables e below S0 t := fun t k => p59 t (by
    show own_W p e below m T56 67 #[.val (.ref x0), .val .null, .val (.ref x2), .val (.int (6 : Int32))] [] _
    refine XS.iinc X56.here hx rfl (hb hby dfst_67) rfl (l' := #[.val (.ref x0), .val .null, .val (.ref x2), .val (.int ((6 : Int32) + (2 : Int32)))]) rfl ?_
    refine XS.goto X56.here hx rfl (pc0 := 70) (pc' := 40) rfl (hb hby dfst_70) (by decide) (by decide) ?_
    exact k)
  have p61 : ∀ t, own_W p e below m T56 40 #[.val (.ref x0), .val .null, .val (.ref x2), .val (.int (8 : Int32))] [] t → Steps p.tables e below S0 t := by
    have k := p60
    rw [show ((6 : Int32) + (2 : Int32)) = (8 : Int32) from by decide] at k
    exact k
  have p62 : ∀ t, own_W p e below m T56 42 #[.val (.ref x0), .val .null, .val (.ref x2), .val (.int (8 : Int32))] [(.ref x0), (.int (8 : Int32))] t → Steps p.tables e below S0 t := fun t k => p61 t (by
    show own_W p e below m T56 40 #[.val (.ref x0), .val .null, .val (.ref x2), .val (.int (8 : Int32))] [] _
    refine XS.iloadN X56.here hx rfl (hb hby dfst_40) rfl ?_
    refine XS.aloadN X56.here hx rfl (hb hby dfst_41) rfl rfl ?_
    exact k)
  obtain ⟨cl63, Ar63, -, Sz63, Ng63, -, -⟩ := id f57
  have p64 : ∀ t, own_W p e below m T56 48 #[.val (.ref x0), .val .null, .val (.ref x2), .val (.int (8 : Int32))] [(.int (8 : Int32)), (.ref x0)] t → Steps p.tables e below S0 t := fun t k => p62 t (by
    show own_W p e below m T56 42 #[.val (.ref x0), .val .null, .val (.ref x2), .val (.int (8 : Int32))] [(.ref x0), (.int (8 : Int32))] _
    refine X56.arraylength hx Ar63.1 (State.isArrayOf_alike hZ.alike Ar63.2.1) (g := (mkF m 42 #[.val (.ref x0), .val .null, .val (.ref x2), .val (.int (8 : Int32))] [(.ref x0), (.int (8 : Int32))])) rfl rfl (hb hby dfst_42) _ ?_
    rw [len_of Sz63 Ng63]
    refine XS.icmpNo X56.here hx rfl (hb hby dfst_43) rfl ((tlt (by decide)).2.1) ?_
    refine XS.aloadN X56.here hx rfl (hb hby dfst_46) rfl rfl ?_
    refine XS.iloadN X56.here hx rfl (hb hby dfst_47) rfl ?_
    exact k)
  obtain ⟨cl65, Ar65, q65, Sz65, Ng65, Hs65, G65⟩ := id f57
  have hin65 : ¬ ((8 : Int32) < 0 ∨ cl65.slots.size ≤ ((8 : Int32)).toNatClampNeg) := inb_of Sz65 ⟨by decide, by decide⟩
  have hat65 : cl65.slots[((8 : Int32)).toNatClampNeg]? = some (.int (1 : Int32)) := Hs65.at hin65 (rfl)
  have p66 : ∀ t, own_W p e below m T56 56 #[.val (.ref x0), .val .null, .val (.ref x2), .val (.int (8 : Int32))] [(.int (8 : Int32)), (.ref x0), (.ref x2)] t → Steps p.tables e below S0 t := fun t k => p64 t (by
    show own_W p e below m T56 48 #[.val (.ref x0), .val .null, .val (.ref x2), .val (.int (8 : Int32))] [(.int (8 : Int32)), (.ref x0)] _
    refine X56.iaload hx (j := (8 : Int32)) (v := (.int (1 : Int32))) Ar65.1 (State.isArrayOf_alike hZ.alike Ar65.2.1) Ar65.2.2 hin65 hat65 (g := (mkF m 48 #[.val (.ref x0), .val .null, .val (.ref x2), .val (.int (8 : Int32))] [(.int (8 : Int32)), (.ref x0)])) rfl rfl (hb hby dfst_48) _ ?_
    refine XS.iconst X56.here hx rfl (hb hby dfst_49) ?_
    refine XS.icmpNo X56.here hx rfl (hb hby dfst_50) rfl ((feq (by decide)).1) ?_
    refine XS.aloadN X56.here hx rfl (hb hby dfst_53) rfl rfl ?_
    refine XS.aloadN X56.here hx rfl (hb hby dfst_54) rfl rfl ?_
    refine XS.iloadN X56.here hx rfl (hb hby dfst_55) rfl ?_
    exact k)
  obtain ⟨cl67, Ar67, q67, Sz67, Ng67, Hs67, G67⟩ := id f57
  have hin67 : ¬ ((8 : Int32) < 0 ∨ cl67.slots.size ≤ ((8 : Int32)).toNatClampNeg) := inb_of Sz67 ⟨by decide, by decide⟩
  have hat67 : cl67.slots[((8 : Int32)).toNatClampNeg]? = some (.int (1 : Int32)) := Hs67.at hin67 (rfl)
  have p68 : ∀ t, own_W p e below m T56 61 #[.val (.ref x0), .val .null, .val (.ref x2), .val (.int (8 : Int32))] [(.int ((8 : Int32) + (1 : Int32))), (.ref x0), (.int (1 : Int32)), (.ref x2)] t → Steps p.tables e below S0 t := fun t k => p66 t (by
    show own_W p e below m T56 56 #[.val (.ref x0), .val .null, .val (.ref x2), .val (.int (8 : Int32))] [(.int (8 : Int32)), (.ref x0), (.ref x2)] _
    refine X56.iaload hx (j := (8 : Int32)) (v := (.int (1 : Int32))) Ar67.1 (State.isArrayOf_alike hZ.alike Ar67.2.1) Ar67.2.2 hin67 hat67 (g := (mkF m 56 #[.val (.ref x0), .val .null, .val (.ref x2), .val (.int (8 : Int32))] [(.int (8 : Int32)), (.ref x0), (.ref x2)])) rfl rfl (hb hby dfst_56) _ ?_
    refine XS.aloadN X56.here hx rfl (hb hby dfst_57) rfl rfl ?_
    refine XS.iloadN X56.here hx rfl (hb hby dfst_58) rfl ?_
    refine XS.iconst X56.here hx rfl (hb hby dfst_59) ?_
    refine XS.iadd X56.here hx rfl (hb hby dfst_60) rfl ?_
    exact k)
  obtain ⟨cl69, Ar69, q69, Sz69, Ng69, Hs69, G69⟩ := id f57
  have hin69 : ¬ (((8 : Int32) + (1 : Int32)) < 0 ∨ cl69.slots.size ≤ (((8 : Int32) + (1 : Int32))).toNatClampNeg) := inb_of Sz69 ⟨by decide, by decide⟩
  have hat69 : cl69.slots[(((8 : Int32) + (1 : Int32))).toNatClampNeg]? = some (.int vv) := Hs69.at hin69 (rfl)
  have p70 : ∀ t, own_W p e below m T56 62 #[.val (.ref x0), .val .null, .val (.ref x2), .val (.int (8 : Int32))] [(.int vv), (.int (1 : Int32)), (.ref x2)] t → Steps p.tables e below S0 t := fun t k => p68 t (by
    show own_W p e below m T56 61 #[.val (.ref x0), .val .null, .val (.ref x2), .val (.int (8 : Int32))] [(.int ((8 : Int32) + (1 : Int32))), (.ref x0), (.int (1 : Int32)), (.ref x2)] _
    refine X56.iaload hx (j := ((8 : Int32) + (1 : Int32))) (v := (.int vv)) Ar69.1 (State.isArrayOf_alike hZ.alike Ar69.2.1) Ar69.2.2 hin69 hat69 (g := (mkF m 61 #[.val (.ref x0), .val .null, .val (.ref x2), .val (.int (8 : Int32))] [(.int ((8 : Int32) + (1 : Int32))), (.ref x0), (.int (1 : Int32)), (.ref x2)])) rfl rfl (hb hby dfst_61) _ ?_
    exact k)
  obtain ⟨cq71, qa71, qb71⟩ := Exa.cell E056
  obtain ⟨T71, L71, X71, hQ71, st71⟩ := own_fwd (a0 := a0) X56 hx hZ hw hms rfl f58 qa71 qb71 (rmpg16 l Z a0 hw [] fr (1 : Int32) vv nb kn sz56 hi56 lv56 hv56 vs56 T56.heap n0 Z56 E056 Ft56 Fb56 Fs56 Fh56 Fl56 Fv56 VN56 gf gb nfb) (fun _ _ _ q => q.1) hown (g := (mkF m 62 #[.val (.ref x0), .val .null, .val (.ref x2), .val (.int (8 : Int32))] [(.int vv), (.int (1 : Int32)), (.ref x2)])) rfl (by rw [hml]; rfl) (rest := []) rfl (hb hby dfst_62) (by decide) (Nat.le_of_ble_eq_true rfl) (by decide) (by decide)
  obtain ⟨-, Nq71, K71, sz71, hi71, lv71, hv71, vs71, E071, Ft71, Fb71, Fs71, Fh71, Fl71, Fv71, VN71⟩ := hQ71
  have N71 := Fr.app N56 Nq71
  have f72 := f57.keep K71 (ninS n0f (ninS n0b nin0))
  have f73 := f58.keep K71 (ninS n2f (ninS n2b nin0))
  have Z71 := Nat.le_trans Z56 K71.1
  have KK71 := KK56.trans K71 (allS (Or.inl (List.mem_cons_self ..)) (allS (Or.inl (List.mem_cons_of_mem _ (List.mem_singleton.mpr rfl))) all0))
  have p74 : ∀ t, own_W p e below m T71 67 #[.val (.ref x0), .val .null, .val (.ref x2), .val (.int (8 : Int32))] [] t → Steps p.tables e below S0 t := fun t k => p70 t (st71 t k)
  have p75 : ∀ t, own_W p e below m T71 40 #[.val (.ref x0), .val .null, .val (.ref x2), .val (.int ((8 : Int32) + (2 : Int32)))] [] t → Steps p.tables e below S0 t := fun t k => p74 t (by
    show own_W p e below m T71 67 #[.val (.ref x0), .val .null, .val (.ref x2), .val (.int (8 : Int32))] [] _
    refine XS.iinc X71.here hx rfl (hb hby dfst_67) rfl (l' := #[.val (.ref x0), .val .null, .val (.ref x2), .val (.int ((8 : Int32) + (2 : Int32)))]) rfl ?_
    refine XS.goto X71.here hx rfl (pc0 := 70) (pc' := 40) rfl (hb hby dfst_70) (by decide) (by decide) ?_
    exact k)
  have p76 : ∀ t, own_W p e below m T71 40 #[.val (.ref x0), .val .null, .val (.ref x2), .val (.int (10 : Int32))] [] t → Steps p.tables e below S0 t := by
    have k := p75
    rw [show ((8 : Int32) + (2 : Int32)) = (10 : Int32) from by decide] at k
    exact k
  have p77 : ∀ t, own_W p e below m T71 42 #[.val (.ref x0), .val .null, .val (.ref x2), .val (.int (10 : Int32))] [(.ref x0), (.int (10 : Int32))] t → Steps p.tables e below S0 t := fun t k => p76 t (by
    show own_W p e below m T71 40 #[.val (.ref x0), .val .null, .val (.ref x2), .val (.int (10 : Int32))] [] _
    refine XS.iloadN X71.here hx rfl (hb hby dfst_40) rfl ?_
    refine XS.aloadN X71.here hx rfl (hb hby dfst_41) rfl rfl ?_
    exact k)
  obtain ⟨cl78, Ar78, -, Sz78, Ng78, -, -⟩ := id f72
  have p79 : ∀ t, own_W p e below m T71 48 #[.val (.ref x0), .val .null, .val (.ref x2), .val (.int (10 : Int32))] [(.int (10 : Int32)), (.ref x0)] t → Steps p.tables e below S0 t := fun t k => p77 t (by
    show own_W p e below m T71 42 #[.val (.ref x0), .val .null, .val (.ref x2), .val (.int (10 : Int32))] [(.ref x0), (.int (10 : Int32))] _
    refine X71.arraylength hx Ar78.1 (State.isArrayOf_alike hZ.alike Ar78.2.1) (g := (mkF m 42 #[.val (.ref x0), .val .null, .val (.ref x2), .val (.int (10 : Int32))] [(.ref x0), (.int (10 : Int32))])) rfl rfl (hb hby dfst_42) _ ?_
    rw [len_of Sz78 Ng78]
    refine XS.icmpNo X71.here hx rfl (hb hby dfst_43) rfl ((tlt (by decide)).2.1) ?_
    refine XS.aloadN X71.here hx rfl (hb hby dfst_46) rfl rfl ?_
    refine XS.iloadN X71.here hx rfl (hb hby dfst_47) rfl ?_
    exact k)
  obtain ⟨cl80, Ar80, q80, Sz80, Ng80, Hs80, G80⟩ := id f72
  have hin80 : ¬ ((10 : Int32) < 0 ∨ cl80.slots.size ≤ ((10 : Int32)).toNatClampNeg) := inb_of Sz80 ⟨by decide, by decide⟩
  have hat80 : cl80.slots[((10 : Int32)).toNatClampNeg]? = some (.int (-1 : Int32)) := Hs80.at hin80 (rfl)
  have p81 : ∀ t, own_W p e below m T71 40 #[.val (.ref x0), .val .null, .val (.ref x2), .val (.int ((10 : Int32) + (2 : Int32)))] [] t → Steps p.tables e below S0 t := fun t k => p79 t (by
    show own_W p e below m T71 48 #[.val (.ref x0), .val .null, .val (.ref x2), .val (.int (10 : Int32))] [(.int (10 : Int32)), (.ref x0)] _
    refine X71.iaload hx (j := (10 : Int32)) (v := (.int (-1 : Int32))) Ar80.1 (State.isArrayOf_alike hZ.alike Ar80.2.1) Ar80.2.2 hin80 hat80 (g := (mkF m 48 #[.val (.ref x0), .val .null, .val (.ref x2), .val (.int (10 : Int32))] [(.int (10 : Int32)), (.ref x0)])) rfl rfl (hb hby dfst_48) _ ?_
    refine XS.iconst X71.here hx rfl (hb hby dfst_49) ?_
    refine XS.icmpYes X71.here hx rfl (pc0 := 50) (pc' := 67) rfl (hb hby dfst_50) rfl ((teq (rfl)).1) (by decide) (by decide) ?_
    refine XS.iinc X71.here hx rfl (hb hby dfst_67) rfl (l' := #[.val (.ref x0), .val .null, .val (.ref x2), .val (.int ((10 : Int32) + (2 : Int32)))]) rfl ?_
    refine XS.goto X71.here hx rfl (pc0 := 70) (pc' := 40) rfl (hb hby dfst_70) (by decide) (by decide) ?_
    exact k)
  have p82 : ∀ t, own_W p e below m T71 40 #[.val (.ref x0), .val .null, .val (.ref x2), .val (.int (12 : Int32))] [] t → Steps p.tables e below S0 t := by
    have k := p81
    rw [show ((10 : Int32) + (2 : Int32)) = (12 : Int32) from by decide] at k
    exact k
  have p83 : ∀ t, own_W p e below m T71 42 #[.val (.ref x0), .val .null, .val (.ref x2), .val (.int (12 : Int32))] [(.ref x0), (.int (12 : Int32))] t → Steps p.tables e below S0 t := fun t k => p82 t (by
    show own_W p e below m T71 40 #[.val (.ref x0), .val .null, .val (.ref x2), .val (.int (12 : Int32))] [] _
    refine XS.iloadN X71.here hx rfl (hb hby dfst_40) rfl ?_
    refine XS.aloadN X71.here hx rfl (hb hby dfst_41) rfl rfl ?_
    exact k)
  obtain ⟨cl84, Ar84, -, Sz84, Ng84, -, -⟩ := id f72
  have p85 : ∀ t, own_W p e below m T71 48 #[.val (.ref x0), .val .null, .val (.ref x2), .val (.int (12 : Int32))] [(.int (12 : Int32)), (.ref x0)] t → Steps p.tables e below S0 t := fun t k => p83 t (by
    show own_W p e below m T71 42 #[.val (.ref x0), .val .null, .val (.ref x2), .val (.int (12 : Int32))] [(.ref x0), (.int (12 : Int32))] _
    refine X71.arraylength hx Ar84.1 (State.isArrayOf_alike hZ.alike Ar84.2.1) (g := (mkF m 42 #[.val (.ref x0), .val .null, .val (.ref x2), .val (.int (12 : Int32))] [(.ref x0), (.int (12 : Int32))])) rfl rfl (hb hby dfst_42) _ ?_
    rw [len_of Sz84 Ng84]
    refine XS.icmpNo X71.here hx rfl (hb hby dfst_43) rfl ((tlt (by decide)).2.1) ?_
    refine XS.aloadN X71.here hx rfl (hb hby dfst_46) rfl rfl ?_
    show own_W p e below m T71 47 #[.val (.ref x0), .val .null, .val (.ref x2), .val (.int (12 : Int32))] [(.ref x0)] _
    refine XS.iloadN X71.here hx rfl (hb hby dfst_47) rfl ?_
    exact k)
  obtain ⟨cl86, Ar86, q86, Sz86, Ng86, Hs86, G86⟩ := id f72
  have hin86 : ¬ ((12 : Int32) < 0 ∨ cl86.slots.size ≤ ((12 : Int32)).toNatClampNeg) := inb_of Sz86 ⟨by decide, by decide⟩
  have hat86 : cl86.slots[((12 : Int32)).toNatClampNeg]? = some (.int (3 : Int32)) := Hs86.at hin86 (rfl)
  have p87 : ∀ t, own_W p e below m T71 56 #[.val (.ref x0), .val .null, .val (.ref x2), .val (.int (12 : Int32))] [(.int (12 : Int32)), (.ref x0), (.ref x2)] t → Steps p.tables e below S0 t := fun t k => p85 t (by
    show own_W p e below m T71 48 #[.val (.ref x0), .val .null, .val (.ref x2), .val (.int (12 : Int32))] [(.int (12 : Int32)), (.ref x0)] _
    refine X71.iaload hx (j := (12 : Int32)) (v := (.int (3 : Int32))) Ar86.1 (State.isArrayOf_alike hZ.alike Ar86.2.1) Ar86.2.2 hin86 hat86 (g := (mkF m 48 #[.val (.ref x0), .val .null, .val (.ref x2), .val (.int (12 : Int32))] [(.int (12 : Int32)), (.ref x0)])) rfl rfl (hb hby dfst_48) _ ?_
    refine XS.iconst X71.here hx rfl (hb hby dfst_49) ?_
    refine XS.icmpNo X71.here hx rfl (hb hby dfst_50) rfl ((feq (by decide)).1) ?_
    refine XS.aloadN X71.here hx rfl (hb hby dfst_53) rfl rfl ?_
    refine XS.aloadN X71.here hx rfl (hb hby dfst_54) rfl rfl ?_
    refine XS.iloadN X71.here hx rfl (hb hby dfst_55) rfl ?_
    exact k)
  obtain ⟨cl88, Ar88, q88, Sz88, Ng88, Hs88, G88⟩ := id f72
  have hin88 : ¬ ((12 : Int32) < 0 ∨ cl88.slots.size ≤ ((12 : Int32)).toNatClampNeg) := inb_of Sz88 ⟨by decide, by decide⟩
  have hat88 : cl88.slots[((12 : Int32)).toNatClampNeg]? = some (.int (3 : Int32)) := Hs88.at hin88 (rfl)
  have p89 : ∀ t, own_W p e below m T71 61 #[.val (.ref x0), .val .null, .val (.ref x2), .val (.int (12 : Int32))] [(.int ((12 : Int32) + (1 : Int32))), (.ref x0), (.int (3 : Int32)), (.ref x2)] t → Steps p.tables e below S0 t := fun t k => p87 t (by
    show own_W p e below m T71 56 #[.val (.ref x0), .val .null, .val (.ref x2), .val (.int (12 : Int32))] [(.int (12 : Int32)), (.ref x0), (.ref x2)] _
    refine X71.iaload hx (j := (12 : Int32)) (v := (.int (3 : Int32))) Ar88.1 (State.isArrayOf_alike hZ.alike Ar88.2.1) Ar88.2.2 hin88 hat88 (g := (mkF m 56 #[.val (.ref x0), .val .null, .val (.ref x2), .val (.int (12 : Int32))] [(.int (12 : Int32)), (.ref x0), (.ref x2)])) rfl rfl (hb hby dfst_56) _ ?_
    refine XS.aloadN X71.here hx rfl (hb hby dfst_57) rfl rfl ?_
    refine XS.iloadN X71.here hx rfl (hb hby dfst_58) rfl ?_
    refine XS.iconst X71.here hx rfl (hb hby dfst_59) ?_
    refine XS.iadd X71.here hx rfl (hb hby dfst_60) rfl ?_
    exact k)
  obtain ⟨cl90, Ar90, q90, Sz90, Ng90, Hs90, G90⟩ := id f72
  have hin90 : ¬ (((12 : Int32) + (1 : Int32)) < 0 ∨ cl90.slots.size ≤ (((12 : Int32) + (1 : Int32))).toNatClampNeg) := inb_of Sz90 ⟨by decide, by decide⟩
  have hat90 : cl90.slots[(((12 : Int32) + (1 : Int32))).toNatClampNeg]? = some (.int vv) := Hs90.at hin90 (rfl)
  have p91 : ∀ t, own_W p e below m T71 62 #[.val (.ref x0), .val .null, .val (.ref x2), .val (.int (12 : Int32))] [(.int vv), (.int (3 : Int32)), (.ref x2)] t → Steps p.tables e below S0 t := fun t k => p89 t (by
    show own_W p e below m T71 61 #[.val (.ref x0), .val .null, .val (.ref x2), .val (.int (12 : Int32))] [(.int ((12 : Int32) + (1 : Int32))), (.ref x0), (.int (3 : Int32)), (.ref x2)] _
    refine X71.iaload hx (j := ((12 : Int32) + (1 : Int32))) (v := (.int vv)) Ar90.1 (State.isArrayOf_alike hZ.alike Ar90.2.1) Ar90.2.2 hin90 hat90 (g := (mkF m 61 #[.val (.ref x0), .val .null, .val (.ref x2), .val (.int (12 : Int32))] [(.int ((12 : Int32) + (1 : Int32))), (.ref x0), (.int (3 : Int32)), (.ref x2)])) rfl rfl (hb hby dfst_61) _ ?_
    exact k)
  obtain ⟨cq92, qa92, qb92⟩ := Exa.cell E071
  obtain ⟨T92, L92, X92, hQ92, st92⟩ := own_fwd (a0 := a0) X71 hx hZ hw hms rfl f73 qa92 qb92 (rmpg16 l Z a0 hw [] fr (3 : Int32) vv nb kn sz71 hi71 lv71 hv71 vs71 T71.heap n0 Z71 E071 Ft71 Fb71 Fs71 Fh71 Fl71 Fv71 VN71 gf gb nfb) (fun _ _ _ q => q.1) hown (g := (mkF m 62 #[.val (.ref x0), .val .null, .val (.ref x2), .val (.int (12 : Int32))] [(.int vv), (.int (3 : Int32)), (.ref x2)])) rfl (by rw [hml]; rfl) (rest := []) rfl (hb hby dfst_62) (by decide) (Nat.le_of_ble_eq_true rfl) (by decide) (by decide)
  obtain ⟨-, Nq92, K92, sz92, hi92, lv92, hv92, vs92, E092, Ft92, Fb92, Fs92, Fh92, Fl92, Fv92, VN92⟩ := hQ92
  have N92 := Fr.app N71 Nq92
  have f93 := f72.keep K92 (ninS n0f (ninS n0b nin0))
  have f94 := f73.keep K92 (ninS n2f (ninS n2b nin0))
  have Z92 := Nat.le_trans Z71 K92.1
  have KK92 := KK71.trans K92 (allS (Or.inl (List.mem_cons_self ..)) (allS (Or.inl (List.mem_cons_of_mem _ (List.mem_singleton.mpr rfl))) all0))
  have p95 : ∀ t, own_W p e below m T92 67 #[.val (.ref x0), .val .null, .val (.ref x2), .val (.int (12 : Int32))] [] t → Steps p.tables e below S0 t := fun t k => p91 t (st92 t k)
  have p96 : ∀ t, own_W p e below m T92 40 #[.val (.ref x0), .val .null, .val (.ref x2), .val (.int ((12 : Int32) + (2 : Int32)))] [] t → Steps p.tables e below S0 t := fun t k => p95 t (by
    show own_W p e below m T92 67 #[.val (.ref x0), .val .null, .val (.ref x2), .val (.int (12 : Int32))] [] _
    refine XS.iinc X92.here hx rfl (hb hby dfst_67) rfl (l' := #[.val (.ref x0), .val .null, .val (.ref x2), .val (.int ((12 : Int32) + (2 : Int32)))]) rfl ?_
    refine XS.goto X92.here hx rfl (pc0 := 70) (pc' := 40) rfl (hb hby dfst_70) (by decide) (by decide) ?_
    exact k)
  have p97 : ∀ t, own_W p e below m T92 40 #[.val (.ref x0), .val .null, .val (.ref x2), .val (.int (14 : Int32))] [] t → Steps p.tables e below S0 t := by
    have k := p96
    rw [show ((12 : Int32) + (2 : Int32)) = (14 : Int32) from by decide] at k
    exact k
  have p98 : ∀ t, own_W p e below m T92 42 #[.val (.ref x0), .val .null, .val (.ref x2), .val (.int (14 : Int32))] [(.ref x0), (.int (14 : Int32))] t → Steps p.tables e below S0 t := fun t k => p97 t (by
    show own_W p e below m T92 40 #[.val (.ref x0), .val .null, .val (.ref x2), .val (.int (14 : Int32))] [] _
    refine XS.iloadN X92.here hx rfl (hb hby dfst_40) rfl ?_
    refine XS.aloadN X92.here hx rfl (hb hby dfst_41) rfl rfl ?_
    exact k)
  obtain ⟨cl99, Ar99, -, Sz99, Ng99, -, -⟩ := id f93
  have p100 : ∀ t, own_W p e below m T92 48 #[.val (.ref x0), .val .null, .val (.ref x2), .val (.int (14 : Int32))] [(.int (14 : Int32)), (.ref x0)] t → Steps p.tables e below S0 t := fun t k => p98 t (by
    show own_W p e below m T92 42 #[.val (.ref x0), .val .null, .val (.ref x2), .val (.int (14 : Int32))] [(.ref x0), (.int (14 : Int32))] _
    refine X92.arraylength hx Ar99.1 (State.isArrayOf_alike hZ.alike Ar99.2.1) (g := (mkF m 42 #[.val (.ref x0), .val .null, .val (.ref x2), .val (.int (14 : Int32))] [(.ref x0), (.int (14 : Int32))])) rfl rfl (hb hby dfst_42) _ ?_
    rw [len_of Sz99 Ng99]
    refine XS.icmpNo X92.here hx rfl (hb hby dfst_43) rfl ((tlt (by decide)).2.1) ?_
    refine XS.aloadN X92.here hx rfl (hb hby dfst_46) rfl rfl ?_
    refine XS.iloadN X92.here hx rfl (hb hby dfst_47) rfl ?_
    exact k)
  obtain ⟨cl101, Ar101, q101, Sz101, Ng101, Hs101, G101⟩ := id f93
  have hin101 : ¬ ((14 : Int32) < 0 ∨ cl101.slots.size ≤ ((14 : Int32)).toNatClampNeg) := inb_of Sz101 ⟨by decide, by decide⟩
  have hat101 : cl101.slots[((14 : Int32)).toNatClampNeg]? = some (.int (-1 : Int32)) := Hs101.at hin101 (rfl)
  have p102 : ∀ t, own_W p e below m T92 40 #[.val (.ref x0), .val .null, .val (.ref x2), .val (.int ((14 : Int32) + (2 : Int32)))] [] t → Steps p.tables e below S0 t := fun t k => p100 t (by
    show own_W p e below m T92 48 #[.val (.ref x0), .val .null, .val (.ref x2), .val (.int (14 : Int32))] [(.int (14 : Int32)), (.ref x0)] _
    refine X92.iaload hx (j := (14 : Int32)) (v := (.int (-1 : Int32))) Ar101.1 (State.isArrayOf_alike hZ.alike Ar101.2.1) Ar101.2.2 hin101 hat101 (g := (mkF m 48 #[.val (.ref x0), .val .null, .val (.ref x2), .val (.int (14 : Int32))] [(.int (14 : Int32)), (.ref x0)])) rfl rfl (hb hby dfst_48) _ ?_
    refine XS.iconst X92.here hx rfl (hb hby dfst_49) ?_
    refine XS.icmpYes X92.here hx rfl (pc0 := 50) (pc' := 67) rfl (hb hby dfst_50) rfl ((teq (rfl)).1) (by decide) (by decide) ?_
    refine XS.iinc X92.here hx rfl (hb hby dfst_67) rfl (l' := #[.val (.ref x0), .val .null, .val (.ref x2), .val (.int ((14 : Int32) + (2 : Int32)))]) rfl ?_
    refine XS.goto X92.here hx rfl (pc0 := 70) (pc' := 40) rfl (hb hby dfst_70) (by decide) (by decide) ?_
    exact k)
  have p103 : ∀ t, own_W p e below m T92 40 #[.val (.ref x0), .val .null, .val (.ref x2), .val (.int (16 : Int32))] [] t → Steps p.tables e below S0 t := by
    have k := p102
    rw [show ((14 : Int32) + (2 : Int32)) = (16 : Int32) from by decide] at k
    exact k
  have p104 : ∀ t, own_W p e below m T92 42 #[.val (.ref x0), .val .null, .val (.ref x2), .val (.int (16 : Int32))] [(.ref x0), (.int (16 : Int32))] t → Steps p.tables e below S0 t := fun t k => p103 t (by
    show own_W p e below m T92 40 #[.val (.ref x0), .val .null, .val (.ref x2), .val (.int (16 : Int32))] [] _
    refine XS.iloadN X92.here hx rfl (hb hby dfst_40) rfl ?_
    refine XS.aloadN X92.here hx rfl (hb hby dfst_41) rfl rfl ?_
    exact k)
  obtain ⟨cl105, Ar105, -, Sz105, Ng105, -, -⟩ := id f93
  have p106 : ∀ t, own_W p e below m T92 73 #[.val (.ref x0), .val .null, .val (.ref x2), .val (.int (16 : Int32))] [] t → Steps p.tables e below S0 t := fun t k => p104 t (by
    show own_W p e below m T92 42 #[.val (.ref x0), .val .null, .val (.ref x2), .val (.int (16 : Int32))] [(.ref x0), (.int (16 : Int32))] _
    refine X92.arraylength hx Ar105.1 (State.isArrayOf_alike hZ.alike Ar105.2.1) (g := (mkF m 42 #[.val (.ref x0), .val .null, .val (.ref x2), .val (.int (16 : Int32))] [(.ref x0), (.int (16 : Int32))])) rfl rfl (hb hby dfst_42) _ ?_
    rw [len_of Sz105 Ng105]
    refine XS.icmpYes X92.here hx rfl (pc0 := 43) (pc' := 73) rfl (hb hby dfst_43) rfl ((flt (by decide)).2.1) (by decide) (by decide) ?_
    exact k)
  subst hS0
  obtain ⟨fs, hr, hrun, hended, hW, hsame⟩ := X92.leave (v := none) (fun _ => rfl)
  refine ⟨_, _, p106 _ ?_, hrun, hended, _, _, rfl, ?_, ⟨_, rfl⟩, hW, hsame.mono (by decide) (by decide)⟩
  · show own_W p e below m T92 73 #[.val (.ref x0), .val .null, .val (.ref x2), .val (.int (16 : Int32))] [] _
    exact X92.returnOut hx Bd.returns (hb hby dfst_73) hr
  · show Qfst Z x0 x2 kt vv cK fr nb kn sz hi lv hv vs h0 n0 _ T92.heap _
    skip
    exact ⟨rfl, N92, KK92, _, _, _, _, _, E092, Ft92, Fb92, Fs92, Fh92, Fl92, Fv92, VN92⟩
theorem dfeb_0 : decode prog_53_method_15_code 0 = .ok (.aload_n 0, 1) := by decide +kernel
theorem dfeb_1 : decode prog_53_method_15_code 1 = .ok (.getfield 26, 3) := by decide +kernel
theorem dfeb_4 : decode prog_53_method_15_code 4 = .ok (.aload_n 0, 1) := by decide +kernel
theorem dfeb_5 : decode prog_53_method_15_code 5 = .ok (.getfield 30, 3) := by decide +kernel
theorem dfeb_8 : decode prog_53_method_15_code 8 = .ok (.aload_n 1, 1) := by decide +kernel
theorem dfeb_9 : decode prog_53_method_15_code 9 = .ok (.invokestatic 116, 3) := by decide +kernel
theorem dfeb_12 : decode prog_53_method_15_code 12 = .ok (.return_, 1) := by decide +kernel
theorem pnfeb : plainName "com/example/kinwarden/kinwarden/IntMap" = true := by first | (simp [plainName, overriddenIn]; done) | decide +kernel
theorem pdfeb_0 : parseMethodDescriptor "([I[ILcom/example/kinwarden/kinwarden/IntMap$EntryConsumer;)V" = some ⟨[(.array .int), (.array .int), (.object "com/example/kinwarden/kinwarden/IntMap$EntryConsumer")], none⟩ := by decide +kernel
theorem effeb (m : MethodId) (x0 : Addr) (x1 : Addr) : entryFrame m #[(.ref x0), (.ref x1)] 2 = mkF m 0 #[.val (.ref x0), .val (.ref x1)] [] := by first | (simp [entryFrame, mkF, argsToLocals, Value.category]; done) | rfl
def Qfeb (Z : State) (x0 : Addr) (x1 : Addr) (tb : Addr) (kt : ClassId) (vv : Int32) (cK : ClassId) (fr : Addr) (nb : Addr) (kn : ClassId) (sz : Int32) (hi : Int32) (lv : Int32) (hv : Int32) (N : Int32) (vs : List Value) (h0 : Heap) (n0 : Nat) (v : Option Value) (h : Heap) (L : List Loc) : Prop := v = none ∧ Fr n0 L ∧ Keep h0 h [fr, nb] ∧ ∃ (sz' hi' lv' hv' : Int32) (vs' : List Value), Exa Z h fr "com/example/kinwarden/kinwarden/IntMap" ∧ Fld Z h fr "com/example/kinwarden/kinwarden/IntMap" "table" "[I" .null ∧ Fld Z h fr "com/example/kinwarden/kinwarden/IntMap" "byKey" "[I" (.ref nb) ∧ Fld Z h fr "com/example/kinwarden/kinwarden/IntMap" "size" "I" (.int sz') ∧ Fld Z h fr "com/example/kinwarden/kinwarden/IntMap" "highest" "I" (.int hi') ∧ Fld Z h fr "com/example/kinwarden/kinwarden/IntMap" "lowestValue" "I" (.int lv') ∧ Fld Z h fr "com/example/kinwarden/kinwarden/IntMap" "highestValue" "I" (.int hv') ∧ Arv Z h nb kn .int N vs' (.int (0 : Int32))
set_option maxRecDepth 65536 in
set_option maxHeartbeats 40000000 in
theorem rmfeb (l : Launch) (Z : State) (a0 : Array Value) (hw : ∀ d ∈ tables_1, d.before a0 Z = true) (ws : List Jvm.Cond) (x0 : Addr) (x1 : Addr) (tb : Addr) (kt : ClassId) (vv : Int32) (cK : ClassId) (fr : Addr) (nb : Addr) (kn : ClassId) (sz : Int32) (hi : Int32) (lv : Int32) (hv : Int32) (N : Int32) (vs : List Value) (h0 : Heap) (n0 : Nat) (Z0 : n0 ≤ h0.size) (Ft0 : Fld Z h0 x0 "com/example/kinwarden/kinwarden/IntMap" "table" "[I" (.ref tb)) (Fb0 : Fld Z h0 x0 "com/example/kinwarden/kinwarden/IntMap" "byKey" "[I" .null) (hLZ : own_LZ Z cK) (V0 : Arv Z h0 tb kt .int (16 : Int32) (own_T6 vv) (.int (0 : Int32))) (HC : own_C h0 x1 { cls := cK, slots := #[.ref fr], vm := .none }) (E0 : Exa Z h0 fr "com/example/kinwarden/kinwarden/IntMap") (Ft : Fld Z h0 fr "com/example/kinwarden/kinwarden/IntMap" "table" "[I" .null) (Fb : Fld Z h0 fr "com/example/kinwarden/kinwarden/IntMap" "byKey" "[I" (.ref nb)) (Fs : Fld Z h0 fr "com/example/kinwarden/kinwarden/IntMap" "size" "I" (.int sz)) (Fh : Fld Z h0 fr "com/example/kinwarden/kinwarden/IntMap" "highest" "I" (.int hi)) (Fl : Fld Z h0 fr "com/example/kinwarden/kinwarden/IntMap" "lowestValue" "I" (.int lv)) (Fv : Fld Z h0 fr "com/example/kinwarden/kinwarden/IntMap" "highestValue" "I" (.int hv)) (VN : Arv Z h0 nb kn .int N vs (.int (0 : Int32))) (gf : n0 ≤ fr) (gb : n0 ≤ nb) (nfb : fr ≠ nb) (n0f : tb ≠ fr) (n0b : tb ≠ nb) (n2f : x1 ≠ fr) (n2b : x1 ≠ nb) (h5N : (5 : Int32) < N) :
    MetFree l (⟨"com/example/kinwarden/kinwarden/IntMap", "forEach", "(Lcom/example/kinwarden/kinwarden/IntMap$EntryConsumer;)V"⟩ : MethodName) (head1 (Jvm.Cond.code (⟨"com/example/kinwarden/kinwarden/IntMap", "forEach", "(Lcom/example/kinwarden/kinwarden/IntMap$EntryConsumer;)V"⟩ : MethodName) prog_53_method_15_code 2 none :: ws) ({ frames := 5, cells := 0, slots := 0, locals := 74 } : Room)) (fun a U => a = #[(.ref x0), (.ref x1)] ∧ Z.Warmed39 U.vm ∧ U.heap = h0 ∧ Z.WarmedH U.vm) (fun _ _ _ _ _ => True) (fun _ U o U' => ∃ v L, o = .returned v ∧ Qfeb Z x0 x1 tb kt vv cK fr nb kn sz hi lv hv N vs h0 n0 v U'.heap L ∧ FrameEnd U o U' L ({ frames := 5, cells := 0, slots := 0, locals := 74 } : Room).cells ({ frames := 5, cells := 0, slots := 0, locals := 74 } : Room).slots) := by
  refine MetFree.of_bodySF (plainFor_of_name pnfeb) hisR ?_
  intro p e s m args below meth c s₁ Bd hml0 hP hK
  obtain ⟨rfl, hZ, hh, hH⟩ := hP
  have hx := Bd.exec
  have hby := Bd.bytes
  have hml : c.maxLocals = 2 := hml0
  have hown : s.vm.findClass "com/example/kinwarden/kinwarden/IntMap" = some m.cls := findClass_of_methodNamed Bd.named
  have hnm := (name_of_methodNamed Bd.named Bd.method).1
  have X0 : Stand p l e ({ frames := 5, cells := 0, slots := 0, locals := 74 } : Room) s m #[(.ref x0), (.ref x1)] below meth c s₁ [] 0 0 := Stand.of_body Bd
  have e0 : s₁.heap = h0 := by rw [← hh, Bd.state]; rfl
  have N0 := Fr.nil n0
  have pre0 : ∀ t, Steps p.tables e below (s₁.setTop (mkF m 0 #[.val (.ref x0), .val (.ref x1)] [])) t → Steps p.tables e below (s₁.setTop (entryFrame m #[(.ref x0), (.ref x1)] 2)) t := fun t k => castTop (effeb m x0 x1) k
  obtain ⟨S0, hS0⟩ : ∃ z, z = (s₁.setTop (entryFrame m #[(.ref x0), (.ref x1)] 2)) := ⟨_, rfl⟩
  rw [← hS0] at pre0
  have K0 := Keep.refl h0 [fr, nb]
  have p1 : ∀ t, own_W p e below m s₁ 1 #[.val (.ref x0), .val (.ref x1)] [(.ref x0)] t → Steps p.tables e below S0 t := fun t k => pre0 t (by
    show own_W p e below m s₁ 0 #[.val (.ref x0), .val (.ref x1)] [] _
    refine XS.aloadN X0.here hx rfl (hb hby dfeb_0) rfl rfl ?_
    exact k)
  obtain ⟨T2, X2, e2, st2⟩ := getF X0 hx hZ hown (host := "") (Or.inl (hw _ (List.mem_of_getElem? (i := 27) rfl))) Via.refl e0 Ft0 (g := (mkF m 1 #[.val (.ref x0), .val (.ref x1)] [(.ref x0)])) rfl rfl (hb hby dfeb_1)
  have p3 : ∀ t, own_W p e below m T2 4 #[.val (.ref x0), .val (.ref x1)] [(.ref tb)] t → Steps p.tables e below S0 t := fun t k => p1 t (st2 t k)
  have p4 : ∀ t, own_W p e below m T2 5 #[.val (.ref x0), .val (.ref x1)] [(.ref x0), (.ref tb)] t → Steps p.tables e below S0 t := fun t k => p3 t (by
    show own_W p e below m T2 4 #[.val (.ref x0), .val (.ref x1)] [(.ref tb)] _
    refine XS.aloadN X2.here hx rfl (hb hby dfeb_4) rfl rfl ?_
    exact k)
  obtain ⟨T5, X5, e5, st5⟩ := getF X2 hx hZ hown (host := "") (Or.inl (hw _ (List.mem_of_getElem? (i := 29) rfl))) Via.refl e2 Fb0 (g := (mkF m 5 #[.val (.ref x0), .val (.ref x1)] [(.ref x0), (.ref tb)])) rfl rfl (hb hby dfeb_5)
  have p6 : ∀ t, own_W p e below m T5 8 #[.val (.ref x0), .val (.ref x1)] [.null, (.ref tb)] t → Steps p.tables e below S0 t := fun t k => p4 t (st5 t k)
  have p7 : ∀ t, own_W p e below m T5 9 #[.val (.ref x0), .val (.ref x1)] [(.ref x1), .null, (.ref tb)] t → Steps p.tables e below S0 t := fun t k => p6 t (by
    show own_W p e below m T5 8 #[.val (.ref x0), .val (.ref x1)] [.null, (.ref tb)] _
    refine XS.aloadN X5.here hx rfl (hb hby dfeb_8) rfl rfl ?_
    exact k)
  obtain ⟨_, _, ⟨T8, L8, k8, n8⟩, -, X8, ⟨Lc8, hQ8, l8, y8, z8⟩, st8⟩ := Jvm.LawKit.callS X5 hx (y := (⟨"com/example/kinwarden/kinwarden/IntMap", "forEach", "([I[ILcom/example/kinwarden/kinwarden/IntMap$EntryConsumer;)V"⟩ : MethodName)) hown (mvT hZ (hw _ (List.mem_of_getElem? (i := 105) rfl))) (mvT hZ (hw _ (List.mem_of_getElem? (i := 106) rfl))) (mvT hZ (hw _ (List.mem_of_getElem? (i := 3) rfl))) (mvT hZ (hw _ (List.mem_of_getElem? (i := 107) rfl))) (by decide) (own_backOfH (W := 0) (rmfsb l Z a0 hw [] tb x1 kt vv cK fr nb kn sz hi lv hv N vs h0 n0 Z0 hLZ V0 HC E0 Ft Fb Fs Fh Fl Fv VN gf gb nfb n0f n0b n2f n2b h5N) hZ hH (hw _ (List.mem_of_getElem? (i := 107) rfl)) (hw _ (List.mem_of_getElem? (i := 3) rfl)) (by decide) (by decide)) (g := (mkF m 9 #[.val (.ref x0), .val (.ref x1)] [(.ref x1), .null, (.ref tb)])) rfl (by rw [hml]; rfl) (argsL := [(.ref tb), .null, (.ref x1)]) (rest := []) (lenOf pdfeb_0 rfl) rfl (by show 2 * 0 + _ ≤ _; exact Nat.le_of_eq rfl) (hb hby dfeb_9) (fun _ _ => ⟨rfl, e5, (by decide : 0 + 0 ≤ _), (by decide : 0 + 0 ≤ _)⟩)
  dsimp only [Pt.U, Pt.locs, Pt.cells, Pt.slots] at X8 l8 y8 z8 st8 hQ8
  subst l8 y8 z8
  obtain ⟨rfl, Nq8, K8, HQ8⟩ := hQ8
  have N8 := Fr.app N0 Nq8
  have Z8 := Nat.le_trans Z0 K8.1
  have KK8 := K0.trans K8 (allS (Or.inl (List.mem_cons_self ..)) (allS (Or.inl (List.mem_cons_of_mem _ (List.mem_singleton.mpr rfl))) all0))
  have p9 : ∀ t, own_W p e below m T8 12 #[.val (.ref x0), .val (.ref x1)] [] t → Steps p.tables e below S0 t := fun t k => p7 t (st8 _ k)
  subst hS0
  obtain ⟨fs, hr, hrun, hended, hW, hsame⟩ := X8.leave (v := none) (fun _ => rfl)
  refine ⟨_, _, p9 _ ?_, hrun, hended, _, _, rfl, ?_, ⟨_, rfl⟩, hW, hsame.mono (by decide) (by decide)⟩
  · show own_W p e below m T8 12 #[.val (.ref x0), .val (.ref x1)] [] _
    exact X8.returnOut hx Bd.returns (hb hby dfeb_12) hr
  · show Qfeb Z x0 x1 tb kt vv cK fr nb kn sz hi lv hv N vs h0 n0 _ T8.heap _
    skip
    exact ⟨rfl, N8, KK8, HQ8⟩
theorem dmvb_0 : decode prog_53_method_13_code 0 = .ok (.iload_n 2, 1) := by decide +kernel
theorem dmvb_1 : decode prog_53_method_13_code 1 = .ok (.i2l, 1) := by decide +kernel
theorem dmvb_2 : decode prog_53_method_13_code 2 = .ok (.invokestatic 52, 3) := by decide +kernel
theorem dmvb_5 : decode prog_53_method_13_code 5 = .ok (.lstore_n 3, 1) := by decide +kernel
theorem dmvb_6 : decode prog_53_method_13_code 6 = .ok (.iload_n 1, 1) := by decide +kernel
theorem dmvb_7 : decode prog_53_method_13_code 7 = .ok (.i2l, 1) := by decide +kernel
theorem dmvb_8 : decode prog_53_method_13_code 8 = .ok (.lconst 1, 1) := by decide +kernel
theorem dmvb_9 : decode prog_53_method_13_code 9 = .ok (.ladd, 1) := by decide +kernel
theorem dmvb_10 : decode prog_53_method_13_code 10 = .ok (.aload_n 0, 1) := by decide +kernel
theorem dmvb_11 : decode prog_53_method_13_code 11 = .ok (.getfield 30, 3) := by decide +kernel
theorem dmvb_14 : decode prog_53_method_13_code 14 = .ok (.ifnonnull 7, 3) := by decide +kernel
theorem dmvb_17 : decode prog_53_method_13_code 17 = .ok (.lconst 0, 1) := by decide +kernel
theorem dmvb_18 : decode prog_53_method_13_code 18 = .ok (.goto 13, 3) := by decide +kernel
theorem dmvb_31 : decode prog_53_method_13_code 31 = .ok (.invokestatic 93, 3) := by decide +kernel
theorem dmvb_34 : decode prog_53_method_13_code 34 = .ok (.lstore 5, 2) := by decide +kernel
theorem dmvb_36 : decode prog_53_method_13_code 36 = .ok (.lload 5, 2) := by decide +kernel
theorem dmvb_38 : decode prog_53_method_13_code 38 = .ok (.ldc2_w 91, 3) := by decide +kernel
theorem dmvb_41 : decode prog_53_method_13_code 41 = .ok (.lload_n 3, 1) := by decide +kernel
theorem dmvb_42 : decode prog_53_method_13_code 42 = .ok (.lmul, 1) := by decide +kernel
theorem dmvb_43 : decode prog_53_method_13_code 43 = .ok (.lcmp, 1) := by decide +kernel
theorem dmvb_44 : decode prog_53_method_13_code 44 = .ok (.ifCond .gt 22, 3) := by decide +kernel
theorem dmvb_47 : decode prog_53_method_13_code 47 = .ok (.new 1, 3) := by decide +kernel
theorem dmvb_50 : decode prog_53_method_13_code 50 = .ok (.dup, 1) := by decide +kernel
theorem dmvb_51 : decode prog_53_method_13_code 51 = .ok (.aconst_null, 1) := by decide +kernel
theorem dmvb_52 : decode prog_53_method_13_code 52 = .ok (.lload 5, 2) := by decide +kernel
theorem dmvb_54 : decode prog_53_method_13_code 54 = .ok (.invokestatic 96, 3) := by decide +kernel
theorem dmvb_57 : decode prog_53_method_13_code 57 = .ok (.invokestatic 3, 3) := by decide +kernel
theorem dmvb_60 : decode prog_53_method_13_code 60 = .ok (.invokespecial 7, 3) := by decide +kernel
theorem dmvb_63 : decode prog_53_method_13_code 63 = .ok (.goto 22, 3) := by decide +kernel
theorem dmvb_85 : decode prog_53_method_13_code 85 = .ok (.astore 7, 2) := by decide +kernel
theorem dmvb_87 : decode prog_53_method_13_code 87 = .ok (.aload_n 0, 1) := by decide +kernel
theorem dmvb_88 : decode prog_53_method_13_code 88 = .ok (.aload 7, 2) := by decide +kernel
theorem dmvb_90 : decode prog_53_method_13_code 90 = .ok (.dup, 1) := by decide +kernel
theorem dmvb_91 : decode prog_53_method_13_code 91 = .ok (.invokestatic 100, 3) := by decide +kernel
theorem dmvb_94 : decode prog_53_method_13_code 94 = .ok (.pop, 1) := by decide +kernel
theorem dmvb_95 : decode prog_53_method_13_code 95 = .ok (.invokedynamic 106, 5) := by decide +kernel
theorem dmvb_100 : decode prog_53_method_13_code 100 = .ok (.invokevirtual 110, 3) := by decide +kernel
theorem dmvb_103 : decode prog_53_method_13_code 103 = .ok (.aload_n 0, 1) := by decide +kernel
theorem dmvb_104 : decode prog_53_method_13_code 104 = .ok (.aload 7, 2) := by decide +kernel
theorem dmvb_106 : decode prog_53_method_13_code 106 = .ok (.getfield 26, 3) := by decide +kernel
theorem dmvb_109 : decode prog_53_method_13_code 109 = .ok (.putfield 26, 3) := by decide +kernel
theorem dmvb_112 : decode prog_53_method_13_code 112 = .ok (.aload_n 0, 1) := by decide +kernel
theorem dmvb_113 : decode prog_53_method_13_code 113 = .ok (.aload 7, 2) := by decide +kernel
theorem dmvb_115 : decode prog_53_method_13_code 115 = .ok (.getfield 30, 3) := by decide +kernel
theorem dmvb_118 : decode prog_53_method_13_code 118 = .ok (.putfield 30, 3) := by decide +kernel
theorem dmvb_121 : decode prog_53_method_13_code 121 = .ok (.aload_n 0, 1) := by decide +kernel
theorem dmvb_122 : decode prog_53_method_13_code 122 = .ok (.aload 7, 2) := by decide +kernel
theorem dmvb_124 : decode prog_53_method_13_code 124 = .ok (.getfield 43, 3) := by decide +kernel
theorem dmvb_127 : decode prog_53_method_13_code 127 = .ok (.putfield 43, 3) := by decide +kernel
theorem dmvb_130 : decode prog_53_method_13_code 130 = .ok (.aload_n 0, 1) := by decide +kernel
theorem dmvb_131 : decode prog_53_method_13_code 131 = .ok (.aload 7, 2) := by decide +kernel
theorem dmvb_133 : decode prog_53_method_13_code 133 = .ok (.getfield 16, 3) := by decide +kernel
theorem dmvb_136 : decode prog_53_method_13_code 136 = .ok (.putfield 16, 3) := by decide +kernel
theorem dmvb_139 : decode prog_53_method_13_code 139 = .ok (.aload_n 0, 1) := by decide +kernel
theorem dmvb_140 : decode prog_53_method_13_code 140 = .ok (.aload 7, 2) := by decide +kernel
theorem dmvb_142 : decode prog_53_method_13_code 142 = .ok (.getfield 20, 3) := by decide +kernel
theorem dmvb_145 : decode prog_53_method_13_code 145 = .ok (.putfield 20, 3) := by decide +kernel
theorem dmvb_148 : decode prog_53_method_13_code 148 = .ok (.aload_n 0, 1) := by decide +kernel
theorem dmvb_149 : decode prog_53_method_13_code 149 = .ok (.aload 7, 2) := by decide +kernel
theorem dmvb_151 : decode prog_53_method_13_code 151 = .ok (.getfield 23, 3) := by decide +kernel
theorem dmvb_154 : decode prog_53_method_13_code 154 = .ok (.putfield 23, 3) := by decide +kernel
theorem dmvb_157 : decode prog_53_method_13_code 157 = .ok (.return_, 1) := by decide +kernel
theorem pnmvb : plainName "com/example/kinwarden/kinwarden/IntMap" = true := by first | (simp [plainName, overriddenIn]; done) | decide +kernel
theorem pdmvb_0 : parseMethodDescriptor "(J)J" = some ⟨[.long], some .long⟩ := by decide +kernel
theorem pdmvb_1 : parseMethodDescriptor "(JJ)J" = some ⟨[.long, .long], some .long⟩ := by decide +kernel
theorem pdmvb_2 : parseMethodDescriptor "(J)I" = some ⟨[.long], some .int⟩ := by decide +kernel
theorem pdmvb_3 : parseMethodDescriptor "(I)[I" = some ⟨[.int], some (.array .int)⟩ := by decide +kernel
theorem pdmvb_4 : parseMethodDescriptor "([I[I)V" = some ⟨[(.array .int), (.array .int)], none⟩ := by decide +kernel
theorem pdmvb_5 : parseMethodDescriptor "(Ljava/lang/Object;)Ljava/lang/Object;" = some ⟨[(.object "java/lang/Object")], some (.object "java/lang/Object")⟩ := by decide +kernel
theorem pdmvb_6 : parseMethodDescriptor "(Lcom/example/kinwarden/kinwarden/IntMap$EntryConsumer;)V" = some ⟨[(.object "com/example/kinwarden/kinwarden/IntMap$EntryConsumer")], none⟩ := by decide +kernel
theorem efmvb (m : MethodId) (x0 : Addr) (x1 : Int32) : entryFrame m #[(.ref x0), (.int x1), (.int (7 : Int32))] 8 = mkF m 0 #[.val (.ref x0), .val (.int x1), .val (.int (7 : Int32)), .unset, .unset, .unset, .unset, .unset] [] := by first | (simp [entryFrame, mkF, argsToLocals, Value.category]; done) | rfl
def Qmvb (Z : State) (x0 : Addr) (x1 : Int32) (tb : Addr) (kt : ClassId) (lv : Int32) (hv : Int32) (vv : Int32) (cK : ClassId) (h0 : Heap) (n0 : Nat) (v : Option Value) (h : Heap) (L : List Loc) : Prop := v = none ∧ Fr n0 L ∧ Keep h0 h [x0] ∧ ∃ (nb : Addr) (kn : ClassId) (N : Int32), h0.size ≤ nb ∧ N.toInt = x1.toInt + 1 ∧ ∃ (sz' hi' lv' hv' : Int32) (vs' : List Value), Exa Z h x0 "com/example/kinwarden/kinwarden/IntMap" ∧ Fld Z h x0 "com/example/kinwarden/kinwarden/IntMap" "table" "[I" .null ∧ Fld Z h x0 "com/example/kinwarden/kinwarden/IntMap" "byKey" "[I" (.ref nb) ∧ Fld Z h x0 "com/example/kinwarden/kinwarden/IntMap" "size" "I" (.int sz') ∧ Fld Z h x0 "com/example/kinwarden/kinwarden/IntMap" "highest" "I" (.int hi') ∧ Fld Z h x0 "com/example/kinwarden/kinwarden/IntMap" "lowestValue" "I" (.int lv') ∧ Fld Z h x0 "com/example/kinwarden/kinwarden/IntMap" "highestValue" "I" (.int hv') ∧ Arv Z h nb kn .int N vs' (.int (0 : Int32))
set_option maxRecDepth 65536 in
set_option maxHeartbeats 40000000 in
theorem rmmvb (l : Launch) (Z : State) (a0 : Array Value) (hw : ∀ d ∈ tables_1, d.before a0 Z = true) (ws : List Jvm.Cond) (x0 : Addr) (x1 : Int32) (tb : Addr) (kt : ClassId) (lv : Int32) (hv : Int32) (vv : Int32) (cK : ClassId) (h0 : Heap) (n0 : Nat) (Z0 : n0 ≤ h0.size) (E0 : Exa Z h0 x0 "com/example/kinwarden/kinwarden/IntMap") (Ft : Fld Z h0 x0 "com/example/kinwarden/kinwarden/IntMap" "table" "[I" (.ref tb)) (Fb : Fld Z h0 x0 "com/example/kinwarden/kinwarden/IntMap" "byKey" "[I" .null) (Fs : Fld Z h0 x0 "com/example/kinwarden/kinwarden/IntMap" "size" "I" (.int (6 : Int32))) (Fh : Fld Z h0 x0 "com/example/kinwarden/kinwarden/IntMap" "highest" "I" (.int (5 : Int32))) (Fl : Fld Z h0 x0 "com/example/kinwarden/kinwarden/IntMap" "lowestValue" "I" (.int lv)) (Fv : Fld Z h0 x0 "com/example/kinwarden/kinwarden/IntMap" "highestValue" "I" (.int hv)) (V0 : Arv Z h0 tb kt .int (16 : Int32) (own_T6 vv) (.int (0 : Int32))) (g0 : n0 ≤ x0) (nx : x0 ≠ tb) (hLZ : own_LZ Z cK) (h6 : ¬ x1 < (6 : Int32)) (h32 : x1.toInt + 1 ≤ 32) :
    MetFree l (⟨"com/example/kinwarden/kinwarden/IntMap", "moveToRoomFor", "(II)V"⟩ : MethodName) (head1 (Jvm.Cond.code (⟨"com/example/kinwarden/kinwarden/IntMap", "moveToRoomFor", "(II)V"⟩ : MethodName) prog_53_method_13_code 8 none :: ws) ({ frames := 6, cells := 3, slots := 39, locals := 3074 } : Room)) (fun a U => a = #[(.ref x0), (.int x1), (.int (7 : Int32))] ∧ Z.Warmed39 U.vm ∧ U.heap = h0 ∧ Z.WarmedH U.vm) (fun _ _ _ _ _ => True) (fun _ U o U' => ∃ v L, o = .returned v ∧ Qmvb Z x0 x1 tb kt lv hv vv cK h0 n0 v U'.heap L ∧ FrameEnd U o U' L ({ frames := 6, cells := 3, slots := 39, locals := 3074 } : Room).cells ({ frames := 6, cells := 3, slots := 39, locals := 3074 } : Room).slots) := by
  refine MetFree.of_bodySF (plainFor_of_name pnmvb) hisR ?_
  intro p e s m args below meth c s₁ Bd hml0 hP hK
  obtain ⟨rfl, hZ, hh, hH⟩ := hP
  have hx := Bd.exec
  have hby := Bd.bytes
  have hml : c.maxLocals = 8 := hml0
  have hown : s.vm.findClass "com/example/kinwarden/kinwarden/IntMap" = some m.cls := findClass_of_methodNamed Bd.named
  have hnm := (name_of_methodNamed Bd.named Bd.method).1
  have X0 : Stand p l e ({ frames := 6, cells := 3, slots := 39, locals := 3074 } : Room) s m #[(.ref x0), (.int x1), (.int (7 : Int32))] below meth c s₁ [] 0 0 := Stand.of_body Bd
  have e0 : s₁.heap = h0 := by rw [← hh, Bd.state]; rfl
  have N0 := Fr.nil n0
  have pre0 : ∀ t, Steps p.tables e below (s₁.setTop (mkF m 0 #[.val (.ref x0), .val (.int x1), .val (.int (7 : Int32)), .unset, .unset, .unset, .unset, .unset] [])) t → Steps p.tables e below (s₁.setTop (entryFrame m #[(.ref x0), (.int x1), (.int (7 : Int32))] 8)) t := fun t k => castTop (efmvb m x0 x1) k
  obtain ⟨S0, hS0⟩ : ∃ z, z = (s₁.setTop (entryFrame m #[(.ref x0), (.int x1), (.int (7 : Int32))] 8)) := ⟨_, rfl⟩
  rw [← hS0] at pre0
  have K0 := Keep.refl h0 [x0]
  obtain ⟨hx6, hw6⟩ := own_w6 h6
  have p1 : ∀ t, own_W p e below m s₁ 2 #[.val (.ref x0), .val (.int x1), .val (.int (7 : Int32)), .unset, .unset, .unset, .unset, .unset] [(.long ((7 : Int32).toInt64))] t → Steps p.tables e below S0 t := fun t k => pre0 t (by
    show own_W p e below m s₁ 0 #[.val (.ref x0), .val (.int x1), .val (.int (7 : Int32)), .unset, .unset, .unset, .unset, .unset] [] _
    refine XS.iloadN X0.here hx rfl (hb hby dmvb_0) rfl ?_
    refine XS.i2l X0.here hx rfl (hb hby dmvb_1) rfl ?_
    exact k)
  have p2 : ∀ t, own_W p e below m s₁ 2 #[.val (.ref x0), .val (.int x1), .val (.int (7 : Int32)), .unset, .unset, .unset, .unset, .unset] [(.long (7 : Int64))] t → Steps p.tables e below S0 t := by
    have k := p1
    rw [show ((7 : Int32).toInt64) = (7 : Int64) from by decide] at k
    exact k
  obtain ⟨_, _, ⟨T3, L3, k3, n3⟩, -, X3, ⟨Lc3, hQ3, l3, y3, z3⟩, st3⟩ := Jvm.LawKit.callS X0 hx (y := (⟨"com/example/kinwarden/kinwarden/IntMap", "slotsFor", "(J)J"⟩ : MethodName)) hown (mvT hZ (hw _ (List.mem_of_getElem? (i := 79) rfl))) (mvT hZ (hw _ (List.mem_of_getElem? (i := 80) rfl))) (mvT hZ (hw _ (List.mem_of_getElem? (i := 3) rfl))) (mvT hZ (hw _ (List.mem_of_getElem? (i := 81) rfl))) (by decide) (backOf (W := 0) (rmsf l Z a0 hw []   h0 n0 Z0 ) hZ (hw _ (List.mem_of_getElem? (i := 81) rfl)) (hw _ (List.mem_of_getElem? (i := 3) rfl)) (by decide) (by decide)) (g := (mkF m 2 #[.val (.ref x0), .val (.int x1), .val (.int (7 : Int32)), .unset, .unset, .unset, .unset, .unset] [(.long (7 : Int64))])) rfl (by rw [hml]; rfl) (argsL := [(.long (7 : Int64))]) (rest := []) (lenOf pdmvb_0 rfl) rfl (by show 2 * 0 + _ ≤ _; exact Nat.le_of_eq rfl) (hb hby dmvb_2) (fun _ _ => ⟨rfl, e0, (by decide : 0 + 0 ≤ _), (by decide : 0 + 0 ≤ _)⟩)
  dsimp only [Pt.U, Pt.locs, Pt.cells, Pt.slots] at X3 l3 y3 z3 st3 hQ3
  subst l3 y3 z3
  obtain ⟨rfl, Nq3, e3⟩ := hQ3
  have N3 := Fr.app N0 Nq3
  have p4 : ∀ t, own_W p e below m T3 5 #[.val (.ref x0), .val (.int x1), .val (.int (7 : Int32)), .unset, .unset, .unset, .unset, .unset] [(.long (16 : Int64))] t → Steps p.tables e below S0 t := fun t k => p2 t (st3 _ k)
  have p5 : ∀ t, own_W p e below m T3 11 #[.val (.ref x0), .val (.int x1), .val (.int (7 : Int32)), .val (.long (16 : Int64)), .second, .unset, .unset, .unset] [(.ref x0), (.long ((x1.toInt64) + (1 : Int64)))] t → Steps p.tables e below S0 t := fun t k => p4 t (by
    show own_W p e below m T3 5 #[.val (.ref x0), .val (.int x1), .val (.int (7 : Int32)), .unset, .unset, .unset, .unset, .unset] [(.long (16 : Int64))] _
    refine XS.lstoreN X3.here hx rfl (hb hby dmvb_5) rfl (l' := #[.val (.ref x0), .val (.int x1), .val (.int (7 : Int32)), .val (.long (16 : Int64)), .second, .unset, .unset, .unset]) rfl ?_
    refine XS.iloadN X3.here hx rfl (hb hby dmvb_6) rfl ?_
    refine XS.i2l X3.here hx rfl (hb hby dmvb_7) rfl ?_
    refine XS.lconst X3.here hx rfl (hb hby dmvb_8) ?_
    refine XS.ladd X3.here hx rfl (hb hby dmvb_9) rfl ?_
    refine XS.aloadN X3.here hx rfl (hb hby dmvb_10) rfl rfl ?_
    exact k)
  obtain ⟨T6, X6, e6, st6⟩ := getF X3 hx hZ hown (host := "") (Or.inl (hw _ (List.mem_of_getElem? (i := 29) rfl))) Via.refl e3 Fb (g := (mkF m 11 #[.val (.ref x0), .val (.int x1), .val (.int (7 : Int32)), .val (.long (16 : Int64)), .second, .unset, .unset, .unset] [(.ref x0), (.long ((x1.toInt64) + (1 : Int64)))])) rfl rfl (hb hby dmvb_11)
  have p7 : ∀ t, own_W p e below m T6 14 #[.val (.ref x0), .val (.int x1), .val (.int (7 : Int32)), .val (.long (16 : Int64)), .second, .unset, .unset, .unset] [.null, (.long ((x1.toInt64) + (1 : Int64)))] t → Steps p.tables e below S0 t := fun t k => p5 t (st6 t k)
  obtain ⟨wl, hwl⟩ : ∃ z : Int64, z = ((x1.toInt64) + (1 : Int64)) := ⟨_, rfl⟩
  have p8 : ∀ t, own_W p e below m T6 31 #[.val (.ref x0), .val (.int x1), .val (.int (7 : Int32)), .val (.long (16 : Int64)), .second, .unset, .unset, .unset] [(.long (0 : Int64)), (.long ((x1.toInt64) + (1 : Int64)))] t → Steps p.tables e below S0 t := fun t k => p7 t (by
    show own_W p e below m T6 14 #[.val (.ref x0), .val (.int x1), .val (.int (7 : Int32)), .val (.long (16 : Int64)), .second, .unset, .unset, .unset] [.null, (.long ((x1.toInt64) + (1 : Int64)))] _
    refine XS.ifnonnullNo X6.here hx rfl (hb hby dmvb_14) rfl ?_
    refine XS.lconst X6.here hx rfl (hb hby dmvb_17) ?_
    refine XS.goto X6.here hx rfl (pc0 := 18) (pc' := 31) rfl (hb hby dmvb_18) (by decide) (by decide) ?_
    exact k)
  obtain ⟨_, _, ⟨T9, L9, k9, n9⟩, -, X9, ⟨Lc9, hQ9, l9, y9, z9⟩, st9⟩ := Jvm.LawKit.callS X6 hx (y := (⟨"java/lang/Math", "max", "(JJ)J"⟩ : MethodName)) hown (mvT hZ (hw _ (List.mem_of_getElem? (i := 85) rfl))) (mvT hZ (hw _ (List.mem_of_getElem? (i := 86) rfl))) (mvT hZ (hw _ (List.mem_of_getElem? (i := 69) rfl))) (mvT hZ (hw _ (List.mem_of_getElem? (i := 87) rfl))) (by decide) (backOf (W := 0) (rmmjl l Z a0 hw [] ((x1.toInt64) + (1 : Int64)) (0 : Int64)  h0 n0 Z0 (own_wmax h6 rfl)) hZ (hw _ (List.mem_of_getElem? (i := 87) rfl)) (hw _ (List.mem_of_getElem? (i := 69) rfl)) (by decide) (by decide)) (g := (mkF m 31 #[.val (.ref x0), .val (.int x1), .val (.int (7 : Int32)), .val (.long (16 : Int64)), .second, .unset, .unset, .unset] [(.long (0 : Int64)), (.long ((x1.toInt64) + (1 : Int64)))])) rfl (by rw [hml]; rfl) (argsL := [(.long ((x1.toInt64) + (1 : Int64))), (.long (0 : Int64))]) (rest := []) (lenOf pdmvb_1 rfl) rfl (by show 2 * 0 + _ ≤ _; exact Nat.le_of_eq rfl) (hb hby dmvb_31) (fun _ _ => ⟨rfl, e6, (by decide : 0 + 0 ≤ _), (by decide : 0 + 0 ≤ _)⟩)
  dsimp only [Pt.U, Pt.locs, Pt.cells, Pt.slots] at X9 l9 y9 z9 st9 hQ9
  subst l9 y9 z9
  obtain ⟨rfl, Nq9, e9⟩ := hQ9
  have N9 := Fr.app N3 Nq9
  have p10 : ∀ t, own_W p e below m T9 34 #[.val (.ref x0), .val (.int x1), .val (.int (7 : Int32)), .val (.long (16 : Int64)), .second, .unset, .unset, .unset] [(.long ((x1.toInt64) + (1 : Int64)))] t → Steps p.tables e below S0 t := fun t k => p8 t (st9 _ k)
  have p11 : ∀ t, own_W p e below m T9 36 #[.val (.ref x0), .val (.int x1), .val (.int (7 : Int32)), .val (.long (16 : Int64)), .second, .val (.long ((x1.toInt64) + (1 : Int64))), .second, .unset] [] t → Steps p.tables e below S0 t := fun t k => p10 t (by
    show own_W p e below m T9 34 #[.val (.ref x0), .val (.int x1), .val (.int (7 : Int32)), .val (.long (16 : Int64)), .second, .unset, .unset, .unset] [(.long ((x1.toInt64) + (1 : Int64)))] _
    refine XS.lstore X9.here hx rfl (hb hby dmvb_34) rfl (l' := #[.val (.ref x0), .val (.int x1), .val (.int (7 : Int32)), .val (.long (16 : Int64)), .second, .val (.long ((x1.toInt64) + (1 : Int64))), .second, .unset]) rfl ?_
    exact k)
  obtain ⟨wk, hwk⟩ : ∃ z : Int64, z = ((x1.toInt64) + (1 : Int64)) := ⟨_, rfl⟩
  have p12 : ∀ t, own_W p e below m T9 36 #[.val (.ref x0), .val (.int x1), .val (.int (7 : Int32)), .val (.long (16 : Int64)), .second, .val (.long wk), .second, .unset] [] t → Steps p.tables e below S0 t := by
    intro t k; subst hwk; exact p11 t k
  rw [← hwk] at hw6
  have p13 : ∀ t, own_W p e below m T9 47 #[.val (.ref x0), .val (.int x1), .val (.int (7 : Int32)), .val (.long (16 : Int64)), .second, .val (.long wk), .second, .unset] [] t → Steps p.tables e below S0 t := fun t k => p12 t (by
    show own_W p e below m T9 36 #[.val (.ref x0), .val (.int x1), .val (.int (7 : Int32)), .val (.long (16 : Int64)), .second, .val (.long wk), .second, .unset] [] _
    refine XS.lload X9.here hx rfl (hb hby dmvb_36) rfl ?_
    show own_W p e below m T9 38 #[.val (.ref x0), .val (.int x1), .val (.int (7 : Int32)), .val (.long (16 : Int64)), .second, .val (.long wk), .second, .unset] [(.long wk)] _
    refine X9.ldc2Long hx hown (mvT hZ (hw _ (List.mem_of_getElem? (i := 84) rfl))) (g := (mkF m 38 #[.val (.ref x0), .val (.int x1), .val (.int (7 : Int32)), .val (.long (16 : Int64)), .second, .val (.long wk), .second, .unset] [(.long wk)])) rfl (hb hby dmvb_38) _ ?_
    refine XS.lloadN X9.here hx rfl (hb hby dmvb_41) rfl ?_
    refine XS.lmul X9.here hx rfl (hb hby dmvb_42) rfl ?_
    refine XS.lcmp X9.here hx rfl (hb hby dmvb_43) rfl ?_
    refine XS.ifNo X9.here hx rfl (hb hby dmvb_44) rfl ((if0 _ _).trans (flt (own_w32 (by omega))).2.2.1) ?_
    exact k)
  obtain ⟨T14, h14, X14, e14, E14, A14, D14, -, st14⟩ := newO X9 hx hZ hown (hw _ (List.mem_of_getElem? (i := 88) rfl)) (hw _ (List.mem_of_getElem? (i := 2) rfl)) (hw _ (List.mem_of_getElem? (i := 3) rfl)) e9 (g := (mkF m 47 #[.val (.ref x0), .val (.int x1), .val (.int (7 : Int32)), .val (.long (16 : Int64)), .second, .val (.long wk), .second, .unset] [])) rfl (hb hby dmvb_47) (by decide) (by decide)
  obtain ⟨fr, g14⟩ : ∃ z, z = h0.size := ⟨_, rfl⟩
  rw [← g14] at A14 D14 st14
  have gn_fr : n0 ≤ fr := Nat.le_trans Z0 (Nat.le_of_eq g14.symm)
  have gk_fr : h0.size ≤ fr := Nat.le_trans K0.1 (Nat.le_of_eq g14.symm)
  have ne15 : tb ≠ fr := Nat.ne_of_lt (Nat.lt_of_lt_of_le V0.lt (Nat.le_of_eq g14.symm))
  have ne16 : x0 ≠ fr := Nat.ne_of_lt (Nat.lt_of_lt_of_le E0.lt (Nat.le_of_eq g14.symm))
  have f17 := E0.ext E14
  have f18 := Ft.ext E14
  have f19 := Fb.ext E14
  have f20 := Fs.ext E14
  have f21 := Fh.ext E14
  have f22 := Fl.ext E14
  have f23 := Fv.ext E14
  have f24 := V0.ext E14
  have Z14 := Nat.le_trans Z0 E14.1
  have KK14 := K0.ext E14
  have f25 : Fld Z h14 fr "com/example/kinwarden/kinwarden/IntMap" "highest" "I" (.int (0 : Int32)) := D14 (Or.inl (hw _ (List.mem_of_getElem? (i := 22) rfl))) (ty := .int) (by decide)
  have f26 : Fld Z h14 fr "com/example/kinwarden/kinwarden/IntMap" "lowestValue" "I" (.int (0 : Int32)) := D14 (Or.inl (hw _ (List.mem_of_getElem? (i := 24) rfl))) (ty := .int) (by decide)
  have f27 : Fld Z h14 fr "com/example/kinwarden/kinwarden/IntMap" "highestValue" "I" (.int (0 : Int32)) := D14 (Or.inl (hw _ (List.mem_of_getElem? (i := 26) rfl))) (ty := .int) (by decide)
  have f28 : Fld Z h14 fr "com/example/kinwarden/kinwarden/IntMap" "table" "[I" .null := D14 (Or.inl (hw _ (List.mem_of_getElem? (i := 28) rfl))) (ty := (.array .int)) (by decide)
  have f29 : Fld Z h14 fr "com/example/kinwarden/kinwarden/IntMap" "byKey" "[I" .null := D14 (Or.inl (hw _ (List.mem_of_getElem? (i := 30) rfl))) (ty := (.array .int)) (by decide)
  have f30 : Fld Z h14 fr "com/example/kinwarden/kinwarden/IntMap" "size" "I" (.int (0 : Int32)) := D14 (Or.inl (hw _ (List.mem_of_getElem? (i := 62) rfl))) (ty := .int) (by decide)
  have p31 : ∀ t, own_W p e below m T14 50 #[.val (.ref x0), .val (.int x1), .val (.int (7 : Int32)), .val (.long (16 : Int64)), .second, .val (.long wk), .second, .unset] [(.ref fr)] t → Steps p.tables e below S0 t := fun t k => p13 t (st14 t k)
  obtain ⟨hti, hnl0⟩ := own_wi (w := wk) (by omega) (by omega)
  have p32 : ∀ t, own_W p e below m T14 54 #[.val (.ref x0), .val (.int x1), .val (.int (7 : Int32)), .val (.long (16 : Int64)), .second, .val (.long wk), .second, .unset] [(.long wk), .null, (.ref fr), (.ref fr)] t → Steps p.tables e below S0 t := fun t k => p31 t (by
    show own_W p e below m T14 50 #[.val (.ref x0), .val (.int x1), .val (.int (7 : Int32)), .val (.long (16 : Int64)), .second, .val (.long wk), .second, .unset] [(.ref fr)] _
    refine XS.dup X14.here hx rfl (hb hby dmvb_50) rfl rfl ?_
    refine XS.aconstNull X14.here hx rfl (hb hby dmvb_51) ?_
    refine XS.lload X14.here hx rfl (hb hby dmvb_52) rfl ?_
    exact k)
  obtain ⟨_, _, ⟨T33, L33, k33, n33⟩, -, X33, ⟨Lc33, hQ33, l33, y33, z33⟩, st33⟩ := Jvm.LawKit.callS X14 hx (y := (⟨"java/lang/Math", "toIntExact", "(J)I"⟩ : MethodName)) hown (mvT hZ (hw _ (List.mem_of_getElem? (i := 89) rfl))) (mvT hZ (hw _ (List.mem_of_getElem? (i := 90) rfl))) (mvT hZ (hw _ (List.mem_of_getElem? (i := 69) rfl))) (mvT hZ (hw _ (List.mem_of_getElem? (i := 91) rfl))) (by decide) (backOf (W := 3) (rmtie l Z a0 hw [] wk  h14 n0 Z14 hti) hZ (hw _ (List.mem_of_getElem? (i := 91) rfl)) (hw _ (List.mem_of_getElem? (i := 69) rfl)) (by decide) (by decide)) (g := (mkF m 54 #[.val (.ref x0), .val (.int x1), .val (.int (7 : Int32)), .val (.long (16 : Int64)), .second, .val (.long wk), .second, .unset] [(.long wk), .null, (.ref fr), (.ref fr)])) rfl (by rw [hml]; rfl) (argsL := [(.long wk)]) (rest := [.null, (.ref fr), (.ref fr)]) (lenOf pdmvb_2 rfl) rfl (by show 2 * 0 + _ ≤ _; exact Nat.le_of_eq rfl) (hb hby dmvb_54) (fun _ _ => ⟨rfl, e14, (by decide : 1 + 0 ≤ _), (by decide : 6 + 0 ≤ _)⟩)
  dsimp only [Pt.U, Pt.locs, Pt.cells, Pt.slots] at X33 l33 y33 z33 st33 hQ33
  subst l33 y33 z33
  obtain ⟨rfl, Nq33, e33⟩ := hQ33
  have N33 := Fr.app N9 Nq33
  have p34 : ∀ t, own_W p e below m T33 57 #[.val (.ref x0), .val (.int x1), .val (.int (7 : Int32)), .val (.long (16 : Int64)), .second, .val (.long wk), .second, .unset] [(.int (wk.toInt32)), .null, (.ref fr), (.ref fr)] t → Steps p.tables e below S0 t := fun t k => p32 t (st33 _ k)
  obtain ⟨nl, hnl⟩ : ∃ z : Int32, z = (wk.toInt32) := ⟨_, rfl⟩
  have p35 : ∀ t, own_W p e below m T33 57 #[.val (.ref x0), .val (.int x1), .val (.int (7 : Int32)), .val (.long (16 : Int64)), .second, .val (.long wk), .second, .unset] [(.int nl), .null, (.ref fr), (.ref fr)] t → Steps p.tables e below S0 t := by
    intro t k; subst hnl; exact p34 t k
  have hnl : nl.toInt = x1.toInt + 1 := by rw [hnl]; omega
  obtain ⟨hp1, hp2⟩ := own_nl hnl (by omega) (by omega)
  obtain ⟨_, _, ⟨T36, L36, k36, n36⟩, -, X36, ⟨Lc36, hQ36, l36, y36, z36⟩, st36⟩ := Jvm.LawKit.callS X33 hx (y := (⟨"com/example/kinwarden/kinwarden/IntMap", "emptyRoom", "(I)[I"⟩ : MethodName)) hown (mvT hZ (hw _ (List.mem_of_getElem? (i := 7) rfl))) (mvT hZ (hw _ (List.mem_of_getElem? (i := 8) rfl))) (mvT hZ (hw _ (List.mem_of_getElem? (i := 3) rfl))) (mvT hZ (hw _ (List.mem_of_getElem? (i := 9) rfl))) (by decide) (backOf (W := 3) (rmer l Z a0 hw [] nl  h14 n0 Z14 hp1 hp2) hZ (hw _ (List.mem_of_getElem? (i := 9) rfl)) (hw _ (List.mem_of_getElem? (i := 3) rfl)) (by decide) (by decide)) (g := (mkF m 57 #[.val (.ref x0), .val (.int x1), .val (.int (7 : Int32)), .val (.long (16 : Int64)), .second, .val (.long wk), .second, .unset] [(.int nl), .null, (.ref fr), (.ref fr)])) rfl (by rw [hml]; rfl) (argsL := [(.int nl)]) (rest := [.null, (.ref fr), (.ref fr)]) (lenOf pdmvb_3 rfl) rfl (by show 2 * 0 + _ ≤ _; exact Nat.le_of_eq rfl) (hb hby dmvb_57) (fun _ _ => ⟨rfl, e33, (by decide : 1 + 1 ≤ _), (by decide : 6 + 32 ≤ _)⟩)
  dsimp only [Pt.U, Pt.locs, Pt.cells, Pt.slots] at X36 l36 y36 z36 st36 hQ36
  subst l36 y36 z36
  obtain ⟨r36, kk36, ws36, rfl, Nq36, K36, gr36, VR36, hall36⟩ := hQ36
  have N36 := Fr.app N33 Nq36
  have f37 := f17.keep K36
  have f38 := f18.keep K36 nin0
  have f39 := f19.keep K36 nin0
  have f40 := f20.keep K36 nin0
  have f41 := f21.keep K36 nin0
  have f42 := f22.keep K36 nin0
  have f43 := f23.keep K36 nin0
  have f44 := f24.keep K36 nin0
  have f45 := A14.keep K36
  have f46 := f25.keep K36 nin0
  have f47 := f26.keep K36 nin0
  have f48 := f27.keep K36 nin0
  have f49 := f28.keep K36 nin0
  have f50 := f29.keep K36 nin0
  have f51 := f30.keep K36 nin0
  have Z36 := Nat.le_trans Z14 K36.1
  have KK36 := KK14.trans K36 (all0)
  have p52 : ∀ t, own_W p e below m T36 60 #[.val (.ref x0), .val (.int x1), .val (.int (7 : Int32)), .val (.long (16 : Int64)), .second, .val (.long wk), .second, .unset] [(.ref r36), .null, (.ref fr), (.ref fr)] t → Steps p.tables e below S0 t := fun t k => p35 t (st36 _ k)
  have Zb36 := Z14
  have Kb36 := KK14
  have gn_r36 : n0 ≤ r36 := Nat.le_trans Zb36 gr36
  have gk_r36 : h0.size ≤ r36 := Nat.le_trans Kb36.1 gr36
  have ne_x0_r36 : x0 ≠ r36 := Nat.ne_of_lt (Nat.lt_of_lt_of_le f23.lt gr36)
  have ne_tb_r36 : tb ≠ r36 := Nat.ne_of_lt (Nat.lt_of_lt_of_le f24.lt gr36)
  have ne_fr_r36 : fr ≠ r36 := Nat.ne_of_lt (Nat.lt_of_lt_of_le f30.lt gr36)
  obtain ⟨_, _, ⟨T53, L53, k53, n53⟩, -, X53, ⟨Lc53, hQ53, l53, y53, z53⟩, st53⟩ := X36.specialBack hx (y := (⟨"com/example/kinwarden/kinwarden/IntMap", "<init>", "([I[I)V"⟩ : MethodName)) rfl hown (mvT hZ (hw _ (List.mem_of_getElem? (i := 15) rfl))) (mvT hZ (hw _ (List.mem_of_getElem? (i := 16) rfl))) (mvT hZ (hw _ (List.mem_of_getElem? (i := 17) rfl))) (by decide) (backOf (W := 1) (rmin2b l Z a0 hw [] fr r36  T36.heap n0 Z36 f45 f46 f47 f48 f49 f50 f51 gn_fr) hZ (hw _ (List.mem_of_getElem? (i := 17) rfl)) (hw _ (List.mem_of_getElem? (i := 3) rfl)) (by decide) (by decide)) (g := (mkF m 60 #[.val (.ref x0), .val (.int x1), .val (.int (7 : Int32)), .val (.long (16 : Int64)), .second, .val (.long wk), .second, .unset] [(.ref r36), .null, (.ref fr), (.ref fr)])) rfl (by rw [hml]; rfl) (Steps.refl _) (a := fr) (argsL := [.null, (.ref r36)]) (rest := [(.ref fr)]) (lenOf pdmvb_4 rfl) rfl (by show 2 * 0 + _ ≤ _; exact Nat.le_of_eq rfl) (hb hby dmvb_60) (fun _ _ => ⟨rfl, rfl, (by decide : 2 + 0 ≤ _), (by decide : 38 + 0 ≤ _)⟩)
  dsimp only [Pt.U, Pt.locs, Pt.cells, Pt.slots] at X53 l53 y53 z53 st53 hQ53
  subst l53 y53 z53
  obtain ⟨rfl, Nq53, K53, Fh53, Fl53, Fv53, Ft53, Fb53, Fs53⟩ := hQ53
  have N53 := Fr.app N36 Nq53
  have f54 := f37.keep K53
  have f55 := f38.keep K53 (ninS ne16 nin0)
  have f56 := f39.keep K53 (ninS ne16 nin0)
  have f57 := f40.keep K53 (ninS ne16 nin0)
  have f58 := f41.keep K53 (ninS ne16 nin0)
  have f59 := f42.keep K53 (ninS ne16 nin0)
  have f60 := f43.keep K53 (ninS ne16 nin0)
  have f61 := f44.keep K53 (ninS ne15 nin0)
  have f62 := f45.keep K53
  have f63 := VR36.keep K53 (ninS (Ne.symm ne_fr_r36) nin0)
  have Z53 := Nat.le_trans Z36 K53.1
  have KK53 := KK36.trans K53 (allS (Or.inr gk_fr) all0)
  have p64 : ∀ t, own_W p e below m T53 63 #[.val (.ref x0), .val (.int x1), .val (.int (7 : Int32)), .val (.long (16 : Int64)), .second, .val (.long wk), .second, .unset] [(.ref fr)] t → Steps p.tables e below S0 t := fun t k => p52 t (st53.trans k)
  have p65 : ∀ t, own_W p e below m T53 91 #[.val (.ref x0), .val (.int x1), .val (.int (7 : Int32)), .val (.long (16 : Int64)), .second, .val (.long wk), .second, .val (.ref fr)] [(.ref fr), (.ref fr), (.ref x0)] t → Steps p.tables e below S0 t := fun t k => p64 t (by
    show own_W p e below m T53 63 #[.val (.ref x0), .val (.int x1), .val (.int (7 : Int32)), .val (.long (16 : Int64)), .second, .val (.long wk), .second, .unset] [(.ref fr)] _
    refine XS.goto X53.here hx rfl (pc0 := 63) (pc' := 85) rfl (hb hby dmvb_63) (by decide) (by decide) ?_
    refine XS.astore X53.here hx rfl (hb hby dmvb_85) rfl rfl (l' := #[.val (.ref x0), .val (.int x1), .val (.int (7 : Int32)), .val (.long (16 : Int64)), .second, .val (.long wk), .second, .val (.ref fr)]) rfl ?_
    refine XS.aloadN X53.here hx rfl (hb hby dmvb_87) rfl rfl ?_
    refine XS.aload X53.here hx rfl (hb hby dmvb_88) rfl rfl ?_
    refine XS.dup X53.here hx rfl (hb hby dmvb_90) rfl rfl ?_
    exact k)
  obtain ⟨_, _, ⟨T66, L66, k66, n66⟩, -, X66, ⟨Lc66, hQ66, l66, y66, z66⟩, st66⟩ := Jvm.LawKit.callS X53 hx (y := (⟨"java/util/Objects", "requireNonNull", "(Ljava/lang/Object;)Ljava/lang/Object;"⟩ : MethodName)) hown (mvT hZ (hw _ (List.mem_of_getElem? (i := 92) rfl))) (mvT hZ (hw _ (List.mem_of_getElem? (i := 93) rfl))) (mvT hZ (hw _ (List.mem_of_getElem? (i := 94) rfl))) (mvT hZ (hw _ (List.mem_of_getElem? (i := 95) rfl))) (by decide) (backOf (W := 2) (rmrnn l Z a0 hw [] fr  T53.heap n0 Z53 ) hZ (hw _ (List.mem_of_getElem? (i := 95) rfl)) (hw _ (List.mem_of_getElem? (i := 94) rfl)) (by decide) (by decide)) (g := (mkF m 91 #[.val (.ref x0), .val (.int x1), .val (.int (7 : Int32)), .val (.long (16 : Int64)), .second, .val (.long wk), .second, .val (.ref fr)] [(.ref fr), (.ref fr), (.ref x0)])) rfl (by rw [hml]; rfl) (argsL := [(.ref fr)]) (rest := [(.ref fr), (.ref x0)]) (lenOf pdmvb_5 rfl) rfl (by show 2 * 0 + _ ≤ _; exact Nat.le_of_eq rfl) (hb hby dmvb_91) (fun _ _ => ⟨rfl, rfl, (by decide : 2 + 0 ≤ _), (by decide : 38 + 0 ≤ _)⟩)
  dsimp only [Pt.U, Pt.locs, Pt.cells, Pt.slots] at X66 l66 y66 z66 st66 hQ66
  subst l66 y66 z66
  obtain ⟨rfl, Nq66, e66⟩ := hQ66
  have N66 := Fr.app N53 Nq66
  have p67 : ∀ t, own_W p e below m T66 94 #[.val (.ref x0), .val (.int x1), .val (.int (7 : Int32)), .val (.long (16 : Int64)), .second, .val (.long wk), .second, .val (.ref fr)] [(.ref fr), (.ref fr), (.ref x0)] t → Steps p.tables e below S0 t := fun t k => p65 t (st66 _ k)
  have p68 : ∀ t, own_W p e below m T66 95 #[.val (.ref x0), .val (.int x1), .val (.int (7 : Int32)), .val (.long (16 : Int64)), .second, .val (.long wk), .second, .val (.ref fr)] [(.ref fr), (.ref x0)] t → Steps p.tables e below S0 t := fun t k => p67 t (by
    show own_W p e below m T66 94 #[.val (.ref x0), .val (.int x1), .val (.int (7 : Int32)), .val (.long (16 : Int64)), .second, .val (.long wk), .second, .val (.ref fr)] [(.ref fr), (.ref fr), (.ref x0)] _
    refine XS.pop X66.here hx rfl (hb hby dmvb_94) rfl rfl ?_
    exact k)
  obtain ⟨X69, st69⟩ := own_site (a0 := a0) X66 hx hZ hH hw Bd.named hLZ (g := (mkF m 95 #[.val (.ref x0), .val (.int x1), .val (.int (7 : Int32)), .val (.long (16 : Int64)), .second, .val (.long wk), .second, .val (.ref fr)] [(.ref fr), (.ref x0)])) rfl rfl (by rw [hml]; rfl) (hb hby dmvb_95) (fr := fr) (rest := [.ref x0]) rfl (Nat.le_of_ble_eq_true rfl) (by decide) (by decide)
  have hsz69 : T66.heap.size = T53.heap.size := by rw [e66]
  obtain ⟨T69, hT69⟩ : ∃ z, z = T66.pushCell ({ cls := cK, slots := #[.ref fr], vm := .none } : Cell) := ⟨_, rfl⟩
  obtain ⟨h69, hh69⟩ : ∃ z : Heap, z = T53.heap.push ({ cls := cK, slots := #[.ref fr], vm := .none } : Cell) := ⟨_, rfl⟩
  have e69 : T69.heap = h69 := by rw [hT69, hh69]; show T66.heap.push _ = _; rw [e66]
  obtain ⟨lm, g69⟩ : ∃ z, z = T53.heap.size := ⟨_, rfl⟩
  rw [← hT69, hsz69, ← g69] at st69
  rw [← hT69] at X69
  obtain ⟨E69, B69⟩ := own_push T53.heap ({ cls := cK, slots := #[.ref fr], vm := .none } : Cell)
  rw [← hh69, ← g69] at B69
  rw [← hh69] at E69
  have gn_lm : n0 ≤ lm := Nat.le_trans Z53 (Nat.le_of_eq g69.symm)
  have gk_lm : h0.size ≤ lm := Nat.le_trans KK53.1 (Nat.le_of_eq g69.symm)
  have ne70 : fr ≠ lm := Nat.ne_of_lt (Nat.lt_of_lt_of_le f62.lt (Nat.le_of_eq g69.symm))
  have ne71 : r36 ≠ lm := Nat.ne_of_lt (Nat.lt_of_lt_of_le f63.lt (Nat.le_of_eq g69.symm))
  have ne72 : tb ≠ lm := Nat.ne_of_lt (Nat.lt_of_lt_of_le f61.lt (Nat.le_of_eq g69.symm))
  have ne73 : x0 ≠ lm := Nat.ne_of_lt (Nat.lt_of_lt_of_le f54.lt (Nat.le_of_eq g69.symm))
  have f74 := f54.ext E69
  have f75 := f55.ext E69
  have f76 := f56.ext E69
  have f77 := f57.ext E69
  have f78 := f58.ext E69
  have f79 := f59.ext E69
  have f80 := f60.ext E69
  have f81 := f61.ext E69
  have f82 := f62.ext E69
  have f83 := f63.ext E69
  have f84 := Fh53.ext E69
  have f85 := Fl53.ext E69
  have f86 := Fv53.ext E69
  have f87 := Ft53.ext E69
  have f88 := Fb53.ext E69
  have f89 := Fs53.ext E69
  have Z69 := Nat.le_trans Z53 E69.1
  have KK69 := KK53.ext E69
  have p90 : ∀ t, own_W p e below m T69 100 #[.val (.ref x0), .val (.int x1), .val (.int (7 : Int32)), .val (.long (16 : Int64)), .second, .val (.long wk), .second, .val (.ref fr)] [(.ref lm), (.ref x0)] t → Steps p.tables e below S0 t := fun t k => p68 t (st69 t k)
  obtain ⟨cq91, kq91, qa91, qb91, qc91⟩ := isOf hZ e69 f74
  obtain ⟨_, _, ⟨T91, L91, k91, n91⟩, -, X91, ⟨Lc91, hQ91, l91, y91, z91⟩, st91⟩ := X69.virtualBack hx (y := (⟨"com/example/kinwarden/kinwarden/IntMap", "forEach", "(Lcom/example/kinwarden/kinwarden/IntMap$EntryConsumer;)V"⟩ : MethodName)) (z := (⟨"com/example/kinwarden/kinwarden/IntMap", "forEach", "(Lcom/example/kinwarden/kinwarden/IntMap$EntryConsumer;)V"⟩ : MethodName)) hown (mvT hZ (hw _ (List.mem_of_getElem? (i := 100) rfl))) (mvT hZ (hw _ (List.mem_of_getElem? (i := 101) rfl))) (notFace_of_selects (args := #[]) (mvT hZ (hw _ (List.mem_of_getElem? (i := 103) rfl)))) (mvT hZ (hw _ (List.mem_of_getElem? (i := 103) rfl))) (mvT hZ (hw _ (List.mem_of_getElem? (i := 102) rfl))) (by decide) (own_backOfH (W := 0) (rmfeb l Z a0 hw [] x0 lm tb kt vv cK fr r36 kk36 (0 : Int32) (-1 : Int32) (-1 : Int32) (-1 : Int32) nl ws36 h69 n0 Z69 f75 f76 hLZ f81 B69 f82 f87 f88 f89 f84 f85 f86 f83 gn_fr gn_r36 ne_fr_r36 ne15 ne_tb_r36 (Ne.symm ne70) (Ne.symm ne71) (own_5n hnl h6).1) hZ hH (hw _ (List.mem_of_getElem? (i := 104) rfl)) (hw _ (List.mem_of_getElem? (i := 3) rfl)) (by decide) (by decide)) qa91 qc91 (g := (mkF m 100 #[.val (.ref x0), .val (.int x1), .val (.int (7 : Int32)), .val (.long (16 : Int64)), .second, .val (.long wk), .second, .val (.ref fr)] [(.ref lm), (.ref x0)])) rfl (by rw [hml]; rfl) (Steps.refl _) (argsL := [(.ref lm)]) (rest := []) (lenOf pdmvb_6 rfl) rfl (by show 2 * 0 + _ ≤ _; exact Nat.le_of_eq rfl) (hb hby dmvb_100) (fun _ _ => ⟨rfl, e69, (by decide : 3 + 0 ≤ _), (by decide : 39 + 0 ≤ _)⟩)
  dsimp only [Pt.U, Pt.locs, Pt.cells, Pt.slots] at X91 l91 y91 z91 st91 hQ91
  subst l91 y91 z91
  obtain ⟨rfl, Nq91, K91, sz91, hi91, lv91, hv91, vs91, E091, Ft91, Fb91, Fs91, Fh91, Fl91, Fv91, VN91⟩ := hQ91
  have N91 := Fr.app N66 Nq91
  have f92 := f74.keep K91
  have f93 := f75.keep K91 (ninS ne16 (ninS ne_x0_r36 nin0))
  have f94 := f76.keep K91 (ninS ne16 (ninS ne_x0_r36 nin0))
  have f95 := f77.keep K91 (ninS ne16 (ninS ne_x0_r36 nin0))
  have f96 := f78.keep K91 (ninS ne16 (ninS ne_x0_r36 nin0))
  have f97 := f79.keep K91 (ninS ne16 (ninS ne_x0_r36 nin0))
  have f98 := f80.keep K91 (ninS ne16 (ninS ne_x0_r36 nin0))
  have f99 := f81.keep K91 (ninS ne15 (ninS ne_tb_r36 nin0))
  have f100 := f82.keep K91
  have f101 := B69.keep K91 (ninS (Ne.symm ne70) (ninS (Ne.symm ne71) nin0))
  have Z91 := Nat.le_trans Z69 K91.1
  have KK91 := KK69.trans K91 (allS (Or.inr gk_fr) (allS (Or.inr gk_r36) all0))
  have p102 : ∀ t, own_W p e below m T91 103 #[.val (.ref x0), .val (.int x1), .val (.int (7 : Int32)), .val (.long (16 : Int64)), .second, .val (.long wk), .second, .val (.ref fr)] [] t → Steps p.tables e below S0 t := fun t k => p90 t (st91.trans k)
  have p103 : ∀ t, own_W p e below m T91 106 #[.val (.ref x0), .val (.int x1), .val (.int (7 : Int32)), .val (.long (16 : Int64)), .second, .val (.long wk), .second, .val (.ref fr)] [(.ref fr), (.ref x0)] t → Steps p.tables e below S0 t := fun t k => p102 t (by
    show own_W p e below m T91 103 #[.val (.ref x0), .val (.int x1), .val (.int (7 : Int32)), .val (.long (16 : Int64)), .second, .val (.long wk), .second, .val (.ref fr)] [] _
    refine XS.aloadN X91.here hx rfl (hb hby dmvb_103) rfl rfl ?_
    refine XS.aload X91.here hx rfl (hb hby dmvb_104) rfl rfl ?_
    exact k)
  obtain ⟨T104, X104, e104, st104⟩ := getF X91 hx hZ hown (host := "") (Or.inl (hw _ (List.mem_of_getElem? (i := 27) rfl))) Via.refl rfl Ft91 (g := (mkF m 106 #[.val (.ref x0), .val (.int x1), .val (.int (7 : Int32)), .val (.long (16 : Int64)), .second, .val (.long wk), .second, .val (.ref fr)] [(.ref fr), (.ref x0)])) rfl rfl (hb hby dmvb_106)
  have p105 : ∀ t, own_W p e below m T104 109 #[.val (.ref x0), .val (.int x1), .val (.int (7 : Int32)), .val (.long (16 : Int64)), .second, .val (.long wk), .second, .val (.ref fr)] [.null, (.ref x0)] t → Steps p.tables e below S0 t := fun t k => p103 t (st104 t k)
  obtain ⟨T106, h106, X106, e106, W106, st106⟩ := putF X104 hx hZ hown (host := "") (Or.inl (hw _ (List.mem_of_getElem? (i := 27) rfl))) Via.refl e104 f93 f92 (Or.inl (hw _ (List.mem_of_getElem? (i := 28) rfl))) (hw _ (List.mem_of_getElem? (i := 2) rfl)) (ty := (.array .int)) (by decide) rfl rfl (g := (mkF m 109 #[.val (.ref x0), .val (.int x1), .val (.int (7 : Int32)), .val (.long (16 : Int64)), .second, .val (.long wk), .second, .val (.ref fr)] [.null, (.ref x0)])) rfl rfl (hb hby dmvb_109)
  have f107 := f93.same W106
  have f108 := f92.wr W106
  have f109 := f94.other W106 (Or.inr (slot_ne (Or.inl (hw _ (List.mem_of_getElem? (i := 30) rfl))) (Or.inl (hw _ (List.mem_of_getElem? (i := 28) rfl))) (by decide) (t := (.array .int)) (t' := (.array .int)) (by decide) (by decide)))
  have f110 := f95.other W106 (Or.inr (slot_ne (Or.inl (hw _ (List.mem_of_getElem? (i := 62) rfl))) (Or.inl (hw _ (List.mem_of_getElem? (i := 28) rfl))) (by decide) (t := .int) (t' := (.array .int)) (by decide) (by decide)))
  have f111 := f96.other W106 (Or.inr (slot_ne (Or.inl (hw _ (List.mem_of_getElem? (i := 22) rfl))) (Or.inl (hw _ (List.mem_of_getElem? (i := 28) rfl))) (by decide) (t := .int) (t' := (.array .int)) (by decide) (by decide)))
  have f112 := f97.other W106 (Or.inr (slot_ne (Or.inl (hw _ (List.mem_of_getElem? (i := 24) rfl))) (Or.inl (hw _ (List.mem_of_getElem? (i := 28) rfl))) (by decide) (t := .int) (t' := (.array .int)) (by decide) (by decide)))
  have f113 := f98.other W106 (Or.inr (slot_ne (Or.inl (hw _ (List.mem_of_getElem? (i := 26) rfl))) (Or.inl (hw _ (List.mem_of_getElem? (i := 28) rfl))) (by decide) (t := .int) (t' := (.array .int)) (by decide) (by decide)))
  have f114 := E091.wr W106
  have f115 := Ft91.other W106 (Or.inl (Ne.symm ne16))
  have f116 := Fb91.other W106 (Or.inl (Ne.symm ne16))
  have f117 := Fs91.other W106 (Or.inl (Ne.symm ne16))
  have f118 := Fh91.other W106 (Or.inl (Ne.symm ne16))
  have f119 := Fl91.other W106 (Or.inl (Ne.symm ne16))
  have f120 := Fv91.other W106 (Or.inl (Ne.symm ne16))
  have f121 := VN91.other W106 (Ne.symm ne_x0_r36)
  have Z106 := Nat.le_trans Z91 (Keep.of_wr W106).1
  have N106 := Fr.snoc X106 N91 g0
  have KK106 := KK91.wr W106 (Or.inl (List.mem_singleton.mpr rfl))
  have p122 : ∀ t, own_W p e below m T106 112 #[.val (.ref x0), .val (.int x1), .val (.int (7 : Int32)), .val (.long (16 : Int64)), .second, .val (.long wk), .second, .val (.ref fr)] [] t → Steps p.tables e below S0 t := fun t k => p105 t (st106 t k)
  have p123 : ∀ t, own_W p e below m T106 115 #[.val (.ref x0), .val (.int x1), .val (.int (7 : Int32)), .val (.long (16 : Int64)), .second, .val (.long wk), .second, .val (.ref fr)] [(.ref fr), (.ref x0)] t → Steps p.tables e below S0 t := fun t k => p122 t (by
    show own_W p e below m T106 112 #[.val (.ref x0), .val (.int x1), .val (.int (7 : Int32)), .val (.long (16 : Int64)), .second, .val (.long wk), .second, .val (.ref fr)] [] _
    refine XS.aloadN X106.here hx rfl (hb hby dmvb_112) rfl rfl ?_
    refine XS.aload X106.here hx rfl (hb hby dmvb_113) rfl rfl ?_
    exact k)
  obtain ⟨T124, X124, e124, st124⟩ := getF X106 hx hZ hown (host := "") (Or.inl (hw _ (List.mem_of_getElem? (i := 29) rfl))) Via.refl e106 f116 (g := (mkF m 115 #[.val (.ref x0), .val (.int x1), .val (.int (7 : Int32)), .val (.long (16 : Int64)), .second, .val (.long wk), .second, .val (.ref fr)] [(.ref fr), (.ref x0)])) rfl rfl (hb hby dmvb_115)
  have p125 : ∀ t, own_W p e below m T124 118 #[.val (.ref x0), .val (.int x1), .val (.int (7 : Int32)), .val (.long (16 : Int64)), .second, .val (.long wk), .second, .val (.ref fr)] [(.ref r36), (.ref x0)] t → Steps p.tables e below S0 t := fun t k => p123 t (st124 t k)
  obtain ⟨T126, h126, X126, e126, W126, st126⟩ := putF X124 hx hZ hown (host := "") (Or.inl (hw _ (List.mem_of_getElem? (i := 29) rfl))) Via.refl e124 f109 f108 (Or.inl (hw _ (List.mem_of_getElem? (i := 30) rfl))) (hw _ (List.mem_of_getElem? (i := 2) rfl)) (ty := (.array .int)) (by decide) rfl rfl (g := (mkF m 118 #[.val (.ref x0), .val (.int x1), .val (.int (7 : Int32)), .val (.long (16 : Int64)), .second, .val (.long wk), .second, .val (.ref fr)] [(.ref r36), (.ref x0)])) rfl rfl (hb hby dmvb_118)
  have f127 := f109.same W126
  have f128 := f108.wr W126
  have f129 := f110.other W126 (Or.inr (slot_ne (Or.inl (hw _ (List.mem_of_getElem? (i := 62) rfl))) (Or.inl (hw _ (List.mem_of_getElem? (i := 30) rfl))) (by decide) (t := .int) (t' := (.array .int)) (by decide) (by decide)))
  have f130 := f111.other W126 (Or.inr (slot_ne (Or.inl (hw _ (List.mem_of_getElem? (i := 22) rfl))) (Or.inl (hw _ (List.mem_of_getElem? (i := 30) rfl))) (by decide) (t := .int) (t' := (.array .int)) (by decide) (by decide)))
  have f131 := f112.other W126 (Or.inr (slot_ne (Or.inl (hw _ (List.mem_of_getElem? (i := 24) rfl))) (Or.inl (hw _ (List.mem_of_getElem? (i := 30) rfl))) (by decide) (t := .int) (t' := (.array .int)) (by decide) (by decide)))
  have f132 := f113.other W126 (Or.inr (slot_ne (Or.inl (hw _ (List.mem_of_getElem? (i := 26) rfl))) (Or.inl (hw _ (List.mem_of_getElem? (i := 30) rfl))) (by decide) (t := .int) (t' := (.array .int)) (by decide) (by decide)))
  have f133 := f114.wr W126
  have f134 := f115.other W126 (Or.inl (Ne.symm ne16))
  have f135 := f116.other W126 (Or.inl (Ne.symm ne16))
  have f136 := f117.other W126 (Or.inl (Ne.symm ne16))
  have f137 := f118.other W126 (Or.inl (Ne.symm ne16))
  have f138 := f119.other W126 (Or.inl (Ne.symm ne16))
  have f139 := f120.other W126 (Or.inl (Ne.symm ne16))
  have f140 := f121.other W126 (Ne.symm ne_x0_r36)
  have f141 := f107.other W126 (Or.inr (slot_ne (Or.inl (hw _ (List.mem_of_getElem? (i := 28) rfl))) (Or.inl (hw _ (List.mem_of_getElem? (i := 30) rfl))) (by decide) (t := (.array .int)) (t' := (.array .int)) (by decide) (by decide)))
  have Z126 := Nat.le_trans Z106 (Keep.of_wr W126).1
  have N126 := Fr.snoc X126 N106 g0
  have KK126 := KK106.wr W126 (Or.inl (List.mem_singleton.mpr rfl))
  have p142 : ∀ t, own_W p e below m T126 121 #[.val (.ref x0), .val (.int x1), .val (.int (7 : Int32)), .val (.long (16 : Int64)), .second, .val (.long wk), .second, .val (.ref fr)] [] t → Steps p.tables e below S0 t := fun t k => p125 t (st126 t k)
  have p143 : ∀ t, own_W p e below m T126 124 #[.val (.ref x0), .val (.int x1), .val (.int (7 : Int32)), .val (.long (16 : Int64)), .second, .val (.long wk), .second, .val (.ref fr)] [(.ref fr), (.ref x0)] t → Steps p.tables e below S0 t := fun t k => p142 t (by
    show own_W p e below m T126 121 #[.val (.ref x0), .val (.int x1), .val (.int (7 : Int32)), .val (.long (16 : Int64)), .second, .val (.long wk), .second, .val (.ref fr)] [] _
    refine XS.aloadN X126.here hx rfl (hb hby dmvb_121) rfl rfl ?_
    refine XS.aload X126.here hx rfl (hb hby dmvb_122) rfl rfl ?_
    exact k)
  obtain ⟨T144, X144, e144, st144⟩ := getF X126 hx hZ hown (host := "") (Or.inl (hw _ (List.mem_of_getElem? (i := 61) rfl))) Via.refl e126 f136 (g := (mkF m 124 #[.val (.ref x0), .val (.int x1), .val (.int (7 : Int32)), .val (.long (16 : Int64)), .second, .val (.long wk), .second, .val (.ref fr)] [(.ref fr), (.ref x0)])) rfl rfl (hb hby dmvb_124)
  have p145 : ∀ t, own_W p e below m T144 127 #[.val (.ref x0), .val (.int x1), .val (.int (7 : Int32)), .val (.long (16 : Int64)), .second, .val (.long wk), .second, .val (.ref fr)] [(.int sz91), (.ref x0)] t → Steps p.tables e below S0 t := fun t k => p143 t (st144 t k)
  obtain ⟨T146, h146, X146, e146, W146, st146⟩ := putF X144 hx hZ hown (host := "") (Or.inl (hw _ (List.mem_of_getElem? (i := 61) rfl))) Via.refl e144 f129 f128 (Or.inl (hw _ (List.mem_of_getElem? (i := 62) rfl))) (hw _ (List.mem_of_getElem? (i := 2) rfl)) (ty := .int) (by decide) rfl rfl (g := (mkF m 127 #[.val (.ref x0), .val (.int x1), .val (.int (7 : Int32)), .val (.long (16 : Int64)), .second, .val (.long wk), .second, .val (.ref fr)] [(.int sz91), (.ref x0)])) rfl rfl (hb hby dmvb_127)
  have f147 := f129.same W146
  have f148 := f128.wr W146
  have f149 := f130.other W146 (Or.inr (slot_ne (Or.inl (hw _ (List.mem_of_getElem? (i := 22) rfl))) (Or.inl (hw _ (List.mem_of_getElem? (i := 62) rfl))) (by decide) (t := .int) (t' := .int) (by decide) (by decide)))
  have f150 := f131.other W146 (Or.inr (slot_ne (Or.inl (hw _ (List.mem_of_getElem? (i := 24) rfl))) (Or.inl (hw _ (List.mem_of_getElem? (i := 62) rfl))) (by decide) (t := .int) (t' := .int) (by decide) (by decide)))
  have f151 := f132.other W146 (Or.inr (slot_ne (Or.inl (hw _ (List.mem_of_getElem? (i := 26) rfl))) (Or.inl (hw _ (List.mem_of_getElem? (i := 62) rfl))) (by decide) (t := .int) (t' := .int) (by decide) (by decide)))
  have f152 := f133.wr W146
  have f153 := f134.other W146 (Or.inl (Ne.symm ne16))
  have f154 := f135.other W146 (Or.inl (Ne.symm ne16))
  have f155 := f136.other W146 (Or.inl (Ne.symm ne16))
  have f156 := f137.other W146 (Or.inl (Ne.symm ne16))
  have f157 := f138.other W146 (Or.inl (Ne.symm ne16))
  have f158 := f139.other W146 (Or.inl (Ne.symm ne16))
  have f159 := f140.other W146 (Ne.symm ne_x0_r36)
  have f160 := f141.other W146 (Or.inr (slot_ne (Or.inl (hw _ (List.mem_of_getElem? (i := 28) rfl))) (Or.inl (hw _ (List.mem_of_getElem? (i := 62) rfl))) (by decide) (t := (.array .int)) (t' := .int) (by decide) (by decide)))
  have f161 := f127.other W146 (Or.inr (slot_ne (Or.inl (hw _ (List.mem_of_getElem? (i := 30) rfl))) (Or.inl (hw _ (List.mem_of_getElem? (i := 62) rfl))) (by decide) (t := (.array .int)) (t' := .int) (by decide) (by decide)))
  have Z146 := Nat.le_trans Z126 (Keep.of_wr W146).1
  have N146 := Fr.snoc X146 N126 g0
  have KK146 := KK126.wr W146 (Or.inl (List.mem_singleton.mpr rfl))
  have p162 : ∀ t, own_W p e below m T146 130 #[.val (.ref x0), .val (.int x1), .val (.int (7 : Int32)), .val (.long (16 : Int64)), .second, .val (.long wk), .second, .val (.ref fr)] [] t → Steps p.tables e below S0 t := fun t k => p145 t (st146 t k)
  have p163 : ∀ t, own_W p e below m T146 133 #[.val (.ref x0), .val (.int x1), .val (.int (7 : Int32)), .val (.long (16 : Int64)), .second, .val (.long wk), .second, .val (.ref fr)] [(.ref fr), (.ref x0)] t → Steps p.tables e below S0 t := fun t k => p162 t (by
    show own_W p e below m T146 130 #[.val (.ref x0), .val (.int x1), .val (.int (7 : Int32)), .val (.long (16 : Int64)), .second, .val (.long wk), .second, .val (.ref fr)] [] _
    refine XS.aloadN X146.here hx rfl (hb hby dmvb_130) rfl rfl ?_
    refine XS.aload X146.here hx rfl (hb hby dmvb_131) rfl rfl ?_
    exact k)
  obtain ⟨T164, X164, e164, st164⟩ := getF X146 hx hZ hown (host := "") (Or.inl (hw _ (List.mem_of_getElem? (i := 21) rfl))) Via.refl e146 f156 (g := (mkF m 133 #[.val (.ref x0), .val (.int x1), .val (.int (7 : Int32)), .val (.long (16 : Int64)), .second, .val (.long wk), .second, .val (.ref fr)] [(.ref fr), (.ref x0)])) rfl rfl (hb hby dmvb_133)
  have p165 : ∀ t, own_W p e below m T164 136 #[.val (.ref x0), .val (.int x1), .val (.int (7 : Int32)), .val (.long (16 : Int64)), .second, .val (.long wk), .second, .val (.ref fr)] [(.int hi91), (.ref x0)] t → Steps p.tables e below S0 t := fun t k => p163 t (st164 t k)
  obtain ⟨T166, h166, X166, e166, W166, st166⟩ := putF X164 hx hZ hown (host := "") (Or.inl (hw _ (List.mem_of_getElem? (i := 21) rfl))) Via.refl e164 f149 f148 (Or.inl (hw _ (List.mem_of_getElem? (i := 22) rfl))) (hw _ (List.mem_of_getElem? (i := 2) rfl)) (ty := .int) (by decide) rfl rfl (g := (mkF m 136 #[.val (.ref x0), .val (.int x1), .val (.int (7 : Int32)), .val (.long (16 : Int64)), .second, .val (.long wk), .second, .val (.ref fr)] [(.int hi91), (.ref x0)])) rfl rfl (hb hby dmvb_136)
  have f167 := f149.same W166
  have f168 := f148.wr W166
  have f169 := f150.other W166 (Or.inr (slot_ne (Or.inl (hw _ (List.mem_of_getElem? (i := 24) rfl))) (Or.inl (hw _ (List.mem_of_getElem? (i := 22) rfl))) (by decide) (t := .int) (t' := .int) (by decide) (by decide)))
  have f170 := f151.other W166 (Or.inr (slot_ne (Or.inl (hw _ (List.mem_of_getElem? (i := 26) rfl))) (Or.inl (hw _ (List.mem_of_getElem? (i := 22) rfl))) (by decide) (t := .int) (t' := .int) (by decide) (by decide)))
  have f171 := f152.wr W166
  have f172 := f153.other W166 (Or.inl (Ne.symm ne16))
  have f173 := f154.other W166 (Or.inl (Ne.symm ne16))
  have f174 := f155.other W166 (Or.inl (Ne.symm ne16))
  have f175 := f156.other W166 (Or.inl (Ne.symm ne16))
  have f176 := f157.other W166 (Or.inl (Ne.symm ne16))
  have f177 := f158.other W166 (Or.inl (Ne.symm ne16))
  have f178 := f159.other W166 (Ne.symm ne_x0_r36)
  have f179 := f160.other W166 (Or.inr (slot_ne (Or.inl (hw _ (List.mem_of_getElem? (i := 28) rfl))) (Or.inl (hw _ (List.mem_of_getElem? (i := 22) rfl))) (by decide) (t := (.array .int)) (t' := .int) (by decide) (by decide)))
  have f180 := f161.other W166 (Or.inr (slot_ne (Or.inl (hw _ (List.mem_of_getElem? (i := 30) rfl))) (Or.inl (hw _ (List.mem_of_getElem? (i := 22) rfl))) (by decide) (t := (.array .int)) (t' := .int) (by decide) (by decide)))
  have f181 := f147.other W166 (Or.inr (slot_ne (Or.inl (hw _ (List.mem_of_getElem? (i := 62) rfl))) (Or.inl (hw _ (List.mem_of_getElem? (i := 22) rfl))) (by decide) (t := .int) (t' := .int) (by decide) (by decide)))
  have Z166 := Nat.le_trans Z146 (Keep.of_wr W166).1
  have N166 := Fr.snoc X166 N146 g0
  have KK166 := KK146.wr W166 (Or.inl (List.mem_singleton.mpr rfl))
  have p182 : ∀ t, own_W p e below m T166 139 #[.val (.ref x0), .val (.int x1), .val (.int (7 : Int32)), .val (.long (16 : Int64)), .second, .val (.long wk), .second, .val (.ref fr)] [] t → Steps p.tables e below S0 t := fun t k => p165 t (st166 t k)
  have p183 : ∀ t, own_W p e below m T166 142 #[.val (.ref x0), .val (.int x1), .val (.int (7 : Int32)), .val (.long (16 : Int64)), .second, .val (.long wk), .second, .val (.ref fr)] [(.ref fr), (.ref x0)] t → Steps p.tables e below S0 t := fun t k => p182 t (by
    show own_W p e below m T166 139 #[.val (.ref x0), .val (.int x1), .val (.int (7 : Int32)), .val (.long (16 : Int64)), .second, .val (.long wk), .second, .val (.ref fr)] [] _
    refine XS.aloadN X166.here hx rfl (hb hby dmvb_139) rfl rfl ?_
    refine XS.aload X166.here hx rfl (hb hby dmvb_140) rfl rfl ?_
    exact k)
  obtain ⟨T184, X184, e184, st184⟩ := getF X166 hx hZ hown (host := "") (Or.inl (hw _ (List.mem_of_getElem? (i := 23) rfl))) Via.refl e166 f176 (g := (mkF m 142 #[.val (.ref x0), .val (.int x1), .val (.int (7 : Int32)), .val (.long (16 : Int64)), .second, .val (.long wk), .second, .val (.ref fr)] [(.ref fr), (.ref x0)])) rfl rfl (hb hby dmvb_142)
  have p185 : ∀ t, own_W p e below m T184 145 #[.val (.ref x0), .val (.int x1), .val (.int (7 : Int32)), .val (.long (16 : Int64)), .second, .val (.long wk), .second, .val (.ref fr)] [(.int lv91), (.ref x0)] t → Steps p.tables e below S0 t := fun t k => p183 t (st184 t k)
  obtain ⟨T186, h186, X186, e186, W186, st186⟩ := putF X184 hx hZ hown (host := "") (Or.inl (hw _ (List.mem_of_getElem? (i := 23) rfl))) Via.refl e184 f169 f168 (Or.inl (hw _ (List.mem_of_getElem? (i := 24) rfl))) (hw _ (List.mem_of_getElem? (i := 2) rfl)) (ty := .int) (by decide) rfl rfl (g := (mkF m 145 #[.val (.ref x0), .val (.int x1), .val (.int (7 : Int32)), .val (.long (16 : Int64)), .second, .val (.long wk), .second, .val (.ref fr)] [(.int lv91), (.ref x0)])) rfl rfl (hb hby dmvb_145)
  have f187 := f169.same W186
  have f188 := f168.wr W186
  have f189 := f170.other W186 (Or.inr (slot_ne (Or.inl (hw _ (List.mem_of_getElem? (i := 26) rfl))) (Or.inl (hw _ (List.mem_of_getElem? (i := 24) rfl))) (by decide) (t := .int) (t' := .int) (by decide) (by decide)))
  have f190 := f171.wr W186
  have f191 := f172.other W186 (Or.inl (Ne.symm ne16))
  have f192 := f173.other W186 (Or.inl (Ne.symm ne16))
  have f193 := f174.other W186 (Or.inl (Ne.symm ne16))
  have f194 := f175.other W186 (Or.inl (Ne.symm ne16))
  have f195 := f176.other W186 (Or.inl (Ne.symm ne16))
  have f196 := f177.other W186 (Or.inl (Ne.symm ne16))
  have f197 := f178.other W186 (Ne.symm ne_x0_r36)
  have f198 := f179.other W186 (Or.inr (slot_ne (Or.inl (hw _ (List.mem_of_getElem? (i := 28) rfl))) (Or.inl (hw _ (List.mem_of_getElem? (i := 24) rfl))) (by decide) (t := (.array .int)) (t' := .int) (by decide) (by decide)))
  have f199 := f180.other W186 (Or.inr (slot_ne (Or.inl (hw _ (List.mem_of_getElem? (i := 30) rfl))) (Or.inl (hw _ (List.mem_of_getElem? (i := 24) rfl))) (by decide) (t := (.array .int)) (t' := .int) (by decide) (by decide)))
  have f200 := f181.other W186 (Or.inr (slot_ne (Or.inl (hw _ (List.mem_of_getElem? (i := 62) rfl))) (Or.inl (hw _ (List.mem_of_getElem? (i := 24) rfl))) (by decide) (t := .int) (t' := .int) (by decide) (by decide)))
  have f201 := f167.other W186 (Or.inr (slot_ne (Or.inl (hw _ (List.mem_of_getElem? (i := 22) rfl))) (Or.inl (hw _ (List.mem_of_getElem? (i := 24) rfl))) (by decide) (t := .int) (t' := .int) (by decide) (by decide)))
  have Z186 := Nat.le_trans Z166 (Keep.of_wr W186).1
  have N186 := Fr.snoc X186 N166 g0
  have KK186 := KK166.wr W186 (Or.inl (List.mem_singleton.mpr rfl))
  have p202 : ∀ t, own_W p e below m T186 148 #[.val (.ref x0), .val (.int x1), .val (.int (7 : Int32)), .val (.long (16 : Int64)), .second, .val (.long wk), .second, .val (.ref fr)] [] t → Steps p.tables e below S0 t := fun t k => p185 t (st186 t k)
  have p203 : ∀ t, own_W p e below m T186 151 #[.val (.ref x0), .val (.int x1), .val (.int (7 : Int32)), .val (.long (16 : Int64)), .second, .val (.long wk), .second, .val (.ref fr)] [(.ref fr), (.ref x0)] t → Steps p.tables e below S0 t := fun t k => p202 t (by
    show own_W p e below m T186 148 #[.val (.ref x0), .val (.int x1), .val (.int (7 : Int32)), .val (.long (16 : Int64)), .second, .val (.long wk), .second, .val (.ref fr)] [] _
    refine XS.aloadN X186.here hx rfl (hb hby dmvb_148) rfl rfl ?_
    refine XS.aload X186.here hx rfl (hb hby dmvb_149) rfl rfl ?_
    exact k)
  obtain ⟨T204, X204, e204, st204⟩ := getF X186 hx hZ hown (host := "") (Or.inl (hw _ (List.mem_of_getElem? (i := 25) rfl))) Via.refl e186 f196 (g := (mkF m 151 #[.val (.ref x0), .val (.int x1), .val (.int (7 : Int32)), .val (.long (16 : Int64)), .second, .val (.long wk), .second, .val (.ref fr)] [(.ref fr), (.ref x0)])) rfl rfl (hb hby dmvb_151)
  have p205 : ∀ t, own_W p e below m T204 154 #[.val (.ref x0), .val (.int x1), .val (.int (7 : Int32)), .val (.long (16 : Int64)), .second, .val (.long wk), .second, .val (.ref fr)] [(.int hv91), (.ref x0)] t → Steps p.tables e below S0 t := fun t k => p203 t (st204 t k)
  obtain ⟨T206, h206, X206, e206, W206, st206⟩ := putF X204 hx hZ hown (host := "") (Or.inl (hw _ (List.mem_of_getElem? (i := 25) rfl))) Via.refl e204 f189 f188 (Or.inl (hw _ (List.mem_of_getElem? (i := 26) rfl))) (hw _ (List.mem_of_getElem? (i := 2) rfl)) (ty := .int) (by decide) rfl rfl (g := (mkF m 154 #[.val (.ref x0), .val (.int x1), .val (.int (7 : Int32)), .val (.long (16 : Int64)), .second, .val (.long wk), .second, .val (.ref fr)] [(.int hv91), (.ref x0)])) rfl rfl (hb hby dmvb_154)
  have f207 := f189.same W206
  have f208 := f188.wr W206
  have f209 := f190.wr W206
  have f210 := f191.other W206 (Or.inl (Ne.symm ne16))
  have f211 := f192.other W206 (Or.inl (Ne.symm ne16))
  have f212 := f193.other W206 (Or.inl (Ne.symm ne16))
  have f213 := f194.other W206 (Or.inl (Ne.symm ne16))
  have f214 := f195.other W206 (Or.inl (Ne.symm ne16))
  have f215 := f196.other W206 (Or.inl (Ne.symm ne16))
  have f216 := f197.other W206 (Ne.symm ne_x0_r36)
  have f217 := f198.other W206 (Or.inr (slot_ne (Or.inl (hw _ (List.mem_of_getElem? (i := 28) rfl))) (Or.inl (hw _ (List.mem_of_getElem? (i := 26) rfl))) (by decide) (t := (.array .int)) (t' := .int) (by decide) (by decide)))
  have f218 := f199.other W206 (Or.inr (slot_ne (Or.inl (hw _ (List.mem_of_getElem? (i := 30) rfl))) (Or.inl (hw _ (List.mem_of_getElem? (i := 26) rfl))) (by decide) (t := (.array .int)) (t' := .int) (by decide) (by decide)))
  have f219 := f200.other W206 (Or.inr (slot_ne (Or.inl (hw _ (List.mem_of_getElem? (i := 62) rfl))) (Or.inl (hw _ (List.mem_of_getElem? (i := 26) rfl))) (by decide) (t := .int) (t' := .int) (by decide) (by decide)))
  have f220 := f201.other W206 (Or.inr (slot_ne (Or.inl (hw _ (List.mem_of_getElem? (i := 22) rfl))) (Or.inl (hw _ (List.mem_of_getElem? (i := 26) rfl))) (by decide) (t := .int) (t' := .int) (by decide) (by decide)))
  have f221 := f187.other W206 (Or.inr (slot_ne (Or.inl (hw _ (List.mem_of_getElem? (i := 24) rfl))) (Or.inl (hw _ (List.mem_of_getElem? (i := 26) rfl))) (by decide) (t := .int) (t' := .int) (by decide) (by decide)))
  have Z206 := Nat.le_trans Z186 (Keep.of_wr W206).1
  have N206 := Fr.snoc X206 N186 g0
  have KK206 := KK186.wr W206 (Or.inl (List.mem_singleton.mpr rfl))
  have p222 : ∀ t, own_W p e below m T206 157 #[.val (.ref x0), .val (.int x1), .val (.int (7 : Int32)), .val (.long (16 : Int64)), .second, .val (.long wk), .second, .val (.ref fr)] [] t → Steps p.tables e below S0 t := fun t k => p205 t (st206 t k)
  subst hS0
  obtain ⟨fs, hr, hrun, hended, hW, hsame⟩ := X206.leave (v := none) (fun _ => rfl)
  refine ⟨_, _, p222 _ ?_, hrun, hended, _, _, rfl, ?_, ⟨_, rfl⟩, hW, hsame.mono (by decide) (by decide)⟩
  · show own_W p e below m T206 157 #[.val (.ref x0), .val (.int x1), .val (.int (7 : Int32)), .val (.long (16 : Int64)), .second, .val (.long wk), .second, .val (.ref fr)] [] _
    exact X206.returnOut hx Bd.returns (hb hby dmvb_157) hr
  · show Qmvb Z x0 x1 tb kt lv hv vv cK h0 n0 _ T206.heap _
    rw [e206]
    exact ⟨rfl, N206, KK206, _, _, _, gk_r36, hnl, _, _, _, _, _, f208, f217, f218, f219, f220, f221, f207, f216⟩
theorem dfet_0 : decode prog_53_method_15_code 0 = .ok (.aload_n 0, 1) := by decide +kernel
theorem dfet_1 : decode prog_53_method_15_code 1 = .ok (.getfield 26, 3) := by decide +kernel
theorem dfet_4 : decode prog_53_method_15_code 4 = .ok (.aload_n 0, 1) := by decide +kernel
theorem dfet_5 : decode prog_53_method_15_code 5 = .ok (.getfield 30, 3) := by decide +kernel
theorem dfet_8 : decode prog_53_method_15_code 8 = .ok (.aload_n 1, 1) := by decide +kernel
theorem dfet_9 : decode prog_53_method_15_code 9 = .ok (.invokestatic 116, 3) := by decide +kernel
theorem dfet_12 : decode prog_53_method_15_code 12 = .ok (.return_, 1) := by decide +kernel
theorem pnfet : plainName "com/example/kinwarden/kinwarden/IntMap" = true := by first | (simp [plainName, overriddenIn]; done) | decide +kernel
theorem pdfet_0 : parseMethodDescriptor "([I[ILcom/example/kinwarden/kinwarden/IntMap$EntryConsumer;)V" = some ⟨[(.array .int), (.array .int), (.object "com/example/kinwarden/kinwarden/IntMap$EntryConsumer")], none⟩ := by decide +kernel
theorem effet (m : MethodId) (x0 : Addr) (x1 : Addr) : entryFrame m #[(.ref x0), (.ref x1)] 2 = mkF m 0 #[.val (.ref x0), .val (.ref x1)] [] := by first | (simp [entryFrame, mkF, argsToLocals, Value.category]; done) | rfl
def Qfet (Z : State) (x0 : Addr) (x1 : Addr) (tb : Addr) (kt : ClassId) (vv : Int32) (cK : ClassId) (fr : Addr) (nb : Addr) (kn : ClassId) (sz : Int32) (hi : Int32) (lv : Int32) (hv : Int32) (vs : List Value) (h0 : Heap) (n0 : Nat) (v : Option Value) (h : Heap) (L : List Loc) : Prop := v = none ∧ Fr n0 L ∧ Keep h0 h [fr, nb] ∧ ∃ (sz' hi' lv' hv' : Int32) (vs' : List Value), Exa Z h fr "com/example/kinwarden/kinwarden/IntMap" ∧ Fld Z h fr "com/example/kinwarden/kinwarden/IntMap" "table" "[I" (.ref nb) ∧ Fld Z h fr "com/example/kinwarden/kinwarden/IntMap" "byKey" "[I" .null ∧ Fld Z h fr "com/example/kinwarden/kinwarden/IntMap" "size" "I" (.int sz') ∧ Fld Z h fr "com/example/kinwarden/kinwarden/IntMap" "highest" "I" (.int hi') ∧ Fld Z h fr "com/example/kinwarden/kinwarden/IntMap" "lowestValue" "I" (.int lv') ∧ Fld Z h fr "com/example/kinwarden/kinwarden/IntMap" "highestValue" "I" (.int hv') ∧ Arv Z h nb kn .int (32 : Int32) vs' (.int (0 : Int32))
set_option maxRecDepth 65536 in
set_option maxHeartbeats 40000000 in
theorem rmfet (l : Launch) (Z : State) (a0 : Array Value) (hw : ∀ d ∈ tables_1, d.before a0 Z = true) (ws : List Jvm.Cond) (x0 : Addr) (x1 : Addr) (tb : Addr) (kt : ClassId) (vv : Int32) (cK : ClassId) (fr : Addr) (nb : Addr) (kn : ClassId) (sz : Int32) (hi : Int32) (lv : Int32) (hv : Int32) (vs : List Value) (h0 : Heap) (n0 : Nat) (Z0 : n0 ≤ h0.size) (Ft0 : Fld Z h0 x0 "com/example/kinwarden/kinwarden/IntMap" "table" "[I" (.ref tb)) (Fb0 : Fld Z h0 x0 "com/example/kinwarden/kinwarden/IntMap" "byKey" "[I" .null) (hLZ : own_LZ Z cK) (V0 : Arv Z h0 tb kt .int (16 : Int32) (own_T6 vv) (.int (0 : Int32))) (HC : own_C h0 x1 { cls := cK, slots := #[.ref fr], vm := .none }) (E0 : Exa Z h0 fr "com/example/kinwarden/kinwarden/IntMap") (Ft : Fld Z h0 fr "com/example/kinwarden/kinwarden/IntMap" "table" "[I" (.ref nb)) (Fb : Fld Z h0 fr "com/example/kinwarden/kinwarden/IntMap" "byKey" "[I" .null) (Fs : Fld Z h0 fr "com/example/kinwarden/kinwarden/IntMap" "size" "I" (.int sz)) (Fh : Fld Z h0 fr "com/example/kinwarden/kinwarden/IntMap" "highest" "I" (.int hi)) (Fl : Fld Z h0 fr "com/example/kinwarden/kinwarden/IntMap" "lowestValue" "I" (.int lv)) (Fv : Fld Z h0 fr "com/example/kinwarden/kinwarden/IntMap" "highestValue" "I" (.int hv)) (VN : Arv Z h0 nb kn .int (32 : Int32) vs (.int (0 : Int32))) (gf : n0 ≤ fr) (gb : n0 ≤ nb) (nfb : fr ≠ nb) (n0f : tb ≠ fr) (n0b : tb ≠ nb) (n2f : x1 ≠ fr) (n2b : x1 ≠ nb) :
    MetFree l (⟨"com/example/kinwarden/kinwarden/IntMap", "forEach", "(Lcom/example/kinwarden/kinwarden/IntMap$EntryConsumer;)V"⟩ : MethodName) (head1 (Jvm.Cond.code (⟨"com/example/kinwarden/kinwarden/IntMap", "forEach", "(Lcom/example/kinwarden/kinwarden/IntMap$EntryConsumer;)V"⟩ : MethodName) prog_53_method_15_code 2 none :: ws) ({ frames := 5, cells := 0, slots := 0, locals := 74 } : Room)) (fun a U => a = #[(.ref x0), (.ref x1)] ∧ Z.Warmed39 U.vm ∧ U.heap = h0 ∧ Z.WarmedH U.vm) (fun _ _ _ _ _ => True) (fun _ U o U' => ∃ v L, o = .returned v ∧ Qfet Z x0 x1 tb kt vv cK fr nb kn sz hi lv hv vs h0 n0 v U'.heap L ∧ FrameEnd U o U' L ({ frames := 5, cells := 0, slots := 0, locals := 74 } : Room).cells ({ frames := 5, cells := 0, slots := 0, locals := 74 } : Room).slots) := by
  refine MetFree.of_bodySF (plainFor_of_name pnfet) hisR ?_
  intro p e s m args below meth c s₁ Bd hml0 hP hK
  obtain ⟨rfl, hZ, hh, hH⟩ := hP
  have hx := Bd.exec
  have hby := Bd.bytes
  have hml : c.maxLocals = 2 := hml0
  have hown : s.vm.findClass "com/example/kinwarden/kinwarden/IntMap" = some m.cls := findClass_of_methodNamed Bd.named
  have hnm := (name_of_methodNamed Bd.named Bd.method).1
  have X0 : Stand p l e ({ frames := 5, cells := 0, slots := 0, locals := 74 } : Room) s m #[(.ref x0), (.ref x1)] below meth c s₁ [] 0 0 := Stand.of_body Bd
  have e0 : s₁.heap = h0 := by rw [← hh, Bd.state]; rfl
  have N0 := Fr.nil n0
  have pre0 : ∀ t, Steps p.tables e below (s₁.setTop (mkF m 0 #[.val (.ref x0), .val (.ref x1)] [])) t → Steps p.tables e below (s₁.setTop (entryFrame m #[(.ref x0), (.ref x1)] 2)) t := fun t k => castTop (effet m x0 x1) k
  obtain ⟨S0, hS0⟩ : ∃ z, z = (s₁.setTop (entryFrame m #[(.ref x0), (.ref x1)] 2)) := ⟨_, rfl⟩
  rw [← hS0] at pre0
  have K0 := Keep.refl h0 [fr, nb]
  have p1 : ∀ t, own_W p e below m s₁ 1 #[.val (.ref x0), .val (.ref x1)] [(.ref x0)] t → Steps p.tables e below S0 t := fun t k => pre0 t (by
    show own_W p e below m s₁ 0 #[.val (.ref x0), .val (.ref x1)] [] _
    refine XS.aloadN X0.here hx rfl (hb hby dfet_0) rfl rfl ?_
    exact k)
  obtain ⟨T2, X2, e2, st2⟩ := getF X0 hx hZ hown (host := "") (Or.inl (hw _ (List.mem_of_getElem? (i := 27) rfl))) Via.refl e0 Ft0 (g := (mkF m 1 #[.val (.ref x0), .val (.ref x1)] [(.ref x0)])) rfl rfl (hb hby dfet_1)
  have p3 : ∀ t, own_W p e below m T2 4 #[.val (.ref x0), .val (.ref x1)] [(.ref tb)] t → Steps p.tables e below S0 t := fun t k => p1 t (st2 t k)
  have p4 : ∀ t, own_W p e below m T2 5 #[.val (.ref x0), .val (.ref x1)] [(.ref x0), (.ref tb)] t → Steps p.tables e below S0 t := fun t k => p3 t (by
    show own_W p e below m T2 4 #[.val (.ref x0), .val (.ref x1)] [(.ref tb)] _
    refine XS.aloadN X2.here hx rfl (hb hby dfet_4) rfl rfl ?_
    exact k)
  obtain ⟨T5, X5, e5, st5⟩ := getF X2 hx hZ hown (host := "") (Or.inl (hw _ (List.mem_of_getElem? (i := 29) rfl))) Via.refl e2 Fb0 (g := (mkF m 5 #[.val (.ref x0), .val (.ref x1)] [(.ref x0), (.ref tb)])) rfl rfl (hb hby dfet_5)
  have p6 : ∀ t, own_W p e below m T5 8 #[.val (.ref x0), .val (.ref x1)] [.null, (.ref tb)] t → Steps p.tables e below S0 t := fun t k => p4 t (st5 t k)
  have p7 : ∀ t, own_W p e below m T5 9 #[.val (.ref x0), .val (.ref x1)] [(.ref x1), .null, (.ref tb)] t → Steps p.tables e below S0 t := fun t k => p6 t (by
    show own_W p e below m T5 8 #[.val (.ref x0), .val (.ref x1)] [.null, (.ref tb)] _
    refine XS.aloadN X5.here hx rfl (hb hby dfet_8) rfl rfl ?_
    exact k)
  obtain ⟨_, _, ⟨T8, L8, k8, n8⟩, -, X8, ⟨Lc8, hQ8, l8, y8, z8⟩, st8⟩ := Jvm.LawKit.callS X5 hx (y := (⟨"com/example/kinwarden/kinwarden/IntMap", "forEach", "([I[ILcom/example/kinwarden/kinwarden/IntMap$EntryConsumer;)V"⟩ : MethodName)) hown (mvT hZ (hw _ (List.mem_of_getElem? (i := 105) rfl))) (mvT hZ (hw _ (List.mem_of_getElem? (i := 106) rfl))) (mvT hZ (hw _ (List.mem_of_getElem? (i := 3) rfl))) (mvT hZ (hw _ (List.mem_of_getElem? (i := 107) rfl))) (by decide) (own_backOfH (W := 0) (rmfst l Z a0 hw [] tb x1 kt vv cK fr nb kn sz hi lv hv vs h0 n0 Z0 hLZ V0 HC E0 Ft Fb Fs Fh Fl Fv VN gf gb nfb n0f n0b n2f n2b) hZ hH (hw _ (List.mem_of_getElem? (i := 107) rfl)) (hw _ (List.mem_of_getElem? (i := 3) rfl)) (by decide) (by decide)) (g := (mkF m 9 #[.val (.ref x0), .val (.ref x1)] [(.ref x1), .null, (.ref tb)])) rfl (by rw [hml]; rfl) (argsL := [(.ref tb), .null, (.ref x1)]) (rest := []) (lenOf pdfet_0 rfl) rfl (by show 2 * 0 + _ ≤ _; exact Nat.le_of_eq rfl) (hb hby dfet_9) (fun _ _ => ⟨rfl, e5, (by decide : 0 + 0 ≤ _), (by decide : 0 + 0 ≤ _)⟩)
  dsimp only [Pt.U, Pt.locs, Pt.cells, Pt.slots] at X8 l8 y8 z8 st8 hQ8
  subst l8 y8 z8
  obtain ⟨rfl, Nq8, K8, HQ8⟩ := hQ8
  have N8 := Fr.app N0 Nq8
  have Z8 := Nat.le_trans Z0 K8.1
  have KK8 := K0.trans K8 (allS (Or.inl (List.mem_cons_self ..)) (allS (Or.inl (List.mem_cons_of_mem _ (List.mem_singleton.mpr rfl))) all0))
  have p9 : ∀ t, own_W p e below m T8 12 #[.val (.ref x0), .val (.ref x1)] [] t → Steps p.tables e below S0 t := fun t k => p7 t (st8 _ k)
  subst hS0
  obtain ⟨fs, hr, hrun, hended, hW, hsame⟩ := X8.leave (v := none) (fun _ => rfl)
  refine ⟨_, _, p9 _ ?_, hrun, hended, _, _, rfl, ?_, ⟨_, rfl⟩, hW, hsame.mono (by decide) (by decide)⟩
  · show own_W p e below m T8 12 #[.val (.ref x0), .val (.ref x1)] [] _
    exact X8.returnOut hx Bd.returns (hb hby dfet_12) hr
  · show Qfet Z x0 x1 tb kt vv cK fr nb kn sz hi lv hv vs h0 n0 _ T8.heap _
    skip
    exact ⟨rfl, N8, KK8, HQ8⟩
theorem dmvt_0 : decode prog_53_method_13_code 0 = .ok (.iload_n 2, 1) := by decide +kernel
theorem dmvt_1 : decode prog_53_method_13_code 1 = .ok (.i2l, 1) := by decide +kernel
theorem dmvt_2 : decode prog_53_method_13_code 2 = .ok (.invokestatic 52, 3) := by decide +kernel
theorem dmvt_5 : decode prog_53_method_13_code 5 = .ok (.lstore_n 3, 1) := by decide +kernel
theorem dmvt_6 : decode prog_53_method_13_code 6 = .ok (.iload_n 1, 1) := by decide +kernel
theorem dmvt_7 : decode prog_53_method_13_code 7 = .ok (.i2l, 1) := by decide +kernel
theorem dmvt_8 : decode prog_53_method_13_code 8 = .ok (.lconst 1, 1) := by decide +kernel
theorem dmvt_9 : decode prog_53_method_13_code 9 = .ok (.ladd, 1) := by decide +kernel
theorem dmvt_10 : decode prog_53_method_13_code 10 = .ok (.aload_n 0, 1) := by decide +kernel
theorem dmvt_11 : decode prog_53_method_13_code 11 = .ok (.getfield 30, 3) := by decide +kernel
theorem dmvt_14 : decode prog_53_method_13_code 14 = .ok (.ifnonnull 7, 3) := by decide +kernel
theorem dmvt_17 : decode prog_53_method_13_code 17 = .ok (.lconst 0, 1) := by decide +kernel
theorem dmvt_18 : decode prog_53_method_13_code 18 = .ok (.goto 13, 3) := by decide +kernel
theorem dmvt_31 : decode prog_53_method_13_code 31 = .ok (.invokestatic 93, 3) := by decide +kernel
theorem dmvt_34 : decode prog_53_method_13_code 34 = .ok (.lstore 5, 2) := by decide +kernel
theorem dmvt_36 : decode prog_53_method_13_code 36 = .ok (.lload 5, 2) := by decide +kernel
theorem dmvt_38 : decode prog_53_method_13_code 38 = .ok (.ldc2_w 91, 3) := by decide +kernel
theorem dmvt_41 : decode prog_53_method_13_code 41 = .ok (.lload_n 3, 1) := by decide +kernel
theorem dmvt_42 : decode prog_53_method_13_code 42 = .ok (.lmul, 1) := by decide +kernel
theorem dmvt_43 : decode prog_53_method_13_code 43 = .ok (.lcmp, 1) := by decide +kernel
theorem dmvt_44 : decode prog_53_method_13_code 44 = .ok (.ifCond .gt 22, 3) := by decide +kernel
theorem dmvt_66 : decode prog_53_method_13_code 66 = .ok (.new 1, 3) := by decide +kernel
theorem dmvt_69 : decode prog_53_method_13_code 69 = .ok (.dup, 1) := by decide +kernel
theorem dmvt_70 : decode prog_53_method_13_code 70 = .ok (.ldc2_w 91, 3) := by decide +kernel
theorem dmvt_73 : decode prog_53_method_13_code 73 = .ok (.lload_n 3, 1) := by decide +kernel
theorem dmvt_74 : decode prog_53_method_13_code 74 = .ok (.lmul, 1) := by decide +kernel
theorem dmvt_75 : decode prog_53_method_13_code 75 = .ok (.invokestatic 96, 3) := by decide +kernel
theorem dmvt_78 : decode prog_53_method_13_code 78 = .ok (.invokestatic 3, 3) := by decide +kernel
theorem dmvt_81 : decode prog_53_method_13_code 81 = .ok (.aconst_null, 1) := by decide +kernel
theorem dmvt_82 : decode prog_53_method_13_code 82 = .ok (.invokespecial 7, 3) := by decide +kernel
theorem dmvt_85 : decode prog_53_method_13_code 85 = .ok (.astore 7, 2) := by decide +kernel
theorem dmvt_87 : decode prog_53_method_13_code 87 = .ok (.aload_n 0, 1) := by decide +kernel
theorem dmvt_88 : decode prog_53_method_13_code 88 = .ok (.aload 7, 2) := by decide +kernel
theorem dmvt_90 : decode prog_53_method_13_code 90 = .ok (.dup, 1) := by decide +kernel
theorem dmvt_91 : decode prog_53_method_13_code 91 = .ok (.invokestatic 100, 3) := by decide +kernel
theorem dmvt_94 : decode prog_53_method_13_code 94 = .ok (.pop, 1) := by decide +kernel
theorem dmvt_95 : decode prog_53_method_13_code 95 = .ok (.invokedynamic 106, 5) := by decide +kernel
theorem dmvt_100 : decode prog_53_method_13_code 100 = .ok (.invokevirtual 110, 3) := by decide +kernel
theorem dmvt_103 : decode prog_53_method_13_code 103 = .ok (.aload_n 0, 1) := by decide +kernel
theorem dmvt_104 : decode prog_53_method_13_code 104 = .ok (.aload 7, 2) := by decide +kernel
theorem dmvt_106 : decode prog_53_method_13_code 106 = .ok (.getfield 26, 3) := by decide +kernel
theorem dmvt_109 : decode prog_53_method_13_code 109 = .ok (.putfield 26, 3) := by decide +kernel
theorem dmvt_112 : decode prog_53_method_13_code 112 = .ok (.aload_n 0, 1) := by decide +kernel
theorem dmvt_113 : decode prog_53_method_13_code 113 = .ok (.aload 7, 2) := by decide +kernel
theorem dmvt_115 : decode prog_53_method_13_code 115 = .ok (.getfield 30, 3) := by decide +kernel
theorem dmvt_118 : decode prog_53_method_13_code 118 = .ok (.putfield 30, 3) := by decide +kernel
theorem dmvt_121 : decode prog_53_method_13_code 121 = .ok (.aload_n 0, 1) := by decide +kernel
theorem dmvt_122 : decode prog_53_method_13_code 122 = .ok (.aload 7, 2) := by decide +kernel
theorem dmvt_124 : decode prog_53_method_13_code 124 = .ok (.getfield 43, 3) := by decide +kernel
theorem dmvt_127 : decode prog_53_method_13_code 127 = .ok (.putfield 43, 3) := by decide +kernel
theorem dmvt_130 : decode prog_53_method_13_code 130 = .ok (.aload_n 0, 1) := by decide +kernel
theorem dmvt_131 : decode prog_53_method_13_code 131 = .ok (.aload 7, 2) := by decide +kernel
theorem dmvt_133 : decode prog_53_method_13_code 133 = .ok (.getfield 16, 3) := by decide +kernel
theorem dmvt_136 : decode prog_53_method_13_code 136 = .ok (.putfield 16, 3) := by decide +kernel
theorem dmvt_139 : decode prog_53_method_13_code 139 = .ok (.aload_n 0, 1) := by decide +kernel
theorem dmvt_140 : decode prog_53_method_13_code 140 = .ok (.aload 7, 2) := by decide +kernel
theorem dmvt_142 : decode prog_53_method_13_code 142 = .ok (.getfield 20, 3) := by decide +kernel
theorem dmvt_145 : decode prog_53_method_13_code 145 = .ok (.putfield 20, 3) := by decide +kernel
theorem dmvt_148 : decode prog_53_method_13_code 148 = .ok (.aload_n 0, 1) := by decide +kernel
theorem dmvt_149 : decode prog_53_method_13_code 149 = .ok (.aload 7, 2) := by decide +kernel
theorem dmvt_151 : decode prog_53_method_13_code 151 = .ok (.getfield 23, 3) := by decide +kernel
theorem dmvt_154 : decode prog_53_method_13_code 154 = .ok (.putfield 23, 3) := by decide +kernel
theorem dmvt_157 : decode prog_53_method_13_code 157 = .ok (.return_, 1) := by decide +kernel
theorem pnmvt : plainName "com/example/kinwarden/kinwarden/IntMap" = true := by first | (simp [plainName, overriddenIn]; done) | decide +kernel
theorem pdmvt_0 : parseMethodDescriptor "(J)J" = some ⟨[.long], some .long⟩ := by decide +kernel
theorem pdmvt_1 : parseMethodDescriptor "(JJ)J" = some ⟨[.long, .long], some .long⟩ := by decide +kernel
theorem pdmvt_2 : parseMethodDescriptor "(J)I" = some ⟨[.long], some .int⟩ := by decide +kernel
theorem pdmvt_3 : parseMethodDescriptor "(I)[I" = some ⟨[.int], some (.array .int)⟩ := by decide +kernel
theorem pdmvt_4 : parseMethodDescriptor "([I[I)V" = some ⟨[(.array .int), (.array .int)], none⟩ := by decide +kernel
theorem pdmvt_5 : parseMethodDescriptor "(Ljava/lang/Object;)Ljava/lang/Object;" = some ⟨[(.object "java/lang/Object")], some (.object "java/lang/Object")⟩ := by decide +kernel
theorem pdmvt_6 : parseMethodDescriptor "(Lcom/example/kinwarden/kinwarden/IntMap$EntryConsumer;)V" = some ⟨[(.object "com/example/kinwarden/kinwarden/IntMap$EntryConsumer")], none⟩ := by decide +kernel
theorem efmvt (m : MethodId) (x0 : Addr) (x1 : Int32) : entryFrame m #[(.ref x0), (.int x1), (.int (7 : Int32))] 8 = mkF m 0 #[.val (.ref x0), .val (.int x1), .val (.int (7 : Int32)), .unset, .unset, .unset, .unset, .unset] [] := by first | (simp [entryFrame, mkF, argsToLocals, Value.category]; done) | rfl
def Qmvt (Z : State) (x0 : Addr) (x1 : Int32) (tb : Addr) (kt : ClassId) (lv : Int32) (hv : Int32) (vv : Int32) (cK : ClassId) (h0 : Heap) (n0 : Nat) (v : Option Value) (h : Heap) (L : List Loc) : Prop := v = none ∧ Fr n0 L ∧ Keep h0 h [x0] ∧ ∃ (nb : Addr) (kn : ClassId) (N : Int32), h0.size ≤ nb ∧ N = (32 : Int32) ∧ ∃ (sz' hi' lv' hv' : Int32) (vs' : List Value), Exa Z h x0 "com/example/kinwarden/kinwarden/IntMap" ∧ Fld Z h x0 "com/example/kinwarden/kinwarden/IntMap" "table" "[I" (.ref nb) ∧ Fld Z h x0 "com/example/kinwarden/kinwarden/IntMap" "byKey" "[I" .null ∧ Fld Z h x0 "com/example/kinwarden/kinwarden/IntMap" "size" "I" (.int sz') ∧ Fld Z h x0 "com/example/kinwarden/kinwarden/IntMap" "highest" "I" (.int hi') ∧ Fld Z h x0 "com/example/kinwarden/kinwarden/IntMap" "lowestValue" "I" (.int lv') ∧ Fld Z h x0 "com/example/kinwarden/kinwarden/IntMap" "highestValue" "I" (.int hv') ∧ Arv Z h nb kn .int N vs' (.int (0 : Int32))
set_option maxRecDepth 65536 in
set_option maxHeartbeats 40000000 in
theorem rmmvt (l : Launch) (Z : State) (a0 : Array Value) (hw : ∀ d ∈ tables_1, d.before a0 Z = true) (ws : List Jvm.Cond) (x0 : Addr) (x1 : Int32) (tb : Addr) (kt : ClassId) (lv : Int32) (hv : Int32) (vv : Int32) (cK : ClassId) (h0 : Heap) (n0 : Nat) (Z0 : n0 ≤ h0.size) (E0 : Exa Z h0 x0 "com/example/kinwarden/kinwarden/IntMap") (Ft : Fld Z h0 x0 "com/example/kinwarden/kinwarden/IntMap" "table" "[I" (.ref tb)) (Fb : Fld Z h0 x0 "com/example/kinwarden/kinwarden/IntMap" "byKey" "[I" .null) (Fs : Fld Z h0 x0 "com/example/kinwarden/kinwarden/IntMap" "size" "I" (.int (6 : Int32))) (Fh : Fld Z h0 x0 "com/example/kinwarden/kinwarden/IntMap" "highest" "I" (.int (5 : Int32))) (Fl : Fld Z h0 x0 "com/example/kinwarden/kinwarden/IntMap" "lowestValue" "I" (.int lv)) (Fv : Fld Z h0 x0 "com/example/kinwarden/kinwarden/IntMap" "highestValue" "I" (.int hv)) (V0 : Arv Z h0 tb kt .int (16 : Int32) (own_T6 vv) (.int (0 : Int32))) (g0 : n0 ≤ x0) (nx : x0 ≠ tb) (hLZ : own_LZ Z cK) (h6 : ¬ x1 < (6 : Int32)) (h32 : ¬ x1.toInt + 1 ≤ 32) :
    MetFree l (⟨"com/example/kinwarden/kinwarden/IntMap", "moveToRoomFor", "(II)V"⟩ : MethodName) (head1 (Jvm.Cond.code (⟨"com/example/kinwarden/kinwarden/IntMap", "moveToRoomFor", "(II)V"⟩ : MethodName) prog_53_method_13_code 8 none :: ws) ({ frames := 6, cells := 3, slots := 39, locals := 3074 } : Room)) (fun a U => a = #[(.ref x0), (.int x1), (.int (7 : Int32))] ∧ Z.Warmed39 U.vm ∧ U.heap = h0 ∧ Z.WarmedH U.vm) (fun _ _ _ _ _ => True) (fun _ U o U' => ∃ v L, o = .returned v ∧ Qmvt Z x0 x1 tb kt lv hv vv cK h0 n0 v U'.heap L ∧ FrameEnd U o U' L ({ frames := 6, cells := 3, slots := 39, locals := 3074 } : Room).cells ({ frames := 6, cells := 3, slots := 39, locals := 3074 } : Room).slots) := by
  refine MetFree.of_bodySF (plainFor_of_name pnmvt) hisR ?_
  intro p e s m args below meth c s₁ Bd hml0 hP hK
  obtain ⟨rfl, hZ, hh, hH⟩ := hP
  have hx := Bd.exec
  have hby := Bd.bytes
  have hml : c.maxLocals = 8 := hml0
  have hown : s.vm.findClass "com/example/kinwarden/kinwarden/IntMap" = some m.cls := findClass_of_methodNamed Bd.named
  have hnm := (name_of_methodNamed Bd.named Bd.method).1
  have X0 : Stand p l e ({ frames := 6, cells := 3, slots := 39, locals := 3074 } : Room) s m #[(.ref x0), (.int x1), (.int (7 : Int32))] below meth c s₁ [] 0 0 := Stand.of_body Bd
  have e0 : s₁.heap = h0 := by rw [← hh, Bd.state]; rfl
  have N0 := Fr.nil n0
  have pre0 : ∀ t, Steps p.tables e below (s₁.setTop (mkF m 0 #[.val (.ref x0), .val (.int x1), .val (.int (7 : Int32)), .unset, .unset, .unset, .unset, .unset] [])) t → Steps p.tables e below (s₁.setTop (entryFrame m #[(.ref x0), (.int x1), (.int (7 : Int32))] 8)) t := fun t k => castTop (efmvt m x0 x1) k
  obtain ⟨S0, hS0⟩ : ∃ z, z = (s₁.setTop (entryFrame m #[(.ref x0), (.int x1), (.int (7 : Int32))] 8)) := ⟨_, rfl⟩
  rw [← hS0] at pre0
  have K0 := Keep.refl h0 [x0]
  obtain ⟨hx6, hw6⟩ := own_w6 h6
  have p1 : ∀ t, own_W p e below m s₁ 2 #[.val (.ref x0), .val (.int x1), .val (.int (7 : Int32)), .unset, .unset, .unset, .unset, .unset] [(.long ((7 : Int32).toInt64))] t → Steps p.tables e below S0 t := fun t k => pre0 t (by
    show own_W p e below m s₁ 0 #[.val (.ref x0), .val (.int x1), .val (.int (7 : Int32)), .unset, .unset, .unset, .unset, .unset] [] _
    refine XS.iloadN X0.here hx rfl (hb hby dmvt_0) rfl ?_
    refine XS.i2l X0.here hx rfl (hb hby dmvt_1) rfl ?_
    exact k)
  have p2 : ∀ t, own_W p e below m s₁ 2 #[.val (.ref x0), .val (.int x1), .val (.int (7 : Int32)), .unset, .unset, .unset, .unset, .unset] [(.long (7 : Int64))] t → Steps p.tables e below S0 t := by
    have k := p1
    rw [show ((7 : Int32).toInt64) = (7 : Int64) from by decide] at k
    exact k
  obtain ⟨_, _, ⟨T3, L3, k3, n3⟩, -, X3, ⟨Lc3, hQ3, l3, y3, z3⟩, st3⟩ := Jvm.LawKit.callS X0 hx (y := (⟨"com/example/kinwarden/kinwarden/IntMap", "slotsFor", "(J)J"⟩ : MethodName)) hown (mvT hZ (hw _ (List.mem_of_getElem? (i := 79) rfl))) (mvT hZ (hw _ (List.mem_of_getElem? (i := 80) rfl))) (mvT hZ (hw _ (List.mem_of_getElem? (i := 3) rfl))) (mvT hZ (hw _ (List.mem_of_getElem? (i := 81) rfl))) (by decide) (backOf (W := 0) (rmsf l Z a0 hw []   h0 n0 Z0 ) hZ (hw _ (List.mem_of_getElem? (i := 81) rfl)) (hw _ (List.mem_of_getElem? (i := 3) rfl)) (by decide) (by decide)) (g := (mkF m 2 #[.val (.ref x0), .val (.int x1), .val (.int (7 : Int32)), .unset, .unset, .unset, .unset, .unset] [(.long (7 : Int64))])) rfl (by rw [hml]; rfl) (argsL := [(.long (7 : Int64))]) (rest := []) (lenOf pdmvt_0 rfl) rfl (by show 2 * 0 + _ ≤ _; exact Nat.le_of_eq rfl) (hb hby dmvt_2) (fun _ _ => ⟨rfl, e0, (by decide : 0 + 0 ≤ _), (by decide : 0 + 0 ≤ _)⟩)
  dsimp only [Pt.U, Pt.locs, Pt.cells, Pt.slots] at X3 l3 y3 z3 st3 hQ3
  subst l3 y3 z3
  obtain ⟨rfl, Nq3, e3⟩ := hQ3
  have N3 := Fr.app N0 Nq3
  have p4 : ∀ t, own_W p e below m T3 5 #[.val (.ref x0), .val (.int x1), .val (.int (7 : Int32)), .unset, .unset, .unset, .unset, .unset] [(.long (16 : Int64))] t → Steps p.tables e below S0 t := fun t k => p2 t (st3 _ k)
  have p5 : ∀ t, own_W p e below m T3 11 #[.val (.ref x0), .val (.int x1), .val (.int (7 : Int32)), .val (.long (16 : Int64)), .second, .unset, .unset, .unset] [(.ref x0), (.long ((x1.toInt64) + (1 : Int64)))] t → Steps p.tables e below S0 t := fun t k => p4 t (by
    show own_W p e below m T3 5 #[.val (.ref x0), .val (.int x1), .val (.int (7 : Int32)), .unset, .unset, .unset, .unset, .unset] [(.long (16 : Int64))] _
    refine XS.lstoreN X3.here hx rfl (hb hby dmvt_5) rfl (l' := #[.val (.ref x0), .val (.int x1), .val (.int (7 : Int32)), .val (.long (16 : Int64)), .second, .unset, .unset, .unset]) rfl ?_
    refine XS.iloadN X3.here hx rfl (hb hby dmvt_6) rfl ?_
    refine XS.i2l X3.here hx rfl (hb hby dmvt_7) rfl ?_
    refine XS.lconst X3.here hx rfl (hb hby dmvt_8) ?_
    refine XS.ladd X3.here hx rfl (hb hby dmvt_9) rfl ?_
    refine XS.aloadN X3.here hx rfl (hb hby dmvt_10) rfl rfl ?_
    exact k)
  obtain ⟨T6, X6, e6, st6⟩ := getF X3 hx hZ hown (host := "") (Or.inl (hw _ (List.mem_of_getElem? (i := 29) rfl))) Via.refl e3 Fb (g := (mkF m 11 #[.val (.ref x0), .val (.int x1), .val (.int (7 : Int32)), .val (.long (16 : Int64)), .second, .unset, .unset, .unset] [(.ref x0), (.long ((x1.toInt64) + (1 : Int64)))])) rfl rfl (hb hby dmvt_11)
  have p7 : ∀ t, own_W p e below m T6 14 #[.val (.ref x0), .val (.int x1), .val (.int (7 : Int32)), .val (.long (16 : Int64)), .second, .unset, .unset, .unset] [.null, (.long ((x1.toInt64) + (1 : Int64)))] t → Steps p.tables e below S0 t := fun t k => p5 t (st6 t k)
  obtain ⟨wl, hwl⟩ : ∃ z : Int64, z = ((x1.toInt64) + (1 : Int64)) := ⟨_, rfl⟩
  have p8 : ∀ t, own_W p e below m T6 31 #[.val (.ref x0), .val (.int x1), .val (.int (7 : Int32)), .val (.long (16 : Int64)), .second, .unset, .unset, .unset] [(.long (0 : Int64)), (.long ((x1.toInt64) + (1 : Int64)))] t → Steps p.tables e below S0 t := fun t k => p7 t (by
    show own_W p e below m T6 14 #[.val (.ref x0), .val (.int x1), .val (.int (7 : Int32)), .val (.long (16 : Int64)), .second, .unset, .unset, .unset] [.null, (.long ((x1.toInt64) + (1 : Int64)))] _
    refine XS.ifnonnullNo X6.here hx rfl (hb hby dmvt_14) rfl ?_
    refine XS.lconst X6.here hx rfl (hb hby dmvt_17) ?_
    refine XS.goto X6.here hx rfl (pc0 := 18) (pc' := 31) rfl (hb hby dmvt_18) (by decide) (by decide) ?_
    exact k)
  obtain ⟨_, _, ⟨T9, L9, k9, n9⟩, -, X9, ⟨Lc9, hQ9, l9, y9, z9⟩, st9⟩ := Jvm.LawKit.callS X6 hx (y := (⟨"java/lang/Math", "max", "(JJ)J"⟩ : MethodName)) hown (mvT hZ (hw _ (List.mem_of_getElem? (i := 85) rfl))) (mvT hZ (hw _ (List.mem_of_getElem? (i := 86) rfl))) (mvT hZ (hw _ (List.mem_of_getElem? (i := 69) rfl))) (mvT hZ (hw _ (List.mem_of_getElem? (i := 87) rfl))) (by decide) (backOf (W := 0) (rmmjl l Z a0 hw [] ((x1.toInt64) + (1 : Int64)) (0 : Int64)  h0 n0 Z0 (own_wmax h6 rfl)) hZ (hw _ (List.mem_of_getElem? (i := 87) rfl)) (hw _ (List.mem_of_getElem? (i := 69) rfl)) (by decide) (by decide)) (g := (mkF m 31 #[.val (.ref x0), .val (.int x1), .val (.int (7 : Int32)), .val (.long (16 : Int64)), .second, .unset, .unset, .unset] [(.long (0 : Int64)), (.long ((x1.toInt64) + (1 : Int64)))])) rfl (by rw [hml]; rfl) (argsL := [(.long ((x1.toInt64) + (1 : Int64))), (.long (0 : Int64))]) (rest := []) (lenOf pdmvt_1 rfl) rfl (by show 2 * 0 + _ ≤ _; exact Nat.le_of_eq rfl) (hb hby dmvt_31) (fun _ _ => ⟨rfl, e6, (by decide : 0 + 0 ≤ _), (by decide : 0 + 0 ≤ _)⟩)
  dsimp only [Pt.U, Pt.locs, Pt.cells, Pt.slots] at X9 l9 y9 z9 st9 hQ9
  subst l9 y9 z9
  obtain ⟨rfl, Nq9, e9⟩ := hQ9
  have N9 := Fr.app N3 Nq9
  have p10 : ∀ t, own_W p e below m T9 34 #[.val (.ref x0), .val (.int x1), .val (.int (7 : Int32)), .val (.long (16 : Int64)), .second, .unset, .unset, .unset] [(.long ((x1.toInt64) + (1 : Int64)))] t → Steps p.tables e below S0 t := fun t k => p8 t (st9 _ k)
  have p11 : ∀ t, own_W p e below m T9 36 #[.val (.ref x0), .val (.int x1), .val (.int (7 : Int32)), .val (.long (16 : Int64)), .second, .val (.long ((x1.toInt64) + (1 : Int64))), .second, .unset] [] t → Steps p.tables e below S0 t := fun t k => p10 t (by
    show own_W p e below m T9 34 #[.val (.ref x0), .val (.int x1), .val (.int (7 : Int32)), .val (.long (16 : Int64)), .second, .unset, .unset, .unset] [(.long ((x1.toInt64) + (1 : Int64)))] _
    refine XS.lstore X9.here hx rfl (hb hby dmvt_34) rfl (l' := #[.val (.ref x0), .val (.int x1), .val (.int (7 : Int32)), .val (.long (16 : Int64)), .second, .val (.long ((x1.toInt64) + (1 : Int64))), .second, .unset]) rfl ?_
    exact k)
  obtain ⟨wk, hwk⟩ : ∃ z : Int64, z = ((x1.toInt64) + (1 : Int64)) := ⟨_, rfl⟩
  have p12 : ∀ t, own_W p e below m T9 36 #[.val (.ref x0), .val (.int x1), .val (.int (7 : Int32)), .val (.long (16 : Int64)), .second, .val (.long wk), .second, .unset] [] t → Steps p.tables e below S0 t := by
    intro t k; subst hwk; exact p11 t k
  rw [← hwk] at hw6
  have p13 : ∀ t, own_W p e below m T9 66 #[.val (.ref x0), .val (.int x1), .val (.int (7 : Int32)), .val (.long (16 : Int64)), .second, .val (.long wk), .second, .unset] [] t → Steps p.tables e below S0 t := fun t k => p12 t (by
    show own_W p e below m T9 36 #[.val (.ref x0), .val (.int x1), .val (.int (7 : Int32)), .val (.long (16 : Int64)), .second, .val (.long wk), .second, .unset] [] _
    refine XS.lload X9.here hx rfl (hb hby dmvt_36) rfl ?_
    show own_W p e below m T9 38 #[.val (.ref x0), .val (.int x1), .val (.int (7 : Int32)), .val (.long (16 : Int64)), .second, .val (.long wk), .second, .unset] [(.long wk)] _
    refine X9.ldc2Long hx hown (mvT hZ (hw _ (List.mem_of_getElem? (i := 84) rfl))) (g := (mkF m 38 #[.val (.ref x0), .val (.int x1), .val (.int (7 : Int32)), .val (.long (16 : Int64)), .second, .val (.long wk), .second, .unset] [(.long wk)])) rfl (hb hby dmvt_38) _ ?_
    refine XS.lloadN X9.here hx rfl (hb hby dmvt_41) rfl ?_
    refine XS.lmul X9.here hx rfl (hb hby dmvt_42) rfl ?_
    refine XS.lcmp X9.here hx rfl (hb hby dmvt_43) rfl ?_
    refine XS.ifYes X9.here hx rfl (pc0 := 44) (pc' := 66) rfl (hb hby dmvt_44) rfl ((if0 _ _).trans (tlt (own_w33 (by omega))).2.2.1) (by decide) (by decide) ?_
    exact k)
  obtain ⟨T14, h14, X14, e14, E14, A14, D14, -, st14⟩ := newO X9 hx hZ hown (hw _ (List.mem_of_getElem? (i := 88) rfl)) (hw _ (List.mem_of_getElem? (i := 2) rfl)) (hw _ (List.mem_of_getElem? (i := 3) rfl)) e9 (g := (mkF m 66 #[.val (.ref x0), .val (.int x1), .val (.int (7 : Int32)), .val (.long (16 : Int64)), .second, .val (.long wk), .second, .unset] [])) rfl (hb hby dmvt_66) (by decide) (by decide)
  obtain ⟨fr, g14⟩ : ∃ z, z = h0.size := ⟨_, rfl⟩
  rw [← g14] at A14 D14 st14
  have gn_fr : n0 ≤ fr := Nat.le_trans Z0 (Nat.le_of_eq g14.symm)
  have gk_fr : h0.size ≤ fr := Nat.le_trans K0.1 (Nat.le_of_eq g14.symm)
  have ne15 : tb ≠ fr := Nat.ne_of_lt (Nat.lt_of_lt_of_le V0.lt (Nat.le_of_eq g14.symm))
  have ne16 : x0 ≠ fr := Nat.ne_of_lt (Nat.lt_of_lt_of_le E0.lt (Nat.le_of_eq g14.symm))
  have f17 := E0.ext E14
  have f18 := Ft.ext E14
  have f19 := Fb.ext E14
  have f20 := Fs.ext E14
  have f21 := Fh.ext E14
  have f22 := Fl.ext E14
  have f23 := Fv.ext E14
  have f24 := V0.ext E14
  have Z14 := Nat.le_trans Z0 E14.1
  have KK14 := K0.ext E14
  have f25 : Fld Z h14 fr "com/example/kinwarden/kinwarden/IntMap" "highest" "I" (.int (0 : Int32)) := D14 (Or.inl (hw _ (List.mem_of_getElem? (i := 22) rfl))) (ty := .int) (by decide)
  have f26 : Fld Z h14 fr "com/example/kinwarden/kinwarden/IntMap" "lowestValue" "I" (.int (0 : Int32)) := D14 (Or.inl (hw _ (List.mem_of_getElem? (i := 24) rfl))) (ty := .int) (by decide)
  have f27 : Fld Z h14 fr "com/example/kinwarden/kinwarden/IntMap" "highestValue" "I" (.int (0 : Int32)) := D14 (Or.inl (hw _ (List.mem_of_getElem? (i := 26) rfl))) (ty := .int) (by decide)
  have f28 : Fld Z h14 fr "com/example/kinwarden/kinwarden/IntMap" "table" "[I" .null := D14 (Or.inl (hw _ (List.mem_of_getElem? (i := 28) rfl))) (ty := (.array .int)) (by decide)
  have f29 : Fld Z h14 fr "com/example/kinwarden/kinwarden/IntMap" "byKey" "[I" .null := D14 (Or.inl (hw _ (List.mem_of_getElem? (i := 30) rfl))) (ty := (.array .int)) (by decide)
  have f30 : Fld Z h14 fr "com/example/kinwarden/kinwarden/IntMap" "size" "I" (.int (0 : Int32)) := D14 (Or.inl (hw _ (List.mem_of_getElem? (i := 62) rfl))) (ty := .int) (by decide)
  have p31 : ∀ t, own_W p e below m T14 69 #[.val (.ref x0), .val (.int x1), .val (.int (7 : Int32)), .val (.long (16 : Int64)), .second, .val (.long wk), .second, .unset] [(.ref fr)] t → Steps p.tables e below S0 t := fun t k => p13 t (st14 t k)
  have p32 : ∀ t, own_W p e below m T14 75 #[.val (.ref x0), .val (.int x1), .val (.int (7 : Int32)), .val (.long (16 : Int64)), .second, .val (.long wk), .second, .unset] [(.long ((2 : Int64) * (16 : Int64))), (.ref fr), (.ref fr)] t → Steps p.tables e below S0 t := fun t k => p31 t (by
    show own_W p e below m T14 69 #[.val (.ref x0), .val (.int x1), .val (.int (7 : Int32)), .val (.long (16 : Int64)), .second, .val (.long wk), .second, .unset] [(.ref fr)] _
    refine XS.dup X14.here hx rfl (hb hby dmvt_69) rfl rfl ?_
    show own_W p e below m T14 70 #[.val (.ref x0), .val (.int x1), .val (.int (7 : Int32)), .val (.long (16 : Int64)), .second, .val (.long wk), .second, .unset] [(.ref fr), (.ref fr)] _
    refine X14.ldc2Long hx hown (mvT hZ (hw _ (List.mem_of_getElem? (i := 84) rfl))) (g := (mkF m 70 #[.val (.ref x0), .val (.int x1), .val (.int (7 : Int32)), .val (.long (16 : Int64)), .second, .val (.long wk), .second, .unset] [(.ref fr), (.ref fr)])) rfl (hb hby dmvt_70) _ ?_
    refine XS.lloadN X14.here hx rfl (hb hby dmvt_73) rfl ?_
    refine XS.lmul X14.here hx rfl (hb hby dmvt_74) rfl ?_
    exact k)
  have p33 : ∀ t, own_W p e below m T14 75 #[.val (.ref x0), .val (.int x1), .val (.int (7 : Int32)), .val (.long (16 : Int64)), .second, .val (.long wk), .second, .unset] [(.long (32 : Int64)), (.ref fr), (.ref fr)] t → Steps p.tables e below S0 t := by
    have k := p32
    rw [show ((2 : Int64) * (16 : Int64)) = (32 : Int64) from by decide] at k
    exact k
  obtain ⟨_, _, ⟨T34, L34, k34, n34⟩, -, X34, ⟨Lc34, hQ34, l34, y34, z34⟩, st34⟩ := Jvm.LawKit.callS X14 hx (y := (⟨"java/lang/Math", "toIntExact", "(J)I"⟩ : MethodName)) hown (mvT hZ (hw _ (List.mem_of_getElem? (i := 89) rfl))) (mvT hZ (hw _ (List.mem_of_getElem? (i := 90) rfl))) (mvT hZ (hw _ (List.mem_of_getElem? (i := 69) rfl))) (mvT hZ (hw _ (List.mem_of_getElem? (i := 91) rfl))) (by decide) (backOf (W := 2) (rmtie l Z a0 hw [] (32 : Int64)  h14 n0 Z14 (by decide)) hZ (hw _ (List.mem_of_getElem? (i := 91) rfl)) (hw _ (List.mem_of_getElem? (i := 69) rfl)) (by decide) (by decide)) (g := (mkF m 75 #[.val (.ref x0), .val (.int x1), .val (.int (7 : Int32)), .val (.long (16 : Int64)), .second, .val (.long wk), .second, .unset] [(.long (32 : Int64)), (.ref fr), (.ref fr)])) rfl (by rw [hml]; rfl) (argsL := [(.long (32 : Int64))]) (rest := [(.ref fr), (.ref fr)]) (lenOf pdmvt_2 rfl) rfl (by show 2 * 0 + _ ≤ _; exact Nat.le_of_eq rfl) (hb hby dmvt_75) (fun _ _ => ⟨rfl, e14, (by decide : 1 + 0 ≤ _), (by decide : 6 + 0 ≤ _)⟩)
  dsimp only [Pt.U, Pt.locs, Pt.cells, Pt.slots] at X34 l34 y34 z34 st34 hQ34
  subst l34 y34 z34
  obtain ⟨rfl, Nq34, e34⟩ := hQ34
  have N34 := Fr.app N9 Nq34
  have p35 : ∀ t, own_W p e below m T34 78 #[.val (.ref x0), .val (.int x1), .val (.int (7 : Int32)), .val (.long (16 : Int64)), .second, .val (.long wk), .second, .unset] [(.int ((32 : Int64).toInt32)), (.ref fr), (.ref fr)] t → Steps p.tables e below S0 t := fun t k => p33 t (st34 _ k)
  have p36 : ∀ t, own_W p e below m T34 78 #[.val (.ref x0), .val (.int x1), .val (.int (7 : Int32)), .val (.long (16 : Int64)), .second, .val (.long wk), .second, .unset] [(.int (32 : Int32)), (.ref fr), (.ref fr)] t → Steps p.tables e below S0 t := by
    have k := p35
    rw [show ((32 : Int64).toInt32) = (32 : Int32) from by decide] at k
    exact k
  obtain ⟨_, _, ⟨T37, L37, k37, n37⟩, -, X37, ⟨Lc37, hQ37, l37, y37, z37⟩, st37⟩ := Jvm.LawKit.callS X34 hx (y := (⟨"com/example/kinwarden/kinwarden/IntMap", "emptyRoom", "(I)[I"⟩ : MethodName)) hown (mvT hZ (hw _ (List.mem_of_getElem? (i := 7) rfl))) (mvT hZ (hw _ (List.mem_of_getElem? (i := 8) rfl))) (mvT hZ (hw _ (List.mem_of_getElem? (i := 3) rfl))) (mvT hZ (hw _ (List.mem_of_getElem? (i := 9) rfl))) (by decide) (backOf (W := 2) (rmer l Z a0 hw [] (32 : Int32)  h14 n0 Z14 (by decide) (by decide)) hZ (hw _ (List.mem_of_getElem? (i := 9) rfl)) (hw _ (List.mem_of_getElem? (i := 3) rfl)) (by decide) (by decide)) (g := (mkF m 78 #[.val (.ref x0), .val (.int x1), .val (.int (7 : Int32)), .val (.long (16 : Int64)), .second, .val (.long wk), .second, .unset] [(.int (32 : Int32)), (.ref fr), (.ref fr)])) rfl (by rw [hml]; rfl) (argsL := [(.int (32 : Int32))]) (rest := [(.ref fr), (.ref fr)]) (lenOf pdmvt_3 rfl) rfl (by show 2 * 0 + _ ≤ _; exact Nat.le_of_eq rfl) (hb hby dmvt_78) (fun _ _ => ⟨rfl, e34, (by decide : 1 + 1 ≤ _), (by decide : 6 + 32 ≤ _)⟩)
  dsimp only [Pt.U, Pt.locs, Pt.cells, Pt.slots] at X37 l37 y37 z37 st37 hQ37
  subst l37 y37 z37
  obtain ⟨r37, kk37, ws37, rfl, Nq37, K37, gr37, VR37, hall37⟩ := hQ37
  have N37 := Fr.app N34 Nq37
  have f38 := f17.keep K37
  have f39 := f18.keep K37 nin0
  have f40 := f19.keep K37 nin0
  have f41 := f20.keep K37 nin0
  have f42 := f21.keep K37 nin0
  have f43 := f22.keep K37 nin0
  have f44 := f23.keep K37 nin0
  have f45 := f24.keep K37 nin0
  have f46 := A14.keep K37
  have f47 := f25.keep K37 nin0
  have f48 := f26.keep K37 nin0
  have f49 := f27.keep K37 nin0
  have f50 := f28.keep K37 nin0
  have f51 := f29.keep K37 nin0
  have f52 := f30.keep K37 nin0
  have Z37 := Nat.le_trans Z14 K37.1
  have KK37 := KK14.trans K37 (all0)
  have p53 : ∀ t, own_W p e below m T37 81 #[.val (.ref x0), .val (.int x1), .val (.int (7 : Int32)), .val (.long (16 : Int64)), .second, .val (.long wk), .second, .unset] [(.ref r37), (.ref fr), (.ref fr)] t → Steps p.tables e below S0 t := fun t k => p36 t (st37 _ k)
  have Zb37 := Z14
  have Kb37 := KK14
  have gn_r37 : n0 ≤ r37 := Nat.le_trans Zb37 gr37
  have gk_r37 : h0.size ≤ r37 := Nat.le_trans Kb37.1 gr37
  have ne_x0_r37 : x0 ≠ r37 := Nat.ne_of_lt (Nat.lt_of_lt_of_le f23.lt gr37)
  have ne_tb_r37 : tb ≠ r37 := Nat.ne_of_lt (Nat.lt_of_lt_of_le f24.lt gr37)
  have ne_fr_r37 : fr ≠ r37 := Nat.ne_of_lt (Nat.lt_of_lt_of_le f30.lt gr37)
  have p54 : ∀ t, own_W p e below m T37 82 #[.val (.ref x0), .val (.int x1), .val (.int (7 : Int32)), .val (.long (16 : Int64)), .second, .val (.long wk), .second, .unset] [.null, (.ref r37), (.ref fr), (.ref fr)] t → Steps p.tables e below S0 t := fun t k => p53 t (by
    show own_W p e below m T37 81 #[.val (.ref x0), .val (.int x1), .val (.int (7 : Int32)), .val (.long (16 : Int64)), .second, .val (.long wk), .second, .unset] [(.ref r37), (.ref fr), (.ref fr)] _
    refine XS.aconstNull X37.here hx rfl (hb hby dmvt_81) ?_
    exact k)
  obtain ⟨_, _, ⟨T55, L55, k55, n55⟩, -, X55, ⟨Lc55, hQ55, l55, y55, z55⟩, st55⟩ := X37.specialBack hx (y := (⟨"com/example/kinwarden/kinwarden/IntMap", "<init>", "([I[I)V"⟩ : MethodName)) rfl hown (mvT hZ (hw _ (List.mem_of_getElem? (i := 15) rfl))) (mvT hZ (hw _ (List.mem_of_getElem? (i := 16) rfl))) (mvT hZ (hw _ (List.mem_of_getElem? (i := 17) rfl))) (by decide) (backOf (W := 1) (rmin2t l Z a0 hw [] fr r37  T37.heap n0 Z37 f46 f47 f48 f49 f50 f51 f52 gn_fr) hZ (hw _ (List.mem_of_getElem? (i := 17) rfl)) (hw _ (List.mem_of_getElem? (i := 3) rfl)) (by decide) (by decide)) (g := (mkF m 82 #[.val (.ref x0), .val (.int x1), .val (.int (7 : Int32)), .val (.long (16 : Int64)), .second, .val (.long wk), .second, .unset] [.null, (.ref r37), (.ref fr), (.ref fr)])) rfl (by rw [hml]; rfl) (Steps.refl _) (a := fr) (argsL := [(.ref r37), .null]) (rest := [(.ref fr)]) (lenOf pdmvt_4 rfl) rfl (by show 2 * 0 + _ ≤ _; exact Nat.le_of_eq rfl) (hb hby dmvt_82) (fun _ _ => ⟨rfl, rfl, (by decide : 2 + 0 ≤ _), (by decide : 38 + 0 ≤ _)⟩)
  dsimp only [Pt.U, Pt.locs, Pt.cells, Pt.slots] at X55 l55 y55 z55 st55 hQ55
  subst l55 y55 z55
  obtain ⟨rfl, Nq55, K55, Fh55, Fl55, Fv55, Ft55, Fb55, Fs55⟩ := hQ55
  have N55 := Fr.app N37 Nq55
  have f56 := f38.keep K55
  have f57 := f39.keep K55 (ninS ne16 nin0)
  have f58 := f40.keep K55 (ninS ne16 nin0)
  have f59 := f41.keep K55 (ninS ne16 nin0)
  have f60 := f42.keep K55 (ninS ne16 nin0)
  have f61 := f43.keep K55 (ninS ne16 nin0)
  have f62 := f44.keep K55 (ninS ne16 nin0)
  have f63 := f45.keep K55 (ninS ne15 nin0)
  have f64 := f46.keep K55
  have f65 := VR37.keep K55 (ninS (Ne.symm ne_fr_r37) nin0)
  have Z55 := Nat.le_trans Z37 K55.1
  have KK55 := KK37.trans K55 (allS (Or.inr gk_fr) all0)
  have p66 : ∀ t, own_W p e below m T55 85 #[.val (.ref x0), .val (.int x1), .val (.int (7 : Int32)), .val (.long (16 : Int64)), .second, .val (.long wk), .second, .unset] [(.ref fr)] t → Steps p.tables e below S0 t := fun t k => p54 t (st55.trans k)
  have p67 : ∀ t, own_W p e below m T55 91 #[.val (.ref x0), .val (.int x1), .val (.int (7 : Int32)), .val (.long (16 : Int64)), .second, .val (.long wk), .second, .val (.ref fr)] [(.ref fr), (.ref fr), (.ref x0)] t → Steps p.tables e below S0 t := fun t k => p66 t (by
    show own_W p e below m T55 85 #[.val (.ref x0), .val (.int x1), .val (.int (7 : Int32)), .val (.long (16 : Int64)), .second, .val (.long wk), .second, .unset] [(.ref fr)] _
    refine XS.astore X55.here hx rfl (hb hby dmvt_85) rfl rfl (l' := #[.val (.ref x0), .val (.int x1), .val (.int (7 : Int32)), .val (.long (16 : Int64)), .second, .val (.long wk), .second, .val (.ref fr)]) rfl ?_
    refine XS.aloadN X55.here hx rfl (hb hby dmvt_87) rfl rfl ?_
    refine XS.aload X55.here hx rfl (hb hby dmvt_88) rfl rfl ?_
    refine XS.dup X55.here hx rfl (hb hby dmvt_90) rfl rfl ?_
    exact k)
  obtain ⟨_, _, ⟨T68, L68, k68, n68⟩, -, X68, ⟨Lc68, hQ68, l68, y68, z68⟩, st68⟩ := Jvm.LawKit.callS X55 hx (y := (⟨"java/util/Objects", "requireNonNull", "(Ljava/lang/Object;)Ljava/lang/Object;"⟩ : MethodName)) hown (mvT hZ (hw _ (List.mem_of_getElem? (i := 92) rfl))) (mvT hZ (hw _ (List.mem_of_getElem? (i := 93) rfl))) (mvT hZ (hw _ (List.mem_of_getElem? (i := 94) rfl))) (mvT hZ (hw _ (List.mem_of_getElem? (i := 95) rfl))) (by decide) (backOf (W := 2) (rmrnn l Z a0 hw [] fr  T55.heap n0 Z55 ) hZ (hw _ (List.mem_of_getElem? (i := 95) rfl)) (hw _ (List.mem_of_getElem? (i := 94) rfl)) (by decide) (by decide)) (g := (mkF m 91 #[.val (.ref x0), .val (.int x1), .val (.int (7 : Int32)), .val (.long (16 : Int64)), .second, .val (.long wk), .second, .val (.ref fr)] [(.ref fr), (.ref fr), (.ref x0)])) rfl (by rw [hml]; rfl) (argsL := [(.ref fr)]) (rest := [(.ref fr), (.ref x0)]) (lenOf pdmvt_5 rfl) rfl (by show 2 * 0 + _ ≤ _; exact Nat.le_of_eq rfl) (hb hby dmvt_91) (fun _ _ => ⟨rfl, rfl, (by decide : 2 + 0 ≤ _), (by decide : 38 + 0 ≤ _)⟩)
  dsimp only [Pt.U, Pt.locs, Pt.cells, Pt.slots] at X68 l68 y68 z68 st68 hQ68
  subst l68 y68 z68
  obtain ⟨rfl, Nq68, e68⟩ := hQ68
  have N68 := Fr.app N55 Nq68
  have p69 : ∀ t, own_W p e below m T68 94 #[.val (.ref x0), .val (.int x1), .val (.int (7 : Int32)), .val (.long (16 : Int64)), .second, .val (.long wk), .second, .val (.ref fr)] [(.ref fr), (.ref fr), (.ref x0)] t → Steps p.tables e below S0 t := fun t k => p67 t (st68 _ k)
  have p70 : ∀ t, own_W p e below m T68 95 #[.val (.ref x0), .val (.int x1), .val (.int (7 : Int32)), .val (.long (16 : Int64)), .second, .val (.long wk), .second, .val (.ref fr)] [(.ref fr), (.ref x0)] t → Steps p.tables e below S0 t := fun t k => p69 t (by
    show own_W p e below m T68 94 #[.val (.ref x0), .val (.int x1), .val (.int (7 : Int32)), .val (.long (16 : Int64)), .second, .val (.long wk), .second, .val (.ref fr)] [(.ref fr), (.ref fr), (.ref x0)] _
    refine XS.pop X68.here hx rfl (hb hby dmvt_94) rfl rfl ?_
    exact k)
  obtain ⟨X71, st71⟩ := own_site (a0 := a0) X68 hx hZ hH hw Bd.named hLZ (g := (mkF m 95 #[.val (.ref x0), .val (.int x1), .val (.int (7 : Int32)), .val (.long (16 : Int64)), .second, .val (.long wk), .second, .val (.ref fr)] [(.ref fr), (.ref x0)])) rfl rfl (by rw [hml]; rfl) (hb hby dmvt_95) (fr := fr) (rest := [.ref x0]) rfl (Nat.le_of_ble_eq_true rfl) (by decide) (by decide)
  have hsz71 : T68.heap.size = T55.heap.size := by rw [e68]
  obtain ⟨T71, hT71⟩ : ∃ z, z = T68.pushCell ({ cls := cK, slots := #[.ref fr], vm := .none } : Cell) := ⟨_, rfl⟩
  obtain ⟨h71, hh71⟩ : ∃ z : Heap, z = T55.heap.push ({ cls := cK, slots := #[.ref fr], vm := .none } : Cell) := ⟨_, rfl⟩
  have e71 : T71.heap = h71 := by rw [hT71, hh71]; show T68.heap.push _ = _; rw [e68]
  obtain ⟨lm, g71⟩ : ∃ z, z = T55.heap.size := ⟨_, rfl⟩
  rw [← hT71, hsz71, ← g71] at st71
  rw [← hT71] at X71
  obtain ⟨E71, B71⟩ := own_push T55.heap ({ cls := cK, slots := #[.ref fr], vm := .none } : Cell)
  rw [← hh71, ← g71] at B71
  rw [← hh71] at E71
  have gn_lm : n0 ≤ lm := Nat.le_trans Z55 (Nat.le_of_eq g71.symm)
  have gk_lm : h0.size ≤ lm := Nat.le_trans KK55.1 (Nat.le_of_eq g71.symm)
  have ne72 : fr ≠ lm := Nat.ne_of_lt (Nat.lt_of_lt_of_le f64.lt (Nat.le_of_eq g71.symm))
  have ne73 : r37 ≠ lm := Nat.ne_of_lt (Nat.lt_of_lt_of_le f65.lt (Nat.le_of_eq g71.symm))
  have ne74 : tb ≠ lm := Nat.ne_of_lt (Nat.lt_of_lt_of_le f63.lt (Nat.le_of_eq g71.symm))
  have ne75 : x0 ≠ lm := Nat.ne_of_lt (Nat.lt_of_lt_of_le f56.lt (Nat.le_of_eq g71.symm))
  have f76 := f56.ext E71
  have f77 := f57.ext E71
  have f78 := f58.ext E71
  have f79 := f59.ext E71
  have f80 := f60.ext E71
  have f81 := f61.ext E71
  have f82 := f62.ext E71
  have f83 := f63.ext E71
  have f84 := f64.ext E71
  have f85 := f65.ext E71
  have f86 := Fh55.ext E71
  have f87 := Fl55.ext E71
  have f88 := Fv55.ext E71
  have f89 := Ft55.ext E71
  have f90 := Fb55.ext E71
  have f91 := Fs55.ext E71
  have Z71 := Nat.le_trans Z55 E71.1
  have KK71 := KK55.ext E71
  have p92 : ∀ t, own_W p e below m T71 100 #[.val (.ref x0), .val (.int x1), .val (.int (7 : Int32)), .val (.long (16 : Int64)), .second, .val (.long wk), .second, .val (.ref fr)] [(.ref lm), (.ref x0)] t → Steps p.tables e below S0 t := fun t k => p70 t (st71 t k)
  obtain ⟨cq93, kq93, qa93, qb93, qc93⟩ := isOf hZ e71 f76
  obtain ⟨_, _, ⟨T93, L93, k93, n93⟩, -, X93, ⟨Lc93, hQ93, l93, y93, z93⟩, st93⟩ := X71.virtualBack hx (y := (⟨"com/example/kinwarden/kinwarden/IntMap", "forEach", "(Lcom/example/kinwarden/kinwarden/IntMap$EntryConsumer;)V"⟩ : MethodName)) (z := (⟨"com/example/kinwarden/kinwarden/IntMap", "forEach", "(Lcom/example/kinwarden/kinwarden/IntMap$EntryConsumer;)V"⟩ : MethodName)) hown (mvT hZ (hw _ (List.mem_of_getElem? (i := 100) rfl))) (mvT hZ (hw _ (List.mem_of_getElem? (i := 101) rfl))) (notFace_of_selects (args := #[]) (mvT hZ (hw _ (List.mem_of_getElem? (i := 103) rfl)))) (mvT hZ (hw _ (List.mem_of_getElem? (i := 103) rfl))) (mvT hZ (hw _ (List.mem_of_getElem? (i := 102) rfl))) (by decide) (own_backOfH (W := 0) (rmfet l Z a0 hw [] x0 lm tb kt vv cK fr r37 kk37 (0 : Int32) (-1 : Int32) (-1 : Int32) (-1 : Int32) ws37 h71 n0 Z71 f77 f78 hLZ f83 B71 f84 f89 f90 f91 f86 f87 f88 f85 gn_fr gn_r37 ne_fr_r37 ne15 ne_tb_r37 (Ne.symm ne72) (Ne.symm ne73)) hZ hH (hw _ (List.mem_of_getElem? (i := 104) rfl)) (hw _ (List.mem_of_getElem? (i := 3) rfl)) (by decide) (by decide)) qa93 qc93 (g := (mkF m 100 #[.val (.ref x0), .val (.int x1), .val (.int (7 : Int32)), .val (.long (16 : Int64)), .second, .val (.long wk), .second, .val (.ref fr)] [(.ref lm), (.ref x0)])) rfl (by rw [hml]; rfl) (Steps.refl _) (argsL := [(.ref lm)]) (rest := []) (lenOf pdmvt_6 rfl) rfl (by show 2 * 0 + _ ≤ _; exact Nat.le_of_eq rfl) (hb hby dmvt_100) (fun _ _ => ⟨rfl, e71, (by decide : 3 + 0 ≤ _), (by decide : 39 + 0 ≤ _)⟩)
  dsimp only [Pt.U, Pt.locs, Pt.cells, Pt.slots] at X93 l93 y93 z93 st93 hQ93
  subst l93 y93 z93
  obtain ⟨rfl, Nq93, K93, sz93, hi93, lv93, hv93, vs93, E093, Ft93, Fb93, Fs93, Fh93, Fl93, Fv93, VN93⟩ := hQ93
  have N93 := Fr.app N68 Nq93
  have f94 := f76.keep K93
  have f95 := f77.keep K93 (ninS ne16 (ninS ne_x0_r37 nin0))
  have f96 := f78.keep K93 (ninS ne16 (ninS ne_x0_r37 nin0))
  have f97 := f79.keep K93 (ninS ne16 (ninS ne_x0_r37 nin0))
  have f98 := f80.keep K93 (ninS ne16 (ninS ne_x0_r37 nin0))
  have f99 := f81.keep K93 (ninS ne16 (ninS ne_x0_r37 nin0))
  have f100 := f82.keep K93 (ninS ne16 (ninS ne_x0_r37 nin0))
  have f101 := f83.keep K93 (ninS ne15 (ninS ne_tb_r37 nin0))
  have f102 := f84.keep K93
  have f103 := B71.keep K93 (ninS (Ne.symm ne72) (ninS (Ne.symm ne73) nin0))
  have Z93 := Nat.le_trans Z71 K93.1
  have KK93 := KK71.trans K93 (allS (Or.inr gk_fr) (allS (Or.inr gk_r37) all0))
  have p104 : ∀ t, own_W p e below m T93 103 #[.val (.ref x0), .val (.int x1), .val (.int (7 : Int32)), .val (.long (16 : Int64)), .second, .val (.long wk), .second, .val (.ref fr)] [] t → Steps p.tables e below S0 t := fun t k => p92 t (st93.trans k)
  have p105 : ∀ t, own_W p e below m T93 106 #[.val (.ref x0), .val (.int x1), .val (.int (7 : Int32)), .val (.long (16 : Int64)), .second, .val (.long wk), .second, .val (.ref fr)] [(.ref fr), (.ref x0)] t → Steps p.tables e below S0 t := fun t k => p104 t (by
    show own_W p e below m T93 103 #[.val (.ref x0), .val (.int x1), .val (.int (7 : Int32)), .val (.long (16 : Int64)), .second, .val (.long wk), .second, .val (.ref fr)] [] _
    refine XS.aloadN X93.here hx rfl (hb hby dmvt_103) rfl rfl ?_
    refine XS.aload X93.here hx rfl (hb hby dmvt_104) rfl rfl ?_
    exact k)
  obtain ⟨T106, X106, e106, st106⟩ := getF X93 hx hZ hown (host := "") (Or.inl (hw _ (List.mem_of_getElem? (i := 27) rfl))) Via.refl rfl Ft93 (g := (mkF m 106 #[.val (.ref x0), .val (.int x1), .val (.int (7 : Int32)), .val (.long (16 : Int64)), .second, .val (.long wk), .second, .val (.ref fr)] [(.ref fr), (.ref x0)])) rfl rfl (hb hby dmvt_106)
  have p107 : ∀ t, own_W p e below m T106 109 #[.val (.ref x0), .val (.int x1), .val (.int (7 : Int32)), .val (.long (16 : Int64)), .second, .val (.long wk), .second, .val (.ref fr)] [(.ref r37), (.ref x0)] t → Steps p.tables e below S0 t := fun t k => p105 t (st106 t k)
  obtain ⟨T108, h108, X108, e108, W108, st108⟩ := putF X106 hx hZ hown (host := "") (Or.inl (hw _ (List.mem_of_getElem? (i := 27) rfl))) Via.refl e106 f95 f94 (Or.inl (hw _ (List.mem_of_getElem? (i := 28) rfl))) (hw _ (List.mem_of_getElem? (i := 2) rfl)) (ty := (.array .int)) (by decide) rfl rfl (g := (mkF m 109 #[.val (.ref x0), .val (.int x1), .val (.int (7 : Int32)), .val (.long (16 : Int64)), .second, .val (.long wk), .second, .val (.ref fr)] [(.ref r37), (.ref x0)])) rfl rfl (hb hby dmvt_109)
  have f109 := f95.same W108
  have f110 := f94.wr W108
  have f111 := f96.other W108 (Or.inr (slot_ne (Or.inl (hw _ (List.mem_of_getElem? (i := 30) rfl))) (Or.inl (hw _ (List.mem_of_getElem? (i := 28) rfl))) (by decide) (t := (.array .int)) (t' := (.array .int)) (by decide) (by decide)))
  have f112 := f97.other W108 (Or.inr (slot_ne (Or.inl (hw _ (List.mem_of_getElem? (i := 62) rfl))) (Or.inl (hw _ (List.mem_of_getElem? (i := 28) rfl))) (by decide) (t := .int) (t' := (.array .int)) (by decide) (by decide)))
  have f113 := f98.other W108 (Or.inr (slot_ne (Or.inl (hw _ (List.mem_of_getElem? (i := 22) rfl))) (Or.inl (hw _ (List.mem_of_getElem? (i := 28) rfl))) (by decide) (t := .int) (t' := (.array .int)) (by decide) (by decide)))
  have f114 := f99.other W108 (Or.inr (slot_ne (Or.inl (hw _ (List.mem_of_getElem? (i := 24) rfl))) (Or.inl (hw _ (List.mem_of_getElem? (i := 28) rfl))) (by decide) (t := .int) (t' := (.array .int)) (by decide) (by decide)))
  have f115 := f100.other W108 (Or.inr (slot_ne (Or.inl (hw _ (List.mem_of_getElem? (i := 26) rfl))) (Or.inl (hw _ (List.mem_of_getElem? (i := 28) rfl))) (by decide) (t := .int) (t' := (.array .int)) (by decide) (by decide)))
  have f116 := E093.wr W108
  have f117 := Ft93.other W108 (Or.inl (Ne.symm ne16))
  have f118 := Fb93.other W108 (Or.inl (Ne.symm ne16))
  have f119 := Fs93.other W108 (Or.inl (Ne.symm ne16))
  have f120 := Fh93.other W108 (Or.inl (Ne.symm ne16))
  have f121 := Fl93.other W108 (Or.inl (Ne.symm ne16))
  have f122 := Fv93.other W108 (Or.inl (Ne.symm ne16))
  have f123 := VN93.other W108 (Ne.symm ne_x0_r37)
  have Z108 := Nat.le_trans Z93 (Keep.of_wr W108).1
  have N108 := Fr.snoc X108 N93 g0
  have KK108 := KK93.wr W108 (Or.inl (List.mem_singleton.mpr rfl))
  have p124 : ∀ t, own_W p e below m T108 112 #[.val (.ref x0), .val (.int x1), .val (.int (7 : Int32)), .val (.long (16 : Int64)), .second, .val (.long wk), .second, .val (.ref fr)] [] t → Steps p.tables e below S0 t := fun t k => p107 t (st108 t k)
  have p125 : ∀ t, own_W p e below m T108 115 #[.val (.ref x0), .val (.int x1), .val (.int (7 : Int32)), .val (.long (16 : Int64)), .second, .val (.long wk), .second, .val (.ref fr)] [(.ref fr), (.ref x0)] t → Steps p.tables e below S0 t := fun t k => p124 t (by
    show own_W p e below m T108 112 #[.val (.ref x0), .val (.int x1), .val (.int (7 : Int32)), .val (.long (16 : Int64)), .second, .val (.long wk), .second, .val (.ref fr)] [] _
    refine XS.aloadN X108.here hx rfl (hb hby dmvt_112) rfl rfl ?_
    refine XS.aload X108.here hx rfl (hb hby dmvt_113) rfl rfl ?_
    exact k)
  obtain ⟨T126, X126, e126, st126⟩ := getF X108 hx hZ hown (host := "") (Or.inl (hw _ (List.mem_of_getElem? (i := 29) rfl))) Via.refl e108 f118 (g := (mkF m 115 #[.val (.ref x0), .val (.int x1), .val (.int (7 : Int32)), .val (.long (16 : Int64)), .second, .val (.long wk), .second, .val (.ref fr)] [(.ref fr), (.ref x0)])) rfl rfl (hb hby dmvt_115)
  have p127 : ∀ t, own_W p e below m T126 118 #[.val (.ref x0), .val (.int x1), .val (.int (7 : Int32)), .val (.long (16 : Int64)), .second, .val (.long wk), .second, .val (.ref fr)] [.null, (.ref x0)] t → Steps p.tables e below S0 t := fun t k => p125 t (st126 t k)
  obtain ⟨T128, h128, X128, e128, W128, st128⟩ := putF X126 hx hZ hown (host := "") (Or.inl (hw _ (List.mem_of_getElem? (i := 29) rfl))) Via.refl e126 f111 f110 (Or.inl (hw _ (List.mem_of_getElem? (i := 30) rfl))) (hw _ (List.mem_of_getElem? (i := 2) rfl)) (ty := (.array .int)) (by decide) rfl rfl (g := (mkF m 118 #[.val (.ref x0), .val (.int x1), .val (.int (7 : Int32)), .val (.long (16 : Int64)), .second, .val (.long wk), .second, .val (.ref fr)] [.null, (.ref x0)])) rfl rfl (hb hby dmvt_118)
  have f129 := f111.same W128
  have f130 := f110.wr W128
  have f131 := f112.other W128 (Or.inr (slot_ne (Or.inl (hw _ (List.mem_of_getElem? (i := 62) rfl))) (Or.inl (hw _ (List.mem_of_getElem? (i := 30) rfl))) (by decide) (t := .int) (t' := (.array .int)) (by decide) (by decide)))
  have f132 := f113.other W128 (Or.inr (slot_ne (Or.inl (hw _ (List.mem_of_getElem? (i := 22) rfl))) (Or.inl (hw _ (List.mem_of_getElem? (i := 30) rfl))) (by decide) (t := .int) (t' := (.array .int)) (by decide) (by decide)))
  have f133 := f114.other W128 (Or.inr (slot_ne (Or.inl (hw _ (List.mem_of_getElem? (i := 24) rfl))) (Or.inl (hw _ (List.mem_of_getElem? (i := 30) rfl))) (by decide) (t := .int) (t' := (.array .int)) (by decide) (by decide)))
  have f134 := f115.other W128 (Or.inr (slot_ne (Or.inl (hw _ (List.mem_of_getElem? (i := 26) rfl))) (Or.inl (hw _ (List.mem_of_getElem? (i := 30) rfl))) (by decide) (t := .int) (t' := (.array .int)) (by decide) (by decide)))
  have f135 := f116.wr W128
  have f136 := f117.other W128 (Or.inl (Ne.symm ne16))
  have f137 := f118.other W128 (Or.inl (Ne.symm ne16))
  have f138 := f119.other W128 (Or.inl (Ne.symm ne16))
  have f139 := f120.other W128 (Or.inl (Ne.symm ne16))
  have f140 := f121.other W128 (Or.inl (Ne.symm ne16))
  have f141 := f122.other W128 (Or.inl (Ne.symm ne16))
  have f142 := f123.other W128 (Ne.symm ne_x0_r37)
  have f143 := f109.other W128 (Or.inr (slot_ne (Or.inl (hw _ (List.mem_of_getElem? (i := 28) rfl))) (Or.inl (hw _ (List.mem_of_getElem? (i := 30) rfl))) (by decide) (t := (.array .int)) (t' := (.array .int)) (by decide) (by decide)))
  have Z128 := Nat.le_trans Z108 (Keep.of_wr W128).1
  have N128 := Fr.snoc X128 N108 g0
  have KK128 := KK108.wr W128 (Or.inl (List.mem_singleton.mpr rfl))
  have p144 : ∀ t, own_W p e below m T128 121 #[.val (.ref x0), .val (.int x1), .val (.int (7 : Int32)), .val (.long (16 : Int64)), .second, .val (.long wk), .second, .val (.ref fr)] [] t → Steps p.tables e below S0 t := fun t k => p127 t (st128 t k)
  have p145 : ∀ t, own_W p e below m T128 124 #[.val (.ref x0), .val (.int x1), .val (.int (7 : Int32)), .val (.long (16 : Int64)), .second, .val (.long wk), .second, .val (.ref fr)] [(.ref fr), (.ref x0)] t → Steps p.tables e below S0 t := fun t k => p144 t (by
    show own_W p e below m T128 121 #[.val (.ref x0), .val (.int x1), .val (.int (7 : Int32)), .val (.long (16 : Int64)), .second, .val (.long wk), .second, .val (.ref fr)] [] _
    refine XS.aloadN X128.here hx rfl (hb hby dmvt_121) rfl rfl ?_
    refine XS.aload X128.here hx rfl (hb hby dmvt_122) rfl rfl ?_
    exact k)
  obtain ⟨T146, X146, e146, st146⟩ := getF X128 hx hZ hown (host := "") (Or.inl (hw _ (List.mem_of_getElem? (i := 61) rfl))) Via.refl e128 f138 (g := (mkF m 124 #[.val (.ref x0), .val (.int x1), .val (.int (7 : Int32)), .val (.long (16 : Int64)), .second, .val (.long wk), .second, .val (.ref fr)] [(.ref fr), (.ref x0)])) rfl rfl (hb hby dmvt_124)
  have p147 : ∀ t, own_W p e below m T146 127 #[.val (.ref x0), .val (.int x1), .val (.int (7 : Int32)), .val (.long (16 : Int64)), .second, .val (.long wk), .second, .val (.ref fr)] [(.int sz93), (.ref x0)] t → Steps p.tables e below S0 t := fun t k => p145 t (st146 t k)
  obtain ⟨T148, h148, X148, e148, W148, st148⟩ := putF X146 hx hZ hown (host := "") (Or.inl (hw _ (List.mem_of_getElem? (i := 61) rfl))) Via.refl e146 f131 f130 (Or.inl (hw _ (List.mem_of_getElem? (i := 62) rfl))) (hw _ (List.mem_of_getElem? (i := 2) rfl)) (ty := .int) (by decide) rfl rfl (g := (mkF m 127 #[.val (.ref x0), .val (.int x1), .val (.int (7 : Int32)), .val (.long (16 : Int64)), .second, .val (.long wk), .second, .val (.ref fr)] [(.int sz93), (.ref x0)])) rfl rfl (hb hby dmvt_127)
  have f149 := f131.same W148
  have f150 := f130.wr W148
  have f151 := f132.other W148 (Or.inr (slot_ne (Or.inl (hw _ (List.mem_of_getElem? (i := 22) rfl))) (Or.inl (hw _ (List.mem_of_getElem? (i := 62) rfl))) (by decide) (t := .int) (t' := .int) (by decide) (by decide)))
  have f152 := f133.other W148 (Or.inr (slot_ne (Or.inl (hw _ (List.mem_of_getElem? (i := 24) rfl))) (Or.inl (hw _ (List.mem_of_getElem? (i := 62) rfl))) (by decide) (t := .int) (t' := .int) (by decide) (by decide)))
  have f153 := f134.other W148 (Or.inr (slot_ne (Or.inl (hw _ (List.mem_of_getElem? (i := 26) rfl))) (Or.inl (hw _ (List.mem_of_getElem? (i := 62) rfl))) (by decide) (t := .int) (t' := .int) (by decide) (by decide)))
  have f154 := f135.wr W148
  have f155 := f136.other W148 (Or.inl (Ne.symm ne16))
  have f156 := f137.other W148 (Or.inl (Ne.symm ne16))
  have f157 := f138.other W148 (Or.inl (Ne.symm ne16))
  have f158 := f139.other W148 (Or.inl (Ne.symm ne16))
  have f159 := f140.other W148 (Or.inl (Ne.symm ne16))
  have f160 := f141.other W148 (Or.inl (Ne.symm ne16))
  have f161 := f142.other W148 (Ne.symm ne_x0_r37)
  have f162 := f143.other W148 (Or.inr (slot_ne (Or.inl (hw _ (List.mem_of_getElem? (i := 28) rfl))) (Or.inl (hw _ (List.mem_of_getElem? (i := 62) rfl))) (by decide) (t := (.array .int)) (t' := .int) (by decide) (by decide)))
  have f163 := f129.other W148 (Or.inr (slot_ne (Or.inl (hw _ (List.mem_of_getElem? (i := 30) rfl))) (Or.inl (hw _ (List.mem_of_getElem? (i := 62) rfl))) (by decide) (t := (.array .int)) (t' := .int) (by decide) (by decide)))
  have Z148 := Nat.le_trans Z128 (Keep.of_wr W148).1
  have N148 := Fr.snoc X148 N128 g0
  have KK148 := KK128.wr W148 (Or.inl (List.mem_singleton.mpr rfl))
  have p164 : ∀ t, own_W p e below m T148 130 #[.val (.ref x0), .val (.int x1), .val (.int (7 : Int32)), .val (.long (16 : Int64)), .second, .val (.long wk), .second, .val (.ref fr)] [] t → Steps p.tables e below S0 t := fun t k => p147 t (st148 t k)
  have p165 : ∀ t, own_W p e below m T148 133 #[.val (.ref x0), .val (.int x1), .val (.int (7 : Int32)), .val (.long (16 : Int64)), .second, .val (.long wk), .second, .val (.ref fr)] [(.ref fr), (.ref x0)] t → Steps p.tables e below S0 t := fun t k => p164 t (by
    show own_W p e below m T148 130 #[.val (.ref x0), .val (.int x1), .val (.int (7 : Int32)), .val (.long (16 : Int64)), .second, .val (.long wk), .second, .val (.ref fr)] [] _
    refine XS.aloadN X148.here hx rfl (hb hby dmvt_130) rfl rfl ?_
    refine XS.aload X148.here hx rfl (hb hby dmvt_131) rfl rfl ?_
    exact k)
  obtain ⟨T166, X166, e166, st166⟩ := getF X148 hx hZ hown (host := "") (Or.inl (hw _ (List.mem_of_getElem? (i := 21) rfl))) Via.refl e148 f158 (g := (mkF m 133 #[.val (.ref x0), .val (.int x1), .val (.int (7 : Int32)), .val (.long (16 : Int64)), .second, .val (.long wk), .second, .val (.ref fr)] [(.ref fr), (.ref x0)])) rfl rfl (hb hby dmvt_133)
  have p167 : ∀ t, own_W p e below m T166 136 #[.val (.ref x0), .val (.int x1), .val (.int (7 : Int32)), .val (.long (16 : Int64)), .second, .val (.long wk), .second, .val (.ref fr)] [(.int hi93), (.ref x0)] t → Steps p.tables e below S0 t := fun t k => p165 t (st166 t k)
  obtain ⟨T168, h168, X168, e168, W168, st168⟩ := putF X166 hx hZ hown (host := "") (Or.inl (hw _ (List.mem_of_getElem? (i := 21) rfl))) Via.refl e166 f151 f150 (Or.inl (hw _ (List.mem_of_getElem? (i := 22) rfl))) (hw _ (List.mem_of_getElem? (i := 2) rfl)) (ty := .int) (by decide) rfl rfl (g := (mkF m 136 #[.val (.ref x0), .val (.int x1), .val (.int (7 : Int32)), .val (.long (16 : Int64)), .second, .val (.long wk), .second, .val (.ref fr)] [(.int hi93), (.ref x0)])) rfl rfl (hb hby dmvt_136)
  have f169 := f151.same W168
  have f170 := f150.wr W168
  have f171 := f152.other W168 (Or.inr (slot_ne (Or.inl (hw _ (List.mem_of_getElem? (i := 24) rfl))) (Or.inl (hw _ (List.mem_of_getElem? (i := 22) rfl))) (by decide) (t := .int) (t' := .int) (by decide) (by decide)))
  have f172 := f153.other W168 (Or.inr (slot_ne (Or.inl (hw _ (List.mem_of_getElem? (i := 26) rfl))) (Or.inl (hw _ (List.mem_of_getElem? (i := 22) rfl))) (by decide) (t := .int) (t' := .int) (by decide) (by decide)))
  have f173 := f154.wr W168
  have f174 := f155.other W168 (Or.inl (Ne.symm ne16))
  have f175 := f156.other W168 (Or.inl (Ne.symm ne16))
  have f176 := f157.other W168 (Or.inl (Ne.symm ne16))
  have f177 := f158.other W168 (Or.inl (Ne.symm ne16))
  have f178 := f159.other W168 (Or.inl (Ne.symm ne16))
  have f179 := f160.other W168 (Or.inl (Ne.symm ne16))
  have f180 := f161.other W168 (Ne.symm ne_x0_r37)
  have f181 := f162.other W168 (Or.inr (slot_ne (Or.inl (hw _ (List.mem_of_getElem? (i := 28) rfl))) (Or.inl (hw _ (List.mem_of_getElem? (i := 22) rfl))) (by decide) (t := (.array .int)) (t' := .int) (by decide) (by decide)))
  have f182 := f163.other W168 (Or.inr (slot_ne (Or.inl (hw _ (List.mem_of_getElem? (i := 30) rfl))) (Or.inl (hw _ (List.mem_of_getElem? (i := 22) rfl))) (by decide) (t := (.array .int)) (t' := .int) (by decide) (by decide)))
  have f183 := f149.other W168 (Or.inr (slot_ne (Or.inl (hw _ (List.mem_of_getElem? (i := 62) rfl))) (Or.inl (hw _ (List.mem_of_getElem? (i := 22) rfl))) (by decide) (t := .int) (t' := .int) (by decide) (by decide)))
  have Z168 := Nat.le_trans Z148 (Keep.of_wr W168).1
  have N168 := Fr.snoc X168 N148 g0
  have KK168 := KK148.wr W168 (Or.inl (List.mem_singleton.mpr rfl))
  have p184 : ∀ t, own_W p e below m T168 139 #[.val (.ref x0), .val (.int x1), .val (.int (7 : Int32)), .val (.long (16 : Int64)), .second, .val (.long wk), .second, .val (.ref fr)] [] t → Steps p.tables e below S0 t := fun t k => p167 t (st168 t k)
  have p185 : ∀ t, own_W p e below m T168 142 #[.val (.ref x0), .val (.int x1), .val (.int (7 : Int32)), .val (.long (16 : Int64)), .second, .val (.long wk), .second, .val (.ref fr)] [(.ref fr), (.ref x0)] t → Steps p.tables e below S0 t := fun t k => p184 t (by
    show own_W p e below m T168 139 #[.val (.ref x0), .val (.int x1), .val (.int (7 : Int32)), .val (.long (16 : Int64)), .second, .val (.long wk), .second, .val (.ref fr)] [] _
    refine XS.aloadN X168.here hx rfl (hb hby dmvt_139) rfl rfl ?_
    refine XS.aload X168.here hx rfl (hb hby dmvt_140) rfl rfl ?_
    exact k)
  obtain ⟨T186, X186, e186, st186⟩ := getF X168 hx hZ hown (host := "") (Or.inl (hw _ (List.mem_of_getElem? (i := 23) rfl))) Via.refl e168 f178 (g := (mkF m 142 #[.val (.ref x0), .val (.int x1), .val (.int (7 : Int32)), .val (.long (16 : Int64)), .second, .val (.long wk), .second, .val (.ref fr)] [(.ref fr), (.ref x0)])) rfl rfl (hb hby dmvt_142)
  have p187 : ∀ t, own_W p e below m T186 145 #[.val (.ref x0), .val (.int x1), .val (.int (7 : Int32)), .val (.long (16 : Int64)), .second, .val (.long wk), .second, .val (.ref fr)] [(.int lv93), (.ref x0)] t → Steps p.tables e below S0 t := fun t k => p185 t (st186 t k)
  obtain ⟨T188, h188, X188, e188, W188, st188⟩ := putF X186 hx hZ hown (host := "") (Or.inl (hw _ (List.mem_of_getElem? (i := 23) rfl))) Via.refl e186 f171 f170 (Or.inl (hw _ (List.mem_of_getElem? (i := 24) rfl))) (hw _ (List.mem_of_getElem? (i := 2) rfl)) (ty := .int) (by decide) rfl rfl (g := (mkF m 145 #[.val (.ref x0), .val (.int x1), .val (.int (7 : Int32)), .val (.long (16 : Int64)), .second, .val (.long wk), .second, .val (.ref fr)] [(.int lv93), (.ref x0)])) rfl rfl (hb hby dmvt_145)
  have f189 := f171.same W188
  have f190 := f170.wr W188
  have f191 := f172.other W188 (Or.inr (slot_ne (Or.inl (hw _ (List.mem_of_getElem? (i := 26) rfl))) (Or.inl (hw _ (List.mem_of_getElem? (i := 24) rfl))) (by decide) (t := .int) (t' := .int) (by decide) (by decide)))
  have f192 := f173.wr W188
  have f193 := f174.other W188 (Or.inl (Ne.symm ne16))
  have f194 := f175.other W188 (Or.inl (Ne.symm ne16))
  have f195 := f176.other W188 (Or.inl (Ne.symm ne16))
  have f196 := f177.other W188 (Or.inl (Ne.symm ne16))
  have f197 := f178.other W188 (Or.inl (Ne.symm ne16))
  have f198 := f179.other W188 (Or.inl (Ne.symm ne16))
  have f199 := f180.other W188 (Ne.symm ne_x0_r37)
  have f200 := f181.other W188 (Or.inr (slot_ne (Or.inl (hw _ (List.mem_of_getElem? (i := 28) rfl))) (Or.inl (hw _ (List.mem_of_getElem? (i := 24) rfl))) (by decide) (t := (.array .int)) (t' := .int) (by decide) (by decide)))
  have f201 := f182.other W188 (Or.inr (slot_ne (Or.inl (hw _ (List.mem_of_getElem? (i := 30) rfl))) (Or.inl (hw _ (List.mem_of_getElem? (i := 24) rfl))) (by decide) (t := (.array .int)) (t' := .int) (by decide) (by decide)))
  have f202 := f183.other W188 (Or.inr (slot_ne (Or.inl (hw _ (List.mem_of_getElem? (i := 62) rfl))) (Or.inl (hw _ (List.mem_of_getElem? (i := 24) rfl))) (by decide) (t := .int) (t' := .int) (by decide) (by decide)))
  have f203 := f169.other W188 (Or.inr (slot_ne (Or.inl (hw _ (List.mem_of_getElem? (i := 22) rfl))) (Or.inl (hw _ (List.mem_of_getElem? (i := 24) rfl))) (by decide) (t := .int) (t' := .int) (by decide) (by decide)))
  have Z188 := Nat.le_trans Z168 (Keep.of_wr W188).1
  have N188 := Fr.snoc X188 N168 g0
  have KK188 := KK168.wr W188 (Or.inl (List.mem_singleton.mpr rfl))
  have p204 : ∀ t, own_W p e below m T188 148 #[.val (.ref x0), .val (.int x1), .val (.int (7 : Int32)), .val (.long (16 : Int64)), .second, .val (.long wk), .second, .val (.ref fr)] [] t → Steps p.tables e below S0 t := fun t k => p187 t (st188 t k)
  have p205 : ∀ t, own_W p e below m T188 151 #[.val (.ref x0), .val (.int x1), .val (.int (7 : Int32)), .val (.long (16 : Int64)), .second, .val (.long wk), .second, .val (.ref fr)] [(.ref fr), (.ref x0)] t → Steps p.tables e below S0 t := fun t k => p204 t (by
    show own_W p e below m T188 148 #[.val (.ref x0), .val (.int x1), .val (.int (7 : Int32)), .val (.long (16 : Int64)), .second, .val (.long wk), .second, .val (.ref fr)] [] _
    refine XS.aloadN X188.here hx rfl (hb hby dmvt_148) rfl rfl ?_
    refine XS.aload X188.here hx rfl (hb hby dmvt_149) rfl rfl ?_
    exact k)
  obtain ⟨T206, X206, e206, st206⟩ := getF X188 hx hZ hown (host := "") (Or.inl (hw _ (List.mem_of_getElem? (i := 25) rfl))) Via.refl e188 f198 (g := (mkF m 151 #[.val (.ref x0), .val (.int x1), .val (.int (7 : Int32)), .val (.long (16 : Int64)), .second, .val (.long wk), .second, .val (.ref fr)] [(.ref fr), (.ref x0)])) rfl rfl (hb hby dmvt_151)
  have p207 : ∀ t, own_W p e below m T206 154 #[.val (.ref x0), .val (.int x1), .val (.int (7 : Int32)), .val (.long (16 : Int64)), .second, .val (.long wk), .second, .val (.ref fr)] [(.int hv93), (.ref x0)] t → Steps p.tables e below S0 t := fun t k => p205 t (st206 t k)
  obtain ⟨T208, h208, X208, e208, W208, st208⟩ := putF X206 hx hZ hown (host := "") (Or.inl (hw _ (List.mem_of_getElem? (i := 25) rfl))) Via.refl e206 f191 f190 (Or.inl (hw _ (List.mem_of_getElem? (i := 26) rfl))) (hw _ (List.mem_of_getElem? (i := 2) rfl)) (ty := .int) (by decide) rfl rfl (g := (mkF m 154 #[.val (.ref x0), .val (.int x1), .val (.int (7 : Int32)), .val (.long (16 : Int64)), .second, .val (.long wk), .second, .val (.ref fr)] [(.int hv93), (.ref x0)])) rfl rfl (hb hby dmvt_154)
  have f209 := f191.same W208
  have f210 := f190.wr W208
  have f211 := f192.wr W208
  have f212 := f193.other W208 (Or.inl (Ne.symm ne16))
  have f213 := f194.other W208 (Or.inl (Ne.symm ne16))
  have f214 := f195.other W208 (Or.inl (Ne.symm ne16))
  have f215 := f196.other W208 (Or.inl (Ne.symm ne16))
  have f216 := f197.other W208 (Or.inl (Ne.symm ne16))
  have f217 := f198.other W208 (Or.inl (Ne.symm ne16))
  have f218 := f199.other W208 (Ne.symm ne_x0_r37)
  have f219 := f200.other W208 (Or.inr (slot_ne (Or.inl (hw _ (List.mem_of_getElem? (i := 28) rfl))) (Or.inl (hw _ (List.mem_of_getElem? (i := 26) rfl))) (by decide) (t := (.array .int)) (t' := .int) (by decide) (by decide)))
  have f220 := f201.other W208 (Or.inr (slot_ne (Or.inl (hw _ (List.mem_of_getElem? (i := 30) rfl))) (Or.inl (hw _ (List.mem_of_getElem? (i := 26) rfl))) (by decide) (t := (.array .int)) (t' := .int) (by decide) (by decide)))
  have f221 := f202.other W208 (Or.inr (slot_ne (Or.inl (hw _ (List.mem_of_getElem? (i := 62) rfl))) (Or.inl (hw _ (List.mem_of_getElem? (i := 26) rfl))) (by decide) (t := .int) (t' := .int) (by decide) (by decide)))
  have f222 := f203.other W208 (Or.inr (slot_ne (Or.inl (hw _ (List.mem_of_getElem? (i := 22) rfl))) (Or.inl (hw _ (List.mem_of_getElem? (i := 26) rfl))) (by decide) (t := .int) (t' := .int) (by decide) (by decide)))
  have f223 := f189.other W208 (Or.inr (slot_ne (Or.inl (hw _ (List.mem_of_getElem? (i := 24) rfl))) (Or.inl (hw _ (List.mem_of_getElem? (i := 26) rfl))) (by decide) (t := .int) (t' := .int) (by decide) (by decide)))
  have Z208 := Nat.le_trans Z188 (Keep.of_wr W208).1
  have N208 := Fr.snoc X208 N188 g0
  have KK208 := KK188.wr W208 (Or.inl (List.mem_singleton.mpr rfl))
  have p224 : ∀ t, own_W p e below m T208 157 #[.val (.ref x0), .val (.int x1), .val (.int (7 : Int32)), .val (.long (16 : Int64)), .second, .val (.long wk), .second, .val (.ref fr)] [] t → Steps p.tables e below S0 t := fun t k => p207 t (st208 t k)
  subst hS0
  obtain ⟨fs, hr, hrun, hended, hW, hsame⟩ := X208.leave (v := none) (fun _ => rfl)
  refine ⟨_, _, p224 _ ?_, hrun, hended, _, _, rfl, ?_, ⟨_, rfl⟩, hW, hsame.mono (by decide) (by decide)⟩
  · show own_W p e below m T208 157 #[.val (.ref x0), .val (.int x1), .val (.int (7 : Int32)), .val (.long (16 : Int64)), .second, .val (.long wk), .second, .val (.ref fr)] [] _
    exact X208.returnOut hx Bd.returns (hb hby dmvt_157) hr
  · show Qmvt Z x0 x1 tb kt lv hv vv cK h0 n0 _ T208.heap _
    rw [e208]
    exact ⟨rfl, N208, KK208, _, _, _, gk_r37, rfl, _, _, _, _, _, f210, f219, f220, f221, f222, f223, f209, f218⟩
theorem dmmb_0 : decode prog_53_method_10_code 0 = .ok (.iload_n 1, 1) := by decide +kernel
theorem dmmb_1 : decode prog_53_method_10_code 1 = .ok (.ifCond .ge 17, 3) := by decide +kernel
theorem dmmb_18 : decode prog_53_method_10_code 18 = .ok (.aload_n 0, 1) := by decide +kernel
theorem dmmb_19 : decode prog_53_method_10_code 19 = .ok (.iload_n 1, 1) := by decide +kernel
theorem dmmb_20 : decode prog_53_method_10_code 20 = .ok (.invokevirtual 75, 3) := by decide +kernel
theorem dmmb_23 : decode prog_53_method_10_code 23 = .ok (.ifCond .ne 21, 3) := by decide +kernel
theorem dmmb_26 : decode prog_53_method_10_code 26 = .ok (.aload_n 0, 1) := by decide +kernel
theorem dmmb_27 : decode prog_53_method_10_code 27 = .ok (.aload_n 0, 1) := by decide +kernel
theorem dmmb_28 : decode prog_53_method_10_code 28 = .ok (.getfield 16, 3) := by decide +kernel
theorem dmmb_31 : decode prog_53_method_10_code 31 = .ok (.iload_n 1, 1) := by decide +kernel
theorem dmmb_32 : decode prog_53_method_10_code 32 = .ok (.invokestatic 79, 3) := by decide +kernel
theorem dmmb_35 : decode prog_53_method_10_code 35 = .ok (.aload_n 0, 1) := by decide +kernel
theorem dmmb_36 : decode prog_53_method_10_code 36 = .ok (.getfield 43, 3) := by decide +kernel
theorem dmmb_39 : decode prog_53_method_10_code 39 = .ok (.iconst 1, 1) := by decide +kernel
theorem dmmb_40 : decode prog_53_method_10_code 40 = .ok (.iadd, 1) := by decide +kernel
theorem dmmb_41 : decode prog_53_method_10_code 41 = .ok (.invokevirtual 85, 3) := by decide +kernel
theorem dmmb_44 : decode prog_53_method_10_code 44 = .ok (.return_, 1) := by decide +kernel
theorem pnmmb : plainName "com/example/kinwarden/kinwarden/IntMap" = true := by first | (simp [plainName, overriddenIn]; done) | decide +kernel
theorem pdmmb_0 : parseMethodDescriptor "(I)Z" = some ⟨[.int], some .boolean⟩ := by decide +kernel
theorem pdmmb_1 : parseMethodDescriptor "(II)I" = some ⟨[.int, .int], some .int⟩ := by decide +kernel
theorem pdmmb_2 : parseMethodDescriptor "(II)V" = some ⟨[.int, .int], none⟩ := by decide +kernel
theorem efmmb (m : MethodId) (x0 : Addr) (x1 : Int32) : entryFrame m #[(.ref x0), (.int x1)] 2 = mkF m 0 #[.val (.ref x0), .val (.int x1)] [] := by first | (simp [entryFrame, mkF, argsToLocals, Value.category]; done) | rfl
def Qmmb (Z : State) (x0 : Addr) (x1 : Int32) (tb : Addr) (kt : ClassId) (lv : Int32) (hv : Int32) (vv : Int32) (cK : ClassId) (h0 : Heap) (n0 : Nat) (v : Option Value) (h : Heap) (L : List Loc) : Prop := v = none ∧ Fr n0 L ∧ Keep h0 h [x0] ∧ ∃ (nb : Addr) (kn : ClassId) (N : Int32), h0.size ≤ nb ∧ N.toInt = x1.toInt + 1 ∧ ∃ (sz' hi' lv' hv' : Int32) (vs' : List Value), Exa Z h x0 "com/example/kinwarden/kinwarden/IntMap" ∧ Fld Z h x0 "com/example/kinwarden/kinwarden/IntMap" "table" "[I" .null ∧ Fld Z h x0 "com/example/kinwarden/kinwarden/IntMap" "byKey" "[I" (.ref nb) ∧ Fld Z h x0 "com/example/kinwarden/kinwarden/IntMap" "size" "I" (.int sz') ∧ Fld Z h x0 "com/example/kinwarden/kinwarden/IntMap" "highest" "I" (.int hi') ∧ Fld Z h x0 "com/example/kinwarden/kinwarden/IntMap" "lowestValue" "I" (.int lv') ∧ Fld Z h x0 "com/example/kinwarden/kinwarden/IntMap" "highestValue" "I" (.int hv') ∧ Arv Z h nb kn .int N vs' (.int (0 : Int32))
set_option maxRecDepth 65536 in
set_option maxHeartbeats 40000000 in
theorem rmmmb (l : Launch) (Z : State) (a0 : Array Value) (hw : ∀ d ∈ tables_1, d.before a0 Z = true) (ws : List Jvm.Cond) (x0 : Addr) (x1 : Int32) (tb : Addr) (kt : ClassId) (lv : Int32) (hv : Int32) (vv : Int32) (cK : ClassId) (h0 : Heap) (n0 : Nat) (Z0 : n0 ≤ h0.size) (E0 : Exa Z h0 x0 "com/example/kinwarden/kinwarden/IntMap") (Ft : Fld Z h0 x0 "com/example/kinwarden/kinwarden/IntMap" "table" "[I" (.ref tb)) (Fb : Fld Z h0 x0 "com/example/kinwarden/kinwarden/IntMap" "byKey" "[I" .null) (Fs : Fld Z h0 x0 "com/example/kinwarden/kinwarden/IntMap" "size" "I" (.int (6 : Int32))) (Fh : Fld Z h0 x0 "com/example/kinwarden/kinwarden/IntMap" "highest" "I" (.int (5 : Int32))) (Fl : Fld Z h0 x0 "com/example/kinwarden/kinwarden/IntMap" "lowestValue" "I" (.int lv)) (Fv : Fld Z h0 x0 "com/example/kinwarden/kinwarden/IntMap" "highestValue" "I" (.int hv)) (V0 : Arv Z h0 tb kt .int (16 : Int32) (own_T6 vv) (.int (0 : Int32))) (g0 : n0 ≤ x0) (nx : x0 ≠ tb) (hLZ : own_LZ Z cK) (h6 : ¬ x1 < (6 : Int32)) (h32 : x1.toInt + 1 ≤ 32) (hk0 : ¬ x1 < (0 : Int32)) :
    MetFree l (⟨"com/example/kinwarden/kinwarden/IntMap", "makeRoomFor", "(I)V"⟩ : MethodName) (head1 (Jvm.Cond.code (⟨"com/example/kinwarden/kinwarden/IntMap", "makeRoomFor", "(I)V"⟩ : MethodName) prog_53_method_10_code 2 none :: ws) ({ frames := 7, cells := 3, slots := 39, locals := 3093 } : Room)) (fun a U => a = #[(.ref x0), (.int x1)] ∧ Z.Warmed39 U.vm ∧ U.heap = h0 ∧ Z.WarmedH U.vm) (fun _ _ _ _ _ => True) (fun _ U o U' => ∃ v L, o = .returned v ∧ Qmmb Z x0 x1 tb kt lv hv vv cK h0 n0 v U'.heap L ∧ FrameEnd U o U' L ({ frames := 7, cells := 3, slots := 39, locals := 3093 } : Room).cells ({ frames := 7, cells := 3, slots := 39, locals := 3093 } : Room).slots) := by
  refine MetFree.of_bodySF (plainFor_of_name pnmmb) hisR ?_
  intro p e s m args below meth c s₁ Bd hml0 hP hK
  obtain ⟨rfl, hZ, hh, hH⟩ := hP
  have hx := Bd.exec
  have hby := Bd.bytes
  have hml : c.maxLocals = 2 := hml0
  have hown : s.vm.findClass "com/example/kinwarden/kinwarden/IntMap" = some m.cls := findClass_of_methodNamed Bd.named
  have hnm := (name_of_methodNamed Bd.named Bd.method).1
  have X0 : Stand p l e ({ frames := 7, cells := 3, slots := 39, locals := 3093 } : Room) s m #[(.ref x0), (.int x1)] below meth c s₁ [] 0 0 := Stand.of_body Bd
  have e0 : s₁.heap = h0 := by rw [← hh, Bd.state]; rfl
  have N0 := Fr.nil n0
  have pre0 : ∀ t, Steps p.tables e below (s₁.setTop (mkF m 0 #[.val (.ref x0), .val (.int x1)] [])) t → Steps p.tables e below (s₁.setTop (entryFrame m #[(.ref x0), (.int x1)] 2)) t := fun t k => castTop (efmmb m x0 x1) k
  obtain ⟨S0, hS0⟩ : ∃ z, z = (s₁.setTop (entryFrame m #[(.ref x0), (.int x1)] 2)) := ⟨_, rfl⟩
  rw [← hS0] at pre0
  have K0 := Keep.refl h0 [x0]
  have p1 : ∀ t, own_W p e below m s₁ 20 #[.val (.ref x0), .val (.int x1)] [(.int x1), (.ref x0)] t → Steps p.tables e below S0 t := fun t k => pre0 t (by
    show own_W p e below m s₁ 0 #[.val (.ref x0), .val (.int x1)] [] _
    refine XS.iloadN X0.here hx rfl (hb hby dmmb_0) rfl ?_
    refine XS.ifYes X0.here hx rfl (pc0 := 1) (pc' := 18) rfl (hb hby dmmb_1) rfl ((if0 _ _).trans (flt (hk0)).2.1) (by decide) (by decide) ?_
    refine XS.aloadN X0.here hx rfl (hb hby dmmb_18) rfl rfl ?_
    refine XS.iloadN X0.here hx rfl (hb hby dmmb_19) rfl ?_
    exact k)
  obtain ⟨cq2, qa2, qb2⟩ := Exa.cell E0
  obtain ⟨_, _, ⟨T2, L2, k2, n2⟩, -, X2, ⟨Lc2, hQ2, l2, y2, z2⟩, st2⟩ := X0.privateBack hx (y := (⟨"com/example/kinwarden/kinwarden/IntMap", "hasRoomFor", "(I)Z"⟩ : MethodName)) hown (mvT hZ (hw _ (List.mem_of_getElem? (i := 48) rfl))) (mvT hZ (hw _ (List.mem_of_getElem? (i := 49) rfl))) (own_sel hZ hw (hw _ (List.mem_of_getElem? (i := 49) rfl)) (hw _ (List.mem_of_getElem? (i := 50) rfl))) (Cond.privateMethod_at (mvP (args := #[]) hZ (hw _ (List.mem_of_getElem? (i := 50) rfl)))) (mvT hZ (hw _ (List.mem_of_getElem? (i := 51) rfl))) (by decide) (backOf (W := 0) (rmhx l Z a0 hw [] x0 x1 tb kt vv h0 n0 Z0 E0 Ft Fb Fs V0 h6) hZ (hw _ (List.mem_of_getElem? (i := 51) rfl)) (hw _ (List.mem_of_getElem? (i := 3) rfl)) (by decide) (by decide)) (g := (mkF m 20 #[.val (.ref x0), .val (.int x1)] [(.int x1), (.ref x0)])) rfl (by rw [hml]; rfl) (Steps.refl _) (a := x0) (cell := cq2) (by rw [e0]; exact qa2) qb2 (argsL := [(.int x1)]) (rest := []) (lenOf pdmmb_0 rfl) rfl (by show 2 * 0 + _ ≤ _; exact Nat.le_of_eq rfl) (hb hby dmmb_20) (fun _ _ => ⟨rfl, e0, (by decide : 0 + 0 ≤ _), (by decide : 0 + 0 ≤ _)⟩)
  dsimp only [Pt.U, Pt.locs, Pt.cells, Pt.slots] at X2 l2 y2 z2 st2 hQ2
  subst l2 y2 z2
  obtain ⟨rfl, Nq2, e2⟩ := hQ2
  have N2 := Fr.app N0 Nq2
  have p3 : ∀ t, own_W p e below m T2 23 #[.val (.ref x0), .val (.int x1)] [(.int (0 : Int32))] t → Steps p.tables e below S0 t := fun t k => p1 t (st2.trans k)
  have p4 : ∀ t, own_W p e below m T2 28 #[.val (.ref x0), .val (.int x1)] [(.ref x0), (.ref x0)] t → Steps p.tables e below S0 t := fun t k => p3 t (by
    show own_W p e below m T2 23 #[.val (.ref x0), .val (.int x1)] [(.int (0 : Int32))] _
    refine XS.ifNo X2.here hx rfl (hb hby dmmb_23) rfl ((if0 _ _).trans (teq (rfl)).2) ?_
    refine XS.aloadN X2.here hx rfl (hb hby dmmb_26) rfl rfl ?_
    refine XS.aloadN X2.here hx rfl (hb hby dmmb_27) rfl rfl ?_
    exact k)
  obtain ⟨T5, X5, e5, st5⟩ := getF X2 hx hZ hown (host := "") (Or.inl (hw _ (List.mem_of_getElem? (i := 21) rfl))) Via.refl e2 Fh (g := (mkF m 28 #[.val (.ref x0), .val (.int x1)] [(.ref x0), (.ref x0)])) rfl rfl (hb hby dmmb_28)
  have p6 : ∀ t, own_W p e below m T5 31 #[.val (.ref x0), .val (.int x1)] [(.int (5 : Int32)), (.ref x0)] t → Steps p.tables e below S0 t := fun t k => p4 t (st5 t k)
  have p7 : ∀ t, own_W p e below m T5 32 #[.val (.ref x0), .val (.int x1)] [(.int x1), (.int (5 : Int32)), (.ref x0)] t → Steps p.tables e below S0 t := fun t k => p6 t (by
    show own_W p e below m T5 31 #[.val (.ref x0), .val (.int x1)] [(.int (5 : Int32)), (.ref x0)] _
    refine XS.iloadN X5.here hx rfl (hb hby dmmb_31) rfl ?_
    exact k)
  obtain ⟨_, _, ⟨T8, L8, k8, n8⟩, -, X8, ⟨Lc8, hQ8, l8, y8, z8⟩, st8⟩ := Jvm.LawKit.callS X5 hx (y := (⟨"java/lang/Math", "max", "(II)I"⟩ : MethodName)) hown (mvT hZ (hw _ (List.mem_of_getElem? (i := 67) rfl))) (mvT hZ (hw _ (List.mem_of_getElem? (i := 68) rfl))) (mvT hZ (hw _ (List.mem_of_getElem? (i := 69) rfl))) (mvT hZ (hw _ (List.mem_of_getElem? (i := 70) rfl))) (by decide) (backOf (W := 1) (rmmxr l Z a0 hw [] (5 : Int32) x1  h0 n0 Z0 (own_5x h6)) hZ (hw _ (List.mem_of_getElem? (i := 70) rfl)) (hw _ (List.mem_of_getElem? (i := 69) rfl)) (by decide) (by decide)) (g := (mkF m 32 #[.val (.ref x0), .val (.int x1)] [(.int x1), (.int (5 : Int32)), (.ref x0)])) rfl (by rw [hml]; rfl) (argsL := [(.int (5 : Int32)), (.int x1)]) (rest := [(.ref x0)]) (lenOf pdmmb_1 rfl) rfl (by show 2 * 0 + _ ≤ _; exact Nat.le_of_eq rfl) (hb hby dmmb_32) (fun _ _ => ⟨rfl, e5, (by decide : 0 + 0 ≤ _), (by decide : 0 + 0 ≤ _)⟩)
  dsimp only [Pt.U, Pt.locs, Pt.cells, Pt.slots] at X8 l8 y8 z8 st8 hQ8
  subst l8 y8 z8
  obtain ⟨rfl, Nq8, e8⟩ := hQ8
  have N8 := Fr.app N2 Nq8
  have p9 : ∀ t, own_W p e below m T8 35 #[.val (.ref x0), .val (.int x1)] [(.int x1), (.ref x0)] t → Steps p.tables e below S0 t := fun t k => p7 t (st8 _ k)
  have p10 : ∀ t, own_W p e below m T8 36 #[.val (.ref x0), .val (.int x1)] [(.ref x0), (.int x1), (.ref x0)] t → Steps p.tables e below S0 t := fun t k => p9 t (by
    show own_W p e below m T8 35 #[.val (.ref x0), .val (.int x1)] [(.int x1), (.ref x0)] _
    refine XS.aloadN X8.here hx rfl (hb hby dmmb_35) rfl rfl ?_
    exact k)
  obtain ⟨T11, X11, e11, st11⟩ := getF X8 hx hZ hown (host := "") (Or.inl (hw _ (List.mem_of_getElem? (i := 61) rfl))) Via.refl e8 Fs (g := (mkF m 36 #[.val (.ref x0), .val (.int x1)] [(.ref x0), (.int x1), (.ref x0)])) rfl rfl (hb hby dmmb_36)
  have p12 : ∀ t, own_W p e below m T11 39 #[.val (.ref x0), .val (.int x1)] [(.int (6 : Int32)), (.int x1), (.ref x0)] t → Steps p.tables e below S0 t := fun t k => p10 t (st11 t k)
  have p13 : ∀ t, own_W p e below m T11 41 #[.val (.ref x0), .val (.int x1)] [(.int ((6 : Int32) + (1 : Int32))), (.int x1), (.ref x0)] t → Steps p.tables e below S0 t := fun t k => p12 t (by
    show own_W p e below m T11 39 #[.val (.ref x0), .val (.int x1)] [(.int (6 : Int32)), (.int x1), (.ref x0)] _
    refine XS.iconst X11.here hx rfl (hb hby dmmb_39) ?_
    refine XS.iadd X11.here hx rfl (hb hby dmmb_40) rfl ?_
    exact k)
  have p14 : ∀ t, own_W p e below m T11 41 #[.val (.ref x0), .val (.int x1)] [(.int (7 : Int32)), (.int x1), (.ref x0)] t → Steps p.tables e below S0 t := by
    have k := p13
    rw [show ((6 : Int32) + (1 : Int32)) = (7 : Int32) from by decide] at k
    exact k
  obtain ⟨cq15, qa15, qb15⟩ := Exa.cell E0
  obtain ⟨_, _, ⟨T15, L15, k15, n15⟩, -, X15, ⟨Lc15, hQ15, l15, y15, z15⟩, st15⟩ := X11.privateBack hx (y := (⟨"com/example/kinwarden/kinwarden/IntMap", "moveToRoomFor", "(II)V"⟩ : MethodName)) hown (mvT hZ (hw _ (List.mem_of_getElem? (i := 75) rfl))) (mvT hZ (hw _ (List.mem_of_getElem? (i := 76) rfl))) (own_sel hZ hw (hw _ (List.mem_of_getElem? (i := 76) rfl)) (hw _ (List.mem_of_getElem? (i := 77) rfl))) (Cond.privateMethod_at (mvP (args := #[]) hZ (hw _ (List.mem_of_getElem? (i := 77) rfl)))) (mvT hZ (hw _ (List.mem_of_getElem? (i := 78) rfl))) (by decide) (own_backOfH (W := 0) (rmmvb l Z a0 hw [] x0 x1 tb kt lv hv vv cK h0 n0 Z0 E0 Ft Fb Fs Fh Fl Fv V0 g0 nx hLZ h6 h32) hZ hH (hw _ (List.mem_of_getElem? (i := 78) rfl)) (hw _ (List.mem_of_getElem? (i := 3) rfl)) (by decide) (by decide)) (g := (mkF m 41 #[.val (.ref x0), .val (.int x1)] [(.int (7 : Int32)), (.int x1), (.ref x0)])) rfl (by rw [hml]; rfl) (Steps.refl _) (a := x0) (cell := cq15) (by rw [e11]; exact qa15) qb15 (argsL := [(.int x1), (.int (7 : Int32))]) (rest := []) (lenOf pdmmb_2 rfl) rfl (by show 2 * 0 + _ ≤ _; exact Nat.le_of_eq rfl) (hb hby dmmb_41) (fun _ _ => ⟨rfl, e11, (by decide : 0 + 3 ≤ _), (by decide : 0 + 39 ≤ _)⟩)
  dsimp only [Pt.U, Pt.locs, Pt.cells, Pt.slots] at X15 l15 y15 z15 st15 hQ15
  subst l15 y15 z15
  obtain ⟨rfl, Nq15, K15, HQ15⟩ := hQ15
  have N15 := Fr.app N8 Nq15
  have f16 := E0.keep K15
  have f17 := V0.keep K15 (ninS (Ne.symm nx) nin0)
  have Z15 := Nat.le_trans Z0 K15.1
  have KK15 := K0.trans K15 (allS (Or.inl (List.mem_singleton.mpr rfl)) all0)
  have p18 : ∀ t, own_W p e below m T15 44 #[.val (.ref x0), .val (.int x1)] [] t → Steps p.tables e below S0 t := fun t k => p14 t (st15.trans k)
  subst hS0
  obtain ⟨fs, hr, hrun, hended, hW, hsame⟩ := X15.leave (v := none) (fun _ => rfl)
  refine ⟨_, _, p18 _ ?_, hrun, hended, _, _, rfl, ?_, ⟨_, rfl⟩, hW, hsame.mono (by decide) (by decide)⟩
  · show own_W p e below m T15 44 #[.val (.ref x0), .val (.int x1)] [] _
    exact X15.returnOut hx Bd.returns (hb hby dmmb_44) hr
  · show Qmmb Z x0 x1 tb kt lv hv vv cK h0 n0 _ T15.heap _
    skip
    exact ⟨rfl, N15, KK15, HQ15⟩
theorem dpmb_0 : decode prog_53_method_9_code 0 = .ok (.iload_n 1, 1) := by decide +kernel
theorem dpmb_1 : decode prog_53_method_9_code 1 = .ok (.ifCond .lt 7, 3) := by decide +kernel
theorem dpmb_4 : decode prog_53_method_9_code 4 = .ok (.iload_n 2, 1) := by decide +kernel
theorem dpmb_5 : decode prog_53_method_9_code 5 = .ok (.ifCond .ge 18, 3) := by decide +kernel
theorem dpmb_23 : decode prog_53_method_9_code 23 = .ok (.aload_n 0, 1) := by decide +kernel
theorem dpmb_24 : decode prog_53_method_9_code 24 = .ok (.iload_n 1, 1) := by decide +kernel
theorem dpmb_25 : decode prog_53_method_9_code 25 = .ok (.invokevirtual 64, 3) := by decide +kernel
theorem dpmb_28 : decode prog_53_method_9_code 28 = .ok (.aload_n 0, 1) := by decide +kernel
theorem dpmb_29 : decode prog_53_method_9_code 29 = .ok (.iload_n 1, 1) := by decide +kernel
theorem dpmb_30 : decode prog_53_method_9_code 30 = .ok (.iload_n 2, 1) := by decide +kernel
theorem dpmb_31 : decode prog_53_method_9_code 31 = .ok (.invokevirtual 68, 3) := by decide +kernel
theorem dpmb_34 : decode prog_53_method_9_code 34 = .ok (.return_, 1) := by decide +kernel
theorem pnpmb : plainName "com/example/kinwarden/kinwarden/IntMap" = true := by first | (simp [plainName, overriddenIn]; done) | decide +kernel
theorem pdpmb_0 : parseMethodDescriptor "(I)V" = some ⟨[.int], none⟩ := by decide +kernel
theorem pdpmb_1 : parseMethodDescriptor "(II)V" = some ⟨[.int, .int], none⟩ := by decide +kernel
theorem efpmb (m : MethodId) (x0 : Addr) (x1 : Int32) (x2 : Int32) : entryFrame m #[(.ref x0), (.int x1), (.int x2)] 3 = mkF m 0 #[.val (.ref x0), .val (.int x1), .val (.int x2)] [] := by first | (simp [entryFrame, mkF, argsToLocals, Value.category]; done) | rfl
def Qpmb (Z : State) (x0 : Addr) (x1 : Int32) (x2 : Int32) (tb : Addr) (kt : ClassId) (lv : Int32) (hv : Int32) (vv : Int32) (cK : ClassId) (h0 : Heap) (n0 : Nat) (v : Option Value) (h : Heap) (L : List Loc) : Prop := v = none ∧ Fr n0 L ∧ Keep h0 h [x0] ∧ ∃ (nb : Addr) (kn : ClassId) (N : Int32), h0.size ≤ nb ∧ N.toInt = x1.toInt + 1 ∧ ∃ (sz' hi' lv' hv' : Int32) (vs' : List Value), Exa Z h x0 "com/example/kinwarden/kinwarden/IntMap" ∧ Fld Z h x0 "com/example/kinwarden/kinwarden/IntMap" "table" "[I" .null ∧ Fld Z h x0 "com/example/kinwarden/kinwarden/IntMap" "byKey" "[I" (.ref nb) ∧ Fld Z h x0 "com/example/kinwarden/kinwarden/IntMap" "size" "I" (.int sz') ∧ Fld Z h x0 "com/example/kinwarden/kinwarden/IntMap" "highest" "I" (.int hi') ∧ Fld Z h x0 "com/example/kinwarden/kinwarden/IntMap" "lowestValue" "I" (.int lv') ∧ Fld Z h x0 "com/example/kinwarden/kinwarden/IntMap" "highestValue" "I" (.int hv') ∧ Arv Z h nb kn .int N vs' (.int (0 : Int32))
set_option maxRecDepth 65536 in
set_option maxHeartbeats 40000000 in
theorem rmpmb (l : Launch) (Z : State) (a0 : Array Value) (hw : ∀ d ∈ tables_1, d.before a0 Z = true) (ws : List Jvm.Cond) (x0 : Addr) (x1 : Int32) (x2 : Int32) (tb : Addr) (kt : ClassId) (lv : Int32) (hv : Int32) (vv : Int32) (cK : ClassId) (h0 : Heap) (n0 : Nat) (Z0 : n0 ≤ h0.size) (E0 : Exa Z h0 x0 "com/example/kinwarden/kinwarden/IntMap") (Ft : Fld Z h0 x0 "com/example/kinwarden/kinwarden/IntMap" "table" "[I" (.ref tb)) (Fb : Fld Z h0 x0 "com/example/kinwarden/kinwarden/IntMap" "byKey" "[I" .null) (Fs : Fld Z h0 x0 "com/example/kinwarden/kinwarden/IntMap" "size" "I" (.int (6 : Int32))) (Fh : Fld Z h0 x0 "com/example/kinwarden/kinwarden/IntMap" "highest" "I" (.int (5 : Int32))) (Fl : Fld Z h0 x0 "com/example/kinwarden/kinwarden/IntMap" "lowestValue" "I" (.int lv)) (Fv : Fld Z h0 x0 "com/example/kinwarden/kinwarden/IntMap" "highestValue" "I" (.int hv)) (V0 : Arv Z h0 tb kt .int (16 : Int32) (own_T6 vv) (.int (0 : Int32))) (g0 : n0 ≤ x0) (nx : x0 ≠ tb) (hLZ : own_LZ Z cK) (h6 : ¬ x1 < (6 : Int32)) (h32 : x1.toInt + 1 ≤ 32) (hk0 : ¬ x1 < (0 : Int32)) (hv0 : ¬ x2 < (0 : Int32)) :
    MetFree l (⟨"com/example/kinwarden/kinwarden/IntMap", "put", "(II)V"⟩ : MethodName) (head1 (Jvm.Cond.code (⟨"com/example/kinwarden/kinwarden/IntMap", "put", "(II)V"⟩ : MethodName) prog_53_method_9_code 3 none :: ws) ({ frames := 8, cells := 3, slots := 39, locals := 3106 } : Room)) (fun a U => a = #[(.ref x0), (.int x1), (.int x2)] ∧ Z.Warmed39 U.vm ∧ U.heap = h0 ∧ Z.WarmedH U.vm) (fun _ _ _ _ _ => True) (fun _ U o U' => ∃ v L, o = .returned v ∧ Qpmb Z x0 x1 x2 tb kt lv hv vv cK h0 n0 v U'.heap L ∧ FrameEnd U o U' L ({ frames := 8, cells := 3, slots := 39, locals := 3106 } : Room).cells ({ frames := 8, cells := 3, slots := 39, locals := 3106 } : Room).slots) := by
  refine MetFree.of_bodySF (plainFor_of_name pnpmb) hisR ?_
  intro p e s m args below meth c s₁ Bd hml0 hP hK
  obtain ⟨rfl, hZ, hh, hH⟩ := hP
  have hx := Bd.exec
  have hby := Bd.bytes
  have hml : c.maxLocals = 3 := hml0
  have hown : s.vm.findClass "com/example/kinwarden/kinwarden/IntMap" = some m.cls := findClass_of_methodNamed Bd.named
  have hnm := (name_of_methodNamed Bd.named Bd.method).1
  have X0 : Stand p l e ({ frames := 8, cells := 3, slots := 39, locals := 3106 } : Room) s m #[(.ref x0), (.int x1), (.int x2)] below meth c s₁ [] 0 0 := Stand.of_body Bd
  have e0 : s₁.heap = h0 := by rw [← hh, Bd.state]; rfl
  have N0 := Fr.nil n0
  have pre0 : ∀ t, Steps p.tables e below (s₁.setTop (mkF m 0 #[.val (.ref x0), .val (.int x1), .val (.int x2)] [])) t → Steps p.tables e below (s₁.setTop (entryFrame m #[(.ref x0), (.int x1), (.int x2)] 3)) t := fun t k => castTop (efpmb m x0 x1 x2) k
  obtain ⟨S0, hS0⟩ : ∃ z, z = (s₁.setTop (entryFrame m #[(.ref x0), (.int x1), (.int x2)] 3)) := ⟨_, rfl⟩
  rw [← hS0] at pre0
  have K0 := Keep.refl h0 [x0]
  have p1 : ∀ t, own_W p e below m s₁ 25 #[.val (.ref x0), .val (.int x1), .val (.int x2)] [(.int x1), (.ref x0)] t → Steps p.tables e below S0 t := fun t k => pre0 t (by
    show own_W p e below m s₁ 0 #[.val (.ref x0), .val (.int x1), .val (.int x2)] [] _
    refine XS.iloadN X0.here hx rfl (hb hby dpmb_0) rfl ?_
    refine XS.ifNo X0.here hx rfl (hb hby dpmb_1) rfl ((if0 _ _).trans (flt (hk0)).1) ?_
    refine XS.iloadN X0.here hx rfl (hb hby dpmb_4) rfl ?_
    refine XS.ifYes X0.here hx rfl (pc0 := 5) (pc' := 23) rfl (hb hby dpmb_5) rfl ((if0 _ _).trans (flt (hv0)).2.1) (by decide) (by decide) ?_
    refine XS.aloadN X0.here hx rfl (hb hby dpmb_23) rfl rfl ?_
    refine XS.iloadN X0.here hx rfl (hb hby dpmb_24) rfl ?_
    exact k)
  obtain ⟨cq2, kq2, qa2, qb2, qc2⟩ := isOf hZ e0 E0
  obtain ⟨_, _, ⟨T2, L2, k2, n2⟩, -, X2, ⟨Lc2, hQ2, l2, y2, z2⟩, st2⟩ := X0.virtualBack hx (y := (⟨"com/example/kinwarden/kinwarden/IntMap", "makeRoomFor", "(I)V"⟩ : MethodName)) (z := (⟨"com/example/kinwarden/kinwarden/IntMap", "makeRoomFor", "(I)V"⟩ : MethodName)) hown (mvT hZ (hw _ (List.mem_of_getElem? (i := 43) rfl))) (mvT hZ (hw _ (List.mem_of_getElem? (i := 44) rfl))) (notFace_of_selects (args := #[]) (mvT hZ (hw _ (List.mem_of_getElem? (i := 46) rfl)))) (mvT hZ (hw _ (List.mem_of_getElem? (i := 46) rfl))) (mvT hZ (hw _ (List.mem_of_getElem? (i := 45) rfl))) (by decide) (own_backOfH (W := 0) (rmmmb l Z a0 hw [] x0 x1 tb kt lv hv vv cK h0 n0 Z0 E0 Ft Fb Fs Fh Fl Fv V0 g0 nx hLZ h6 h32 hk0) hZ hH (hw _ (List.mem_of_getElem? (i := 47) rfl)) (hw _ (List.mem_of_getElem? (i := 3) rfl)) (by decide) (by decide)) qa2 qc2 (g := (mkF m 25 #[.val (.ref x0), .val (.int x1), .val (.int x2)] [(.int x1), (.ref x0)])) rfl (by rw [hml]; rfl) (Steps.refl _) (argsL := [(.int x1)]) (rest := []) (lenOf pdpmb_0 rfl) rfl (by show 2 * 0 + _ ≤ _; exact Nat.le_of_eq rfl) (hb hby dpmb_25) (fun _ _ => ⟨rfl, e0, (by decide : 0 + 3 ≤ _), (by decide : 0 + 39 ≤ _)⟩)
  dsimp only [Pt.U, Pt.locs, Pt.cells, Pt.slots] at X2 l2 y2 z2 st2 hQ2
  subst l2 y2 z2
  obtain ⟨rfl, Nq2, K2, HQ2⟩ := hQ2
  have N2 := Fr.app N0 Nq2
  have f3 := E0.keep K2
  have f4 := V0.keep K2 (ninS (Ne.symm nx) nin0)
  have Z2 := Nat.le_trans Z0 K2.1
  have KK2 := K0.trans K2 (allS (Or.inl (List.mem_singleton.mpr rfl)) all0)
  have p5 : ∀ t, own_W p e below m T2 28 #[.val (.ref x0), .val (.int x1), .val (.int x2)] [] t → Steps p.tables e below S0 t := fun t k => p1 t (st2.trans k)
  obtain ⟨nb, kn, N, gnb, hN, sz1, hi1, lv1, hv1, vs1, E1, Ft1, Fb1, Fs1, Fh1, Fl1, Fv1, VN1⟩ := HQ2
  have gb : n0 ≤ nb := Nat.le_trans Z0 gnb
  have nxb : x0 ≠ nb := Nat.ne_of_lt (Nat.lt_of_lt_of_le E0.lt gnb)
  have p6 : ∀ t, own_W p e below m T2 31 #[.val (.ref x0), .val (.int x1), .val (.int x2)] [(.int x2), (.int x1), (.ref x0)] t → Steps p.tables e below S0 t := fun t k => p5 t (by
    show own_W p e below m T2 28 #[.val (.ref x0), .val (.int x1), .val (.int x2)] [] _
    refine XS.aloadN X2.here hx rfl (hb hby dpmb_28) rfl rfl ?_
    refine XS.iloadN X2.here hx rfl (hb hby dpmb_29) rfl ?_
    refine XS.iloadN X2.here hx rfl (hb hby dpmb_30) rfl ?_
    exact k)
  obtain ⟨cq7, qa7, qb7⟩ := Exa.cell E1
  obtain ⟨_, _, ⟨T7, L7, k7, n7⟩, -, X7, ⟨Lc7, hQ7, l7, y7, z7⟩, st7⟩ := X2.privateBack hx (y := (⟨"com/example/kinwarden/kinwarden/IntMap", "putInRoom", "(II)V"⟩ : MethodName)) hown (mvT hZ (hw _ (List.mem_of_getElem? (i := 63) rfl))) (mvT hZ (hw _ (List.mem_of_getElem? (i := 64) rfl))) (own_sel hZ hw (hw _ (List.mem_of_getElem? (i := 64) rfl)) (hw _ (List.mem_of_getElem? (i := 65) rfl))) (Cond.privateMethod_at (mvP (args := #[]) hZ (hw _ (List.mem_of_getElem? (i := 65) rfl)))) (mvT hZ (hw _ (List.mem_of_getElem? (i := 66) rfl))) (by decide) (backOf (W := 0) (rmpb l Z a0 hw [] x0 x1 x2 nb kn sz1 hi1 lv1 hv1 N vs1 T2.heap n0 Z2 E1 Ft1 Fb1 Fs1 Fh1 Fl1 Fv1 VN1 g0 gb nxb (own_5n hN h6).2.1) hZ (hw _ (List.mem_of_getElem? (i := 66) rfl)) (hw _ (List.mem_of_getElem? (i := 3) rfl)) (by decide) (by decide)) (g := (mkF m 31 #[.val (.ref x0), .val (.int x1), .val (.int x2)] [(.int x2), (.int x1), (.ref x0)])) rfl (by rw [hml]; rfl) (Steps.refl _) (a := x0) (cell := cq7) qa7 qb7 (argsL := [(.int x1), (.int x2)]) (rest := []) (lenOf pdpmb_1 rfl) rfl (by show 2 * 0 + _ ≤ _; exact Nat.le_of_eq rfl) (hb hby dpmb_31) (fun _ _ => ⟨rfl, rfl, (by decide : 3 + 0 ≤ _), (by decide : 39 + 0 ≤ _)⟩)
  dsimp only [Pt.U, Pt.locs, Pt.cells, Pt.slots] at X7 l7 y7 z7 st7 hQ7
  subst l7 y7 z7
  obtain ⟨rfl, Nq7, K7, HP7⟩ := hQ7
  have N7 := Fr.app N2 Nq7
  have f8 := E1.keep K7
  have Z7 := Nat.le_trans Z2 K7.1
  have KK7 := KK2.trans K7 (allS (Or.inl (List.mem_singleton.mpr rfl)) (allS (Or.inr gnb) all0))
  have p9 : ∀ t, own_W p e below m T7 34 #[.val (.ref x0), .val (.int x1), .val (.int x2)] [] t → Steps p.tables e below S0 t := fun t k => p6 t (st7.trans k)
  subst hS0
  obtain ⟨fs, hr, hrun, hended, hW, hsame⟩ := X7.leave (v := none) (fun _ => rfl)
  refine ⟨_, _, p9 _ ?_, hrun, hended, _, _, rfl, ?_, ⟨_, rfl⟩, hW, hsame.mono (by decide) (by decide)⟩
  · show own_W p e below m T7 34 #[.val (.ref x0), .val (.int x1), .val (.int x2)] [] _
    exact X7.returnOut hx Bd.returns (hb hby dpmb_34) hr
  · show Qpmb Z x0 x1 x2 tb kt lv hv vv cK h0 n0 _ T7.heap _
    skip
    exact ⟨rfl, N7, KK7, nb, kn, N, gnb, hN, HP7⟩
theorem dmmt_0 : decode prog_53_method_10_code 0 = .ok (.iload_n 1, 1) := by decide +kernel
theorem dmmt_1 : decode prog_53_method_10_code 1 = .ok (.ifCond .ge 17, 3) := by decide +kernel
theorem dmmt_18 : decode prog_53_method_10_code 18 = .ok (.aload_n 0, 1) := by decide +kernel
theorem dmmt_19 : decode prog_53_method_10_code 19 = .ok (.iload_n 1, 1) := by decide +kernel
theorem dmmt_20 : decode prog_53_method_10_code 20 = .ok (.invokevirtual 75, 3) := by decide +kernel
theorem dmmt_23 : decode prog_53_method_10_code 23 = .ok (.ifCond .ne 21, 3) := by decide +kernel
theorem dmmt_26 : decode prog_53_method_10_code 26 = .ok (.aload_n 0, 1) := by decide +kernel
theorem dmmt_27 : decode prog_53_method_10_code 27 = .ok (.aload_n 0, 1) := by decide +kernel
theorem dmmt_28 : decode prog_53_method_10_code 28 = .ok (.getfield 16, 3) := by decide +kernel
theorem dmmt_31 : decode prog_53_method_10_code 31 = .ok (.iload_n 1, 1) := by decide +kernel
theorem dmmt_32 : decode prog_53_method_10_code 32 = .ok (.invokestatic 79, 3) := by decide +kernel
theorem dmmt_35 : decode prog_53_method_10_code 35 = .ok (.aload_n 0, 1) := by decide +kernel
theorem dmmt_36 : decode prog_53_method_10_code 36 = .ok (.getfield 43, 3) := by decide +kernel
theorem dmmt_39 : decode prog_53_method_10_code 39 = .ok (.iconst 1, 1) := by decide +kernel
theorem dmmt_40 : decode prog_53_method_10_code 40 = .ok (.iadd, 1) := by decide +kernel
theorem dmmt_41 : decode prog_53_method_10_code 41 = .ok (.invokevirtual 85, 3) := by decide +kernel
theorem dmmt_44 : decode prog_53_method_10_code 44 = .ok (.return_, 1) := by decide +kernel
theorem pnmmt : plainName "com/example/kinwarden/kinwarden/IntMap" = true := by first | (simp [plainName, overriddenIn]; done) | decide +kernel
theorem pdmmt_0 : parseMethodDescriptor "(I)Z" = some ⟨[.int], some .boolean⟩ := by decide +kernel
theorem pdmmt_1 : parseMethodDescriptor "(II)I" = some ⟨[.int, .int], some .int⟩ := by decide +kernel
theorem pdmmt_2 : parseMethodDescriptor "(II)V" = some ⟨[.int, .int], none⟩ := by decide +kernel
theorem efmmt (m : MethodId) (x0 : Addr) (x1 : Int32) : entryFrame m #[(.ref x0), (.int x1)] 2 = mkF m 0 #[.val (.ref x0), .val (.int x1)] [] := by first | (simp [entryFrame, mkF, argsToLocals, Value.category]; done) | rfl
def Qmmt (Z : State) (x0 : Addr) (x1 : Int32) (tb : Addr) (kt : ClassId) (lv : Int32) (hv : Int32) (vv : Int32) (cK : ClassId) (h0 : Heap) (n0 : Nat) (v : Option Value) (h : Heap) (L : List Loc) : Prop := v = none ∧ Fr n0 L ∧ Keep h0 h [x0] ∧ ∃ (nb : Addr) (kn : ClassId) (N : Int32), h0.size ≤ nb ∧ N = (32 : Int32) ∧ ∃ (sz' hi' lv' hv' : Int32) (vs' : List Value), Exa Z h x0 "com/example/kinwarden/kinwarden/IntMap" ∧ Fld Z h x0 "com/example/kinwarden/kinwarden/IntMap" "table" "[I" (.ref nb) ∧ Fld Z h x0 "com/example/kinwarden/kinwarden/IntMap" "byKey" "[I" .null ∧ Fld Z h x0 "com/example/kinwarden/kinwarden/IntMap" "size" "I" (.int sz') ∧ Fld Z h x0 "com/example/kinwarden/kinwarden/IntMap" "highest" "I" (.int hi') ∧ Fld Z h x0 "com/example/kinwarden/kinwarden/IntMap" "lowestValue" "I" (.int lv') ∧ Fld Z h x0 "com/example/kinwarden/kinwarden/IntMap" "highestValue" "I" (.int hv') ∧ Arv Z h nb kn .int N vs' (.int (0 : Int32))
set_option maxRecDepth 65536 in
set_option maxHeartbeats 40000000 in
theorem rmmmt (l : Launch) (Z : State) (a0 : Array Value) (hw : ∀ d ∈ tables_1, d.before a0 Z = true) (ws : List Jvm.Cond) (x0 : Addr) (x1 : Int32) (tb : Addr) (kt : ClassId) (lv : Int32) (hv : Int32) (vv : Int32) (cK : ClassId) (h0 : Heap) (n0 : Nat) (Z0 : n0 ≤ h0.size) (E0 : Exa Z h0 x0 "com/example/kinwarden/kinwarden/IntMap") (Ft : Fld Z h0 x0 "com/example/kinwarden/kinwarden/IntMap" "table" "[I" (.ref tb)) (Fb : Fld Z h0 x0 "com/example/kinwarden/kinwarden/IntMap" "byKey" "[I" .null) (Fs : Fld Z h0 x0 "com/example/kinwarden/kinwarden/IntMap" "size" "I" (.int (6 : Int32))) (Fh : Fld Z h0 x0 "com/example/kinwarden/kinwarden/IntMap" "highest" "I" (.int (5 : Int32))) (Fl : Fld Z h0 x0 "com/example/kinwarden/kinwarden/IntMap" "lowestValue" "I" (.int lv)) (Fv : Fld Z h0 x0 "com/example/kinwarden/kinwarden/IntMap" "highestValue" "I" (.int hv)) (V0 : Arv Z h0 tb kt .int (16 : Int32) (own_T6 vv) (.int (0 : Int32))) (g0 : n0 ≤ x0) (nx : x0 ≠ tb) (hLZ : own_LZ Z cK) (h6 : ¬ x1 < (6 : Int32)) (h32 : ¬ x1.toInt + 1 ≤ 32) (hk0 : ¬ x1 < (0 : Int32)) :
    MetFree l (⟨"com/example/kinwarden/kinwarden/IntMap", "makeRoomFor", "(I)V"⟩ : MethodName) (head1 (Jvm.Cond.code (⟨"com/example/kinwarden/kinwarden/IntMap", "makeRoomFor", "(I)V"⟩ : MethodName) prog_53_method_10_code 2 none :: ws) ({ frames := 7, cells := 3, slots := 39, locals := 3093 } : Room)) (fun a U => a = #[(.ref x0), (.int x1)] ∧ Z.Warmed39 U.vm ∧ U.heap = h0 ∧ Z.WarmedH U.vm) (fun _ _ _ _ _ => True) (fun _ U o U' => ∃ v L, o = .returned v ∧ Qmmt Z x0 x1 tb kt lv hv vv cK h0 n0 v U'.heap L ∧ FrameEnd U o U' L ({ frames := 7, cells := 3, slots := 39, locals := 3093 } : Room).cells ({ frames := 7, cells := 3, slots := 39, locals := 3093 } : Room).slots) := by
  refine MetFree.of_bodySF (plainFor_of_name pnmmt) hisR ?_
  intro p e s m args below meth c s₁ Bd hml0 hP hK
  obtain ⟨rfl, hZ, hh, hH⟩ := hP
  have hx := Bd.exec
  have hby := Bd.bytes
  have hml : c.maxLocals = 2 := hml0
  have hown : s.vm.findClass "com/example/kinwarden/kinwarden/IntMap" = some m.cls := findClass_of_methodNamed Bd.named
  have hnm := (name_of_methodNamed Bd.named Bd.method).1
  have X0 : Stand p l e ({ frames := 7, cells := 3, slots := 39, locals := 3093 } : Room) s m #[(.ref x0), (.int x1)] below meth c s₁ [] 0 0 := Stand.of_body Bd
  have e0 : s₁.heap = h0 := by rw [← hh, Bd.state]; rfl
  have N0 := Fr.nil n0
  have pre0 : ∀ t, Steps p.tables e below (s₁.setTop (mkF m 0 #[.val (.ref x0), .val (.int x1)] [])) t → Steps p.tables e below (s₁.setTop (entryFrame m #[(.ref x0), (.int x1)] 2)) t := fun t k => castTop (efmmt m x0 x1) k
  obtain ⟨S0, hS0⟩ : ∃ z, z = (s₁.setTop (entryFrame m #[(.ref x0), (.int x1)] 2)) := ⟨_, rfl⟩
  rw [← hS0] at pre0
  have K0 := Keep.refl h0 [x0]
  have p1 : ∀ t, own_W p e below m s₁ 20 #[.val (.ref x0), .val (.int x1)] [(.int x1), (.ref x0)] t → Steps p.tables e below S0 t := fun t k => pre0 t (by
    show own_W p e below m s₁ 0 #[.val (.ref x0), .val (.int x1)] [] _
    refine XS.iloadN X0.here hx rfl (hb hby dmmt_0) rfl ?_
    refine XS.ifYes X0.here hx rfl (pc0 := 1) (pc' := 18) rfl (hb hby dmmt_1) rfl ((if0 _ _).trans (flt (hk0)).2.1) (by decide) (by decide) ?_
    refine XS.aloadN X0.here hx rfl (hb hby dmmt_18) rfl rfl ?_
    refine XS.iloadN X0.here hx rfl (hb hby dmmt_19) rfl ?_
    exact k)
  obtain ⟨cq2, qa2, qb2⟩ := Exa.cell E0
  obtain ⟨_, _, ⟨T2, L2, k2, n2⟩, -, X2, ⟨Lc2, hQ2, l2, y2, z2⟩, st2⟩ := X0.privateBack hx (y := (⟨"com/example/kinwarden/kinwarden/IntMap", "hasRoomFor", "(I)Z"⟩ : MethodName)) hown (mvT hZ (hw _ (List.mem_of_getElem? (i := 48) rfl))) (mvT hZ (hw _ (List.mem_of_getElem? (i := 49) rfl))) (own_sel hZ hw (hw _ (List.mem_of_getElem? (i := 49) rfl)) (hw _ (List.mem_of_getElem? (i := 50) rfl))) (Cond.privateMethod_at (mvP (args := #[]) hZ (hw _ (List.mem_of_getElem? (i := 50) rfl)))) (mvT hZ (hw _ (List.mem_of_getElem? (i := 51) rfl))) (by decide) (backOf (W := 0) (rmhx l Z a0 hw [] x0 x1 tb kt vv h0 n0 Z0 E0 Ft Fb Fs V0 h6) hZ (hw _ (List.mem_of_getElem? (i := 51) rfl)) (hw _ (List.mem_of_getElem? (i := 3) rfl)) (by decide) (by decide)) (g := (mkF m 20 #[.val (.ref x0), .val (.int x1)] [(.int x1), (.ref x0)])) rfl (by rw [hml]; rfl) (Steps.refl _) (a := x0) (cell := cq2) (by rw [e0]; exact qa2) qb2 (argsL := [(.int x1)]) (rest := []) (lenOf pdmmt_0 rfl) rfl (by show 2 * 0 + _ ≤ _; exact Nat.le_of_eq rfl) (hb hby dmmt_20) (fun _ _ => ⟨rfl, e0, (by decide : 0 + 0 ≤ _), (by decide : 0 + 0 ≤ _)⟩)
  dsimp only [Pt.U, Pt.locs, Pt.cells, Pt.slots] at X2 l2 y2 z2 st2 hQ2
  subst l2 y2 z2
  obtain ⟨rfl, Nq2, e2⟩ := hQ2
  have N2 := Fr.app N0 Nq2
  have p3 : ∀ t, own_W p e below m T2 23 #[.val (.ref x0), .val (.int x1)] [(.int (0 : Int32))] t → Steps p.tables e below S0 t := fun t k => p1 t (st2.trans k)
  have p4 : ∀ t, own_W p e below m T2 28 #[.val (.ref x0), .val (.int x1)] [(.ref x0), (.ref x0)] t → Steps p.tables e below S0 t := fun t k => p3 t (by
    show own_W p e below m T2 23 #[.val (.ref x0), .val (.int x1)] [(.int (0 : Int32))] _
    refine XS.ifNo X2.here hx rfl (hb hby dmmt_23) rfl ((if0 _ _).trans (teq (rfl)).2) ?_
    refine XS.aloadN X2.here hx rfl (hb hby dmmt_26) rfl rfl ?_
    refine XS.aloadN X2.here hx rfl (hb hby dmmt_27) rfl rfl ?_
    exact k)
  obtain ⟨T5, X5, e5, st5⟩ := getF X2 hx hZ hown (host := "") (Or.inl (hw _ (List.mem_of_getElem? (i := 21) rfl))) Via.refl e2 Fh (g := (mkF m 28 #[.val (.ref x0), .val (.int x1)] [(.ref x0), (.ref x0)])) rfl rfl (hb hby dmmt_28)
  have p6 : ∀ t, own_W p e below m T5 31 #[.val (.ref x0), .val (.int x1)] [(.int (5 : Int32)), (.ref x0)] t → Steps p.tables e below S0 t := fun t k => p4 t (st5 t k)
  have p7 : ∀ t, own_W p e below m T5 32 #[.val (.ref x0), .val (.int x1)] [(.int x1), (.int (5 : Int32)), (.ref x0)] t → Steps p.tables e below S0 t := fun t k => p6 t (by
    show own_W p e below m T5 31 #[.val (.ref x0), .val (.int x1)] [(.int (5 : Int32)), (.ref x0)] _
    refine XS.iloadN X5.here hx rfl (hb hby dmmt_31) rfl ?_
    exact k)
  obtain ⟨_, _, ⟨T8, L8, k8, n8⟩, -, X8, ⟨Lc8, hQ8, l8, y8, z8⟩, st8⟩ := Jvm.LawKit.callS X5 hx (y := (⟨"java/lang/Math", "max", "(II)I"⟩ : MethodName)) hown (mvT hZ (hw _ (List.mem_of_getElem? (i := 67) rfl))) (mvT hZ (hw _ (List.mem_of_getElem? (i := 68) rfl))) (mvT hZ (hw _ (List.mem_of_getElem? (i := 69) rfl))) (mvT hZ (hw _ (List.mem_of_getElem? (i := 70) rfl))) (by decide) (backOf (W := 1) (rmmxr l Z a0 hw [] (5 : Int32) x1  h0 n0 Z0 (own_5x h6)) hZ (hw _ (List.mem_of_getElem? (i := 70) rfl)) (hw _ (List.mem_of_getElem? (i := 69) rfl)) (by decide) (by decide)) (g := (mkF m 32 #[.val (.ref x0), .val (.int x1)] [(.int x1), (.int (5 : Int32)), (.ref x0)])) rfl (by rw [hml]; rfl) (argsL := [(.int (5 : Int32)), (.int x1)]) (rest := [(.ref x0)]) (lenOf pdmmt_1 rfl) rfl (by show 2 * 0 + _ ≤ _; exact Nat.le_of_eq rfl) (hb hby dmmt_32) (fun _ _ => ⟨rfl, e5, (by decide : 0 + 0 ≤ _), (by decide : 0 + 0 ≤ _)⟩)
  dsimp only [Pt.U, Pt.locs, Pt.cells, Pt.slots] at X8 l8 y8 z8 st8 hQ8
  subst l8 y8 z8
  obtain ⟨rfl, Nq8, e8⟩ := hQ8
  have N8 := Fr.app N2 Nq8
  have p9 : ∀ t, own_W p e below m T8 35 #[.val (.ref x0), .val (.int x1)] [(.int x1), (.ref x0)] t → Steps p.tables e below S0 t := fun t k => p7 t (st8 _ k)
  have p10 : ∀ t, own_W p e below m T8 36 #[.val (.ref x0), .val (.int x1)] [(.ref x0), (.int x1), (.ref x0)] t → Steps p.tables e below S0 t := fun t k => p9 t (by
    show own_W p e below m T8 35 #[.val (.ref x0), .val (.int x1)] [(.int x1), (.ref x0)] _
    refine XS.aloadN X8.here hx rfl (hb hby dmmt_35) rfl rfl ?_
    exact k)
  obtain ⟨T11, X11, e11, st11⟩ := getF X8 hx hZ hown (host := "") (Or.inl (hw _ (List.mem_of_getElem? (i := 61) rfl))) Via.refl e8 Fs (g := (mkF m 36 #[.val (.ref x0), .val (.int x1)] [(.ref x0), (.int x1), (.ref x0)])) rfl rfl (hb hby dmmt_36)
  have p12 : ∀ t, own_W p e below m T11 39 #[.val (.ref x0), .val (.int x1)] [(.int (6 : Int32)), (.int x1), (.ref x0)] t → Steps p.tables e below S0 t := fun t k => p10 t (st11 t k)
  have p13 : ∀ t, own_W p e below m T11 41 #[.val (.ref x0), .val (.int x1)] [(.int ((6 : Int32) + (1 : Int32))), (.int x1), (.ref x0)] t → Steps p.tables e below S0 t := fun t k => p12 t (by
    show own_W p e below m T11 39 #[.val (.ref x0), .val (.int x1)] [(.int (6 : Int32)), (.int x1), (.ref x0)] _
    refine XS.iconst X11.here hx rfl (hb hby dmmt_39) ?_
    refine XS.iadd X11.here hx rfl (hb hby dmmt_40) rfl ?_
    exact k)
  have p14 : ∀ t, own_W p e below m T11 41 #[.val (.ref x0), .val (.int x1)] [(.int (7 : Int32)), (.int x1), (.ref x0)] t → Steps p.tables e below S0 t := by
    have k := p13
    rw [show ((6 : Int32) + (1 : Int32)) = (7 : Int32) from by decide] at k
    exact k
  obtain ⟨cq15, qa15, qb15⟩ := Exa.cell E0
  obtain ⟨_, _, ⟨T15, L15, k15, n15⟩, -, X15, ⟨Lc15, hQ15, l15, y15, z15⟩, st15⟩ := X11.privateBack hx (y := (⟨"com/example/kinwarden/kinwarden/IntMap", "moveToRoomFor", "(II)V"⟩ : MethodName)) hown (mvT hZ (hw _ (List.mem_of_getElem? (i := 75) rfl))) (mvT hZ (hw _ (List.mem_of_getElem? (i := 76) rfl))) (own_sel hZ hw (hw _ (List.mem_of_getElem? (i := 76) rfl)) (hw _ (List.mem_of_getElem? (i := 77) rfl))) (Cond.privateMethod_at (mvP (args := #[]) hZ (hw _ (List.mem_of_getElem? (i := 77) rfl)))) (mvT hZ (hw _ (List.mem_of_getElem? (i := 78) rfl))) (by decide) (own_backOfH (W := 0) (rmmvt l Z a0 hw [] x0 x1 tb kt lv hv vv cK h0 n0 Z0 E0 Ft Fb Fs Fh Fl Fv V0 g0 nx hLZ h6 h32) hZ hH (hw _ (List.mem_of_getElem? (i := 78) rfl)) (hw _ (List.mem_of_getElem? (i := 3) rfl)) (by decide) (by decide)) (g := (mkF m 41 #[.val (.ref x0), .val (.int x1)] [(.int (7 : Int32)), (.int x1), (.ref x0)])) rfl (by rw [hml]; rfl) (Steps.refl _) (a := x0) (cell := cq15) (by rw [e11]; exact qa15) qb15 (argsL := [(.int x1), (.int (7 : Int32))]) (rest := []) (lenOf pdmmt_2 rfl) rfl (by show 2 * 0 + _ ≤ _; exact Nat.le_of_eq rfl) (hb hby dmmt_41) (fun _ _ => ⟨rfl, e11, (by decide : 0 + 3 ≤ _), (by decide : 0 + 39 ≤ _)⟩)
  dsimp only [Pt.U, Pt.locs, Pt.cells, Pt.slots] at X15 l15 y15 z15 st15 hQ15
  subst l15 y15 z15
  obtain ⟨rfl, Nq15, K15, HQ15⟩ := hQ15
  have N15 := Fr.app N8 Nq15
  have f16 := E0.keep K15
  have f17 := V0.keep K15 (ninS (Ne.symm nx) nin0)
  have Z15 := Nat.le_trans Z0 K15.1
  have KK15 := K0.trans K15 (allS (Or.inl (List.mem_singleton.mpr rfl)) all0)
  have p18 : ∀ t, own_W p e below m T15 44 #[.val (.ref x0), .val (.int x1)] [] t → Steps p.tables e below S0 t := fun t k => p14 t (st15.trans k)
  subst hS0
  obtain ⟨fs, hr, hrun, hended, hW, hsame⟩ := X15.leave (v := none) (fun _ => rfl)
  refine ⟨_, _, p18 _ ?_, hrun, hended, _, _, rfl, ?_, ⟨_, rfl⟩, hW, hsame.mono (by decide) (by decide)⟩
  · show own_W p e below m T15 44 #[.val (.ref x0), .val (.int x1)] [] _
    exact X15.returnOut hx Bd.returns (hb hby dmmt_44) hr
  · show Qmmt Z x0 x1 tb kt lv hv vv cK h0 n0 _ T15.heap _
    skip
    exact ⟨rfl, N15, KK15, HQ15⟩
theorem dpmt_0 : decode prog_53_method_9_code 0 = .ok (.iload_n 1, 1) := by decide +kernel
theorem dpmt_1 : decode prog_53_method_9_code 1 = .ok (.ifCond .lt 7, 3) := by decide +kernel
theorem dpmt_4 : decode prog_53_method_9_code 4 = .ok (.iload_n 2, 1) := by decide +kernel
theorem dpmt_5 : decode prog_53_method_9_code 5 = .ok (.ifCond .ge 18, 3) := by decide +kernel
theorem dpmt_23 : decode prog_53_method_9_code 23 = .ok (.aload_n 0, 1) := by decide +kernel
theorem dpmt_24 : decode prog_53_method_9_code 24 = .ok (.iload_n 1, 1) := by decide +kernel
theorem dpmt_25 : decode prog_53_method_9_code 25 = .ok (.invokevirtual 64, 3) := by decide +kernel
theorem dpmt_28 : decode prog_53_method_9_code 28 = .ok (.aload_n 0, 1) := by decide +kernel
theorem dpmt_29 : decode prog_53_method_9_code 29 = .ok (.iload_n 1, 1) := by decide +kernel
theorem dpmt_30 : decode prog_53_method_9_code 30 = .ok (.iload_n 2, 1) := by decide +kernel
theorem dpmt_31 : decode prog_53_method_9_code 31 = .ok (.invokevirtual 68, 3) := by decide +kernel
theorem dpmt_34 : decode prog_53_method_9_code 34 = .ok (.return_, 1) := by decide +kernel
theorem pnpmt : plainName "com/example/kinwarden/kinwarden/IntMap" = true := by first | (simp [plainName, overriddenIn]; done) | decide +kernel
theorem pdpmt_0 : parseMethodDescriptor "(I)V" = some ⟨[.int], none⟩ := by decide +kernel
theorem pdpmt_1 : parseMethodDescriptor "(II)V" = some ⟨[.int, .int], none⟩ := by decide +kernel
theorem efpmt (m : MethodId) (x0 : Addr) (x1 : Int32) (x2 : Int32) : entryFrame m #[(.ref x0), (.int x1), (.int x2)] 3 = mkF m 0 #[.val (.ref x0), .val (.int x1), .val (.int x2)] [] := by first | (simp [entryFrame, mkF, argsToLocals, Value.category]; done) | rfl
def Qpmt (Z : State) (x0 : Addr) (x1 : Int32) (x2 : Int32) (tb : Addr) (kt : ClassId) (lv : Int32) (hv : Int32) (vv : Int32) (cK : ClassId) (h0 : Heap) (n0 : Nat) (v : Option Value) (h : Heap) (L : List Loc) : Prop := v = none ∧ Fr n0 L ∧ Keep h0 h [x0] ∧ ∃ (nb : Addr) (kn : ClassId) (N : Int32), h0.size ≤ nb ∧ N = (32 : Int32) ∧ ∃ (sz' hi' lv' hv' : Int32) (vs' : List Value), Exa Z h x0 "com/example/kinwarden/kinwarden/IntMap" ∧ Fld Z h x0 "com/example/kinwarden/kinwarden/IntMap" "table" "[I" (.ref nb) ∧ Fld Z h x0 "com/example/kinwarden/kinwarden/IntMap" "byKey" "[I" .null ∧ Fld Z h x0 "com/example/kinwarden/kinwarden/IntMap" "size" "I" (.int sz') ∧ Fld Z h x0 "com/example/kinwarden/kinwarden/IntMap" "highest" "I" (.int hi') ∧ Fld Z h x0 "com/example/kinwarden/kinwarden/IntMap" "lowestValue" "I" (.int lv') ∧ Fld Z h x0 "com/example/kinwarden/kinwarden/IntMap" "highestValue" "I" (.int hv') ∧ Arv Z h nb kn .int N vs' (.int (0 : Int32))
set_option maxRecDepth 65536 in
set_option maxHeartbeats 40000000 in
theorem rmpmt (l : Launch) (Z : State) (a0 : Array Value) (hw : ∀ d ∈ tables_1, d.before a0 Z = true) (ws : List Jvm.Cond) (x0 : Addr) (x1 : Int32) (x2 : Int32) (tb : Addr) (kt : ClassId) (lv : Int32) (hv : Int32) (vv : Int32) (cK : ClassId) (h0 : Heap) (n0 : Nat) (Z0 : n0 ≤ h0.size) (E0 : Exa Z h0 x0 "com/example/kinwarden/kinwarden/IntMap") (Ft : Fld Z h0 x0 "com/example/kinwarden/kinwarden/IntMap" "table" "[I" (.ref tb)) (Fb : Fld Z h0 x0 "com/example/kinwarden/kinwarden/IntMap" "byKey" "[I" .null) (Fs : Fld Z h0 x0 "com/example/kinwarden/kinwarden/IntMap" "size" "I" (.int (6 : Int32))) (Fh : Fld Z h0 x0 "com/example/kinwarden/kinwarden/IntMap" "highest" "I" (.int (5 : Int32))) (Fl : Fld Z h0 x0 "com/example/kinwarden/kinwarden/IntMap" "lowestValue" "I" (.int lv)) (Fv : Fld Z h0 x0 "com/example/kinwarden/kinwarden/IntMap" "highestValue" "I" (.int hv)) (V0 : Arv Z h0 tb kt .int (16 : Int32) (own_T6 vv) (.int (0 : Int32))) (g0 : n0 ≤ x0) (nx : x0 ≠ tb) (hLZ : own_LZ Z cK) (h6 : ¬ x1 < (6 : Int32)) (h32 : ¬ x1.toInt + 1 ≤ 32) (hk0 : ¬ x1 < (0 : Int32)) (hv0 : ¬ x2 < (0 : Int32)) :
    MetFree l (⟨"com/example/kinwarden/kinwarden/IntMap", "put", "(II)V"⟩ : MethodName) (head1 (Jvm.Cond.code (⟨"com/example/kinwarden/kinwarden/IntMap", "put", "(II)V"⟩ : MethodName) prog_53_method_9_code 3 none :: ws) ({ frames := 8, cells := 3, slots := 39, locals := 3106 } : Room)) (fun a U => a = #[(.ref x0), (.int x1), (.int x2)] ∧ Z.Warmed39 U.vm ∧ U.heap = h0 ∧ Z.WarmedH U.vm) (fun _ _ _ _ _ => True) (fun _ U o U' => ∃ v L, o = .returned v ∧ Qpmt Z x0 x1 x2 tb kt lv hv vv cK h0 n0 v U'.heap L ∧ FrameEnd U o U' L ({ frames := 8, cells := 3, slots := 39, locals := 3106 } : Room).cells ({ frames := 8, cells := 3, slots := 39, locals := 3106 } : Room).slots) := by
  refine MetFree.of_bodySF (plainFor_of_name pnpmt) hisR ?_
  intro p e s m args below meth c s₁ Bd hml0 hP hK
  obtain ⟨rfl, hZ, hh, hH⟩ := hP
  have hx := Bd.exec
  have hby := Bd.bytes
  have hml : c.maxLocals = 3 := hml0
  have hown : s.vm.findClass "com/example/kinwarden/kinwarden/IntMap" = some m.cls := findClass_of_methodNamed Bd.named
  have hnm := (name_of_methodNamed Bd.named Bd.method).1
  have X0 : Stand p l e ({ frames := 8, cells := 3, slots := 39, locals := 3106 } : Room) s m #[(.ref x0), (.int x1), (.int x2)] below meth c s₁ [] 0 0 := Stand.of_body Bd
  have e0 : s₁.heap = h0 := by rw [← hh, Bd.state]; rfl
  have N0 := Fr.nil n0
  have pre0 : ∀ t, Steps p.tables e below (s₁.setTop (mkF m 0 #[.val (.ref x0), .val (.int x1), .val (.int x2)] [])) t → Steps p.tables e below (s₁.setTop (entryFrame m #[(.ref x0), (.int x1), (.int x2)] 3)) t := fun t k => castTop (efpmt m x0 x1 x2) k
  obtain ⟨S0, hS0⟩ : ∃ z, z = (s₁.setTop (entryFrame m #[(.ref x0), (.int x1), (.int x2)] 3)) := ⟨_, rfl⟩
  rw [← hS0] at pre0
  have K0 := Keep.refl h0 [x0]
  have p1 : ∀ t, own_W p e below m s₁ 25 #[.val (.ref x0), .val (.int x1), .val (.int x2)] [(.int x1), (.ref x0)] t → Steps p.tables e below S0 t := fun t k => pre0 t (by
    show own_W p e below m s₁ 0 #[.val (.ref x0), .val (.int x1), .val (.int x2)] [] _
    refine XS.iloadN X0.here hx rfl (hb hby dpmt_0) rfl ?_
    refine XS.ifNo X0.here hx rfl (hb hby dpmt_1) rfl ((if0 _ _).trans (flt (hk0)).1) ?_
    refine XS.iloadN X0.here hx rfl (hb hby dpmt_4) rfl ?_
    refine XS.ifYes X0.here hx rfl (pc0 := 5) (pc' := 23) rfl (hb hby dpmt_5) rfl ((if0 _ _).trans (flt (hv0)).2.1) (by decide) (by decide) ?_
    refine XS.aloadN X0.here hx rfl (hb hby dpmt_23) rfl rfl ?_
    refine XS.iloadN X0.here hx rfl (hb hby dpmt_24) rfl ?_
    exact k)
  obtain ⟨cq2, kq2, qa2, qb2, qc2⟩ := isOf hZ e0 E0
  obtain ⟨_, _, ⟨T2, L2, k2, n2⟩, -, X2, ⟨Lc2, hQ2, l2, y2, z2⟩, st2⟩ := X0.virtualBack hx (y := (⟨"com/example/kinwarden/kinwarden/IntMap", "makeRoomFor", "(I)V"⟩ : MethodName)) (z := (⟨"com/example/kinwarden/kinwarden/IntMap", "makeRoomFor", "(I)V"⟩ : MethodName)) hown (mvT hZ (hw _ (List.mem_of_getElem? (i := 43) rfl))) (mvT hZ (hw _ (List.mem_of_getElem? (i := 44) rfl))) (notFace_of_selects (args := #[]) (mvT hZ (hw _ (List.mem_of_getElem? (i := 46) rfl)))) (mvT hZ (hw _ (List.mem_of_getElem? (i := 46) rfl))) (mvT hZ (hw _ (List.mem_of_getElem? (i := 45) rfl))) (by decide) (own_backOfH (W := 0) (rmmmt l Z a0 hw [] x0 x1 tb kt lv hv vv cK h0 n0 Z0 E0 Ft Fb Fs Fh Fl Fv V0 g0 nx hLZ h6 h32 hk0) hZ hH (hw _ (List.mem_of_getElem? (i := 47) rfl)) (hw _ (List.mem_of_getElem? (i := 3) rfl)) (by decide) (by decide)) qa2 qc2 (g := (mkF m 25 #[.val (.ref x0), .val (.int x1), .val (.int x2)] [(.int x1), (.ref x0)])) rfl (by rw [hml]; rfl) (Steps.refl _) (argsL := [(.int x1)]) (rest := []) (lenOf pdpmt_0 rfl) rfl (by show 2 * 0 + _ ≤ _; exact Nat.le_of_eq rfl) (hb hby dpmt_25) (fun _ _ => ⟨rfl, e0, (by decide : 0 + 3 ≤ _), (by decide : 0 + 39 ≤ _)⟩)
  dsimp only [Pt.U, Pt.locs, Pt.cells, Pt.slots] at X2 l2 y2 z2 st2 hQ2
  subst l2 y2 z2
  obtain ⟨rfl, Nq2, K2, HQ2⟩ := hQ2
  have N2 := Fr.app N0 Nq2
  have f3 := E0.keep K2
  have f4 := V0.keep K2 (ninS (Ne.symm nx) nin0)
  have Z2 := Nat.le_trans Z0 K2.1
  have KK2 := K0.trans K2 (allS (Or.inl (List.mem_singleton.mpr rfl)) all0)
  have p5 : ∀ t, own_W p e below m T2 28 #[.val (.ref x0), .val (.int x1), .val (.int x2)] [] t → Steps p.tables e below S0 t := fun t k => p1 t (st2.trans k)
  obtain ⟨nb, kn, N, gnb, hN, sz1, hi1, lv1, hv1, vs1, E1, Ft1, Fb1, Fs1, Fh1, Fl1, Fv1, VN1⟩ := HQ2
  have gb : n0 ≤ nb := Nat.le_trans Z0 gnb
  have nxb : x0 ≠ nb := Nat.ne_of_lt (Nat.lt_of_lt_of_le E0.lt gnb)
  subst hN
  have p6 : ∀ t, own_W p e below m T2 31 #[.val (.ref x0), .val (.int x1), .val (.int x2)] [(.int x2), (.int x1), (.ref x0)] t → Steps p.tables e below S0 t := fun t k => p5 t (by
    show own_W p e below m T2 28 #[.val (.ref x0), .val (.int x1), .val (.int x2)] [] _
    refine XS.aloadN X2.here hx rfl (hb hby dpmt_28) rfl rfl ?_
    refine XS.iloadN X2.here hx rfl (hb hby dpmt_29) rfl ?_
    refine XS.iloadN X2.here hx rfl (hb hby dpmt_30) rfl ?_
    exact k)
  obtain ⟨cq7, qa7, qb7⟩ := Exa.cell E1
  obtain ⟨_, _, ⟨T7, L7, k7, n7⟩, -, X7, ⟨Lc7, hQ7, l7, y7, z7⟩, st7⟩ := X2.privateBack hx (y := (⟨"com/example/kinwarden/kinwarden/IntMap", "putInRoom", "(II)V"⟩ : MethodName)) hown (mvT hZ (hw _ (List.mem_of_getElem? (i := 63) rfl))) (mvT hZ (hw _ (List.mem_of_getElem? (i := 64) rfl))) (own_sel hZ hw (hw _ (List.mem_of_getElem? (i := 64) rfl)) (hw _ (List.mem_of_getElem? (i := 65) rfl))) (Cond.privateMethod_at (mvP (args := #[]) hZ (hw _ (List.mem_of_getElem? (i := 65) rfl)))) (mvT hZ (hw _ (List.mem_of_getElem? (i := 66) rfl))) (by decide) (backOf (W := 0) (rmpg16 l Z a0 hw [] x0 x1 x2 nb kn sz1 hi1 lv1 hv1 vs1 T2.heap n0 Z2 E1 Ft1 Fb1 Fs1 Fh1 Fl1 Fv1 VN1 g0 gb nxb) hZ (hw _ (List.mem_of_getElem? (i := 66) rfl)) (hw _ (List.mem_of_getElem? (i := 3) rfl)) (by decide) (by decide)) (g := (mkF m 31 #[.val (.ref x0), .val (.int x1), .val (.int x2)] [(.int x2), (.int x1), (.ref x0)])) rfl (by rw [hml]; rfl) (Steps.refl _) (a := x0) (cell := cq7) qa7 qb7 (argsL := [(.int x1), (.int x2)]) (rest := []) (lenOf pdpmt_1 rfl) rfl (by show 2 * 0 + _ ≤ _; exact Nat.le_of_eq rfl) (hb hby dpmt_31) (fun _ _ => ⟨rfl, rfl, (by decide : 3 + 0 ≤ _), (by decide : 39 + 0 ≤ _)⟩)
  dsimp only [Pt.U, Pt.locs, Pt.cells, Pt.slots] at X7 l7 y7 z7 st7 hQ7
  subst l7 y7 z7
  obtain ⟨rfl, Nq7, K7, HP7⟩ := hQ7
  have N7 := Fr.app N2 Nq7
  have f8 := E1.keep K7
  have Z7 := Nat.le_trans Z2 K7.1
  have KK7 := KK2.trans K7 (allS (Or.inl (List.mem_singleton.mpr rfl)) (allS (Or.inr gnb) all0))
  have p9 : ∀ t, own_W p e below m T7 34 #[.val (.ref x0), .val (.int x1), .val (.int x2)] [] t → Steps p.tables e below S0 t := fun t k => p6 t (st7.trans k)
  subst hS0
  obtain ⟨fs, hr, hrun, hended, hW, hsame⟩ := X7.leave (v := none) (fun _ => rfl)
  refine ⟨_, _, p9 _ ?_, hrun, hended, _, _, rfl, ?_, ⟨_, rfl⟩, hW, hsame.mono (by decide) (by decide)⟩
  · show own_W p e below m T7 34 #[.val (.ref x0), .val (.int x1), .val (.int x2)] [] _
    exact X7.returnOut hx Bd.returns (hb hby dpmt_34) hr
  · show Qpmt Z x0 x1 x2 tb kt lv hv vv cK h0 n0 _ T7.heap _
    skip
    exact ⟨rfl, N7, KK7, nb, kn, _, gnb, rfl, HP7⟩
theorem pn0 : plainName "com/example/kinwarden/kinwarden/IntMapBytesPinLaw" = true := by first | (simp [plainName, overriddenIn]; done) | decide +kernel
theorem pd0_0 : parseMethodDescriptor "()V" = some ⟨[], none⟩ := by decide +kernel
theorem pd0_1 : parseMethodDescriptor "(II)V" = some ⟨[.int, .int], none⟩ := by decide +kernel
theorem pd0_2 : parseMethodDescriptor "()J" = some ⟨[], some .long⟩ := by decide +kernel
theorem ef0 (m : MethodId) (x0 : Int32) (x1 : Int32) (x2 : Int32) (x3 : Int32) : entryFrame m #[(.int x0), (.int x1), (.int x2), (.int x3)] maxLocals = mkF m 0 #[.val (.int x0), .val (.int x1), .val (.int x2), .val (.int x3), .unset, .unset, .unset, .unset, .unset, .unset, .unset, .unset, .unset, .unset] [] := by first | (simp [entryFrame, mkF, argsToLocals, Value.category, maxLocals]; done) | rfl
def Q0 (Z : State) (x0 : Int32) (x1 : Int32) (x2 : Int32) (x3 : Int32) (cK : ClassId) (h0 : Heap) (n0 : Nat) (v : Option Value) (h : Heap) (L : List Loc) : Prop := v = some (.int (1 : Int32)) ∧ Fr n0 L
set_option maxRecDepth 65536 in
set_option maxHeartbeats 40000000 in
theorem rm0 (l : Launch) (Z : State) (a0 : Array Value) (hw : ∀ d ∈ tables_1, d.before a0 Z = true) (ws : List Jvm.Cond) (x0 : Int32) (x1 : Int32) (x2 : Int32) (x3 : Int32) (cK : ClassId) (h0 : Heap) (n0 : Nat) (Z0 : n0 ≤ h0.size) (hLZ : own_LZ Z cK) :
    MetFree l x (head1 (Jvm.Cond.code x code maxLocals ret :: ws) room_1) (fun a U => a = #[(.int x0), (.int x1), (.int x2), (.int x3)] ∧ Z.Warmed39 U.vm ∧ U.heap = h0 ∧ Z.WarmedH U.vm) (fun _ _ _ _ _ => True) (fun _ U o U' => ∃ v L, o = .returned v ∧ Q0 Z x0 x1 x2 x3 cK h0 n0 v U'.heap L ∧ FrameEnd U o U' L room_1.cells room_1.slots) := by
  refine MetFree.of_bodySF (plainFor_of_name pn0) hisR ?_
  intro p e s m args below meth c s₁ Bd hml0 hP hK
  obtain ⟨rfl, hZ, hh, hH⟩ := hP
  have hx := Bd.exec
  have hby := Bd.bytes
  have hml : c.maxLocals = 14 := hml0
  have hown : s.vm.findClass "com/example/kinwarden/kinwarden/IntMapBytesPinLaw" = some m.cls := findClass_of_methodNamed Bd.named
  have hnm := (name_of_methodNamed Bd.named Bd.method).1
  have X0 : Stand p l e room_1 s m #[(.int x0), (.int x1), (.int x2), (.int x3)] below meth c s₁ [] 0 0 := Stand.of_body Bd
  have e0 : s₁.heap = h0 := by rw [← hh, Bd.state]; rfl
  have N0 := Fr.nil n0
  have pre0 : ∀ t, Steps p.tables e below (s₁.setTop (mkF m 0 #[.val (.int x0), .val (.int x1), .val (.int x2), .val (.int x3), .unset, .unset, .unset, .unset, .unset, .unset, .unset, .unset, .unset, .unset] [])) t → Steps p.tables e below (s₁.setTop (entryFrame m #[(.int x0), (.int x1), (.int x2), (.int x3)] maxLocals)) t := fun t k => castTop (ef0 m x0 x1 x2 x3) k
  obtain ⟨S0, hS0⟩ : ∃ z, z = (s₁.setTop (entryFrame m #[(.int x0), (.int x1), (.int x2), (.int x3)] maxLocals)) := ⟨_, rfl⟩
  rw [← hS0] at pre0
  have p1 : ∀ t, own_W p e below m s₁ 9 #[.val (.int x0), .val (.int x1), .val (.int x2), .val (.int x3), .val (.int ((x0 &&& (7 : Int32)) % (7 : Int32))), .unset, .unset, .unset, .unset, .unset, .unset, .unset, .unset, .unset] [] t → Steps p.tables e below S0 t := fun t k => pre0 t (by
    show own_W p e below m s₁ 0 #[.val (.int x0), .val (.int x1), .val (.int x2), .val (.int x3), .unset, .unset, .unset, .unset, .unset, .unset, .unset, .unset, .unset, .unset] [] _
    refine XS.iloadN X0.here hx rfl (hb hby at_0) rfl ?_
    refine XS.bipush X0.here hx rfl (hb hby at_1) ?_
    refine XS.iand X0.here hx rfl (hb hby at_3) rfl ?_
    refine XS.bipush X0.here hx rfl (hb hby at_4) ?_
    show own_W p e below m s₁ 6 #[.val (.int x0), .val (.int x1), .val (.int x2), .val (.int x3), .unset, .unset, .unset, .unset, .unset, .unset, .unset, .unset, .unset, .unset] [(.int (7 : Int32)), (.int (x0 &&& (7 : Int32)))] _
    refine iremM X0 hx rfl (hb hby at_6) rfl (by decide) ?_
    refine XS.istore X0.here hx rfl (hb hby at_7) rfl (l' := #[.val (.int x0), .val (.int x1), .val (.int x2), .val (.int x3), .val (.int ((x0 &&& (7 : Int32)) % (7 : Int32))), .unset, .unset, .unset, .unset, .unset, .unset, .unset, .unset, .unset]) rfl ?_
    exact k)
  obtain ⟨key, hkey, p2⟩ : ∃ (key : Int32), (¬ key < (0 : Int32)) ∧ ∀ t, own_W p e below m s₁ 26 #[.val (.int x0), .val (.int x1), .val (.int x2), .val (.int x3), .val (.int ((x0 &&& (7 : Int32)) % (7 : Int32))), .unset, .unset, .unset, .unset, .unset, .unset, .unset, .unset, .unset] [(.int key)] t → Steps p.tables e below S0 t := by
    have p3 : ∀ t, own_W p e below m s₁ 12 #[.val (.int x0), .val (.int x1), .val (.int x2), .val (.int x3), .val (.int ((x0 &&& (7 : Int32)) % (7 : Int32))), .unset, .unset, .unset, .unset, .unset, .unset, .unset, .unset, .unset] [(.int (x3 &&& (1 : Int32)))] t → Steps p.tables e below S0 t := fun t k => p1 t (by
      show own_W p e below m s₁ 9 #[.val (.int x0), .val (.int x1), .val (.int x2), .val (.int x3), .val (.int ((x0 &&& (7 : Int32)) % (7 : Int32))), .unset, .unset, .unset, .unset, .unset, .unset, .unset, .unset, .unset] [] _
      refine XS.iloadN X0.here hx rfl (hb hby at_9) rfl ?_
      refine XS.iconst X0.here hx rfl (hb hby at_10) ?_
      refine XS.iand X0.here hx rfl (hb hby at_11) rfl ?_
      exact k)
    by_cases hc12 : (x3 &&& (1 : Int32)) = (0 : Int32)
    · have p4 : ∀ t, own_W p e below m s₁ 26 #[.val (.int x0), .val (.int x1), .val (.int x2), .val (.int x3), .val (.int ((x0 &&& (7 : Int32)) % (7 : Int32))), .unset, .unset, .unset, .unset, .unset, .unset, .unset, .unset, .unset] [(.int (x1 &&& (2147483647 : Int32)))] t → Steps p.tables e below S0 t := fun t k => p3 t (by
        show own_W p e below m s₁ 12 #[.val (.int x0), .val (.int x1), .val (.int x2), .val (.int x3), .val (.int ((x0 &&& (7 : Int32)) % (7 : Int32))), .unset, .unset, .unset, .unset, .unset, .unset, .unset, .unset, .unset] [(.int (x3 &&& (1 : Int32)))] _
        refine XS.ifYes X0.here hx rfl (pc0 := 12) (pc' := 22) rfl (hb hby at_12) rfl ((if0 _ _).trans (teq (hc12)).1) (by decide) (by decide) ?_
        refine XS.iloadN X0.here hx rfl (hb hby at_22) rfl ?_
        show own_W p e below m s₁ 23 #[.val (.int x0), .val (.int x1), .val (.int x2), .val (.int x3), .val (.int ((x0 &&& (7 : Int32)) % (7 : Int32))), .unset, .unset, .unset, .unset, .unset, .unset, .unset, .unset, .unset] [(.int x1)] _
        refine X0.ldcInt hx hown (mvT hZ (hw _ (List.mem_of_getElem? (i := 0) rfl))) (g := (mkF m 23 #[.val (.int x0), .val (.int x1), .val (.int x2), .val (.int x3), .val (.int ((x0 &&& (7 : Int32)) % (7 : Int32))), .unset, .unset, .unset, .unset, .unset, .unset, .unset, .unset, .unset] [(.int x1)])) rfl (hb hby at_23) _ ?_
        refine XS.iand X0.here hx rfl (hb hby at_25) rfl ?_
        exact k)
      exact ⟨(x1 &&& (2147483647 : Int32)), (own_nn _).1, p4⟩
    · have p5 : ∀ t, own_W p e below m s₁ 26 #[.val (.int x0), .val (.int x1), .val (.int x2), .val (.int x3), .val (.int ((x0 &&& (7 : Int32)) % (7 : Int32))), .unset, .unset, .unset, .unset, .unset, .unset, .unset, .unset, .unset] [(.int (x1 &&& (63 : Int32)))] t → Steps p.tables e below S0 t := fun t k => p3 t (by
        show own_W p e below m s₁ 12 #[.val (.int x0), .val (.int x1), .val (.int x2), .val (.int x3), .val (.int ((x0 &&& (7 : Int32)) % (7 : Int32))), .unset, .unset, .unset, .unset, .unset, .unset, .unset, .unset, .unset] [(.int (x3 &&& (1 : Int32)))] _
        refine XS.ifNo X0.here hx rfl (hb hby at_12) rfl ((if0 _ _).trans (feq (hc12)).1) ?_
        refine XS.iloadN X0.here hx rfl (hb hby at_15) rfl ?_
        refine XS.bipush X0.here hx rfl (hb hby at_16) ?_
        refine XS.iand X0.here hx rfl (hb hby at_18) rfl ?_
        refine XS.goto X0.here hx rfl (pc0 := 19) (pc' := 26) rfl (hb hby at_19) (by decide) (by decide) ?_
        exact k)
      exact ⟨(x1 &&& (63 : Int32)), (own_nn _).2, p5⟩
  have p6 : ∀ t, own_W p e below m s₁ 34 #[.val (.int x0), .val (.int x1), .val (.int x2), .val (.int x3), .val (.int ((x0 &&& (7 : Int32)) % (7 : Int32))), .val (.int key), .val (.int (x2 &&& (2147483647 : Int32))), .unset, .unset, .unset, .unset, .unset, .unset, .unset] [] t → Steps p.tables e below S0 t := fun t k => p2 t (by
    show own_W p e below m s₁ 26 #[.val (.int x0), .val (.int x1), .val (.int x2), .val (.int x3), .val (.int ((x0 &&& (7 : Int32)) % (7 : Int32))), .unset, .unset, .unset, .unset, .unset, .unset, .unset, .unset, .unset] [(.int key)] _
    refine XS.istore X0.here hx rfl (hb hby at_26) rfl (l' := #[.val (.int x0), .val (.int x1), .val (.int x2), .val (.int x3), .val (.int ((x0 &&& (7 : Int32)) % (7 : Int32))), .val (.int key), .unset, .unset, .unset, .unset, .unset, .unset, .unset, .unset]) rfl ?_
    refine XS.iloadN X0.here hx rfl (hb hby at_28) rfl ?_
    show own_W p e below m s₁ 29 #[.val (.int x0), .val (.int x1), .val (.int x2), .val (.int x3), .val (.int ((x0 &&& (7 : Int32)) % (7 : Int32))), .val (.int key), .unset, .unset, .unset, .unset, .unset, .unset, .unset, .unset] [(.int x2)] _
    refine X0.ldcInt hx hown (mvT hZ (hw _ (List.mem_of_getElem? (i := 0) rfl))) (g := (mkF m 29 #[.val (.int x0), .val (.int x1), .val (.int x2), .val (.int x3), .val (.int ((x0 &&& (7 : Int32)) % (7 : Int32))), .val (.int key), .unset, .unset, .unset, .unset, .unset, .unset, .unset, .unset] [(.int x2)])) rfl (hb hby at_29) _ ?_
    refine XS.iand X0.here hx rfl (hb hby at_31) rfl ?_
    refine XS.istore X0.here hx rfl (hb hby at_32) rfl (l' := #[.val (.int x0), .val (.int x1), .val (.int x2), .val (.int x3), .val (.int ((x0 &&& (7 : Int32)) % (7 : Int32))), .val (.int key), .val (.int (x2 &&& (2147483647 : Int32))), .unset, .unset, .unset, .unset, .unset, .unset, .unset]) rfl ?_
    exact k)
  obtain ⟨vv, hvv⟩ : ∃ z : Int32, z = (x2 &&& (2147483647 : Int32)) := ⟨_, rfl⟩
  have p7 : ∀ t, own_W p e below m s₁ 34 #[.val (.int x0), .val (.int x1), .val (.int x2), .val (.int x3), .val (.int ((x0 &&& (7 : Int32)) % (7 : Int32))), .val (.int key), .val (.int vv), .unset, .unset, .unset, .unset, .unset, .unset, .unset] [] t → Steps p.tables e below S0 t := by
    intro t k; subst hvv; exact p6 t k
  have hv0 : ¬ vv < (0 : Int32) := by rw [hvv]; exact (own_nn _).1
  obtain ⟨vm, hvm⟩ : ∃ z : Int32, z = ((x0 &&& (7 : Int32)) % (7 : Int32)) := ⟨_, rfl⟩
  have p8 : ∀ t, own_W p e below m s₁ 34 #[.val (.int x0), .val (.int x1), .val (.int x2), .val (.int x3), .val (.int vm), .val (.int key), .val (.int vv), .unset, .unset, .unset, .unset, .unset, .unset, .unset] [] t → Steps p.tables e below S0 t := by
    intro t k; subst hvm; exact p7 t k
  obtain ⟨T9, h9, X9, e9, E9, A9, D9, -, st9⟩ := newO X0 hx hZ hown (hw _ (List.mem_of_getElem? (i := 1) rfl)) (hw _ (List.mem_of_getElem? (i := 2) rfl)) (hw _ (List.mem_of_getElem? (i := 3) rfl)) e0 (g := (mkF m 34 #[.val (.int x0), .val (.int x1), .val (.int x2), .val (.int x3), .val (.int vm), .val (.int key), .val (.int vv), .unset, .unset, .unset, .unset, .unset, .unset, .unset] [])) rfl (hb hby at_34) (by decide) (by decide)
  obtain ⟨mp, g9⟩ : ∃ z, z = h0.size := ⟨_, rfl⟩
  rw [← g9] at A9 D9 st9
  have gn_mp : n0 ≤ mp := Nat.le_trans Z0 (Nat.le_of_eq g9.symm)
  have Z9 := Nat.le_trans Z0 E9.1
  have f10 : Fld Z h9 mp "com/example/kinwarden/kinwarden/IntMap" "highest" "I" (.int (0 : Int32)) := D9 (Or.inl (hw _ (List.mem_of_getElem? (i := 22) rfl))) (ty := .int) (by decide)
  have f11 : Fld Z h9 mp "com/example/kinwarden/kinwarden/IntMap" "lowestValue" "I" (.int (0 : Int32)) := D9 (Or.inl (hw _ (List.mem_of_getElem? (i := 24) rfl))) (ty := .int) (by decide)
  have f12 : Fld Z h9 mp "com/example/kinwarden/kinwarden/IntMap" "highestValue" "I" (.int (0 : Int32)) := D9 (Or.inl (hw _ (List.mem_of_getElem? (i := 26) rfl))) (ty := .int) (by decide)
  have f13 : Fld Z h9 mp "com/example/kinwarden/kinwarden/IntMap" "table" "[I" .null := D9 (Or.inl (hw _ (List.mem_of_getElem? (i := 28) rfl))) (ty := (.array .int)) (by decide)
  have f14 : Fld Z h9 mp "com/example/kinwarden/kinwarden/IntMap" "byKey" "[I" .null := D9 (Or.inl (hw _ (List.mem_of_getElem? (i := 30) rfl))) (ty := (.array .int)) (by decide)
  have f15 : Fld Z h9 mp "com/example/kinwarden/kinwarden/IntMap" "size" "I" (.int (0 : Int32)) := D9 (Or.inl (hw _ (List.mem_of_getElem? (i := 62) rfl))) (ty := .int) (by decide)
  have p16 : ∀ t, own_W p e below m T9 37 #[.val (.int x0), .val (.int x1), .val (.int x2), .val (.int x3), .val (.int vm), .val (.int key), .val (.int vv), .unset, .unset, .unset, .unset, .unset, .unset, .unset] [(.ref mp)] t → Steps p.tables e below S0 t := fun t k => p8 t (st9 t k)
  have p17 : ∀ t, own_W p e below m T9 38 #[.val (.int x0), .val (.int x1), .val (.int x2), .val (.int x3), .val (.int vm), .val (.int key), .val (.int vv), .unset, .unset, .unset, .unset, .unset, .unset, .unset] [(.ref mp), (.ref mp)] t → Steps p.tables e below S0 t := fun t k => p16 t (by
    show own_W p e below m T9 37 #[.val (.int x0), .val (.int x1), .val (.int x2), .val (.int x3), .val (.int vm), .val (.int key), .val (.int vv), .unset, .unset, .unset, .unset, .unset, .unset, .unset] [(.ref mp)] _
    refine XS.dup X9.here hx rfl (hb hby at_37) rfl rfl ?_
    exact k)
  have mlt := A9.lt
  obtain ⟨_, _, ⟨T18, L18, k18, n18⟩, -, X18, ⟨Lc18, hQ18, l18, y18, z18⟩, st18⟩ := X9.specialBack hx (y := (⟨"com/example/kinwarden/kinwarden/IntMap", "<init>", "()V"⟩ : MethodName)) rfl hown (mvT hZ (hw _ (List.mem_of_getElem? (i := 4) rfl))) (mvT hZ (hw _ (List.mem_of_getElem? (i := 5) rfl))) (mvT hZ (hw _ (List.mem_of_getElem? (i := 6) rfl))) (by decide) (backOf (W := 1) (rmin0 l Z a0 hw [] mp  h9 n0 Z9 A9 f10 f11 f12 f13 f14 f15 gn_mp) hZ (hw _ (List.mem_of_getElem? (i := 6) rfl)) (hw _ (List.mem_of_getElem? (i := 3) rfl)) (by decide) (by decide)) (g := (mkF m 38 #[.val (.int x0), .val (.int x1), .val (.int x2), .val (.int x3), .val (.int vm), .val (.int key), .val (.int vv), .unset, .unset, .unset, .unset, .unset, .unset, .unset] [(.ref mp), (.ref mp)])) rfl (by rw [hml]; rfl) (Steps.refl _) (a := mp) (argsL := []) (rest := [(.ref mp)]) (lenOf pd0_0 rfl) rfl (by show 2 * 0 + _ ≤ _; exact Nat.le_of_eq rfl) (hb hby at_38) (fun _ _ => ⟨rfl, e9, (by decide : 1 + 1 ≤ _), (by decide : 6 + 32 ≤ _)⟩)
  dsimp only [Pt.U, Pt.locs, Pt.cells, Pt.slots] at X18 l18 y18 z18 st18 hQ18
  subst l18 y18 z18
  obtain ⟨rfl, Nq18, K18, HQ18⟩ := hQ18
  have N18 := Fr.app N0 Nq18
  have f19 := A9.keep K18
  have Z18 := Nat.le_trans Z9 K18.1
  have p20 : ∀ t, own_W p e below m T18 41 #[.val (.int x0), .val (.int x1), .val (.int x2), .val (.int x3), .val (.int vm), .val (.int key), .val (.int vv), .unset, .unset, .unset, .unset, .unset, .unset, .unset] [(.ref mp)] t → Steps p.tables e below S0 t := fun t k => p17 t (st18.trans k)
  obtain ⟨tb, kt, gtb, E0, Ft0, Fb0, Fs0, Fh0, Fl0, Fv0, VT⟩ := HQ18
  have VT0 : Arv Z T18.heap tb kt .int (16 : Int32) (own_T0 vv) (.int (0 : Int32)) := VT
  have gt : n0 ≤ tb := Nat.le_trans Z9 gtb
  have nxt : mp ≠ tb := Nat.ne_of_lt (Nat.lt_of_lt_of_le mlt gtb)
  have p21 : ∀ t, own_W p e below m T18 43 #[.val (.int x0), .val (.int x1), .val (.int x2), .val (.int x3), .val (.int vm), .val (.int key), .val (.int vv), .val (.ref mp), .unset, .unset, .unset, .unset, .unset, .unset] [] t → Steps p.tables e below S0 t := fun t k => p20 t (by
    show own_W p e below m T18 41 #[.val (.int x0), .val (.int x1), .val (.int x2), .val (.int x3), .val (.int vm), .val (.int key), .val (.int vv), .unset, .unset, .unset, .unset, .unset, .unset, .unset] [(.ref mp)] _
    refine XS.astore X18.here hx rfl (hb hby at_41) rfl rfl (l' := #[.val (.int x0), .val (.int x1), .val (.int x2), .val (.int x3), .val (.int vm), .val (.int key), .val (.int vv), .val (.ref mp), .unset, .unset, .unset, .unset, .unset, .unset]) rfl ?_
    exact k)
  obtain ⟨Tj, Lj, szj, hij, lvj, hvj, vsj, Xj, Zj, Nj, Ej, Ftj, Fbj, Fsj, Fhj, Flj, Fvj, VNj, hcs, pj⟩ : ∃ (T' : State) (Lj : List Loc) (sz hi lv hv : Int32) (vs : List Value), Stand p l e room_1 s m #[(.int x0), (.int x1), (.int x2), (.int x3)] below meth c T' Lj 2 38 ∧ n0 ≤ T'.heap.size ∧ Fr n0 Lj ∧ Exa Z T'.heap mp "com/example/kinwarden/kinwarden/IntMap" ∧ Fld Z T'.heap mp "com/example/kinwarden/kinwarden/IntMap" "table" "[I" (.ref tb) ∧ Fld Z T'.heap mp "com/example/kinwarden/kinwarden/IntMap" "byKey" "[I" .null ∧ Fld Z T'.heap mp "com/example/kinwarden/kinwarden/IntMap" "size" "I" (.int sz) ∧ Fld Z T'.heap mp "com/example/kinwarden/kinwarden/IntMap" "highest" "I" (.int hi) ∧ Fld Z T'.heap mp "com/example/kinwarden/kinwarden/IntMap" "lowestValue" "I" (.int lv) ∧ Fld Z T'.heap mp "com/example/kinwarden/kinwarden/IntMap" "highestValue" "I" (.int hv) ∧ Arv Z T'.heap tb kt .int (16 : Int32) vs (.int (0 : Int32)) ∧ ((vm < (6 : Int32) ∧ ¬ ((3 : Int32) * ((16 : Int32) / (2 : Int32))) < ((4 : Int32) * (sz + (1 : Int32))) ∧ vs.length = 16) ∨ (¬ vm < (6 : Int32) ∧ sz = (6 : Int32) ∧ hi = (5 : Int32) ∧ vs = own_T6 vv)) ∧ ∀ t, own_W p e below m T' 126 #[.val (.int x0), .val (.int x1), .val (.int x2), .val (.int x3), .val (.int vm), .val (.int key), .val (.int vv), .val (.ref mp), .unset, .unset, .unset, .unset, .unset, .unset] [] t → Steps p.tables e below S0 t := by
    have p22 : ∀ t, own_W p e below m T18 45 #[.val (.int x0), .val (.int x1), .val (.int x2), .val (.int x3), .val (.int vm), .val (.int key), .val (.int vv), .val (.ref mp), .unset, .unset, .unset, .unset, .unset, .unset] [(.int vm)] t → Steps p.tables e below S0 t := fun t k => p21 t (by
      show own_W p e below m T18 43 #[.val (.int x0), .val (.int x1), .val (.int x2), .val (.int x3), .val (.int vm), .val (.int key), .val (.int vv), .val (.ref mp), .unset, .unset, .unset, .unset, .unset, .unset] [] _
      refine XS.iload X18.here hx rfl (hb hby at_43) rfl ?_
      exact k)
    by_cases hm0 : (0 : Int32) < vm
    · have p23 : ∀ t, own_W p e below m T18 53 #[.val (.int x0), .val (.int x1), .val (.int x2), .val (.int x3), .val (.int vm), .val (.int key), .val (.int vv), .val (.ref mp), .unset, .unset, .unset, .unset, .unset, .unset] [(.int vv), (.int (0 : Int32)), (.ref mp)] t → Steps p.tables e below S0 t := fun t k => p22 t (by
        show own_W p e below m T18 45 #[.val (.int x0), .val (.int x1), .val (.int x2), .val (.int x3), .val (.int vm), .val (.int key), .val (.int vv), .val (.ref mp), .unset, .unset, .unset, .unset, .unset, .unset] [(.int vm)] _
        refine XS.ifNo X18.here hx rfl (hb hby at_45) rfl ((if0 _ _).trans (tlt (hm0)).2.2.2) ?_
        refine XS.aload X18.here hx rfl (hb hby at_48) rfl rfl ?_
        refine XS.iconst X18.here hx rfl (hb hby at_50) ?_
        refine XS.iload X18.here hx rfl (hb hby at_51) rfl ?_
        exact k)
      obtain ⟨cq24, kq24, qa24, qb24, qc24⟩ := isOf hZ rfl E0
      obtain ⟨_, _, ⟨T24, L24, k24, n24⟩, -, X24, ⟨Lc24, hQ24, l24, y24, z24⟩, st24⟩ := X18.virtualBack hx (y := (⟨"com/example/kinwarden/kinwarden/IntMap", "put", "(II)V"⟩ : MethodName)) (z := (⟨"com/example/kinwarden/kinwarden/IntMap", "put", "(II)V"⟩ : MethodName)) hown (mvT hZ (hw _ (List.mem_of_getElem? (i := 38) rfl))) (mvT hZ (hw _ (List.mem_of_getElem? (i := 39) rfl))) (notFace_of_selects (args := #[]) (mvT hZ (hw _ (List.mem_of_getElem? (i := 41) rfl)))) (mvT hZ (hw _ (List.mem_of_getElem? (i := 41) rfl))) (mvT hZ (hw _ (List.mem_of_getElem? (i := 40) rfl))) (by decide) (backOf (W := 0) (rmpug l Z a0 hw [] mp (0 : Int32) vv tb kt (0 : Int32) (-1 : Int32) (-1 : Int32) (-1 : Int32) (own_T0 vv) T18.heap n0 Z18 E0 Ft0 Fb0 Fs0 Fh0 Fl0 Fv0 VT0 gn_mp gt nxt (own_len0 vv) own_hs0 (by decide) hv0) hZ (hw _ (List.mem_of_getElem? (i := 42) rfl)) (hw _ (List.mem_of_getElem? (i := 3) rfl)) (by decide) (by decide)) qa24 qc24 (g := (mkF m 53 #[.val (.int x0), .val (.int x1), .val (.int x2), .val (.int x3), .val (.int vm), .val (.int key), .val (.int vv), .val (.ref mp), .unset, .unset, .unset, .unset, .unset, .unset] [(.int vv), (.int (0 : Int32)), (.ref mp)])) rfl (by rw [hml]; rfl) (Steps.refl _) (argsL := [(.int (0 : Int32)), (.int vv)]) (rest := []) (lenOf pd0_1 rfl) rfl (by show 2 * 0 + _ ≤ _; exact Nat.le_of_eq rfl) (hb hby at_53) (fun _ _ => ⟨rfl, rfl, (by decide : 2 + 0 ≤ _), (by decide : 38 + 0 ≤ _)⟩)
      dsimp only [Pt.U, Pt.locs, Pt.cells, Pt.slots] at X24 l24 y24 z24 st24 hQ24
      subst l24 y24 z24
      obtain ⟨rfl, Nq24, K24, sz24, hi24, lv24, hv24, r24, vs24, E24x, Ft24, Fb24, Fs24, Fh24, Fl24, Fv24, VN24, hh24, hr24, hs24⟩ := hQ24
      have N24 := Fr.app N18 Nq24
      have f25 := E0.keep K24
      have Z24 := Nat.le_trans Z18 K24.1
      have p26 : ∀ t, own_W p e below m T24 56 #[.val (.int x0), .val (.int x1), .val (.int x2), .val (.int x3), .val (.int vm), .val (.int key), .val (.int vv), .val (.ref mp), .unset, .unset, .unset, .unset, .unset, .unset] [] t → Steps p.tables e below S0 t := fun t k => p23 t (st24.trans k)
      obtain ⟨qs24, qv24⟩ := own_p0 hr24 hs24
      have qh24 := hh24 (by decide)
      subst qs24 qv24 qh24
      have p27 : ∀ t, own_W p e below m T24 59 #[.val (.int x0), .val (.int x1), .val (.int x2), .val (.int x3), .val (.int vm), .val (.int key), .val (.int vv), .val (.ref mp), .unset, .unset, .unset, .unset, .unset, .unset] [(.int (1 : Int32)), (.int vm)] t → Steps p.tables e below S0 t := fun t k => p26 t (by
        show own_W p e below m T24 56 #[.val (.int x0), .val (.int x1), .val (.int x2), .val (.int x3), .val (.int vm), .val (.int key), .val (.int vv), .val (.ref mp), .unset, .unset, .unset, .unset, .unset, .unset] [] _
        refine XS.iload X24.here hx rfl (hb hby at_56) rfl ?_
        refine XS.iconst X24.here hx rfl (hb hby at_58) ?_
        exact k)
      by_cases hm1 : (1 : Int32) < vm
      · have p28 : ∀ t, own_W p e below m T24 67 #[.val (.int x0), .val (.int x1), .val (.int x2), .val (.int x3), .val (.int vm), .val (.int key), .val (.int vv), .val (.ref mp), .unset, .unset, .unset, .unset, .unset, .unset] [(.int vv), (.int (1 : Int32)), (.ref mp)] t → Steps p.tables e below S0 t := fun t k => p27 t (by
          show own_W p e below m T24 59 #[.val (.int x0), .val (.int x1), .val (.int x2), .val (.int x3), .val (.int vm), .val (.int key), .val (.int vv), .val (.ref mp), .unset, .unset, .unset, .unset, .unset, .unset] [(.int (1 : Int32)), (.int vm)] _
          refine XS.icmpNo X24.here hx rfl (hb hby at_59) rfl ((tlt (hm1)).2.2.2) ?_
          refine XS.aload X24.here hx rfl (hb hby at_62) rfl rfl ?_
          refine XS.iconst X24.here hx rfl (hb hby at_64) ?_
          refine XS.iload X24.here hx rfl (hb hby at_65) rfl ?_
          exact k)
        obtain ⟨cq29, kq29, qa29, qb29, qc29⟩ := isOf hZ rfl E24x
        obtain ⟨_, _, ⟨T29, L29, k29, n29⟩, -, X29, ⟨Lc29, hQ29, l29, y29, z29⟩, st29⟩ := X24.virtualBack hx (y := (⟨"com/example/kinwarden/kinwarden/IntMap", "put", "(II)V"⟩ : MethodName)) (z := (⟨"com/example/kinwarden/kinwarden/IntMap", "put", "(II)V"⟩ : MethodName)) hown (mvT hZ (hw _ (List.mem_of_getElem? (i := 38) rfl))) (mvT hZ (hw _ (List.mem_of_getElem? (i := 39) rfl))) (notFace_of_selects (args := #[]) (mvT hZ (hw _ (List.mem_of_getElem? (i := 41) rfl)))) (mvT hZ (hw _ (List.mem_of_getElem? (i := 41) rfl))) (mvT hZ (hw _ (List.mem_of_getElem? (i := 40) rfl))) (by decide) (backOf (W := 0) (rmpug l Z a0 hw [] mp (1 : Int32) vv tb kt (1 : Int32) (0 : Int32) lv24 hv24 (own_T1 vv) T24.heap n0 Z24 E24x Ft24 Fb24 Fs24 Fh24 Fl24 Fv24 VN24 gn_mp gt nxt (own_len1 vv) own_hs1 (by decide) hv0) hZ (hw _ (List.mem_of_getElem? (i := 42) rfl)) (hw _ (List.mem_of_getElem? (i := 3) rfl)) (by decide) (by decide)) qa29 qc29 (g := (mkF m 67 #[.val (.int x0), .val (.int x1), .val (.int x2), .val (.int x3), .val (.int vm), .val (.int key), .val (.int vv), .val (.ref mp), .unset, .unset, .unset, .unset, .unset, .unset] [(.int vv), (.int (1 : Int32)), (.ref mp)])) rfl (by rw [hml]; rfl) (Steps.refl _) (argsL := [(.int (1 : Int32)), (.int vv)]) (rest := []) (lenOf pd0_1 rfl) rfl (by show 2 * 0 + _ ≤ _; exact Nat.le_of_eq rfl) (hb hby at_67) (fun _ _ => ⟨rfl, rfl, (by decide : 2 + 0 ≤ _), (by decide : 38 + 0 ≤ _)⟩)
        dsimp only [Pt.U, Pt.locs, Pt.cells, Pt.slots] at X29 l29 y29 z29 st29 hQ29
        subst l29 y29 z29
        obtain ⟨rfl, Nq29, K29, sz29, hi29, lv29, hv29, r29, vs29, E29x, Ft29, Fb29, Fs29, Fh29, Fl29, Fv29, VN29, hh29, hr29, hs29⟩ := hQ29
        have N29 := Fr.app N24 Nq29
        have f30 := E24x.keep K29
        have Z29 := Nat.le_trans Z24 K29.1
        have p31 : ∀ t, own_W p e below m T29 70 #[.val (.int x0), .val (.int x1), .val (.int x2), .val (.int x3), .val (.int vm), .val (.int key), .val (.int vv), .val (.ref mp), .unset, .unset, .unset, .unset, .unset, .unset] [] t → Steps p.tables e below S0 t := fun t k => p28 t (st29.trans k)
        obtain ⟨qs29, qv29⟩ := own_p1 hr29 hs29
        have qh29 := hh29 (by decide)
        subst qs29 qv29 qh29
        have p32 : ∀ t, own_W p e below m T29 73 #[.val (.int x0), .val (.int x1), .val (.int x2), .val (.int x3), .val (.int vm), .val (.int key), .val (.int vv), .val (.ref mp), .unset, .unset, .unset, .unset, .unset, .unset] [(.int (2 : Int32)), (.int vm)] t → Steps p.tables e below S0 t := fun t k => p31 t (by
          show own_W p e below m T29 70 #[.val (.int x0), .val (.int x1), .val (.int x2), .val (.int x3), .val (.int vm), .val (.int key), .val (.int vv), .val (.ref mp), .unset, .unset, .unset, .unset, .unset, .unset] [] _
          refine XS.iload X29.here hx rfl (hb hby at_70) rfl ?_
          refine XS.iconst X29.here hx rfl (hb hby at_72) ?_
          exact k)
        by_cases hm2 : (2 : Int32) < vm
        · have p33 : ∀ t, own_W p e below m T29 81 #[.val (.int x0), .val (.int x1), .val (.int x2), .val (.int x3), .val (.int vm), .val (.int key), .val (.int vv), .val (.ref mp), .unset, .unset, .unset, .unset, .unset, .unset] [(.int vv), (.int (2 : Int32)), (.ref mp)] t → Steps p.tables e below S0 t := fun t k => p32 t (by
            show own_W p e below m T29 73 #[.val (.int x0), .val (.int x1), .val (.int x2), .val (.int x3), .val (.int vm), .val (.int key), .val (.int vv), .val (.ref mp), .unset, .unset, .unset, .unset, .unset, .unset] [(.int (2 : Int32)), (.int vm)] _
            refine XS.icmpNo X29.here hx rfl (hb hby at_73) rfl ((tlt (hm2)).2.2.2) ?_
            refine XS.aload X29.here hx rfl (hb hby at_76) rfl rfl ?_
            refine XS.iconst X29.here hx rfl (hb hby at_78) ?_
            refine XS.iload X29.here hx rfl (hb hby at_79) rfl ?_
            exact k)
          obtain ⟨cq34, kq34, qa34, qb34, qc34⟩ := isOf hZ rfl E29x
          obtain ⟨_, _, ⟨T34, L34, k34, n34⟩, -, X34, ⟨Lc34, hQ34, l34, y34, z34⟩, st34⟩ := X29.virtualBack hx (y := (⟨"com/example/kinwarden/kinwarden/IntMap", "put", "(II)V"⟩ : MethodName)) (z := (⟨"com/example/kinwarden/kinwarden/IntMap", "put", "(II)V"⟩ : MethodName)) hown (mvT hZ (hw _ (List.mem_of_getElem? (i := 38) rfl))) (mvT hZ (hw _ (List.mem_of_getElem? (i := 39) rfl))) (notFace_of_selects (args := #[]) (mvT hZ (hw _ (List.mem_of_getElem? (i := 41) rfl)))) (mvT hZ (hw _ (List.mem_of_getElem? (i := 41) rfl))) (mvT hZ (hw _ (List.mem_of_getElem? (i := 40) rfl))) (by decide) (backOf (W := 0) (rmpug l Z a0 hw [] mp (2 : Int32) vv tb kt (2 : Int32) (1 : Int32) lv29 hv29 (own_T2 vv) T29.heap n0 Z29 E29x Ft29 Fb29 Fs29 Fh29 Fl29 Fv29 VN29 gn_mp gt nxt (own_len2 vv) own_hs2 (by decide) hv0) hZ (hw _ (List.mem_of_getElem? (i := 42) rfl)) (hw _ (List.mem_of_getElem? (i := 3) rfl)) (by decide) (by decide)) qa34 qc34 (g := (mkF m 81 #[.val (.int x0), .val (.int x1), .val (.int x2), .val (.int x3), .val (.int vm), .val (.int key), .val (.int vv), .val (.ref mp), .unset, .unset, .unset, .unset, .unset, .unset] [(.int vv), (.int (2 : Int32)), (.ref mp)])) rfl (by rw [hml]; rfl) (Steps.refl _) (argsL := [(.int (2 : Int32)), (.int vv)]) (rest := []) (lenOf pd0_1 rfl) rfl (by show 2 * 0 + _ ≤ _; exact Nat.le_of_eq rfl) (hb hby at_81) (fun _ _ => ⟨rfl, rfl, (by decide : 2 + 0 ≤ _), (by decide : 38 + 0 ≤ _)⟩)
          dsimp only [Pt.U, Pt.locs, Pt.cells, Pt.slots] at X34 l34 y34 z34 st34 hQ34
          subst l34 y34 z34
          obtain ⟨rfl, Nq34, K34, sz34, hi34, lv34, hv34, r34, vs34, E34x, Ft34, Fb34, Fs34, Fh34, Fl34, Fv34, VN34, hh34, hr34, hs34⟩ := hQ34
          have N34 := Fr.app N29 Nq34
          have f35 := E29x.keep K34
          have Z34 := Nat.le_trans Z29 K34.1
          have p36 : ∀ t, own_W p e below m T34 84 #[.val (.int x0), .val (.int x1), .val (.int x2), .val (.int x3), .val (.int vm), .val (.int key), .val (.int vv), .val (.ref mp), .unset, .unset, .unset, .unset, .unset, .unset] [] t → Steps p.tables e below S0 t := fun t k => p33 t (st34.trans k)
          obtain ⟨qs34, qv34⟩ := own_p2 hr34 hs34
          have qh34 := hh34 (by decide)
          subst qs34 qv34 qh34
          have p37 : ∀ t, own_W p e below m T34 87 #[.val (.int x0), .val (.int x1), .val (.int x2), .val (.int x3), .val (.int vm), .val (.int key), .val (.int vv), .val (.ref mp), .unset, .unset, .unset, .unset, .unset, .unset] [(.int (3 : Int32)), (.int vm)] t → Steps p.tables e below S0 t := fun t k => p36 t (by
            show own_W p e below m T34 84 #[.val (.int x0), .val (.int x1), .val (.int x2), .val (.int x3), .val (.int vm), .val (.int key), .val (.int vv), .val (.ref mp), .unset, .unset, .unset, .unset, .unset, .unset] [] _
            refine XS.iload X34.here hx rfl (hb hby at_84) rfl ?_
            refine XS.iconst X34.here hx rfl (hb hby at_86) ?_
            exact k)
          by_cases hm3 : (3 : Int32) < vm
          · have p38 : ∀ t, own_W p e below m T34 95 #[.val (.int x0), .val (.int x1), .val (.int x2), .val (.int x3), .val (.int vm), .val (.int key), .val (.int vv), .val (.ref mp), .unset, .unset, .unset, .unset, .unset, .unset] [(.int vv), (.int (3 : Int32)), (.ref mp)] t → Steps p.tables e below S0 t := fun t k => p37 t (by
              show own_W p e below m T34 87 #[.val (.int x0), .val (.int x1), .val (.int x2), .val (.int x3), .val (.int vm), .val (.int key), .val (.int vv), .val (.ref mp), .unset, .unset, .unset, .unset, .unset, .unset] [(.int (3 : Int32)), (.int vm)] _
              refine XS.icmpNo X34.here hx rfl (hb hby at_87) rfl ((tlt (hm3)).2.2.2) ?_
              refine XS.aload X34.here hx rfl (hb hby at_90) rfl rfl ?_
              refine XS.iconst X34.here hx rfl (hb hby at_92) ?_
              refine XS.iload X34.here hx rfl (hb hby at_93) rfl ?_
              exact k)
            obtain ⟨cq39, kq39, qa39, qb39, qc39⟩ := isOf hZ rfl E34x
            obtain ⟨_, _, ⟨T39, L39, k39, n39⟩, -, X39, ⟨Lc39, hQ39, l39, y39, z39⟩, st39⟩ := X34.virtualBack hx (y := (⟨"com/example/kinwarden/kinwarden/IntMap", "put", "(II)V"⟩ : MethodName)) (z := (⟨"com/example/kinwarden/kinwarden/IntMap", "put", "(II)V"⟩ : MethodName)) hown (mvT hZ (hw _ (List.mem_of_getElem? (i := 38) rfl))) (mvT hZ (hw _ (List.mem_of_getElem? (i := 39) rfl))) (notFace_of_selects (args := #[]) (mvT hZ (hw _ (List.mem_of_getElem? (i := 41) rfl)))) (mvT hZ (hw _ (List.mem_of_getElem? (i := 41) rfl))) (mvT hZ (hw _ (List.mem_of_getElem? (i := 40) rfl))) (by decide) (backOf (W := 0) (rmpug l Z a0 hw [] mp (3 : Int32) vv tb kt (3 : Int32) (2 : Int32) lv34 hv34 (own_T3 vv) T34.heap n0 Z34 E34x Ft34 Fb34 Fs34 Fh34 Fl34 Fv34 VN34 gn_mp gt nxt (own_len3 vv) own_hs3 (by decide) hv0) hZ (hw _ (List.mem_of_getElem? (i := 42) rfl)) (hw _ (List.mem_of_getElem? (i := 3) rfl)) (by decide) (by decide)) qa39 qc39 (g := (mkF m 95 #[.val (.int x0), .val (.int x1), .val (.int x2), .val (.int x3), .val (.int vm), .val (.int key), .val (.int vv), .val (.ref mp), .unset, .unset, .unset, .unset, .unset, .unset] [(.int vv), (.int (3 : Int32)), (.ref mp)])) rfl (by rw [hml]; rfl) (Steps.refl _) (argsL := [(.int (3 : Int32)), (.int vv)]) (rest := []) (lenOf pd0_1 rfl) rfl (by show 2 * 0 + _ ≤ _; exact Nat.le_of_eq rfl) (hb hby at_95) (fun _ _ => ⟨rfl, rfl, (by decide : 2 + 0 ≤ _), (by decide : 38 + 0 ≤ _)⟩)
            dsimp only [Pt.U, Pt.locs, Pt.cells, Pt.slots] at X39 l39 y39 z39 st39 hQ39
            subst l39 y39 z39
            obtain ⟨rfl, Nq39, K39, sz39, hi39, lv39, hv39, r39, vs39, E39x, Ft39, Fb39, Fs39, Fh39, Fl39, Fv39, VN39, hh39, hr39, hs39⟩ := hQ39
            have N39 := Fr.app N34 Nq39
            have f40 := E34x.keep K39
            have Z39 := Nat.le_trans Z34 K39.1
            have p41 : ∀ t, own_W p e below m T39 98 #[.val (.int x0), .val (.int x1), .val (.int x2), .val (.int x3), .val (.int vm), .val (.int key), .val (.int vv), .val (.ref mp), .unset, .unset, .unset, .unset, .unset, .unset] [] t → Steps p.tables e below S0 t := fun t k => p38 t (st39.trans k)
            obtain ⟨qs39, qv39⟩ := own_p3 hr39 hs39
            have qh39 := hh39 (by decide)
            subst qs39 qv39 qh39
            have p42 : ∀ t, own_W p e below m T39 101 #[.val (.int x0), .val (.int x1), .val (.int x2), .val (.int x3), .val (.int vm), .val (.int key), .val (.int vv), .val (.ref mp), .unset, .unset, .unset, .unset, .unset, .unset] [(.int (4 : Int32)), (.int vm)] t → Steps p.tables e below S0 t := fun t k => p41 t (by
              show own_W p e below m T39 98 #[.val (.int x0), .val (.int x1), .val (.int x2), .val (.int x3), .val (.int vm), .val (.int key), .val (.int vv), .val (.ref mp), .unset, .unset, .unset, .unset, .unset, .unset] [] _
              refine XS.iload X39.here hx rfl (hb hby at_98) rfl ?_
              refine XS.iconst X39.here hx rfl (hb hby at_100) ?_
              exact k)
            by_cases hm4 : (4 : Int32) < vm
            · have p43 : ∀ t, own_W p e below m T39 109 #[.val (.int x0), .val (.int x1), .val (.int x2), .val (.int x3), .val (.int vm), .val (.int key), .val (.int vv), .val (.ref mp), .unset, .unset, .unset, .unset, .unset, .unset] [(.int vv), (.int (4 : Int32)), (.ref mp)] t → Steps p.tables e below S0 t := fun t k => p42 t (by
                show own_W p e below m T39 101 #[.val (.int x0), .val (.int x1), .val (.int x2), .val (.int x3), .val (.int vm), .val (.int key), .val (.int vv), .val (.ref mp), .unset, .unset, .unset, .unset, .unset, .unset] [(.int (4 : Int32)), (.int vm)] _
                refine XS.icmpNo X39.here hx rfl (hb hby at_101) rfl ((tlt (hm4)).2.2.2) ?_
                refine XS.aload X39.here hx rfl (hb hby at_104) rfl rfl ?_
                refine XS.iconst X39.here hx rfl (hb hby at_106) ?_
                refine XS.iload X39.here hx rfl (hb hby at_107) rfl ?_
                exact k)
              obtain ⟨cq44, kq44, qa44, qb44, qc44⟩ := isOf hZ rfl E39x
              obtain ⟨_, _, ⟨T44, L44, k44, n44⟩, -, X44, ⟨Lc44, hQ44, l44, y44, z44⟩, st44⟩ := X39.virtualBack hx (y := (⟨"com/example/kinwarden/kinwarden/IntMap", "put", "(II)V"⟩ : MethodName)) (z := (⟨"com/example/kinwarden/kinwarden/IntMap", "put", "(II)V"⟩ : MethodName)) hown (mvT hZ (hw _ (List.mem_of_getElem? (i := 38) rfl))) (mvT hZ (hw _ (List.mem_of_getElem? (i := 39) rfl))) (notFace_of_selects (args := #[]) (mvT hZ (hw _ (List.mem_of_getElem? (i := 41) rfl)))) (mvT hZ (hw _ (List.mem_of_getElem? (i := 41) rfl))) (mvT hZ (hw _ (List.mem_of_getElem? (i := 40) rfl))) (by decide) (backOf (W := 0) (rmpug l Z a0 hw [] mp (4 : Int32) vv tb kt (4 : Int32) (3 : Int32) lv39 hv39 (own_T4 vv) T39.heap n0 Z39 E39x Ft39 Fb39 Fs39 Fh39 Fl39 Fv39 VN39 gn_mp gt nxt (own_len4 vv) own_hs4 (by decide) hv0) hZ (hw _ (List.mem_of_getElem? (i := 42) rfl)) (hw _ (List.mem_of_getElem? (i := 3) rfl)) (by decide) (by decide)) qa44 qc44 (g := (mkF m 109 #[.val (.int x0), .val (.int x1), .val (.int x2), .val (.int x3), .val (.int vm), .val (.int key), .val (.int vv), .val (.ref mp), .unset, .unset, .unset, .unset, .unset, .unset] [(.int vv), (.int (4 : Int32)), (.ref mp)])) rfl (by rw [hml]; rfl) (Steps.refl _) (argsL := [(.int (4 : Int32)), (.int vv)]) (rest := []) (lenOf pd0_1 rfl) rfl (by show 2 * 0 + _ ≤ _; exact Nat.le_of_eq rfl) (hb hby at_109) (fun _ _ => ⟨rfl, rfl, (by decide : 2 + 0 ≤ _), (by decide : 38 + 0 ≤ _)⟩)
              dsimp only [Pt.U, Pt.locs, Pt.cells, Pt.slots] at X44 l44 y44 z44 st44 hQ44
              subst l44 y44 z44
              obtain ⟨rfl, Nq44, K44, sz44, hi44, lv44, hv44, r44, vs44, E44x, Ft44, Fb44, Fs44, Fh44, Fl44, Fv44, VN44, hh44, hr44, hs44⟩ := hQ44
              have N44 := Fr.app N39 Nq44
              have f45 := E39x.keep K44
              have Z44 := Nat.le_trans Z39 K44.1
              have p46 : ∀ t, own_W p e below m T44 112 #[.val (.int x0), .val (.int x1), .val (.int x2), .val (.int x3), .val (.int vm), .val (.int key), .val (.int vv), .val (.ref mp), .unset, .unset, .unset, .unset, .unset, .unset] [] t → Steps p.tables e below S0 t := fun t k => p43 t (st44.trans k)
              obtain ⟨qs44, qv44⟩ := own_p4 hr44 hs44
              have qh44 := hh44 (by decide)
              subst qs44 qv44 qh44
              have p47 : ∀ t, own_W p e below m T44 115 #[.val (.int x0), .val (.int x1), .val (.int x2), .val (.int x3), .val (.int vm), .val (.int key), .val (.int vv), .val (.ref mp), .unset, .unset, .unset, .unset, .unset, .unset] [(.int (5 : Int32)), (.int vm)] t → Steps p.tables e below S0 t := fun t k => p46 t (by
                show own_W p e below m T44 112 #[.val (.int x0), .val (.int x1), .val (.int x2), .val (.int x3), .val (.int vm), .val (.int key), .val (.int vv), .val (.ref mp), .unset, .unset, .unset, .unset, .unset, .unset] [] _
                refine XS.iload X44.here hx rfl (hb hby at_112) rfl ?_
                refine XS.iconst X44.here hx rfl (hb hby at_114) ?_
                exact k)
              by_cases hm5 : (5 : Int32) < vm
              · have p48 : ∀ t, own_W p e below m T44 123 #[.val (.int x0), .val (.int x1), .val (.int x2), .val (.int x3), .val (.int vm), .val (.int key), .val (.int vv), .val (.ref mp), .unset, .unset, .unset, .unset, .unset, .unset] [(.int vv), (.int (5 : Int32)), (.ref mp)] t → Steps p.tables e below S0 t := fun t k => p47 t (by
                  show own_W p e below m T44 115 #[.val (.int x0), .val (.int x1), .val (.int x2), .val (.int x3), .val (.int vm), .val (.int key), .val (.int vv), .val (.ref mp), .unset, .unset, .unset, .unset, .unset, .unset] [(.int (5 : Int32)), (.int vm)] _
                  refine XS.icmpNo X44.here hx rfl (hb hby at_115) rfl ((tlt (hm5)).2.2.2) ?_
                  refine XS.aload X44.here hx rfl (hb hby at_118) rfl rfl ?_
                  refine XS.iconst X44.here hx rfl (hb hby at_120) ?_
                  refine XS.iload X44.here hx rfl (hb hby at_121) rfl ?_
                  exact k)
                obtain ⟨cq49, kq49, qa49, qb49, qc49⟩ := isOf hZ rfl E44x
                obtain ⟨_, _, ⟨T49, L49, k49, n49⟩, -, X49, ⟨Lc49, hQ49, l49, y49, z49⟩, st49⟩ := X44.virtualBack hx (y := (⟨"com/example/kinwarden/kinwarden/IntMap", "put", "(II)V"⟩ : MethodName)) (z := (⟨"com/example/kinwarden/kinwarden/IntMap", "put", "(II)V"⟩ : MethodName)) hown (mvT hZ (hw _ (List.mem_of_getElem? (i := 38) rfl))) (mvT hZ (hw _ (List.mem_of_getElem? (i := 39) rfl))) (notFace_of_selects (args := #[]) (mvT hZ (hw _ (List.mem_of_getElem? (i := 41) rfl)))) (mvT hZ (hw _ (List.mem_of_getElem? (i := 41) rfl))) (mvT hZ (hw _ (List.mem_of_getElem? (i := 40) rfl))) (by decide) (backOf (W := 0) (rmpug l Z a0 hw [] mp (5 : Int32) vv tb kt (5 : Int32) (4 : Int32) lv44 hv44 (own_T5 vv) T44.heap n0 Z44 E44x Ft44 Fb44 Fs44 Fh44 Fl44 Fv44 VN44 gn_mp gt nxt (own_len5 vv) own_hs5 (by decide) hv0) hZ (hw _ (List.mem_of_getElem? (i := 42) rfl)) (hw _ (List.mem_of_getElem? (i := 3) rfl)) (by decide) (by decide)) qa49 qc49 (g := (mkF m 123 #[.val (.int x0), .val (.int x1), .val (.int x2), .val (.int x3), .val (.int vm), .val (.int key), .val (.int vv), .val (.ref mp), .unset, .unset, .unset, .unset, .unset, .unset] [(.int vv), (.int (5 : Int32)), (.ref mp)])) rfl (by rw [hml]; rfl) (Steps.refl _) (argsL := [(.int (5 : Int32)), (.int vv)]) (rest := []) (lenOf pd0_1 rfl) rfl (by show 2 * 0 + _ ≤ _; exact Nat.le_of_eq rfl) (hb hby at_123) (fun _ _ => ⟨rfl, rfl, (by decide : 2 + 0 ≤ _), (by decide : 38 + 0 ≤ _)⟩)
                dsimp only [Pt.U, Pt.locs, Pt.cells, Pt.slots] at X49 l49 y49 z49 st49 hQ49
                subst l49 y49 z49
                obtain ⟨rfl, Nq49, K49, sz49, hi49, lv49, hv49, r49, vs49, E49x, Ft49, Fb49, Fs49, Fh49, Fl49, Fv49, VN49, hh49, hr49, hs49⟩ := hQ49
                have N49 := Fr.app N44 Nq49
                have f50 := E44x.keep K49
                have Z49 := Nat.le_trans Z44 K49.1
                have p51 : ∀ t, own_W p e below m T49 126 #[.val (.int x0), .val (.int x1), .val (.int x2), .val (.int x3), .val (.int vm), .val (.int key), .val (.int vv), .val (.ref mp), .unset, .unset, .unset, .unset, .unset, .unset] [] t → Steps p.tables e below S0 t := fun t k => p48 t (st49.trans k)
                obtain ⟨qs49, qv49⟩ := own_p5 hr49 hs49
                have qh49 := hh49 (by decide)
                subst qs49 qv49 qh49
                exact ⟨T49, _, (6 : Int32), (5 : Int32), lv49, hv49, (own_T6 vv), X49, Z49, N49, E49x, Ft49, Fb49, Fs49, Fh49, Fl49, Fv49, VN49, Or.inr ⟨own_n6 hm5, rfl, rfl, rfl⟩, p51⟩
              · have p52 : ∀ t, own_W p e below m T44 126 #[.val (.int x0), .val (.int x1), .val (.int x2), .val (.int x3), .val (.int vm), .val (.int key), .val (.int vv), .val (.ref mp), .unset, .unset, .unset, .unset, .unset, .unset] [] t → Steps p.tables e below S0 t := fun t k => p47 t (by
                  show own_W p e below m T44 115 #[.val (.int x0), .val (.int x1), .val (.int x2), .val (.int x3), .val (.int vm), .val (.int key), .val (.int vv), .val (.ref mp), .unset, .unset, .unset, .unset, .unset, .unset] [(.int (5 : Int32)), (.int vm)] _
                  refine XS.icmpYes X44.here hx rfl (pc0 := 115) (pc' := 126) rfl (hb hby at_115) rfl ((flt (hm5)).2.2.2) (by decide) (by decide) ?_
                  exact k)
                exact ⟨T44, _, (5 : Int32), (4 : Int32), lv44, hv44, (own_T5 vv), X44, Z44, N44, E44x, Ft44, Fb44, Fs44, Fh44, Fl44, Fv44, VN44, Or.inl ⟨own_l6 hm5 (by decide), own_hs5, own_len5 vv⟩, p52⟩
            · have p53 : ∀ t, own_W p e below m T39 126 #[.val (.int x0), .val (.int x1), .val (.int x2), .val (.int x3), .val (.int vm), .val (.int key), .val (.int vv), .val (.ref mp), .unset, .unset, .unset, .unset, .unset, .unset] [] t → Steps p.tables e below S0 t := fun t k => p42 t (by
                show own_W p e below m T39 101 #[.val (.int x0), .val (.int x1), .val (.int x2), .val (.int x3), .val (.int vm), .val (.int key), .val (.int vv), .val (.ref mp), .unset, .unset, .unset, .unset, .unset, .unset] [(.int (4 : Int32)), (.int vm)] _
                refine XS.icmpYes X39.here hx rfl (pc0 := 101) (pc' := 112) rfl (hb hby at_101) rfl ((flt (hm4)).2.2.2) (by decide) (by decide) ?_
                refine XS.iload X39.here hx rfl (hb hby at_112) rfl ?_
                refine XS.iconst X39.here hx rfl (hb hby at_114) ?_
                refine XS.icmpYes X39.here hx rfl (pc0 := 115) (pc' := 126) rfl (hb hby at_115) rfl ((flt (own_nlt (i := (5 : Int32)) hm4 (by decide))).2.2.2) (by decide) (by decide) ?_
                exact k)
              exact ⟨T39, _, (4 : Int32), (3 : Int32), lv39, hv39, (own_T4 vv), X39, Z39, N39, E39x, Ft39, Fb39, Fs39, Fh39, Fl39, Fv39, VN39, Or.inl ⟨own_l6 hm4 (by decide), own_hs4, own_len4 vv⟩, p53⟩
          · have p54 : ∀ t, own_W p e below m T34 126 #[.val (.int x0), .val (.int x1), .val (.int x2), .val (.int x3), .val (.int vm), .val (.int key), .val (.int vv), .val (.ref mp), .unset, .unset, .unset, .unset, .unset, .unset] [] t → Steps p.tables e below S0 t := fun t k => p37 t (by
              show own_W p e below m T34 87 #[.val (.int x0), .val (.int x1), .val (.int x2), .val (.int x3), .val (.int vm), .val (.int key), .val (.int vv), .val (.ref mp), .unset, .unset, .unset, .unset, .unset, .unset] [(.int (3 : Int32)), (.int vm)] _
              refine XS.icmpYes X34.here hx rfl (pc0 := 87) (pc' := 98) rfl (hb hby at_87) rfl ((flt (hm3)).2.2.2) (by decide) (by decide) ?_
              refine XS.iload X34.here hx rfl (hb hby at_98) rfl ?_
              refine XS.iconst X34.here hx rfl (hb hby at_100) ?_
              refine XS.icmpYes X34.here hx rfl (pc0 := 101) (pc' := 112) rfl (hb hby at_101) rfl ((flt (own_nlt (i := (4 : Int32)) hm3 (by decide))).2.2.2) (by decide) (by decide) ?_
              refine XS.iload X34.here hx rfl (hb hby at_112) rfl ?_
              refine XS.iconst X34.here hx rfl (hb hby at_114) ?_
              refine XS.icmpYes X34.here hx rfl (pc0 := 115) (pc' := 126) rfl (hb hby at_115) rfl ((flt (own_nlt (i := (5 : Int32)) hm3 (by decide))).2.2.2) (by decide) (by decide) ?_
              exact k)
            exact ⟨T34, _, (3 : Int32), (2 : Int32), lv34, hv34, (own_T3 vv), X34, Z34, N34, E34x, Ft34, Fb34, Fs34, Fh34, Fl34, Fv34, VN34, Or.inl ⟨own_l6 hm3 (by decide), own_hs3, own_len3 vv⟩, p54⟩
        · have p55 : ∀ t, own_W p e below m T29 126 #[.val (.int x0), .val (.int x1), .val (.int x2), .val (.int x3), .val (.int vm), .val (.int key), .val (.int vv), .val (.ref mp), .unset, .unset, .unset, .unset, .unset, .unset] [] t → Steps p.tables e below S0 t := fun t k => p32 t (by
            show own_W p e below m T29 73 #[.val (.int x0), .val (.int x1), .val (.int x2), .val (.int x3), .val (.int vm), .val (.int key), .val (.int vv), .val (.ref mp), .unset, .unset, .unset, .unset, .unset, .unset] [(.int (2 : Int32)), (.int vm)] _
            refine XS.icmpYes X29.here hx rfl (pc0 := 73) (pc' := 84) rfl (hb hby at_73) rfl ((flt (hm2)).2.2.2) (by decide) (by decide) ?_
            refine XS.iload X29.here hx rfl (hb hby at_84) rfl ?_
            refine XS.iconst X29.here hx rfl (hb hby at_86) ?_
            refine XS.icmpYes X29.here hx rfl (pc0 := 87) (pc' := 98) rfl (hb hby at_87) rfl ((flt (own_nlt (i := (3 : Int32)) hm2 (by decide))).2.2.2) (by decide) (by decide) ?_
            refine XS.iload X29.here hx rfl (hb hby at_98) rfl ?_
            refine XS.iconst X29.here hx rfl (hb hby at_100) ?_
            refine XS.icmpYes X29.here hx rfl (pc0 := 101) (pc' := 112) rfl (hb hby at_101) rfl ((flt (own_nlt (i := (4 : Int32)) hm2 (by decide))).2.2.2) (by decide) (by decide) ?_
            refine XS.iload X29.here hx rfl (hb hby at_112) rfl ?_
            refine XS.iconst X29.here hx rfl (hb hby at_114) ?_
            refine XS.icmpYes X29.here hx rfl (pc0 := 115) (pc' := 126) rfl (hb hby at_115) rfl ((flt (own_nlt (i := (5 : Int32)) hm2 (by decide))).2.2.2) (by decide) (by decide) ?_
            exact k)
          exact ⟨T29, _, (2 : Int32), (1 : Int32), lv29, hv29, (own_T2 vv), X29, Z29, N29, E29x, Ft29, Fb29, Fs29, Fh29, Fl29, Fv29, VN29, Or.inl ⟨own_l6 hm2 (by decide), own_hs2, own_len2 vv⟩, p55⟩
      · have p56 : ∀ t, own_W p e below m T24 126 #[.val (.int x0), .val (.int x1), .val (.int x2), .val (.int x3), .val (.int vm), .val (.int key), .val (.int vv), .val (.ref mp), .unset, .unset, .unset, .unset, .unset, .unset] [] t → Steps p.tables e below S0 t := fun t k => p27 t (by
          show own_W p e below m T24 59 #[.val (.int x0), .val (.int x1), .val (.int x2), .val (.int x3), .val (.int vm), .val (.int key), .val (.int vv), .val (.ref mp), .unset, .unset, .unset, .unset, .unset, .unset] [(.int (1 : Int32)), (.int vm)] _
          refine XS.icmpYes X24.here hx rfl (pc0 := 59) (pc' := 70) rfl (hb hby at_59) rfl ((flt (hm1)).2.2.2) (by decide) (by decide) ?_
          refine XS.iload X24.here hx rfl (hb hby at_70) rfl ?_
          refine XS.iconst X24.here hx rfl (hb hby at_72) ?_
          refine XS.icmpYes X24.here hx rfl (pc0 := 73) (pc' := 84) rfl (hb hby at_73) rfl ((flt (own_nlt (i := (2 : Int32)) hm1 (by decide))).2.2.2) (by decide) (by decide) ?_
          refine XS.iload X24.here hx rfl (hb hby at_84) rfl ?_
          refine XS.iconst X24.here hx rfl (hb hby at_86) ?_
          refine XS.icmpYes X24.here hx rfl (pc0 := 87) (pc' := 98) rfl (hb hby at_87) rfl ((flt (own_nlt (i := (3 : Int32)) hm1 (by decide))).2.2.2) (by decide) (by decide) ?_
          refine XS.iload X24.here hx rfl (hb hby at_98) rfl ?_
          refine XS.iconst X24.here hx rfl (hb hby at_100) ?_
          refine XS.icmpYes X24.here hx rfl (pc0 := 101) (pc' := 112) rfl (hb hby at_101) rfl ((flt (own_nlt (i := (4 : Int32)) hm1 (by decide))).2.2.2) (by decide) (by decide) ?_
          refine XS.iload X24.here hx rfl (hb hby at_112) rfl ?_
          refine XS.iconst X24.here hx rfl (hb hby at_114) ?_
          refine XS.icmpYes X24.here hx rfl (pc0 := 115) (pc' := 126) rfl (hb hby at_115) rfl ((flt (own_nlt (i := (5 : Int32)) hm1 (by decide))).2.2.2) (by decide) (by decide) ?_
          exact k)
        exact ⟨T24, _, (1 : Int32), (0 : Int32), lv24, hv24, (own_T1 vv), X24, Z24, N24, E24x, Ft24, Fb24, Fs24, Fh24, Fl24, Fv24, VN24, Or.inl ⟨own_l6 hm1 (by decide), own_hs1, own_len1 vv⟩, p56⟩
    · have p57 : ∀ t, own_W p e below m T18 126 #[.val (.int x0), .val (.int x1), .val (.int x2), .val (.int x3), .val (.int vm), .val (.int key), .val (.int vv), .val (.ref mp), .unset, .unset, .unset, .unset, .unset, .unset] [] t → Steps p.tables e below S0 t := fun t k => p22 t (by
        show own_W p e below m T18 45 #[.val (.int x0), .val (.int x1), .val (.int x2), .val (.int x3), .val (.int vm), .val (.int key), .val (.int vv), .val (.ref mp), .unset, .unset, .unset, .unset, .unset, .unset] [(.int vm)] _
        refine XS.ifYes X18.here hx rfl (pc0 := 45) (pc' := 56) rfl (hb hby at_45) rfl ((if0 _ _).trans (flt (hm0)).2.2.2) (by decide) (by decide) ?_
        refine XS.iload X18.here hx rfl (hb hby at_56) rfl ?_
        refine XS.iconst X18.here hx rfl (hb hby at_58) ?_
        refine XS.icmpYes X18.here hx rfl (pc0 := 59) (pc' := 70) rfl (hb hby at_59) rfl ((flt (own_nlt (i := (1 : Int32)) hm0 (by decide))).2.2.2) (by decide) (by decide) ?_
        refine XS.iload X18.here hx rfl (hb hby at_70) rfl ?_
        refine XS.iconst X18.here hx rfl (hb hby at_72) ?_
        refine XS.icmpYes X18.here hx rfl (pc0 := 73) (pc' := 84) rfl (hb hby at_73) rfl ((flt (own_nlt (i := (2 : Int32)) hm0 (by decide))).2.2.2) (by decide) (by decide) ?_
        refine XS.iload X18.here hx rfl (hb hby at_84) rfl ?_
        refine XS.iconst X18.here hx rfl (hb hby at_86) ?_
        refine XS.icmpYes X18.here hx rfl (pc0 := 87) (pc' := 98) rfl (hb hby at_87) rfl ((flt (own_nlt (i := (3 : Int32)) hm0 (by decide))).2.2.2) (by decide) (by decide) ?_
        refine XS.iload X18.here hx rfl (hb hby at_98) rfl ?_
        refine XS.iconst X18.here hx rfl (hb hby at_100) ?_
        refine XS.icmpYes X18.here hx rfl (pc0 := 101) (pc' := 112) rfl (hb hby at_101) rfl ((flt (own_nlt (i := (4 : Int32)) hm0 (by decide))).2.2.2) (by decide) (by decide) ?_
        refine XS.iload X18.here hx rfl (hb hby at_112) rfl ?_
        refine XS.iconst X18.here hx rfl (hb hby at_114) ?_
        refine XS.icmpYes X18.here hx rfl (pc0 := 115) (pc' := 126) rfl (hb hby at_115) rfl ((flt (own_nlt (i := (5 : Int32)) hm0 (by decide))).2.2.2) (by decide) (by decide) ?_
        exact k)
      exact ⟨T18, _, (0 : Int32), (-1 : Int32), (-1 : Int32), (-1 : Int32), (own_T0 vv), X18, Z18, N18, E0, Ft0, Fb0, Fs0, Fh0, Fl0, Fv0, VT0, Or.inl ⟨own_l6 hm0 (by decide), own_hs0, own_len0 vv⟩, p57⟩
  have p58 : ∀ t, own_W p e below m Tj 128 #[.val (.int x0), .val (.int x1), .val (.int x2), .val (.int x3), .val (.int vm), .val (.int key), .val (.int vv), .val (.ref mp), .unset, .unset, .unset, .unset, .unset, .unset] [(.ref mp)] t → Steps p.tables e below S0 t := fun t k => pj t (by
    show own_W p e below m Tj 126 #[.val (.int x0), .val (.int x1), .val (.int x2), .val (.int x3), .val (.int vm), .val (.int key), .val (.int vv), .val (.ref mp), .unset, .unset, .unset, .unset, .unset, .unset] [] _
    refine XS.aload Xj.here hx rfl (hb hby at_126) rfl rfl ?_
    exact k)
  obtain ⟨cq59, kq59, qa59, qb59, qc59⟩ := isOf hZ rfl Ej
  obtain ⟨_, _, ⟨T59, L59, k59, n59⟩, -, X59, ⟨Lc59, hQ59, l59, y59, z59⟩, st59⟩ := Xj.virtualBack hx (y := (⟨"com/example/kinwarden/kinwarden/IntMap", "bytes", "()J"⟩ : MethodName)) (z := (⟨"com/example/kinwarden/kinwarden/IntMap", "bytes", "()J"⟩ : MethodName)) hown (mvT hZ (hw _ (List.mem_of_getElem? (i := 31) rfl))) (mvT hZ (hw _ (List.mem_of_getElem? (i := 32) rfl))) (notFace_of_selects (args := #[]) (mvT hZ (hw _ (List.mem_of_getElem? (i := 34) rfl)))) (mvT hZ (hw _ (List.mem_of_getElem? (i := 34) rfl))) (mvT hZ (hw _ (List.mem_of_getElem? (i := 33) rfl))) (by decide) (backOf (W := 0) (rmbyt l Z a0 hw [] mp tb kt (16 : Int32) vsj Tj.heap n0 Zj Ftj Fbj VNj) hZ (hw _ (List.mem_of_getElem? (i := 35) rfl)) (hw _ (List.mem_of_getElem? (i := 3) rfl)) (by decide) (by decide)) qa59 qc59 (g := (mkF m 128 #[.val (.int x0), .val (.int x1), .val (.int x2), .val (.int x3), .val (.int vm), .val (.int key), .val (.int vv), .val (.ref mp), .unset, .unset, .unset, .unset, .unset, .unset] [(.ref mp)])) rfl (by rw [hml]; rfl) (Steps.refl _) (argsL := []) (rest := []) (lenOf pd0_2 rfl) rfl (by show 2 * 0 + _ ≤ _; exact Nat.le_of_eq rfl) (hb hby at_128) (fun _ _ => ⟨rfl, rfl, (by decide : 2 + 0 ≤ _), (by decide : 38 + 0 ≤ _)⟩)
  dsimp only [Pt.U, Pt.locs, Pt.cells, Pt.slots] at X59 l59 y59 z59 st59 hQ59
  subst l59 y59 z59
  obtain ⟨rfl, Nq59, e59⟩ := hQ59
  have N59 := Fr.app Nj Nq59
  have p60 : ∀ t, own_W p e below m T59 131 #[.val (.int x0), .val (.int x1), .val (.int x2), .val (.int x3), .val (.int vm), .val (.int key), .val (.int vv), .val (.ref mp), .unset, .unset, .unset, .unset, .unset, .unset] [(.long ((16 : Int64) + ((4 : Int64) * ((16 : Int32).toInt64))))] t → Steps p.tables e below S0 t := fun t k => p58 t (st59.trans k)
  have p61 : ∀ t, own_W p e below m T59 131 #[.val (.int x0), .val (.int x1), .val (.int x2), .val (.int x3), .val (.int vm), .val (.int key), .val (.int vv), .val (.ref mp), .unset, .unset, .unset, .unset, .unset, .unset] [(.long (80 : Int64))] t → Steps p.tables e below S0 t := by
    have k := p60
    rw [show ((16 : Int64) + ((4 : Int64) * ((16 : Int32).toInt64))) = (80 : Int64) from own_b80] at k
    exact k
  have p62 : ∀ t, own_W p e below m T59 139 #[.val (.int x0), .val (.int x1), .val (.int x2), .val (.int x3), .val (.int vm), .val (.int key), .val (.int vv), .val (.ref mp), .val (.long (80 : Int64)), .second, .unset, .unset, .unset, .unset] [(.int vv), (.int key), (.ref mp)] t → Steps p.tables e below S0 t := fun t k => p61 t (by
    show own_W p e below m T59 131 #[.val (.int x0), .val (.int x1), .val (.int x2), .val (.int x3), .val (.int vm), .val (.int key), .val (.int vv), .val (.ref mp), .unset, .unset, .unset, .unset, .unset, .unset] [(.long (80 : Int64))] _
    refine XS.lstore X59.here hx rfl (hb hby at_131) rfl (l' := #[.val (.int x0), .val (.int x1), .val (.int x2), .val (.int x3), .val (.int vm), .val (.int key), .val (.int vv), .val (.ref mp), .val (.long (80 : Int64)), .second, .unset, .unset, .unset, .unset]) rfl ?_
    refine XS.aload X59.here hx rfl (hb hby at_133) rfl rfl ?_
    refine XS.iload X59.here hx rfl (hb hby at_135) rfl ?_
    refine XS.iload X59.here hx rfl (hb hby at_137) rfl ?_
    exact k)
  rcases hcs with ⟨hl6, hsj, hlj⟩ | ⟨hn6, hs6, hi6, hv6⟩
  · have u_ := Z0
    obtain ⟨cq63, kq63, qa63, qb63, qc63⟩ := isOf hZ e59 Ej
    obtain ⟨_, _, ⟨T63, L63, k63, n63⟩, -, X63, ⟨Lc63, hQ63, l63, y63, z63⟩, st63⟩ := X59.virtualBack hx (y := (⟨"com/example/kinwarden/kinwarden/IntMap", "put", "(II)V"⟩ : MethodName)) (z := (⟨"com/example/kinwarden/kinwarden/IntMap", "put", "(II)V"⟩ : MethodName)) hown (mvT hZ (hw _ (List.mem_of_getElem? (i := 38) rfl))) (mvT hZ (hw _ (List.mem_of_getElem? (i := 39) rfl))) (notFace_of_selects (args := #[]) (mvT hZ (hw _ (List.mem_of_getElem? (i := 41) rfl)))) (mvT hZ (hw _ (List.mem_of_getElem? (i := 41) rfl))) (mvT hZ (hw _ (List.mem_of_getElem? (i := 40) rfl))) (by decide) (backOf (W := 0) (rmpug l Z a0 hw [] mp key vv tb kt szj hij lvj hvj vsj Tj.heap n0 Zj Ej Ftj Fbj Fsj Fhj Flj Fvj VNj gn_mp gt nxt hlj hsj hkey hv0) hZ (hw _ (List.mem_of_getElem? (i := 42) rfl)) (hw _ (List.mem_of_getElem? (i := 3) rfl)) (by decide) (by decide)) qa63 qc63 (g := (mkF m 139 #[.val (.int x0), .val (.int x1), .val (.int x2), .val (.int x3), .val (.int vm), .val (.int key), .val (.int vv), .val (.ref mp), .val (.long (80 : Int64)), .second, .unset, .unset, .unset, .unset] [(.int vv), (.int key), (.ref mp)])) rfl (by rw [hml]; rfl) (Steps.refl _) (argsL := [(.int key), (.int vv)]) (rest := []) (lenOf pd0_1 rfl) rfl (by show 2 * 0 + _ ≤ _; exact Nat.le_of_eq rfl) (hb hby at_139) (fun _ _ => ⟨rfl, e59, (by decide : 2 + 0 ≤ _), (by decide : 38 + 0 ≤ _)⟩)
    dsimp only [Pt.U, Pt.locs, Pt.cells, Pt.slots] at X63 l63 y63 z63 st63 hQ63
    subst l63 y63 z63
    obtain ⟨rfl, Nq63, K63, sz63, hi63, lv63, hv63, r63, vs63, E63x, Ft63, Fb63, Fs63, Fh63, Fl63, Fv63, VN63, hh63, hr63, hs63⟩ := hQ63
    have N63 := Fr.app N59 Nq63
    have f64 := Ej.keep K63
    have Z63 := Nat.le_trans Zj K63.1
    have p65 : ∀ t, own_W p e below m T63 142 #[.val (.int x0), .val (.int x1), .val (.int x2), .val (.int x3), .val (.int vm), .val (.int key), .val (.int vv), .val (.ref mp), .val (.long (80 : Int64)), .second, .unset, .unset, .unset, .unset] [] t → Steps p.tables e below S0 t := fun t k => p62 t (st63.trans k)
    have p66 : ∀ t, own_W p e below m T63 144 #[.val (.int x0), .val (.int x1), .val (.int x2), .val (.int x3), .val (.int vm), .val (.int key), .val (.int vv), .val (.ref mp), .val (.long (80 : Int64)), .second, .unset, .unset, .unset, .unset] [(.ref mp)] t → Steps p.tables e below S0 t := fun t k => p65 t (by
      show own_W p e below m T63 142 #[.val (.int x0), .val (.int x1), .val (.int x2), .val (.int x3), .val (.int vm), .val (.int key), .val (.int vv), .val (.ref mp), .val (.long (80 : Int64)), .second, .unset, .unset, .unset, .unset] [] _
      refine XS.aload X63.here hx rfl (hb hby at_142) rfl rfl ?_
      exact k)
    obtain ⟨cq67, kq67, qa67, qb67, qc67⟩ := isOf hZ rfl E63x
    obtain ⟨_, _, ⟨T67, L67, k67, n67⟩, -, X67, ⟨Lc67, hQ67, l67, y67, z67⟩, st67⟩ := X63.virtualBack hx (y := (⟨"com/example/kinwarden/kinwarden/IntMap", "bytes", "()J"⟩ : MethodName)) (z := (⟨"com/example/kinwarden/kinwarden/IntMap", "bytes", "()J"⟩ : MethodName)) hown (mvT hZ (hw _ (List.mem_of_getElem? (i := 31) rfl))) (mvT hZ (hw _ (List.mem_of_getElem? (i := 32) rfl))) (notFace_of_selects (args := #[]) (mvT hZ (hw _ (List.mem_of_getElem? (i := 34) rfl)))) (mvT hZ (hw _ (List.mem_of_getElem? (i := 34) rfl))) (mvT hZ (hw _ (List.mem_of_getElem? (i := 33) rfl))) (by decide) (backOf (W := 0) (rmbyt l Z a0 hw [] mp tb kt (16 : Int32) vs63 T63.heap n0 Z63 Ft63 Fb63 VN63) hZ (hw _ (List.mem_of_getElem? (i := 35) rfl)) (hw _ (List.mem_of_getElem? (i := 3) rfl)) (by decide) (by decide)) qa67 qc67 (g := (mkF m 144 #[.val (.int x0), .val (.int x1), .val (.int x2), .val (.int x3), .val (.int vm), .val (.int key), .val (.int vv), .val (.ref mp), .val (.long (80 : Int64)), .second, .unset, .unset, .unset, .unset] [(.ref mp)])) rfl (by rw [hml]; rfl) (Steps.refl _) (argsL := []) (rest := []) (lenOf pd0_2 rfl) rfl (by show 2 * 0 + _ ≤ _; exact Nat.le_of_eq rfl) (hb hby at_144) (fun _ _ => ⟨rfl, rfl, (by decide : 2 + 0 ≤ _), (by decide : 38 + 0 ≤ _)⟩)
    dsimp only [Pt.U, Pt.locs, Pt.cells, Pt.slots] at X67 l67 y67 z67 st67 hQ67
    subst l67 y67 z67
    obtain ⟨rfl, Nq67, e67⟩ := hQ67
    have N67 := Fr.app N63 Nq67
    have p68 : ∀ t, own_W p e below m T67 147 #[.val (.int x0), .val (.int x1), .val (.int x2), .val (.int x3), .val (.int vm), .val (.int key), .val (.int vv), .val (.ref mp), .val (.long (80 : Int64)), .second, .unset, .unset, .unset, .unset] [(.long ((16 : Int64) + ((4 : Int64) * ((16 : Int32).toInt64))))] t → Steps p.tables e below S0 t := fun t k => p66 t (st67.trans k)
    have p69 : ∀ t, own_W p e below m T67 147 #[.val (.int x0), .val (.int x1), .val (.int x2), .val (.int x3), .val (.int vm), .val (.int key), .val (.int vv), .val (.ref mp), .val (.long (80 : Int64)), .second, .unset, .unset, .unset, .unset] [(.long (80 : Int64))] t → Steps p.tables e below S0 t := by
      have k := p68
      rw [show ((16 : Int64) + ((4 : Int64) * ((16 : Int32).toInt64))) = (80 : Int64) from own_b80] at k
      exact k
    have p70 : ∀ t, own_W p e below m T67 228 #[.val (.int x0), .val (.int x1), .val (.int x2), .val (.int x3), .val (.int vm), .val (.int key), .val (.int vv), .val (.ref mp), .val (.long (80 : Int64)), .second, .val (.long (80 : Int64)), .second, .val (.long (80 : Int64)), .second] [(.int (1 : Int32))] t → Steps p.tables e below S0 t := fun t k => p69 t (by
      show own_W p e below m T67 147 #[.val (.int x0), .val (.int x1), .val (.int x2), .val (.int x3), .val (.int vm), .val (.int key), .val (.int vv), .val (.ref mp), .val (.long (80 : Int64)), .second, .unset, .unset, .unset, .unset] [(.long (80 : Int64))] _
      refine XS.lstore X67.here hx rfl (hb hby at_147) rfl (l' := #[.val (.int x0), .val (.int x1), .val (.int x2), .val (.int x3), .val (.int vm), .val (.int key), .val (.int vv), .val (.ref mp), .val (.long (80 : Int64)), .second, .val (.long (80 : Int64)), .second, .unset, .unset]) rfl ?_
      refine XS.iload X67.here hx rfl (hb hby at_149) rfl ?_
      refine XS.bipush X67.here hx rfl (hb hby at_151) ?_
      refine XS.icmpYes X67.here hx rfl (pc0 := 153) (pc' := 163) rfl (hb hby at_153) rfl ((tlt (hl6)).1) (by decide) (by decide) ?_
      show own_W p e below m T67 163 #[.val (.int x0), .val (.int x1), .val (.int x2), .val (.int x3), .val (.int vm), .val (.int key), .val (.int vv), .val (.ref mp), .val (.long (80 : Int64)), .second, .val (.long (80 : Int64)), .second, .unset, .unset] [] _
      refine X67.ldc2Long hx hown (mvT hZ (hw _ (List.mem_of_getElem? (i := 71) rfl))) (g := (mkF m 163 #[.val (.int x0), .val (.int x1), .val (.int x2), .val (.int x3), .val (.int vm), .val (.int key), .val (.int vv), .val (.ref mp), .val (.long (80 : Int64)), .second, .val (.long (80 : Int64)), .second, .unset, .unset] [])) rfl (hb hby at_163) _ ?_
      refine XS.lstore X67.here hx rfl (hb hby at_166) rfl (l' := #[.val (.int x0), .val (.int x1), .val (.int x2), .val (.int x3), .val (.int vm), .val (.int key), .val (.int vv), .val (.ref mp), .val (.long (80 : Int64)), .second, .val (.long (80 : Int64)), .second, .val (.long (80 : Int64)), .second]) rfl ?_
      refine XS.goto X67.here hx rfl (pc0 := 168) (pc' := 206) rfl (hb hby at_168) (by decide) (by decide) ?_
      refine XS.lload X67.here hx rfl (hb hby at_206) rfl ?_
      show own_W p e below m T67 208 #[.val (.int x0), .val (.int x1), .val (.int x2), .val (.int x3), .val (.int vm), .val (.int key), .val (.int vv), .val (.ref mp), .val (.long (80 : Int64)), .second, .val (.long (80 : Int64)), .second, .val (.long (80 : Int64)), .second] [(.long (80 : Int64))] _
      refine X67.ldc2Long hx hown (mvT hZ (hw _ (List.mem_of_getElem? (i := 71) rfl))) (g := (mkF m 208 #[.val (.int x0), .val (.int x1), .val (.int x2), .val (.int x3), .val (.int vm), .val (.int key), .val (.int vv), .val (.ref mp), .val (.long (80 : Int64)), .second, .val (.long (80 : Int64)), .second, .val (.long (80 : Int64)), .second] [(.long (80 : Int64))])) rfl (hb hby at_208) _ ?_
      refine XS.lcmp X67.here hx rfl (hb hby at_211) rfl ?_
      refine XS.ifNo X67.here hx rfl (hb hby at_212) rfl ((if0 _ _).trans (teq ((lw_eq _ _).mpr rfl)).2) ?_
      refine XS.lload X67.here hx rfl (hb hby at_215) rfl ?_
      refine XS.lload X67.here hx rfl (hb hby at_217) rfl ?_
      refine XS.lcmp X67.here hx rfl (hb hby at_219) rfl ?_
      refine XS.ifNo X67.here hx rfl (hb hby at_220) rfl ((if0 _ _).trans (teq ((lw_eq _ _).mpr rfl)).2) ?_
      refine XS.iconst X67.here hx rfl (hb hby at_223) ?_
      refine XS.goto X67.here hx rfl (pc0 := 224) (pc' := 228) rfl (hb hby at_224) (by decide) (by decide) ?_
      exact k)
    subst hS0
    obtain ⟨fs, hr, hrun, hended, hW, hsame⟩ := X67.leave (v := some (.int (1 : Int32))) (fun h => by rw [Bd.returns] at h; cases h)
    refine ⟨_, _, p70 _ ?_, hrun, hended, _, _, rfl, ?_, ⟨_, rfl⟩, hW, hsame.mono (by decide) (by decide)⟩
    · show own_W p e below m T67 228 #[.val (.int x0), .val (.int x1), .val (.int x2), .val (.int x3), .val (.int vm), .val (.int key), .val (.int vv), .val (.ref mp), .val (.long (80 : Int64)), .second, .val (.long (80 : Int64)), .second, .val (.long (80 : Int64)), .second] [(.int (1 : Int32))] _
      exact retN X67 hx (t := .boolean) Bd.returns (by simp) (hb hby at_228) hr
    · show Q0 Z x0 x1 x2 x3 cK h0 n0 _ T67.heap _
      rw [e67]
      exact ⟨rfl, N67⟩
  · have u_ := Z0
    subst hs6 hi6 hv6
    by_cases hk6 : key < (6 : Int32)
    · have u_ := Z0
      obtain ⟨cq71, kq71, qa71, qb71, qc71⟩ := isOf hZ e59 Ej
      obtain ⟨_, _, ⟨T71, L71, k71, n71⟩, -, X71, ⟨Lc71, hQ71, l71, y71, z71⟩, st71⟩ := X59.virtualBack hx (y := (⟨"com/example/kinwarden/kinwarden/IntMap", "put", "(II)V"⟩ : MethodName)) (z := (⟨"com/example/kinwarden/kinwarden/IntMap", "put", "(II)V"⟩ : MethodName)) hown (mvT hZ (hw _ (List.mem_of_getElem? (i := 38) rfl))) (mvT hZ (hw _ (List.mem_of_getElem? (i := 39) rfl))) (notFace_of_selects (args := #[]) (mvT hZ (hw _ (List.mem_of_getElem? (i := 41) rfl)))) (mvT hZ (hw _ (List.mem_of_getElem? (i := 41) rfl))) (mvT hZ (hw _ (List.mem_of_getElem? (i := 40) rfl))) (by decide) (backOf (W := 0) (rmpue l Z a0 hw [] mp key vv tb kt (5 : Int32) lvj hvj vv Tj.heap n0 Zj Ej Ftj Fbj Fsj Fhj Flj Fvj VNj gn_mp gt nxt (own_k6 hkey hk6) hkey hv0) hZ (hw _ (List.mem_of_getElem? (i := 42) rfl)) (hw _ (List.mem_of_getElem? (i := 3) rfl)) (by decide) (by decide)) qa71 qc71 (g := (mkF m 139 #[.val (.int x0), .val (.int x1), .val (.int x2), .val (.int x3), .val (.int vm), .val (.int key), .val (.int vv), .val (.ref mp), .val (.long (80 : Int64)), .second, .unset, .unset, .unset, .unset] [(.int vv), (.int key), (.ref mp)])) rfl (by rw [hml]; rfl) (Steps.refl _) (argsL := [(.int key), (.int vv)]) (rest := []) (lenOf pd0_1 rfl) rfl (by show 2 * 0 + _ ≤ _; exact Nat.le_of_eq rfl) (hb hby at_139) (fun _ _ => ⟨rfl, e59, (by decide : 2 + 0 ≤ _), (by decide : 38 + 0 ≤ _)⟩)
      dsimp only [Pt.U, Pt.locs, Pt.cells, Pt.slots] at X71 l71 y71 z71 st71 hQ71
      subst l71 y71 z71
      obtain ⟨rfl, Nq71, K71, sz71, hi71, lv71, hv71, r71, vs71, E71x, Ft71, Fb71, Fs71, Fh71, Fl71, Fv71, VN71, hh71, hr71, hs71⟩ := hQ71
      have N71 := Fr.app N59 Nq71
      have f72 := Ej.keep K71
      have Z71 := Nat.le_trans Zj K71.1
      have p73 : ∀ t, own_W p e below m T71 142 #[.val (.int x0), .val (.int x1), .val (.int x2), .val (.int x3), .val (.int vm), .val (.int key), .val (.int vv), .val (.ref mp), .val (.long (80 : Int64)), .second, .unset, .unset, .unset, .unset] [] t → Steps p.tables e below S0 t := fun t k => p62 t (st71.trans k)
      have p74 : ∀ t, own_W p e below m T71 144 #[.val (.int x0), .val (.int x1), .val (.int x2), .val (.int x3), .val (.int vm), .val (.int key), .val (.int vv), .val (.ref mp), .val (.long (80 : Int64)), .second, .unset, .unset, .unset, .unset] [(.ref mp)] t → Steps p.tables e below S0 t := fun t k => p73 t (by
        show own_W p e below m T71 142 #[.val (.int x0), .val (.int x1), .val (.int x2), .val (.int x3), .val (.int vm), .val (.int key), .val (.int vv), .val (.ref mp), .val (.long (80 : Int64)), .second, .unset, .unset, .unset, .unset] [] _
        refine XS.aload X71.here hx rfl (hb hby at_142) rfl rfl ?_
        exact k)
      obtain ⟨cq75, kq75, qa75, qb75, qc75⟩ := isOf hZ rfl E71x
      obtain ⟨_, _, ⟨T75, L75, k75, n75⟩, -, X75, ⟨Lc75, hQ75, l75, y75, z75⟩, st75⟩ := X71.virtualBack hx (y := (⟨"com/example/kinwarden/kinwarden/IntMap", "bytes", "()J"⟩ : MethodName)) (z := (⟨"com/example/kinwarden/kinwarden/IntMap", "bytes", "()J"⟩ : MethodName)) hown (mvT hZ (hw _ (List.mem_of_getElem? (i := 31) rfl))) (mvT hZ (hw _ (List.mem_of_getElem? (i := 32) rfl))) (notFace_of_selects (args := #[]) (mvT hZ (hw _ (List.mem_of_getElem? (i := 34) rfl)))) (mvT hZ (hw _ (List.mem_of_getElem? (i := 34) rfl))) (mvT hZ (hw _ (List.mem_of_getElem? (i := 33) rfl))) (by decide) (backOf (W := 0) (rmbyt l Z a0 hw [] mp tb kt (16 : Int32) vs71 T71.heap n0 Z71 Ft71 Fb71 VN71) hZ (hw _ (List.mem_of_getElem? (i := 35) rfl)) (hw _ (List.mem_of_getElem? (i := 3) rfl)) (by decide) (by decide)) qa75 qc75 (g := (mkF m 144 #[.val (.int x0), .val (.int x1), .val (.int x2), .val (.int x3), .val (.int vm), .val (.int key), .val (.int vv), .val (.ref mp), .val (.long (80 : Int64)), .second, .unset, .unset, .unset, .unset] [(.ref mp)])) rfl (by rw [hml]; rfl) (Steps.refl _) (argsL := []) (rest := []) (lenOf pd0_2 rfl) rfl (by show 2 * 0 + _ ≤ _; exact Nat.le_of_eq rfl) (hb hby at_144) (fun _ _ => ⟨rfl, rfl, (by decide : 2 + 0 ≤ _), (by decide : 38 + 0 ≤ _)⟩)
      dsimp only [Pt.U, Pt.locs, Pt.cells, Pt.slots] at X75 l75 y75 z75 st75 hQ75
      subst l75 y75 z75
      obtain ⟨rfl, Nq75, e75⟩ := hQ75
      have N75 := Fr.app N71 Nq75
      have p76 : ∀ t, own_W p e below m T75 147 #[.val (.int x0), .val (.int x1), .val (.int x2), .val (.int x3), .val (.int vm), .val (.int key), .val (.int vv), .val (.ref mp), .val (.long (80 : Int64)), .second, .unset, .unset, .unset, .unset] [(.long ((16 : Int64) + ((4 : Int64) * ((16 : Int32).toInt64))))] t → Steps p.tables e below S0 t := fun t k => p74 t (st75.trans k)
      have p77 : ∀ t, own_W p e below m T75 147 #[.val (.int x0), .val (.int x1), .val (.int x2), .val (.int x3), .val (.int vm), .val (.int key), .val (.int vv), .val (.ref mp), .val (.long (80 : Int64)), .second, .unset, .unset, .unset, .unset] [(.long (80 : Int64))] t → Steps p.tables e below S0 t := by
        have k := p76
        rw [show ((16 : Int64) + ((4 : Int64) * ((16 : Int32).toInt64))) = (80 : Int64) from own_b80] at k
        exact k
      have p78 : ∀ t, own_W p e below m T75 228 #[.val (.int x0), .val (.int x1), .val (.int x2), .val (.int x3), .val (.int vm), .val (.int key), .val (.int vv), .val (.ref mp), .val (.long (80 : Int64)), .second, .val (.long (80 : Int64)), .second, .val (.long (80 : Int64)), .second] [(.int (1 : Int32))] t → Steps p.tables e below S0 t := fun t k => p77 t (by
        show own_W p e below m T75 147 #[.val (.int x0), .val (.int x1), .val (.int x2), .val (.int x3), .val (.int vm), .val (.int key), .val (.int vv), .val (.ref mp), .val (.long (80 : Int64)), .second, .unset, .unset, .unset, .unset] [(.long (80 : Int64))] _
        refine XS.lstore X75.here hx rfl (hb hby at_147) rfl (l' := #[.val (.int x0), .val (.int x1), .val (.int x2), .val (.int x3), .val (.int vm), .val (.int key), .val (.int vv), .val (.ref mp), .val (.long (80 : Int64)), .second, .val (.long (80 : Int64)), .second, .unset, .unset]) rfl ?_
        refine XS.iload X75.here hx rfl (hb hby at_149) rfl ?_
        refine XS.bipush X75.here hx rfl (hb hby at_151) ?_
        refine XS.icmpNo X75.here hx rfl (hb hby at_153) rfl ((flt (hn6)).1) ?_
        refine XS.iload X75.here hx rfl (hb hby at_156) rfl ?_
        refine XS.bipush X75.here hx rfl (hb hby at_158) ?_
        refine XS.icmpNo X75.here hx rfl (hb hby at_160) rfl ((tlt (hk6)).2.1) ?_
        show own_W p e below m T75 163 #[.val (.int x0), .val (.int x1), .val (.int x2), .val (.int x3), .val (.int vm), .val (.int key), .val (.int vv), .val (.ref mp), .val (.long (80 : Int64)), .second, .val (.long (80 : Int64)), .second, .unset, .unset] [] _
        refine X75.ldc2Long hx hown (mvT hZ (hw _ (List.mem_of_getElem? (i := 71) rfl))) (g := (mkF m 163 #[.val (.int x0), .val (.int x1), .val (.int x2), .val (.int x3), .val (.int vm), .val (.int key), .val (.int vv), .val (.ref mp), .val (.long (80 : Int64)), .second, .val (.long (80 : Int64)), .second, .unset, .unset] [])) rfl (hb hby at_163) _ ?_
        refine XS.lstore X75.here hx rfl (hb hby at_166) rfl (l' := #[.val (.int x0), .val (.int x1), .val (.int x2), .val (.int x3), .val (.int vm), .val (.int key), .val (.int vv), .val (.ref mp), .val (.long (80 : Int64)), .second, .val (.long (80 : Int64)), .second, .val (.long (80 : Int64)), .second]) rfl ?_
        refine XS.goto X75.here hx rfl (pc0 := 168) (pc' := 206) rfl (hb hby at_168) (by decide) (by decide) ?_
        refine XS.lload X75.here hx rfl (hb hby at_206) rfl ?_
        show own_W p e below m T75 208 #[.val (.int x0), .val (.int x1), .val (.int x2), .val (.int x3), .val (.int vm), .val (.int key), .val (.int vv), .val (.ref mp), .val (.long (80 : Int64)), .second, .val (.long (80 : Int64)), .second, .val (.long (80 : Int64)), .second] [(.long (80 : Int64))] _
        refine X75.ldc2Long hx hown (mvT hZ (hw _ (List.mem_of_getElem? (i := 71) rfl))) (g := (mkF m 208 #[.val (.int x0), .val (.int x1), .val (.int x2), .val (.int x3), .val (.int vm), .val (.int key), .val (.int vv), .val (.ref mp), .val (.long (80 : Int64)), .second, .val (.long (80 : Int64)), .second, .val (.long (80 : Int64)), .second] [(.long (80 : Int64))])) rfl (hb hby at_208) _ ?_
        refine XS.lcmp X75.here hx rfl (hb hby at_211) rfl ?_
        refine XS.ifNo X75.here hx rfl (hb hby at_212) rfl ((if0 _ _).trans (teq ((lw_eq _ _).mpr rfl)).2) ?_
        refine XS.lload X75.here hx rfl (hb hby at_215) rfl ?_
        refine XS.lload X75.here hx rfl (hb hby at_217) rfl ?_
        refine XS.lcmp X75.here hx rfl (hb hby at_219) rfl ?_
        refine XS.ifNo X75.here hx rfl (hb hby at_220) rfl ((if0 _ _).trans (teq ((lw_eq _ _).mpr rfl)).2) ?_
        refine XS.iconst X75.here hx rfl (hb hby at_223) ?_
        refine XS.goto X75.here hx rfl (pc0 := 224) (pc' := 228) rfl (hb hby at_224) (by decide) (by decide) ?_
        exact k)
      subst hS0
      obtain ⟨fs, hr, hrun, hended, hW, hsame⟩ := X75.leave (v := some (.int (1 : Int32))) (fun h => by rw [Bd.returns] at h; cases h)
      refine ⟨_, _, p78 _ ?_, hrun, hended, _, _, rfl, ?_, ⟨_, rfl⟩, hW, hsame.mono (by decide) (by decide)⟩
      · show own_W p e below m T75 228 #[.val (.int x0), .val (.int x1), .val (.int x2), .val (.int x3), .val (.int vm), .val (.int key), .val (.int vv), .val (.ref mp), .val (.long (80 : Int64)), .second, .val (.long (80 : Int64)), .second, .val (.long (80 : Int64)), .second] [(.int (1 : Int32))] _
        exact retN X75 hx (t := .boolean) Bd.returns (by simp) (hb hby at_228) hr
      · show Q0 Z x0 x1 x2 x3 cK h0 n0 _ T75.heap _
        rw [e75]
        exact ⟨rfl, N75⟩
    · have u_ := Z0
      by_cases h32 : key.toInt + 1 ≤ 32
      · have u_ := Z0
        obtain ⟨cq79, kq79, qa79, qb79, qc79⟩ := isOf hZ e59 Ej
        obtain ⟨_, _, ⟨T79, L79, k79, n79⟩, -, X79, ⟨Lc79, hQ79, l79, y79, z79⟩, st79⟩ := X59.virtualBack hx (y := (⟨"com/example/kinwarden/kinwarden/IntMap", "put", "(II)V"⟩ : MethodName)) (z := (⟨"com/example/kinwarden/kinwarden/IntMap", "put", "(II)V"⟩ : MethodName)) hown (mvT hZ (hw _ (List.mem_of_getElem? (i := 38) rfl))) (mvT hZ (hw _ (List.mem_of_getElem? (i := 39) rfl))) (notFace_of_selects (args := #[]) (mvT hZ (hw _ (List.mem_of_getElem? (i := 41) rfl)))) (mvT hZ (hw _ (List.mem_of_getElem? (i := 41) rfl))) (mvT hZ (hw _ (List.mem_of_getElem? (i := 40) rfl))) (by decide) (own_backOfH (W := 0) (rmpmb l Z a0 hw [] mp key vv tb kt lvj hvj vv cK Tj.heap n0 Zj Ej Ftj Fbj Fsj Fhj Flj Fvj VNj gn_mp nxt hLZ hk6 h32 hkey hv0) hZ hH (hw _ (List.mem_of_getElem? (i := 42) rfl)) (hw _ (List.mem_of_getElem? (i := 3) rfl)) (by decide) (by decide)) qa79 qc79 (g := (mkF m 139 #[.val (.int x0), .val (.int x1), .val (.int x2), .val (.int x3), .val (.int vm), .val (.int key), .val (.int vv), .val (.ref mp), .val (.long (80 : Int64)), .second, .unset, .unset, .unset, .unset] [(.int vv), (.int key), (.ref mp)])) rfl (by rw [hml]; rfl) (Steps.refl _) (argsL := [(.int key), (.int vv)]) (rest := []) (lenOf pd0_1 rfl) rfl (by show 2 * 0 + _ ≤ _; exact Nat.le_of_eq rfl) (hb hby at_139) (fun _ _ => ⟨rfl, e59, (by decide : 2 + 3 ≤ _), (by decide : 38 + 39 ≤ _)⟩)
        dsimp only [Pt.U, Pt.locs, Pt.cells, Pt.slots] at X79 l79 y79 z79 st79 hQ79
        subst l79 y79 z79
        obtain ⟨rfl, Nq79, K79, HQ79⟩ := hQ79
        have N79 := Fr.app N59 Nq79
        have f80 := Ej.keep K79
        have Z79 := Nat.le_trans Zj K79.1
        have p81 : ∀ t, own_W p e below m T79 142 #[.val (.int x0), .val (.int x1), .val (.int x2), .val (.int x3), .val (.int vm), .val (.int key), .val (.int vv), .val (.ref mp), .val (.long (80 : Int64)), .second, .unset, .unset, .unset, .unset] [] t → Steps p.tables e below S0 t := fun t k => p62 t (st79.trans k)
        obtain ⟨nb, kn, N, gnb, hN, sz1, hi1, lv1, hv1, vs1, E1, Ft1, Fb1, Fs1, Fh1, Fl1, Fv1, VN1⟩ := HQ79
        have p82 : ∀ t, own_W p e below m T79 144 #[.val (.int x0), .val (.int x1), .val (.int x2), .val (.int x3), .val (.int vm), .val (.int key), .val (.int vv), .val (.ref mp), .val (.long (80 : Int64)), .second, .unset, .unset, .unset, .unset] [(.ref mp)] t → Steps p.tables e below S0 t := fun t k => p81 t (by
          show own_W p e below m T79 142 #[.val (.int x0), .val (.int x1), .val (.int x2), .val (.int x3), .val (.int vm), .val (.int key), .val (.int vv), .val (.ref mp), .val (.long (80 : Int64)), .second, .unset, .unset, .unset, .unset] [] _
          refine XS.aload X79.here hx rfl (hb hby at_142) rfl rfl ?_
          exact k)
        obtain ⟨cq83, kq83, qa83, qb83, qc83⟩ := isOf hZ rfl E1
        obtain ⟨_, _, ⟨T83, L83, k83, n83⟩, -, X83, ⟨Lc83, hQ83, l83, y83, z83⟩, st83⟩ := X79.virtualBack hx (y := (⟨"com/example/kinwarden/kinwarden/IntMap", "bytes", "()J"⟩ : MethodName)) (z := (⟨"com/example/kinwarden/kinwarden/IntMap", "bytes", "()J"⟩ : MethodName)) hown (mvT hZ (hw _ (List.mem_of_getElem? (i := 31) rfl))) (mvT hZ (hw _ (List.mem_of_getElem? (i := 32) rfl))) (notFace_of_selects (args := #[]) (mvT hZ (hw _ (List.mem_of_getElem? (i := 34) rfl)))) (mvT hZ (hw _ (List.mem_of_getElem? (i := 34) rfl))) (mvT hZ (hw _ (List.mem_of_getElem? (i := 33) rfl))) (by decide) (backOf (W := 0) (rmbyb l Z a0 hw [] mp nb kn N vs1 T79.heap n0 Z79 Fb1 VN1) hZ (hw _ (List.mem_of_getElem? (i := 35) rfl)) (hw _ (List.mem_of_getElem? (i := 3) rfl)) (by decide) (by decide)) qa83 qc83 (g := (mkF m 144 #[.val (.int x0), .val (.int x1), .val (.int x2), .val (.int x3), .val (.int vm), .val (.int key), .val (.int vv), .val (.ref mp), .val (.long (80 : Int64)), .second, .unset, .unset, .unset, .unset] [(.ref mp)])) rfl (by rw [hml]; rfl) (Steps.refl _) (argsL := []) (rest := []) (lenOf pd0_2 rfl) rfl (by show 2 * 0 + _ ≤ _; exact Nat.le_of_eq rfl) (hb hby at_144) (fun _ _ => ⟨rfl, rfl, (by decide : 5 + 0 ≤ _), (by decide : 77 + 0 ≤ _)⟩)
        dsimp only [Pt.U, Pt.locs, Pt.cells, Pt.slots] at X83 l83 y83 z83 st83 hQ83
        subst l83 y83 z83
        obtain ⟨rfl, Nq83, e83⟩ := hQ83
        have N83 := Fr.app N79 Nq83
        have p84 : ∀ t, own_W p e below m T83 147 #[.val (.int x0), .val (.int x1), .val (.int x2), .val (.int x3), .val (.int vm), .val (.int key), .val (.int vv), .val (.ref mp), .val (.long (80 : Int64)), .second, .unset, .unset, .unset, .unset] [(.long ((16 : Int64) + ((4 : Int64) * (N.toInt64))))] t → Steps p.tables e below S0 t := fun t k => p82 t (st83.trans k)
        have p85 : ∀ t, own_W p e below m T83 228 #[.val (.int x0), .val (.int x1), .val (.int x2), .val (.int x3), .val (.int vm), .val (.int key), .val (.int vv), .val (.ref mp), .val (.long (80 : Int64)), .second, .val (.long ((16 : Int64) + ((4 : Int64) * (N.toInt64)))), .second, .val (.long ((16 : Int64) + ((4 : Int64) * ((key.toInt64) + (1 : Int64))))), .second] [(.int (1 : Int32))] t → Steps p.tables e below S0 t := fun t k => p84 t (by
          show own_W p e below m T83 147 #[.val (.int x0), .val (.int x1), .val (.int x2), .val (.int x3), .val (.int vm), .val (.int key), .val (.int vv), .val (.ref mp), .val (.long (80 : Int64)), .second, .unset, .unset, .unset, .unset] [(.long ((16 : Int64) + ((4 : Int64) * (N.toInt64))))] _
          refine XS.lstore X83.here hx rfl (hb hby at_147) rfl (l' := #[.val (.int x0), .val (.int x1), .val (.int x2), .val (.int x3), .val (.int vm), .val (.int key), .val (.int vv), .val (.ref mp), .val (.long (80 : Int64)), .second, .val (.long ((16 : Int64) + ((4 : Int64) * (N.toInt64)))), .second, .unset, .unset]) rfl ?_
          refine XS.iload X83.here hx rfl (hb hby at_149) rfl ?_
          refine XS.bipush X83.here hx rfl (hb hby at_151) ?_
          refine XS.icmpNo X83.here hx rfl (hb hby at_153) rfl ((flt (hn6)).1) ?_
          refine XS.iload X83.here hx rfl (hb hby at_156) rfl ?_
          refine XS.bipush X83.here hx rfl (hb hby at_158) ?_
          refine XS.icmpYes X83.here hx rfl (pc0 := 160) (pc' := 171) rfl (hb hby at_160) rfl ((flt (hk6)).2.1) (by decide) (by decide) ?_
          refine XS.iload X83.here hx rfl (hb hby at_171) rfl ?_
          refine XS.i2l X83.here hx rfl (hb hby at_173) rfl ?_
          refine XS.lconst X83.here hx rfl (hb hby at_174) ?_
          refine XS.ladd X83.here hx rfl (hb hby at_175) rfl ?_
          show own_W p e below m T83 176 #[.val (.int x0), .val (.int x1), .val (.int x2), .val (.int x3), .val (.int vm), .val (.int key), .val (.int vv), .val (.ref mp), .val (.long (80 : Int64)), .second, .val (.long ((16 : Int64) + ((4 : Int64) * (N.toInt64)))), .second, .unset, .unset] [(.long ((key.toInt64) + (1 : Int64)))] _
          refine X83.ldc2Long hx hown (mvT hZ (hw _ (List.mem_of_getElem? (i := 111) rfl))) (g := (mkF m 176 #[.val (.int x0), .val (.int x1), .val (.int x2), .val (.int x3), .val (.int vm), .val (.int key), .val (.int vv), .val (.ref mp), .val (.long (80 : Int64)), .second, .val (.long ((16 : Int64) + ((4 : Int64) * (N.toInt64)))), .second, .unset, .unset] [(.long ((key.toInt64) + (1 : Int64)))])) rfl (hb hby at_176) _ ?_
          refine XS.lcmp X83.here hx rfl (hb hby at_179) rfl ?_
          refine XS.ifNo X83.here hx rfl (hb hby at_180) rfl ((if0 _ _).trans (flt ((fun q => (own_le32 hk6).mp q h32))).2.2.1) ?_
          show own_W p e below m T83 183 #[.val (.int x0), .val (.int x1), .val (.int x2), .val (.int x3), .val (.int vm), .val (.int key), .val (.int vv), .val (.ref mp), .val (.long (80 : Int64)), .second, .val (.long ((16 : Int64) + ((4 : Int64) * (N.toInt64)))), .second, .unset, .unset] [] _
          refine X83.ldc2Long hx hown (mvT hZ (hw _ (List.mem_of_getElem? (i := 113) rfl))) (g := (mkF m 183 #[.val (.int x0), .val (.int x1), .val (.int x2), .val (.int x3), .val (.int vm), .val (.int key), .val (.int vv), .val (.ref mp), .val (.long (80 : Int64)), .second, .val (.long ((16 : Int64) + ((4 : Int64) * (N.toInt64)))), .second, .unset, .unset] [])) rfl (hb hby at_183) _ ?_
          show own_W p e below m T83 186 #[.val (.int x0), .val (.int x1), .val (.int x2), .val (.int x3), .val (.int vm), .val (.int key), .val (.int vv), .val (.ref mp), .val (.long (80 : Int64)), .second, .val (.long ((16 : Int64) + ((4 : Int64) * (N.toInt64)))), .second, .unset, .unset] [(.long (16 : Int64))] _
          refine X83.ldc2Long hx hown (mvT hZ (hw _ (List.mem_of_getElem? (i := 114) rfl))) (g := (mkF m 186 #[.val (.int x0), .val (.int x1), .val (.int x2), .val (.int x3), .val (.int vm), .val (.int key), .val (.int vv), .val (.ref mp), .val (.long (80 : Int64)), .second, .val (.long ((16 : Int64) + ((4 : Int64) * (N.toInt64)))), .second, .unset, .unset] [(.long (16 : Int64))])) rfl (hb hby at_186) _ ?_
          refine XS.iload X83.here hx rfl (hb hby at_189) rfl ?_
          refine XS.i2l X83.here hx rfl (hb hby at_191) rfl ?_
          refine XS.lconst X83.here hx rfl (hb hby at_192) ?_
          refine XS.ladd X83.here hx rfl (hb hby at_193) rfl ?_
          refine XS.lmul X83.here hx rfl (hb hby at_194) rfl ?_
          refine XS.ladd X83.here hx rfl (hb hby at_195) rfl ?_
          refine XS.lstore X83.here hx rfl (hb hby at_196) rfl (l' := #[.val (.int x0), .val (.int x1), .val (.int x2), .val (.int x3), .val (.int vm), .val (.int key), .val (.int vv), .val (.ref mp), .val (.long (80 : Int64)), .second, .val (.long ((16 : Int64) + ((4 : Int64) * (N.toInt64)))), .second, .val (.long ((16 : Int64) + ((4 : Int64) * ((key.toInt64) + (1 : Int64))))), .second]) rfl ?_
          refine XS.goto X83.here hx rfl (pc0 := 198) (pc' := 206) rfl (hb hby at_198) (by decide) (by decide) ?_
          refine XS.lload X83.here hx rfl (hb hby at_206) rfl ?_
          show own_W p e below m T83 208 #[.val (.int x0), .val (.int x1), .val (.int x2), .val (.int x3), .val (.int vm), .val (.int key), .val (.int vv), .val (.ref mp), .val (.long (80 : Int64)), .second, .val (.long ((16 : Int64) + ((4 : Int64) * (N.toInt64)))), .second, .val (.long ((16 : Int64) + ((4 : Int64) * ((key.toInt64) + (1 : Int64))))), .second] [(.long (80 : Int64))] _
          refine X83.ldc2Long hx hown (mvT hZ (hw _ (List.mem_of_getElem? (i := 71) rfl))) (g := (mkF m 208 #[.val (.int x0), .val (.int x1), .val (.int x2), .val (.int x3), .val (.int vm), .val (.int key), .val (.int vv), .val (.ref mp), .val (.long (80 : Int64)), .second, .val (.long ((16 : Int64) + ((4 : Int64) * (N.toInt64)))), .second, .val (.long ((16 : Int64) + ((4 : Int64) * ((key.toInt64) + (1 : Int64))))), .second] [(.long (80 : Int64))])) rfl (hb hby at_208) _ ?_
          refine XS.lcmp X83.here hx rfl (hb hby at_211) rfl ?_
          refine XS.ifNo X83.here hx rfl (hb hby at_212) rfl ((if0 _ _).trans (teq ((lw_eq _ _).mpr rfl)).2) ?_
          refine XS.lload X83.here hx rfl (hb hby at_215) rfl ?_
          refine XS.lload X83.here hx rfl (hb hby at_217) rfl ?_
          refine XS.lcmp X83.here hx rfl (hb hby at_219) rfl ?_
          refine XS.ifNo X83.here hx rfl (hb hby at_220) rfl ((if0 _ _).trans (teq ((lw_eq _ _).mpr (own_by hk6 hN))).2) ?_
          refine XS.iconst X83.here hx rfl (hb hby at_223) ?_
          refine XS.goto X83.here hx rfl (pc0 := 224) (pc' := 228) rfl (hb hby at_224) (by decide) (by decide) ?_
          exact k)
        subst hS0
        obtain ⟨fs, hr, hrun, hended, hW, hsame⟩ := X83.leave (v := some (.int (1 : Int32))) (fun h => by rw [Bd.returns] at h; cases h)
        refine ⟨_, _, p85 _ ?_, hrun, hended, _, _, rfl, ?_, ⟨_, rfl⟩, hW, hsame.mono (by decide) (by decide)⟩
        · show own_W p e below m T83 228 #[.val (.int x0), .val (.int x1), .val (.int x2), .val (.int x3), .val (.int vm), .val (.int key), .val (.int vv), .val (.ref mp), .val (.long (80 : Int64)), .second, .val (.long ((16 : Int64) + ((4 : Int64) * (N.toInt64)))), .second, .val (.long ((16 : Int64) + ((4 : Int64) * ((key.toInt64) + (1 : Int64))))), .second] [(.int (1 : Int32))] _
          exact retN X83 hx (t := .boolean) Bd.returns (by simp) (hb hby at_228) hr
        · show Q0 Z x0 x1 x2 x3 cK h0 n0 _ T83.heap _
          rw [e83]
          exact ⟨rfl, N83⟩
      · have u_ := Z0
        obtain ⟨cq86, kq86, qa86, qb86, qc86⟩ := isOf hZ e59 Ej
        obtain ⟨_, _, ⟨T86, L86, k86, n86⟩, -, X86, ⟨Lc86, hQ86, l86, y86, z86⟩, st86⟩ := X59.virtualBack hx (y := (⟨"com/example/kinwarden/kinwarden/IntMap", "put", "(II)V"⟩ : MethodName)) (z := (⟨"com/example/kinwarden/kinwarden/IntMap", "put", "(II)V"⟩ : MethodName)) hown (mvT hZ (hw _ (List.mem_of_getElem? (i := 38) rfl))) (mvT hZ (hw _ (List.mem_of_getElem? (i := 39) rfl))) (notFace_of_selects (args := #[]) (mvT hZ (hw _ (List.mem_of_getElem? (i := 41) rfl)))) (mvT hZ (hw _ (List.mem_of_getElem? (i := 41) rfl))) (mvT hZ (hw _ (List.mem_of_getElem? (i := 40) rfl))) (by decide) (own_backOfH (W := 0) (rmpmt l Z a0 hw [] mp key vv tb kt lvj hvj vv cK Tj.heap n0 Zj Ej Ftj Fbj Fsj Fhj Flj Fvj VNj gn_mp nxt hLZ hk6 h32 hkey hv0) hZ hH (hw _ (List.mem_of_getElem? (i := 42) rfl)) (hw _ (List.mem_of_getElem? (i := 3) rfl)) (by decide) (by decide)) qa86 qc86 (g := (mkF m 139 #[.val (.int x0), .val (.int x1), .val (.int x2), .val (.int x3), .val (.int vm), .val (.int key), .val (.int vv), .val (.ref mp), .val (.long (80 : Int64)), .second, .unset, .unset, .unset, .unset] [(.int vv), (.int key), (.ref mp)])) rfl (by rw [hml]; rfl) (Steps.refl _) (argsL := [(.int key), (.int vv)]) (rest := []) (lenOf pd0_1 rfl) rfl (by show 2 * 0 + _ ≤ _; exact Nat.le_of_eq rfl) (hb hby at_139) (fun _ _ => ⟨rfl, e59, (by decide : 2 + 3 ≤ _), (by decide : 38 + 39 ≤ _)⟩)
        dsimp only [Pt.U, Pt.locs, Pt.cells, Pt.slots] at X86 l86 y86 z86 st86 hQ86
        subst l86 y86 z86
        obtain ⟨rfl, Nq86, K86, HQ86⟩ := hQ86
        have N86 := Fr.app N59 Nq86
        have f87 := Ej.keep K86
        have Z86 := Nat.le_trans Zj K86.1
        have p88 : ∀ t, own_W p e below m T86 142 #[.val (.int x0), .val (.int x1), .val (.int x2), .val (.int x3), .val (.int vm), .val (.int key), .val (.int vv), .val (.ref mp), .val (.long (80 : Int64)), .second, .unset, .unset, .unset, .unset] [] t → Steps p.tables e below S0 t := fun t k => p62 t (st86.trans k)
        obtain ⟨nb, kn, N, gnb, hN, sz1, hi1, lv1, hv1, vs1, E1, Ft1, Fb1, Fs1, Fh1, Fl1, Fv1, VN1⟩ := HQ86
        subst hN
        have p89 : ∀ t, own_W p e below m T86 144 #[.val (.int x0), .val (.int x1), .val (.int x2), .val (.int x3), .val (.int vm), .val (.int key), .val (.int vv), .val (.ref mp), .val (.long (80 : Int64)), .second, .unset, .unset, .unset, .unset] [(.ref mp)] t → Steps p.tables e below S0 t := fun t k => p88 t (by
          show own_W p e below m T86 142 #[.val (.int x0), .val (.int x1), .val (.int x2), .val (.int x3), .val (.int vm), .val (.int key), .val (.int vv), .val (.ref mp), .val (.long (80 : Int64)), .second, .unset, .unset, .unset, .unset] [] _
          refine XS.aload X86.here hx rfl (hb hby at_142) rfl rfl ?_
          exact k)
        obtain ⟨cq90, kq90, qa90, qb90, qc90⟩ := isOf hZ rfl E1
        obtain ⟨_, _, ⟨T90, L90, k90, n90⟩, -, X90, ⟨Lc90, hQ90, l90, y90, z90⟩, st90⟩ := X86.virtualBack hx (y := (⟨"com/example/kinwarden/kinwarden/IntMap", "bytes", "()J"⟩ : MethodName)) (z := (⟨"com/example/kinwarden/kinwarden/IntMap", "bytes", "()J"⟩ : MethodName)) hown (mvT hZ (hw _ (List.mem_of_getElem? (i := 31) rfl))) (mvT hZ (hw _ (List.mem_of_getElem? (i := 32) rfl))) (notFace_of_selects (args := #[]) (mvT hZ (hw _ (List.mem_of_getElem? (i := 34) rfl)))) (mvT hZ (hw _ (List.mem_of_getElem? (i := 34) rfl))) (mvT hZ (hw _ (List.mem_of_getElem? (i := 33) rfl))) (by decide) (backOf (W := 0) (rmbyt l Z a0 hw [] mp nb kn (32 : Int32) vs1 T86.heap n0 Z86 Ft1 Fb1 VN1) hZ (hw _ (List.mem_of_getElem? (i := 35) rfl)) (hw _ (List.mem_of_getElem? (i := 3) rfl)) (by decide) (by decide)) qa90 qc90 (g := (mkF m 144 #[.val (.int x0), .val (.int x1), .val (.int x2), .val (.int x3), .val (.int vm), .val (.int key), .val (.int vv), .val (.ref mp), .val (.long (80 : Int64)), .second, .unset, .unset, .unset, .unset] [(.ref mp)])) rfl (by rw [hml]; rfl) (Steps.refl _) (argsL := []) (rest := []) (lenOf pd0_2 rfl) rfl (by show 2 * 0 + _ ≤ _; exact Nat.le_of_eq rfl) (hb hby at_144) (fun _ _ => ⟨rfl, rfl, (by decide : 5 + 0 ≤ _), (by decide : 77 + 0 ≤ _)⟩)
        dsimp only [Pt.U, Pt.locs, Pt.cells, Pt.slots] at X90 l90 y90 z90 st90 hQ90
        subst l90 y90 z90
        obtain ⟨rfl, Nq90, e90⟩ := hQ90
        have N90 := Fr.app N86 Nq90
        have p91 : ∀ t, own_W p e below m T90 147 #[.val (.int x0), .val (.int x1), .val (.int x2), .val (.int x3), .val (.int vm), .val (.int key), .val (.int vv), .val (.ref mp), .val (.long (80 : Int64)), .second, .unset, .unset, .unset, .unset] [(.long ((16 : Int64) + ((4 : Int64) * ((32 : Int32).toInt64))))] t → Steps p.tables e below S0 t := fun t k => p89 t (st90.trans k)
        have p92 : ∀ t, own_W p e below m T90 147 #[.val (.int x0), .val (.int x1), .val (.int x2), .val (.int x3), .val (.int vm), .val (.int key), .val (.int vv), .val (.ref mp), .val (.long (80 : Int64)), .second, .unset, .unset, .unset, .unset] [(.long (144 : Int64))] t → Steps p.tables e below S0 t := by
          have k := p91
          rw [show ((16 : Int64) + ((4 : Int64) * ((32 : Int32).toInt64))) = (144 : Int64) from own_b144] at k
          exact k
        have p93 : ∀ t, own_W p e below m T90 228 #[.val (.int x0), .val (.int x1), .val (.int x2), .val (.int x3), .val (.int vm), .val (.int key), .val (.int vv), .val (.ref mp), .val (.long (80 : Int64)), .second, .val (.long (144 : Int64)), .second, .val (.long (144 : Int64)), .second] [(.int (1 : Int32))] t → Steps p.tables e below S0 t := fun t k => p92 t (by
          show own_W p e below m T90 147 #[.val (.int x0), .val (.int x1), .val (.int x2), .val (.int x3), .val (.int vm), .val (.int key), .val (.int vv), .val (.ref mp), .val (.long (80 : Int64)), .second, .unset, .unset, .unset, .unset] [(.long (144 : Int64))] _
          refine XS.lstore X90.here hx rfl (hb hby at_147) rfl (l' := #[.val (.int x0), .val (.int x1), .val (.int x2), .val (.int x3), .val (.int vm), .val (.int key), .val (.int vv), .val (.ref mp), .val (.long (80 : Int64)), .second, .val (.long (144 : Int64)), .second, .unset, .unset]) rfl ?_
          refine XS.iload X90.here hx rfl (hb hby at_149) rfl ?_
          refine XS.bipush X90.here hx rfl (hb hby at_151) ?_
          refine XS.icmpNo X90.here hx rfl (hb hby at_153) rfl ((flt (hn6)).1) ?_
          refine XS.iload X90.here hx rfl (hb hby at_156) rfl ?_
          refine XS.bipush X90.here hx rfl (hb hby at_158) ?_
          refine XS.icmpYes X90.here hx rfl (pc0 := 160) (pc' := 171) rfl (hb hby at_160) rfl ((flt (hk6)).2.1) (by decide) (by decide) ?_
          refine XS.iload X90.here hx rfl (hb hby at_171) rfl ?_
          refine XS.i2l X90.here hx rfl (hb hby at_173) rfl ?_
          refine XS.lconst X90.here hx rfl (hb hby at_174) ?_
          refine XS.ladd X90.here hx rfl (hb hby at_175) rfl ?_
          show own_W p e below m T90 176 #[.val (.int x0), .val (.int x1), .val (.int x2), .val (.int x3), .val (.int vm), .val (.int key), .val (.int vv), .val (.ref mp), .val (.long (80 : Int64)), .second, .val (.long (144 : Int64)), .second, .unset, .unset] [(.long ((key.toInt64) + (1 : Int64)))] _
          refine X90.ldc2Long hx hown (mvT hZ (hw _ (List.mem_of_getElem? (i := 111) rfl))) (g := (mkF m 176 #[.val (.int x0), .val (.int x1), .val (.int x2), .val (.int x3), .val (.int vm), .val (.int key), .val (.int vv), .val (.ref mp), .val (.long (80 : Int64)), .second, .val (.long (144 : Int64)), .second, .unset, .unset] [(.long ((key.toInt64) + (1 : Int64)))])) rfl (hb hby at_176) _ ?_
          refine XS.lcmp X90.here hx rfl (hb hby at_179) rfl ?_
          refine XS.ifYes X90.here hx rfl (pc0 := 180) (pc' := 201) rfl (hb hby at_180) rfl ((if0 _ _).trans (tlt ((own_le32 hk6).mpr h32)).2.2.1) (by decide) (by decide) ?_
          show own_W p e below m T90 201 #[.val (.int x0), .val (.int x1), .val (.int x2), .val (.int x3), .val (.int vm), .val (.int key), .val (.int vv), .val (.ref mp), .val (.long (80 : Int64)), .second, .val (.long (144 : Int64)), .second, .unset, .unset] [] _
          refine X90.ldc2Long hx hown (mvT hZ (hw _ (List.mem_of_getElem? (i := 112) rfl))) (g := (mkF m 201 #[.val (.int x0), .val (.int x1), .val (.int x2), .val (.int x3), .val (.int vm), .val (.int key), .val (.int vv), .val (.ref mp), .val (.long (80 : Int64)), .second, .val (.long (144 : Int64)), .second, .unset, .unset] [])) rfl (hb hby at_201) _ ?_
          refine XS.lstore X90.here hx rfl (hb hby at_204) rfl (l' := #[.val (.int x0), .val (.int x1), .val (.int x2), .val (.int x3), .val (.int vm), .val (.int key), .val (.int vv), .val (.ref mp), .val (.long (80 : Int64)), .second, .val (.long (144 : Int64)), .second, .val (.long (144 : Int64)), .second]) rfl ?_
          refine XS.lload X90.here hx rfl (hb hby at_206) rfl ?_
          show own_W p e below m T90 208 #[.val (.int x0), .val (.int x1), .val (.int x2), .val (.int x3), .val (.int vm), .val (.int key), .val (.int vv), .val (.ref mp), .val (.long (80 : Int64)), .second, .val (.long (144 : Int64)), .second, .val (.long (144 : Int64)), .second] [(.long (80 : Int64))] _
          refine X90.ldc2Long hx hown (mvT hZ (hw _ (List.mem_of_getElem? (i := 71) rfl))) (g := (mkF m 208 #[.val (.int x0), .val (.int x1), .val (.int x2), .val (.int x3), .val (.int vm), .val (.int key), .val (.int vv), .val (.ref mp), .val (.long (80 : Int64)), .second, .val (.long (144 : Int64)), .second, .val (.long (144 : Int64)), .second] [(.long (80 : Int64))])) rfl (hb hby at_208) _ ?_
          refine XS.lcmp X90.here hx rfl (hb hby at_211) rfl ?_
          refine XS.ifNo X90.here hx rfl (hb hby at_212) rfl ((if0 _ _).trans (teq ((lw_eq _ _).mpr rfl)).2) ?_
          refine XS.lload X90.here hx rfl (hb hby at_215) rfl ?_
          refine XS.lload X90.here hx rfl (hb hby at_217) rfl ?_
          refine XS.lcmp X90.here hx rfl (hb hby at_219) rfl ?_
          refine XS.ifNo X90.here hx rfl (hb hby at_220) rfl ((if0 _ _).trans (teq ((lw_eq _ _).mpr rfl)).2) ?_
          refine XS.iconst X90.here hx rfl (hb hby at_223) ?_
          refine XS.goto X90.here hx rfl (pc0 := 224) (pc' := 228) rfl (hb hby at_224) (by decide) (by decide) ?_
          exact k)
        subst hS0
        obtain ⟨fs, hr, hrun, hended, hW, hsame⟩ := X90.leave (v := some (.int (1 : Int32))) (fun h => by rw [Bd.returns] at h; cases h)
        refine ⟨_, _, p93 _ ?_, hrun, hended, _, _, rfl, ?_, ⟨_, rfl⟩, hW, hsame.mono (by decide) (by decide)⟩
        · show own_W p e below m T90 228 #[.val (.int x0), .val (.int x1), .val (.int x2), .val (.int x3), .val (.int vm), .val (.int key), .val (.int vv), .val (.ref mp), .val (.long (80 : Int64)), .second, .val (.long (144 : Int64)), .second, .val (.long (144 : Int64)), .second] [(.int (1 : Int32))] _
          exact retN X90 hx (t := .boolean) Bd.returns (by simp) (hb hby at_228) hr
        · show Q0 Z x0 x1 x2 x3 cK h0 n0 _ T90.heap _
          rw [e90]
          exact ⟨rfl, N90⟩
set_option maxRecDepth 65536 in
set_option maxHeartbeats 40000000 in
theorem comes_1 {Post : Tables → Env → Array Value → State → Outcome → State → Prop} (hpost : ∀ tb e args s v u, (limb_1_1.after args s (.returned v) u = true ∧ limb_1_2.after args s (.returned v) u = true ∧ True) → FrameEnd s (.returned v) u (Jvm.fieldLocs frame_1_writes args s ++ Jvm.arrayLocs frame_1_arrays args s ++ Jvm.staticLocs frame_1_statics s) 24 192 → Post tb e args s (.returned v) u) :
    ArmFor flags0 classFile x code maxLocals ret World_1 tables_1 room_1 Calls_1 rest_1 Pre_1 Post := by
  intro l hfl _ _ p e ha hc hk s m args below hf hA hF happ hP
  obtain ⟨hcalls, hrest, hpre⟩ := hP
  obtain ⟨-, -, -, hnamed, -, -, -, hat⟩ := (Spec.applies_iff hf).mp happ
  obtain ⟨hg, hn⟩ := and_e (Cond.before_iff.mp (show (Jvm.Cond.and given_1 narrow_1).before args s = true from hpre))
  obtain ⟨hcount, ga0⟩ := and_e hg
  obtain ⟨gb0, ga1⟩ := and_e ga0
  obtain ⟨gb1, ga2⟩ := and_e ga1
  obtain ⟨gb2, ga3⟩ := and_e ga2
  obtain ⟨w0, w1, w2, w3, rfl⟩ : ∃ w0 w1 w2 w3 : Value, args = #[w0, w1, w2, w3] := by
    have hs : args.size = 4 := by simpa [Cond.value, given_1] using hcount
    obtain ⟨L⟩ := args
    match L, hs with
    | [w0, w1, w2, w3], _ => exact ⟨w0, w1, w2, w3, rfl⟩
  have hw := fun d (hd : d ∈ tables_1) => atoms_spec (ws := Jvm.Cond.code x code maxLocals ret :: tables_1) hat d (List.mem_cons_of_mem _ hd)
  have hfit : Fit s := fun {y c} hc i hi => by
    obtain ⟨ha, rfl⟩ := Array.getElem?_eq_some_iff.mp hc
    have q := List.all_eq_true.mp ((Array.all_eq_true_iff_forall_mem.mp hF) _ (Array.getElem_mem ha)) i (List.mem_range.mpr hi)
    simpa [Array.getElem?_eq_getElem hi] using q
  obtain ⟨i0, ei0⟩ := is_v gb0
  obtain rfl : w0 = (.int i0) := Option.some.inj ei0
  obtain ⟨i1, ei1⟩ := is_v gb1
  obtain rfl : w1 = (.int i1) := Option.some.inj ei1
  obtain ⟨i2, ei2⟩ := is_v gb2
  obtain rfl : w2 = (.int i2) := Option.some.inj ei2
  obtain ⟨i3, ei3⟩ := is_v ga3
  obtain rfl : w3 = (.int i3) := Option.some.inj ei3
  obtain ⟨cK, hLZ⟩ := own_lz (show (Cond.lambdaSite own_x 95 106 own_sh).before _ s = true from hw _ (List.mem_of_getElem? (i := 96) rfl))
  obtain ⟨n, o, h1, h2, h3, _, L, rfl, ⟨rfl, N⟩, hq⟩ := rm0 l s _ hw tables_1 i0 i1 i2 i3 cK s.heap s.heap.size (Nat.le_refl _) hLZ p e ha hc hk s m _ below hf ((Spec.applies_iff_loose hf).mp happ).1 ⟨rfl, State.Warmed39.refl s, rfl, State.WarmedH.refl s⟩ trivial
  refine ⟨n, _, h1, h2, h3, hpost _ _ _ _ _ _ ⟨Cond.after_iff.mpr rfl, Cond.after_iff.mpr (eq_i res_at (Term.int_eval (1)) rfl), trivial⟩ ⟨hq.1, hq.2.1, (hq.2.2.sift fun y hy => Or.inr (N y hy)).mono (by decide) (by decide)⟩⟩
theorem main_1_1 : Claimed_1_1 := comes_1 fun _ _ _ _ _ _ h hF => ⟨h.1, Jvm.LamKit.wideOf hF⟩
theorem main_1_2 : Claimed_1_2 := comes_1 fun _ _ _ _ _ _ h hF => ⟨h.2.1, Jvm.LamKit.wideOf hF⟩
end Jvm.Pilot.@@N@@
namespace Jvm.Pilot.@@N@@
open Jvm Jvm.ClassFile Sem Op Lib Jvm.Free Jvm.Stand Jvm.Pilot.@@N@@.Jvm.D
/-! MADE BY PROGRAM (witnessworld.py) out of the Statement's table words and the real class files: 19 classes; the members and pool entries that the words name. The judged class is class 1, her method 1. -/
namespace start1
open Jvm.ClassFile
def u (s : String) : CpInfo := .utf8 (stringToUtf16 s)
/-- a pool by its gaps: so many unusable entries, then the entry; so many at the end -/
def gap : Nat → List CpInfo → List CpInfo
  | 0, r => r
  | n + 1, r => .unusable :: gap n r
def poolList (es : List (Nat × CpInfo)) (last : Nat) : List CpInfo := es.foldr (fun e r => gap e.1 (e.2 :: r)) (gap last [])
def pool (es : List (Nat × CpInfo)) (last : Nat) : Array CpInfo := ⟨poolList es last⟩
def fileOf (pool : Array CpInfo) (this : Nat) (attrs : Array Attribute := #[]) (ms : Array MethodInfo := #[]) (fl : Nat := 33) (sup : Nat := 0) (ifs : Array Nat := #[]) (fds : Array FieldInfo := #[]) : ClassFile where
  minorVersion := 0
  majorVersion := 65
  constantPool := pool
  accessFlags := fl
  thisClass := this
  superClass := sup
  interfaces := ifs
  fields := fds
  methods := ms
  attributes := attrs
def plain (name : String) (sup : Option ClassId) : Class where
  name := name
  kind := .ordinary
  loader := none
  accessFlags := 33
  super := sup
  interfaces := #[]
  cf := none
  fields := #[]
  methods := #[]
  instanceTypes := #[]
  staticTypes := #[]
  resolved := #[]
  callSites := []
  init := .initialized
  statics := none
  mirror := none

def pool0 : Array CpInfo := pool [(5, u "<init>"), (0, u "()V"), (1, .class_ 10), (1, u "java/lang/Object")] 113

def k0c0 : Code := { maxStack := 0, maxLocals := 1, code := object_method_1_code, exceptionTable := #[], attributes := #[] }
def k0m0 : Method := { name := "<init>", desc := "()V", sig := { parameters := [], returnType := none }, accessFlags := 1, code := some k0c0 }
/-- java/lang/Object -/
def k0 : Class := { plain "java/lang/Object" none with
  accessFlags := 33
  interfaces := #[]
  cf := some (fileOf pool0 8 #[] #[{ accessFlags := 1, nameIndex := 5, descriptorIndex := 6, attributes := #[] }] 33 0 #[] #[])
  fields := #[]
  methods := #[k0m0]
  instanceTypes := #[]
  staticTypes := #[]
  resolved := Array.replicate 124 none
  statics := none }

def pool1 : Array CpInfo := pool [(2, .class_ 4), (0, .nameAndType 5 6), (0, u "java/lang/Object"), (0, u "<init>"), (0, u "()V"), (0, .integer 2147483647), (0, .class_ 9), (0, u "com/example/kinwarden/kinwarden/IntMap"), (0, .methodref 8 3), (0, .methodref 8 12), (0, .nameAndType 13 14), (0, u "put"), (0, u "(II)V"), (0, .methodref 8 16), (0, .nameAndType 17 18), (0, u "bytes"), (0, u "()J"), (0, .long 80), (1, .long 32), (1, .long 16), (1, .long 4), (1, .long 144), (1, .class_ 30), (0, u "com/example/kinwarden/kinwarden/IntMapBytesPinLaw"), (2, u "law"), (0, u "(IIII)Z")] 3

def k1m0 : Method := { name := "<init>", desc := "()V", sig := { parameters := [], returnType := none }, accessFlags := 1, code := none }
def k1c1 : Code := { maxStack := 8, maxLocals := 14, code := code, exceptionTable := #[], attributes := #[] }
def k1m1 : Method := { name := "law", desc := "(IIII)Z", sig := { parameters := [.int, .int, .int, .int], returnType := some .boolean }, accessFlags := 9, code := some k1c1 }
/-- com/example/kinwarden/kinwarden/IntMapBytesPinLaw -/
def k1 : Class := { plain "com/example/kinwarden/kinwarden/IntMapBytesPinLaw" (some 0) with
  accessFlags := 49
  interfaces := #[]
  cf := some (fileOf pool1 29 #[] #[{ accessFlags := 1, nameIndex := 5, descriptorIndex := 6, attributes := #[] }, { accessFlags := 9, nameIndex := 33, descriptorIndex := 34, attributes := #[] }] 49 2 #[] #[])
  fields := #[]
  methods := #[k1m0, k1m1]
  instanceTypes := #[]
  staticTypes := #[]
  resolved := Array.replicate 38 none
  statics := none }

def pool2 : Array CpInfo := pool [(1, .class_ 2), (0, u "com/example/kinwarden/kinwarden/IntMap"), (0, .methodref 1 4), (0, .nameAndType 5 6), (0, u "emptyRoom"), (0, u "(I)[I"), (0, .methodref 1 8), (0, .nameAndType 9 10), (0, u "<init>"), (0, u "([I[I)V"), (0, .methodref 12 13), (0, .class_ 14), (0, .nameAndType 9 15), (0, u "java/lang/Object"), (0, u "()V"), (0, .fieldref 1 17), (0, .nameAndType 18 19), (0, u "highest"), (0, u "I"), (0, .fieldref 1 21), (0, .nameAndType 22 19), (0, u "lowestValue"), (0, .fieldref 1 24), (0, .nameAndType 25 19), (0, u "highestValue"), (0, .fieldref 1 27), (0, .nameAndType 28 29), (0, u "table"), (0, u "[I"), (0, .fieldref 1 31), (0, .nameAndType 32 29), (0, u "byKey"), (0, .methodref 1 34), (0, .nameAndType 35 36), (0, u "slot"), (0, u "([II)I"), (0, .long 16), (1, .class_ 40), (0, u "java/lang/Integer"), (0, .long 4), (1, .fieldref 1 44), (0, .nameAndType 45 19), (0, u "size"), (3, u "(J)J"), (0, .long 8), (1, .methodref 1 53), (0, .nameAndType 54 49), (0, u "slotsFor"), (9, .methodref 1 65), (0, .nameAndType 66 67), (0, u "makeRoomFor"), (0, u "(I)V"), (0, .methodref 1 69), (0, .nameAndType 70 71), (0, u "putInRoom"), (0, u "(II)V"), (3, .methodref 1 76), (0, .nameAndType 77 78), (0, u "hasRoomFor"), (0, u "(I)Z"), (0, .methodref 80 81), (0, .class_ 82), (0, .nameAndType 83 84), (0, u "java/lang/Math"), (0, u "max"), (0, u "(II)I"), (0, .methodref 1 86), (0, .nameAndType 87 71), (0, u "moveToRoomFor"), (0, .methodref 80 89), (0, .nameAndType 90 84), (0, u "min"), (0, .long 2), (1, .methodref 80 94), (0, .nameAndType 83 95), (0, u "(JJ)J"), (0, .methodref 80 97), (0, .nameAndType 98 99), (0, u "toIntExact"), (0, u "(J)I"), (0, .methodref 101 102), (0, .class_ 103), (0, .nameAndType 104 105), (0, u "java/util/Objects"), (0, u "requireNonNull"), (0, u "(Ljava/lang/Object;)Ljava/lang/Object;"), (0, .invokeDynamic 2 107), (0, .nameAndType 108 109), (0, u "accept"), (0, u "(Lcom/example/kinwarden/kinwarden/IntMap;)Lcom/example/kinwarden/kinwarden/IntMap$EntryConsumer;"), (0, .methodref 1 111), (0, .nameAndType 112 113), (0, u "forEach"), (0, u "(Lcom/example/kinwarden/kinwarden/IntMap$EntryConsumer;)V"), (0, .long 3), (1, .methodref 1 117), (0, .nameAndType 112 118), (0, u "([I[ILcom/example/kinwarden/kinwarden/IntMap$EntryConsumer;)V"), (0, .interfaceMethodref 120 121), (0, .class_ 122), (0, .nameAndType 108 71), (0, u "com/example/kinwarden/kinwarden/IntMap$EntryConsumer"), (0, .methodref 124 125), (0, .class_ 126), (0, .nameAndType 127 128), (0, u "java/util/Arrays"), (0, u "fill"), (0, u "([II)V"), (0, .integer 2654435769), (0, .methodref 39 131), (0, .nameAndType 132 133), (0, u "numberOfLeadingZeros"), (0, u "(I)I"), (0, u "NONE"), (2, u "FEWEST_SLOTS"), (1, u "ARRAY_HEADER_BYTES"), (1, u "SPREAD"), (4, u "bytes"), (0, u "()J"), (3, u "put"), (8, .methodType 71), (0, .methodHandle 5 68), (6, .methodHandle 6 169), (0, .methodref 170 171), (0, .class_ 172), (0, .nameAndType 173 174), (0, u "java/lang/invoke/LambdaMetafactory"), (0, u "metafactory"), (0, u "(Ljava/lang/invoke/MethodHandles$Lookup;Ljava/lang/String;Ljava/lang/invoke/MethodType;Ljava/lang/invoke/MethodType;Ljava/lang/invoke/MethodHandle;Ljava/lang/invoke/MethodType;)Ljava/lang/invoke/CallSite;")] 7

def k2c0 : Code := { maxStack := 3, maxLocals := 1, code := prog_53_method_1_code, exceptionTable := #[], attributes := #[] }
def k2m0 : Method := { name := "<init>", desc := "()V", sig := { parameters := [], returnType := none }, accessFlags := 0, code := some k2c0 }
def k2c1 : Code := { maxStack := 2, maxLocals := 3, code := prog_53_method_2_code, exceptionTable := #[], attributes := #[] }
def k2m1 : Method := { name := "<init>", desc := "([I[I)V", sig := { parameters := [(.array .int), (.array .int)], returnType := none }, accessFlags := 2, code := some k2c1 }
def k2c2 : Code := { maxStack := 6, maxLocals := 2, code := prog_53_method_4_code, exceptionTable := #[], attributes := #[] }
def k2m2 : Method := { name := "bytes", desc := "()J", sig := { parameters := [], returnType := some .long }, accessFlags := 0, code := some k2c2 }
def k2c3 : Code := { maxStack := 4, maxLocals := 3, code := prog_53_method_9_code, exceptionTable := #[], attributes := #[] }
def k2m3 : Method := { name := "put", desc := "(II)V", sig := { parameters := [.int, .int], returnType := none }, accessFlags := 0, code := some k2c3 }
def k2c4 : Code := { maxStack := 4, maxLocals := 2, code := prog_53_method_10_code, exceptionTable := #[], attributes := #[] }
def k2m4 : Method := { name := "makeRoomFor", desc := "(I)V", sig := { parameters := [.int], returnType := none }, accessFlags := 0, code := some k2c4 }
def k2c5 : Code := { maxStack := 4, maxLocals := 2, code := prog_53_method_11_code, exceptionTable := #[], attributes := #[] }
def k2m5 : Method := { name := "hasRoomFor", desc := "(I)Z", sig := { parameters := [.int], returnType := some .boolean }, accessFlags := 2, code := some k2c5 }
def k2c6 : Code := { maxStack := 4, maxLocals := 4, code := prog_53_method_12_code, exceptionTable := #[], attributes := #[] }
def k2m6 : Method := { name := "putInRoom", desc := "(II)V", sig := { parameters := [.int, .int], returnType := none }, accessFlags := 2, code := some k2c6 }
def k2c7 : Code := { maxStack := 6, maxLocals := 8, code := prog_53_method_13_code, exceptionTable := #[], attributes := #[] }
def k2m7 : Method := { name := "moveToRoomFor", desc := "(II)V", sig := { parameters := [.int, .int], returnType := none }, accessFlags := 2, code := some k2c7 }
def k2c8 : Code := { maxStack := 6, maxLocals := 4, code := prog_53_method_14_code, exceptionTable := #[], attributes := #[] }
def k2m8 : Method := { name := "slotsFor", desc := "(J)J", sig := { parameters := [.long], returnType := some .long }, accessFlags := 10, code := some k2c8 }
def k2c9 : Code := { maxStack := 3, maxLocals := 2, code := prog_53_method_15_code, exceptionTable := #[], attributes := #[] }
def k2m9 : Method := { name := "forEach", desc := "(Lcom/example/kinwarden/kinwarden/IntMap$EntryConsumer;)V", sig := { parameters := [(.object "com/example/kinwarden/kinwarden/IntMap$EntryConsumer")], returnType := none }, accessFlags := 0, code := some k2c9 }
def k2c10 : Code := { maxStack := 5, maxLocals := 4, code := prog_53_method_16_code, exceptionTable := #[], attributes := #[] }
def k2m10 : Method := { name := "forEach", desc := "([I[ILcom/example/kinwarden/kinwarden/IntMap$EntryConsumer;)V", sig := { parameters := [(.array .int), (.array .int), (.object "com/example/kinwarden/kinwarden/IntMap$EntryConsumer")], returnType := none }, accessFlags := 10, code := some k2c10 }
def k2c11 : Code := { maxStack := 2, maxLocals := 2, code := prog_53_method_17_code, exceptionTable := #[], attributes := #[] }
def k2m11 : Method := { name := "emptyRoom", desc := "(I)[I", sig := { parameters := [.int], returnType := some (.array .int) }, accessFlags := 10, code := some k2c11 }
def k2c12 : Code := { maxStack := 3, maxLocals := 5, code := prog_53_method_18_code, exceptionTable := #[], attributes := #[] }
def k2m12 : Method := { name := "slot", desc := "([II)I", sig := { parameters := [(.array .int), .int], returnType := some .int }, accessFlags := 10, code := some k2c12 }
/-- com/example/kinwarden/kinwarden/IntMap -/
def k2 : Class := { plain "com/example/kinwarden/kinwarden/IntMap" (some 0) with
  accessFlags := 48
  interfaces := #[]
  cf := some (fileOf pool2 1 #[.nestMembers #[120], .bootstrapMethods #[⟨0, #[]⟩, ⟨0, #[]⟩, ⟨168, #[160, 161, 160]⟩]] #[{ accessFlags := 0, nameIndex := 9, descriptorIndex := 15, attributes := #[] }, { accessFlags := 2, nameIndex := 9, descriptorIndex := 10, attributes := #[] }, { accessFlags := 0, nameIndex := 146, descriptorIndex := 147, attributes := #[] }, { accessFlags := 0, nameIndex := 151, descriptorIndex := 71, attributes := #[] }, { accessFlags := 0, nameIndex := 66, descriptorIndex := 67, attributes := #[] }, { accessFlags := 2, nameIndex := 77, descriptorIndex := 78, attributes := #[] }, { accessFlags := 2, nameIndex := 70, descriptorIndex := 71, attributes := #[] }, { accessFlags := 2, nameIndex := 87, descriptorIndex := 71, attributes := #[] }, { accessFlags := 10, nameIndex := 54, descriptorIndex := 49, attributes := #[] }, { accessFlags := 0, nameIndex := 112, descriptorIndex := 113, attributes := #[] }, { accessFlags := 10, nameIndex := 112, descriptorIndex := 118, attributes := #[] }, { accessFlags := 10, nameIndex := 5, descriptorIndex := 6, attributes := #[] }, { accessFlags := 10, nameIndex := 35, descriptorIndex := 36, attributes := #[] }] 48 12 #[] #[{ accessFlags := 24, nameIndex := 134, descriptorIndex := 19, attributes := #[] }, { accessFlags := 26, nameIndex := 137, descriptorIndex := 19, attributes := #[] }, { accessFlags := 26, nameIndex := 139, descriptorIndex := 19, attributes := #[] }, { accessFlags := 26, nameIndex := 141, descriptorIndex := 19, attributes := #[] }, { accessFlags := 2, nameIndex := 28, descriptorIndex := 29, attributes := #[] }, { accessFlags := 2, nameIndex := 32, descriptorIndex := 29, attributes := #[] }, { accessFlags := 2, nameIndex := 45, descriptorIndex := 19, attributes := #[] }, { accessFlags := 2, nameIndex := 18, descriptorIndex := 19, attributes := #[] }, { accessFlags := 2, nameIndex := 22, descriptorIndex := 19, attributes := #[] }, { accessFlags := 2, nameIndex := 25, descriptorIndex := 19, attributes := #[] }])
  fields := #[{ name := "NONE", type := .int, accessFlags := 24, slot := 0, constantValue := 0 }, { name := "FEWEST_SLOTS", type := .int, accessFlags := 26, slot := 1, constantValue := 0 }, { name := "ARRAY_HEADER_BYTES", type := .int, accessFlags := 26, slot := 2, constantValue := 0 }, { name := "SPREAD", type := .int, accessFlags := 26, slot := 3, constantValue := 0 }, { name := "table", type := (.array .int), accessFlags := 2, slot := 0, constantValue := 0 }, { name := "byKey", type := (.array .int), accessFlags := 2, slot := 1, constantValue := 0 }, { name := "size", type := .int, accessFlags := 2, slot := 2, constantValue := 0 }, { name := "highest", type := .int, accessFlags := 2, slot := 3, constantValue := 0 }, { name := "lowestValue", type := .int, accessFlags := 2, slot := 4, constantValue := 0 }, { name := "highestValue", type := .int, accessFlags := 2, slot := 5, constantValue := 0 }]
  methods := #[k2m0, k2m1, k2m2, k2m3, k2m4, k2m5, k2m6, k2m7, k2m8, k2m9, k2m10, k2m11, k2m12]
  instanceTypes := #[(.array .int), (.array .int), .int, .int, .int, .int]
  staticTypes := #[.int, .int, .int, .int]
  resolved := Array.replicate 182 none
  callSites := [(7, 95, .makes 18)]
  statics := none }

def pool3 : Array CpInfo := pool [(2, .class_ 4), (1, u "java/lang/Object"), (0, u "<init>"), (0, u "()V"), (7, .class_ 16), (1, u "java/util/Arrays"), (57, .class_ 76), (1, u "java/util/Arrays$NaturalOrder"), (36, .class_ 115), (1, u "java/util/Arrays$LegacyMergeSort"), (1, u "Z"), (257, .class_ 376), (0, u "java/util/Arrays$ArrayList"), (68, u "$assertionsDisabled"), (269, u "MIN_ARRAY_SORT_GRAN"), (0, u "I"), (2, u "INSERTIONSORT_THRESHOLD"), (120, u "fill"), (4, u "([II)V"), (129, .class_ 976), (0, u "java/util/Arrays$ArrayItr")] 52

def k3m0 : Method := { name := "<init>", desc := "()V", sig := { parameters := [], returnType := none }, accessFlags := 2, code := none }
def k3c1 : Code := { maxStack := 3, maxLocals := 4, code := jdk_65_method_103_code, exceptionTable := #[], attributes := #[] }
def k3m1 : Method := { name := "fill", desc := "([II)V", sig := { parameters := [(.array .int), .int], returnType := none }, accessFlags := 9, code := some k3c1 }
/-- java/util/Arrays -/
def k3 : Class := { plain "java/util/Arrays" (some 0) with
  accessFlags := 49
  interfaces := #[]
  cf := some (fileOf pool3 14 #[.nestMembers #[975, 375, 113, 74]] #[{ accessFlags := 2, nameIndex := 5, descriptorIndex := 6, attributes := #[] }, { accessFlags := 9, nameIndex := 840, descriptorIndex := 845, attributes := #[] }] 49 2 #[] #[{ accessFlags := 26, nameIndex := 715, descriptorIndex := 716, attributes := #[] }, { accessFlags := 26, nameIndex := 719, descriptorIndex := 716, attributes := #[] }, { accessFlags := 4120, nameIndex := 445, descriptorIndex := 117, attributes := #[] }])
  fields := #[{ name := "MIN_ARRAY_SORT_GRAN", type := .int, accessFlags := 26, slot := 0, constantValue := 0 }, { name := "INSERTIONSORT_THRESHOLD", type := .int, accessFlags := 26, slot := 1, constantValue := 0 }, { name := "$assertionsDisabled", type := .boolean, accessFlags := 4120, slot := 2, constantValue := 0 }]
  methods := #[k3m0, k3m1]
  instanceTypes := #[]
  staticTypes := #[.int, .int, .boolean]
  resolved := Array.replicate 1029 none
  statics := none }

def pool4 : Array CpInfo := pool [(1, .class_ 2), (0, u "java/io/Serializable"), (0, .class_ 4), (0, u "java/lang/Object")] 2

/-- java/io/Serializable -/
def k4 : Class := { plain "java/io/Serializable" (some 0) with
  accessFlags := 1537
  interfaces := #[]
  cf := some (fileOf pool4 1 #[] #[] 1537 3 #[] #[])
  fields := #[]
  methods := #[]
  instanceTypes := #[]
  staticTypes := #[]
  resolved := Array.replicate 7 none
  statics := none }

def pool5 : Array CpInfo := pool [(2, .class_ 4), (1, u "java/lang/Object"), (0, u "<init>"), (0, u "()V"), (1, .class_ 10), (1, u "java/lang/Number"), (2, .class_ 14), (0, u "java/io/Serializable"), (0, u "serialVersionUID"), (0, u "J")] 20

def k5m0 : Method := { name := "<init>", desc := "()V", sig := { parameters := [], returnType := none }, accessFlags := 1, code := none }
/-- java/lang/Number -/
def k5 : Class := { plain "java/lang/Number" (some 0) with
  accessFlags := 1057
  interfaces := #[4]
  cf := some (fileOf pool5 8 #[] #[{ accessFlags := 1, nameIndex := 5, descriptorIndex := 6, attributes := #[] }] 1057 2 #[13] #[{ accessFlags := 26, nameIndex := 15, descriptorIndex := 16, attributes := #[] }])
  fields := #[{ name := "serialVersionUID", type := .long, accessFlags := 26, slot := 0, constantValue := 0 }]
  methods := #[k5m0]
  instanceTypes := #[]
  staticTypes := #[.long]
  resolved := Array.replicate 37 none
  statics := none }

def pool6 : Array CpInfo := pool [(1, .class_ 2), (0, u "java/lang/Comparable"), (0, .class_ 4), (0, u "java/lang/Object")] 7

/-- java/lang/Comparable -/
def k6 : Class := { plain "java/lang/Comparable" (some 0) with
  accessFlags := 1537
  interfaces := #[]
  cf := some (fileOf pool6 1 #[] #[] 1537 3 #[] #[])
  fields := #[]
  methods := #[]
  instanceTypes := #[]
  staticTypes := #[]
  resolved := Array.replicate 12 none
  statics := none }

def pool7 : Array CpInfo := pool [(1, .class_ 2), (0, u "java/lang/constant/Constable"), (0, .class_ 4), (0, u "java/lang/Object")] 6

/-- java/lang/constant/Constable -/
def k7 : Class := { plain "java/lang/constant/Constable" (some 0) with
  accessFlags := 1537
  interfaces := #[]
  cf := some (fileOf pool7 1 #[] #[] 1537 3 #[] #[])
  fields := #[]
  methods := #[]
  instanceTypes := #[]
  staticTypes := #[]
  resolved := Array.replicate 11 none
  statics := none }

def pool8 : Array CpInfo := pool [(1, .class_ 2), (0, u "java/lang/constant/ConstantDesc"), (0, .class_ 4), (0, u "java/lang/Object")] 32

/-- java/lang/constant/ConstantDesc -/
def k8 : Class := { plain "java/lang/constant/ConstantDesc" (some 0) with
  accessFlags := 1537
  interfaces := #[]
  cf := some (fileOf pool8 1 #[] #[] 1537 3 #[] #[])
  fields := #[]
  methods := #[]
  instanceTypes := #[]
  staticTypes := #[]
  resolved := Array.replicate 37 none
  statics := none }

def pool9 : Array CpInfo := pool [(1, .class_ 2), (0, u "java/lang/Integer"), (16, u "digits"), (0, u "[C"), (32, u "numberOfLeadingZeros"), (0, u "(I)I"), (30, u "DigitOnes"), (0, u "[B"), (2, u "DigitTens"), (99, .class_ 190), (0, u "java/lang/Integer$IntegerCache"), (3, u "I"), (8, .class_ 204), (0, u "java/lang/Number"), (2, u "value"), (56, .integer 65536), (37, u "TYPE"), (0, u "Ljava/lang/Class;"), (0, .class_ 305), (0, u "java/lang/Comparable"), (0, .class_ 307), (0, u "java/lang/constant/Constable"), (0, .class_ 309), (0, u "java/lang/constant/ConstantDesc"), (0, u "MIN_VALUE"), (1, u "MAX_VALUE"), (3, u "SIZE"), (1, u "BYTES"), (1, u "serialVersionUID"), (0, u "J")] 131

def k9c0 : Code := { maxStack := 3, maxLocals := 2, code := jdk_33_method_47_code, exceptionTable := #[], attributes := #[] }
def k9m0 : Method := { name := "numberOfLeadingZeros", desc := "(I)I", sig := { parameters := [.int], returnType := some .int }, accessFlags := 9, code := some k9c0 }
/-- java/lang/Integer -/
def k9 : Class := { plain "java/lang/Integer" (some 5) with
  accessFlags := 49
  interfaces := #[6, 7, 8]
  cf := some (fileOf pool9 1 #[.nestMembers #[189]] #[{ accessFlags := 9, nameIndex := 53, descriptorIndex := 54, attributes := #[] }] 49 203 #[304, 306, 308] #[{ accessFlags := 25, nameIndex := 310, descriptorIndex := 194, attributes := #[] }, { accessFlags := 25, nameIndex := 312, descriptorIndex := 194, attributes := #[] }, { accessFlags := 25, nameIndex := 302, descriptorIndex := 303, attributes := #[] }, { accessFlags := 24, nameIndex := 19, descriptorIndex := 20, attributes := #[] }, { accessFlags := 24, nameIndex := 89, descriptorIndex := 86, attributes := #[] }, { accessFlags := 24, nameIndex := 85, descriptorIndex := 86, attributes := #[] }, { accessFlags := 18, nameIndex := 207, descriptorIndex := 194, attributes := #[] }, { accessFlags := 25, nameIndex := 316, descriptorIndex := 194, attributes := #[] }, { accessFlags := 25, nameIndex := 318, descriptorIndex := 194, attributes := #[] }, { accessFlags := 26, nameIndex := 320, descriptorIndex := 321, attributes := #[] }])
  fields := #[{ name := "MIN_VALUE", type := .int, accessFlags := 25, slot := 0, constantValue := 0 }, { name := "MAX_VALUE", type := .int, accessFlags := 25, slot := 1, constantValue := 0 }, { name := "TYPE", type := (.object "java/lang/Class"), accessFlags := 25, slot := 2, constantValue := 0 }, { name := "digits", type := (.array .char), accessFlags := 24, slot := 3, constantValue := 0 }, { name := "DigitTens", type := (.array .byte), accessFlags := 24, slot := 4, constantValue := 0 }, { name := "DigitOnes", type := (.array .byte), accessFlags := 24, slot := 5, constantValue := 0 }, { name := "value", type := .int, accessFlags := 18, slot := 0, constantValue := 0 }, { name := "SIZE", type := .int, accessFlags := 25, slot := 6, constantValue := 0 }, { name := "BYTES", type := .int, accessFlags := 25, slot := 7, constantValue := 0 }, { name := "serialVersionUID", type := .long, accessFlags := 26, slot := 8, constantValue := 0 }]
  methods := #[k9m0]
  instanceTypes := #[.int]
  staticTypes := #[.int, .int, (.object "java/lang/Class"), (.array .char), (.array .byte), (.array .byte), .int, .int, .long]
  resolved := Array.replicate 453 none
  statics := none }

def pool10 : Array CpInfo := pool [(1, .class_ 2), (0, u "java/lang/Math"), (1, .class_ 6), (1, u "java/lang/Object"), (0, u "<init>"), (0, u "()V"), (89, .class_ 100), (1, u "java/lang/Math$RandomNumberGeneratorHolder"), (20, u "(JJ)J"), (50, u "negativeZeroFloatBits"), (0, u "J"), (2, u "negativeZeroDoubleBits"), (21, u "max"), (2, u "min"), (43, u "$assertionsDisabled"), (0, u "Z"), (88, u "(II)I"), (2, u "twoToTheDoubleScaleDown"), (0, u "D"), (4, u "twoToTheDoubleScaleUp"), (9, u "E"), (3, u "PI"), (2, u "TAU"), (2, u "DEGREES_TO_RADIANS"), (0, u "RADIANS_TO_DEGREES"), (39, u "toIntExact"), (0, u "(J)I")] 53

def k10m0 : Method := { name := "<init>", desc := "()V", sig := { parameters := [], returnType := none }, accessFlags := 2, code := none }
def k10c1 : Code := { maxStack := 4, maxLocals := 2, code := jdk_29_method_43_code, exceptionTable := #[], attributes := #[] }
def k10m1 : Method := { name := "toIntExact", desc := "(J)I", sig := { parameters := [.long], returnType := some .int }, accessFlags := 9, code := some k10c1 }
def k10c2 : Code := { maxStack := 2, maxLocals := 2, code := jdk_29_method_65_code, exceptionTable := #[], attributes := #[] }
def k10m2 : Method := { name := "max", desc := "(II)I", sig := { parameters := [.int, .int], returnType := some .int }, accessFlags := 9, code := some k10c2 }
def k10c3 : Code := { maxStack := 4, maxLocals := 4, code := jdk_29_method_66_code, exceptionTable := #[], attributes := #[] }
def k10m3 : Method := { name := "max", desc := "(JJ)J", sig := { parameters := [.long, .long], returnType := some .long }, accessFlags := 9, code := some k10c3 }
def k10c4 : Code := { maxStack := 2, maxLocals := 2, code := jdk_29_method_69_code, exceptionTable := #[], attributes := #[] }
def k10m4 : Method := { name := "min", desc := "(II)I", sig := { parameters := [.int, .int], returnType := some .int }, accessFlags := 9, code := some k10c4 }
/-- java/lang/Math -/
def k10 : Class := { plain "java/lang/Math" (some 0) with
  accessFlags := 49
  interfaces := #[]
  cf := some (fileOf pool10 1 #[.nestMembers #[98]] #[{ accessFlags := 2, nameIndex := 7, descriptorIndex := 8, attributes := #[] }, { accessFlags := 9, nameIndex := 405, descriptorIndex := 406, attributes := #[] }, { accessFlags := 9, nameIndex := 198, descriptorIndex := 335, attributes := #[] }, { accessFlags := 9, nameIndex := 198, descriptorIndex := 121, attributes := #[] }, { accessFlags := 9, nameIndex := 201, descriptorIndex := 335, attributes := #[] }] 49 4 #[] #[{ accessFlags := 25, nameIndex := 354, descriptorIndex := 339, attributes := #[] }, { accessFlags := 25, nameIndex := 358, descriptorIndex := 339, attributes := #[] }, { accessFlags := 25, nameIndex := 361, descriptorIndex := 339, attributes := #[] }, { accessFlags := 26, nameIndex := 364, descriptorIndex := 339, attributes := #[] }, { accessFlags := 26, nameIndex := 365, descriptorIndex := 339, attributes := #[] }, { accessFlags := 26, nameIndex := 172, descriptorIndex := 173, attributes := #[] }, { accessFlags := 26, nameIndex := 176, descriptorIndex := 173, attributes := #[] }, { accessFlags := 8, nameIndex := 344, descriptorIndex := 339, attributes := #[] }, { accessFlags := 8, nameIndex := 338, descriptorIndex := 339, attributes := #[] }, { accessFlags := 4120, nameIndex := 245, descriptorIndex := 246, attributes := #[] }])
  fields := #[{ name := "E", type := .double, accessFlags := 25, slot := 0, constantValue := 0 }, { name := "PI", type := .double, accessFlags := 25, slot := 1, constantValue := 0 }, { name := "TAU", type := .double, accessFlags := 25, slot := 2, constantValue := 0 }, { name := "DEGREES_TO_RADIANS", type := .double, accessFlags := 26, slot := 3, constantValue := 0 }, { name := "RADIANS_TO_DEGREES", type := .double, accessFlags := 26, slot := 4, constantValue := 0 }, { name := "negativeZeroFloatBits", type := .long, accessFlags := 26, slot := 5, constantValue := 0 }, { name := "negativeZeroDoubleBits", type := .long, accessFlags := 26, slot := 6, constantValue := 0 }, { name := "twoToTheDoubleScaleUp", type := .double, accessFlags := 8, slot := 7, constantValue := 0 }, { name := "twoToTheDoubleScaleDown", type := .double, accessFlags := 8, slot := 8, constantValue := 0 }, { name := "$assertionsDisabled", type := .boolean, accessFlags := 4120, slot := 9, constantValue := 0 }]
  methods := #[k10m0, k10m1, k10m2, k10m3, k10m4]
  instanceTypes := #[]
  staticTypes := #[.double, .double, .double, .double, .double, .long, .long, .double, .double, .boolean]
  resolved := Array.replicate 460 none
  statics := none }

def pool11 : Array CpInfo := pool [(2, .class_ 4), (1, u "java/lang/Object"), (0, u "<init>"), (0, u "()V"), (35, .class_ 44), (1, u "java/util/Objects"), (0, u "requireNonNull"), (0, u "(Ljava/lang/Object;)Ljava/lang/Object;")] 137

def k11m0 : Method := { name := "<init>", desc := "()V", sig := { parameters := [], returnType := none }, accessFlags := 2, code := none }
def k11c1 : Code := { maxStack := 2, maxLocals := 1, code := jdk_31_method_10_code, exceptionTable := #[], attributes := #[] }
def k11m1 : Method := { name := "requireNonNull", desc := "(Ljava/lang/Object;)Ljava/lang/Object;", sig := { parameters := [(.object "java/lang/Object")], returnType := some (.object "java/lang/Object") }, accessFlags := 9, code := some k11c1 }
/-- java/util/Objects -/
def k11 : Class := { plain "java/util/Objects" (some 0) with
  accessFlags := 49
  interfaces := #[]
  cf := some (fileOf pool11 42 #[] #[{ accessFlags := 2, nameIndex := 5, descriptorIndex := 6, attributes := #[] }, { accessFlags := 9, nameIndex := 45, descriptorIndex := 46, attributes := #[] }] 49 2 #[] #[])
  fields := #[]
  methods := #[k11m0, k11m1]
  instanceTypes := #[]
  staticTypes := #[]
  resolved := Array.replicate 184 none
  statics := none }

def pool12 : Array CpInfo := pool [(1, .class_ 2), (0, u "com/example/kinwarden/kinwarden/IntMap$EntryConsumer"), (0, .class_ 4), (0, u "java/lang/Object"), (0, u "accept"), (0, u "(II)V"), (3, .class_ 11), (0, u "com/example/kinwarden/kinwarden/IntMap")] 2

def k12m0 : Method := { name := "accept", desc := "(II)V", sig := { parameters := [.int, .int], returnType := none }, accessFlags := 1025, code := none }
/-- com/example/kinwarden/kinwarden/IntMap$EntryConsumer -/
def k12 : Class := { plain "com/example/kinwarden/kinwarden/IntMap$EntryConsumer" (some 0) with
  accessFlags := 1536
  interfaces := #[]
  cf := some (fileOf pool12 1 #[.nestHost 10] #[{ accessFlags := 1025, nameIndex := 5, descriptorIndex := 6, attributes := #[] }] 1536 3 #[] #[])
  fields := #[]
  methods := #[k12m0]
  instanceTypes := #[]
  staticTypes := #[]
  resolved := Array.replicate 14 none
  statics := none }

def pool13 : Array CpInfo := pool [(1, u "java/lang/Cloneable"), (0, .class_ 1), (0, u "java/lang/Object"), (0, .class_ 3)] 3

/-- java/lang/Cloneable -/
def k13 : Class := { plain "java/lang/Cloneable" (some 0) with
  accessFlags := 1537
  interfaces := #[]
  cf := some (fileOf pool13 2 #[] #[] 1537 4 #[] #[])
  fields := #[]
  methods := #[]
  instanceTypes := #[]
  staticTypes := #[]
  resolved := Array.replicate 8 none
  statics := none }

/-- the primitive byte -/
def k14 : Class := { plain "byte" none with kind := .primitive 'B', accessFlags := 0x411 }
/-- [B -/
def k15 : Class := { plain "[B" (some 0) with kind := .array 14 .byte, interfaces := #[13, 4], accessFlags := 1041 }

/-- the primitive int -/
def k16 : Class := { plain "int" none with kind := .primitive 'I', accessFlags := 0x411 }
/-- [I -/
def k17 : Class := { plain "[I" (some 0) with kind := .array 16 .int, interfaces := #[13, 4], accessFlags := 1041 }

def classes0 : Array Class := #[k0, k1, k2, k3, k4, k5, k6, k7, k8, k9, k10, k11, k12, k13, k14, k15, k16, k17]
/-- the class that the rule has made for the site at 95 of com/example/kinwarden/kinwarden/IntMap.moveToRoomFor -/
def k18 : Class := Jvm.LamKit.madeRec { classes := classes0 } "com/example/kinwarden/kinwarden/IntMap" (Jvm.Lambda.Shape.mk "com/example/kinwarden/kinwarden/IntMap$EntryConsumer" "accept" (Jvm.ClassFile.MethodDescriptor.mk ([Jvm.ClassFile.FieldType.int, Jvm.ClassFile.FieldType.int] : List Jvm.ClassFile.FieldType) (Option.none : Option Jvm.ClassFile.FieldType)) ([(Jvm.ClassFile.FieldType.object "com/example/kinwarden/kinwarden/IntMap")] : List Jvm.ClassFile.FieldType) (5 : Nat) "com/example/kinwarden/kinwarden/IntMap" "putInRoom" (Jvm.ClassFile.MethodDescriptor.mk ([Jvm.ClassFile.FieldType.int, Jvm.ClassFile.FieldType.int] : List Jvm.ClassFile.FieldType) (Option.none : Option Jvm.ClassFile.FieldType)) false (Jvm.ClassFile.MethodDescriptor.mk ([Jvm.ClassFile.FieldType.int, Jvm.ClassFile.FieldType.int] : List Jvm.ClassFile.FieldType) (Option.none : Option Jvm.ClassFile.FieldType))) 18

def heap : Heap := #[]
def classes : Array Class := #[k0, k1, k2, k3, k4, k5, k6, k7, k8, k9, k10, k11, k12, k13, k14, k15, k16, k17, k18]
def interned : List (Array UInt16 × Addr) := []
def slotsUsed : Nat := 0
def theMethod : MethodId := ⟨1, 1⟩
def args0 : Array Value := #[.int 3, .int 9, .int 7, .int 1]
def aboutOver (below : List Frame) : State where
  vm := { classes := classes, interned := interned.toArray }
  heap := heap
  slotsUsed := slotsUsed
  threads := #[{ frames := .invoking theMethod args0 :: below }]
def below0 : List Frame := [.native { method := ⟨0, 0⟩, args := #[] }]
def about1 : State := aboutOver below0
def p0 : Program := .bare "" "" ""
def e0 : Env := launch0.env 0 0 0
theorem w_frames : about1.frames = Frame.invoking theMethod args0 :: below0 := rfl
set_option maxRecDepth 65536 in
theorem w_args : argsFit about1.vm theMethod args0 = true := by decide +kernel
set_option maxRecDepth 65536 in
theorem w_heap : heapFits about1 = true := by decide +kernel
set_option maxRecDepth 65536 in
theorem w_runnable : about1.curStatus? = some .runnable := by decide +kernel
set_option maxRecDepth 65536 in
theorem w_alone : about1.alone = true := by decide +kernel
set_option maxRecDepth 65536 in
theorem w_named : about1.methodNamed? x = some theMethod := by decide +kernel
set_option maxRecDepth 65536 in
theorem w_hears : about1.hears theMethod below0 = true := by decide +kernel
set_option maxRecDepth 65536 in
theorem w_ripe : about1.ripe theMethod args0 below0 = true := by decide +kernel
theorem w_running : about1.status = .running := rfl
set_option maxRecDepth 65536 in
theorem w_room : about1.hasRoom e0.platform room_1 = true :=
  launch0.hasRoom_least _ room_1 (by decide +kernel) (by decide +kernel) (by decide +kernel) (by decide +kernel) (by decide +kernel) (by decide +kernel)
theorem allAtoms_all (ts : List Jvm.Cond) (a : Array Jvm.Value) (st : Jvm.State) : (allAtoms ts).before a st = ts.all (fun c => c.before a st) := by
  induction ts with
  | nil => rfl
  | cons c t ih =>
    show (Jvm.Cond.and c (allAtoms t)).before a st = _
    rw [Jvm.Cond.before_and, ih, List.all_cons]
def words1 : List Jvm.Cond := Jvm.Cond.code x code maxLocals ret :: tables_1
/-- a 'code' word, met by the world's own term for the bytes: nothing is compared byte by byte -/
theorem code_word {y : MethodName} {bytes : ByteArray} {mx : Nat} {rt : Option FieldType} {a : Array Value} {s : State} {m : MethodId} {meth : Method} {c : Code} (h1 : s.methodNamed? y = some m) (h2 : s.vm.method? m = some meth) (h3 : meth.code = some c) (h4 : c.code = bytes)
    (h5 : (c.maxLocals == mx && c.exceptionTable.isEmpty && decide (c.maxStack ≤ mostOperands) && decide (meth.sig.returnType = rt) && !meth.locks && decide (parseMethodDescriptor y.desc = some meth.sig)) = true) : (Jvm.Cond.code y bytes mx rt).before a s = true := by
  simp only [Bool.and_eq_true, beq_iff_eq, Bool.not_eq_true', decide_eq_true_eq] at h5
  obtain ⟨⟨⟨⟨⟨g1, g2⟩, g3⟩, g4⟩, g5⟩, g6⟩ := h5
  simp [Cond.before, Cond.holds, Cond.value, h1, h2, h3, h4, g1, g2, g3, g4, g5, g6]
def isCode : Jvm.Cond → Bool
  | .code _ _ _ _ => true
  | _ => false
theorem all_split {L : List Jvm.Cond} {P : Jvm.Cond → Bool} (h1 : L.all (fun c => isCode c || P c) = true) (h2 : ∀ c ∈ L.filter isCode, P c = true) : L.all P = true := by
  refine List.all_eq_true.mpr fun c hc => ?_
  have h := List.all_eq_true.mp h1 c hc
  rcases Bool.eq_false_or_eq_true (isCode c) with hi | hi
  · exact h2 c (List.mem_filter.mpr ⟨hc, hi⟩)
  · simpa [hi] using h
set_option maxRecDepth 65536 in
theorem w_c0 : (Jvm.Cond.code x code maxLocals ret).before args0 about1 = true := code_word (m := ⟨1, 1⟩) (meth := k1m1) (c := k1c1) (by decide +kernel) rfl rfl rfl (by decide +kernel)
set_option maxRecDepth 65536 in
theorem w_c1 : (Jvm.Cond.code ({ cls := "com/example/kinwarden/kinwarden/IntMap", name := "<init>", desc := "()V" } : Jvm.MethodName) prog_53_method_1_code (1 : Nat) (Option.none : Option Jvm.ClassFile.FieldType)).before args0 about1 = true := code_word (m := ⟨2, 0⟩) (meth := k2m0) (c := k2c0) (by decide +kernel) rfl rfl rfl (by decide +kernel)
set_option maxRecDepth 65536 in
theorem w_c2 : (Jvm.Cond.code ({ cls := "com/example/kinwarden/kinwarden/IntMap", name := "emptyRoom", desc := "(I)[I" } : Jvm.MethodName) prog_53_method_17_code (2 : Nat) (Option.some (Jvm.ClassFile.FieldType.array Jvm.ClassFile.FieldType.int))).before args0 about1 = true := code_word (m := ⟨2, 11⟩) (meth := k2m11) (c := k2c11) (by decide +kernel) rfl rfl rfl (by decide +kernel)
set_option maxRecDepth 65536 in
theorem w_c3 : (Jvm.Cond.code ({ cls := "java/util/Arrays", name := "fill", desc := "([II)V" } : Jvm.MethodName) jdk_65_method_103_code (4 : Nat) (Option.none : Option Jvm.ClassFile.FieldType)).before args0 about1 = true := code_word (m := ⟨3, 1⟩) (meth := k3m1) (c := k3c1) (by decide +kernel) rfl rfl rfl (by decide +kernel)
set_option maxRecDepth 65536 in
theorem w_c4 : (Jvm.Cond.code ({ cls := "com/example/kinwarden/kinwarden/IntMap", name := "<init>", desc := "([I[I)V" } : Jvm.MethodName) prog_53_method_2_code (3 : Nat) (Option.none : Option Jvm.ClassFile.FieldType)).before args0 about1 = true := code_word (m := ⟨2, 1⟩) (meth := k2m1) (c := k2c1) (by decide +kernel) rfl rfl rfl (by decide +kernel)
set_option maxRecDepth 65536 in
theorem w_c5 : (Jvm.Cond.code ({ cls := "java/lang/Object", name := "<init>", desc := "()V" } : Jvm.MethodName) object_method_1_code (1 : Nat) (Option.none : Option Jvm.ClassFile.FieldType)).before args0 about1 = true := code_word (m := ⟨0, 0⟩) (meth := k0m0) (c := k0c0) (by decide +kernel) rfl rfl rfl (by decide +kernel)
set_option maxRecDepth 65536 in
theorem w_c6 : (Jvm.Cond.code ({ cls := "com/example/kinwarden/kinwarden/IntMap", name := "bytes", desc := "()J" } : Jvm.MethodName) prog_53_method_4_code (2 : Nat) (Option.some Jvm.ClassFile.FieldType.long)).before args0 about1 = true := code_word (m := ⟨2, 2⟩) (meth := k2m2) (c := k2c2) (by decide +kernel) rfl rfl rfl (by decide +kernel)
set_option maxRecDepth 65536 in
theorem w_c7 : (Jvm.Cond.code ({ cls := "com/example/kinwarden/kinwarden/IntMap", name := "put", desc := "(II)V" } : Jvm.MethodName) prog_53_method_9_code (3 : Nat) (Option.none : Option Jvm.ClassFile.FieldType)).before args0 about1 = true := code_word (m := ⟨2, 3⟩) (meth := k2m3) (c := k2c3) (by decide +kernel) rfl rfl rfl (by decide +kernel)
set_option maxRecDepth 65536 in
theorem w_c8 : (Jvm.Cond.code ({ cls := "com/example/kinwarden/kinwarden/IntMap", name := "makeRoomFor", desc := "(I)V" } : Jvm.MethodName) prog_53_method_10_code (2 : Nat) (Option.none : Option Jvm.ClassFile.FieldType)).before args0 about1 = true := code_word (m := ⟨2, 4⟩) (meth := k2m4) (c := k2c4) (by decide +kernel) rfl rfl rfl (by decide +kernel)
set_option maxRecDepth 65536 in
theorem w_c9 : (Jvm.Cond.code ({ cls := "com/example/kinwarden/kinwarden/IntMap", name := "hasRoomFor", desc := "(I)Z" } : Jvm.MethodName) prog_53_method_11_code (2 : Nat) (Option.some Jvm.ClassFile.FieldType.boolean)).before args0 about1 = true := code_word (m := ⟨2, 5⟩) (meth := k2m5) (c := k2c5) (by decide +kernel) rfl rfl rfl (by decide +kernel)
set_option maxRecDepth 65536 in
theorem w_c10 : (Jvm.Cond.code ({ cls := "com/example/kinwarden/kinwarden/IntMap", name := "slot", desc := "([II)I" } : Jvm.MethodName) prog_53_method_18_code (5 : Nat) (Option.some Jvm.ClassFile.FieldType.int)).before args0 about1 = true := code_word (m := ⟨2, 12⟩) (meth := k2m12) (c := k2c12) (by decide +kernel) rfl rfl rfl (by decide +kernel)
set_option maxRecDepth 65536 in
theorem w_c11 : (Jvm.Cond.code ({ cls := "java/lang/Integer", name := "numberOfLeadingZeros", desc := "(I)I" } : Jvm.MethodName) jdk_33_method_47_code (2 : Nat) (Option.some Jvm.ClassFile.FieldType.int)).before args0 about1 = true := code_word (m := ⟨9, 0⟩) (meth := k9m0) (c := k9c0) (by decide +kernel) rfl rfl rfl (by decide +kernel)
set_option maxRecDepth 65536 in
theorem w_c12 : (Jvm.Cond.code ({ cls := "com/example/kinwarden/kinwarden/IntMap", name := "putInRoom", desc := "(II)V" } : Jvm.MethodName) prog_53_method_12_code (4 : Nat) (Option.none : Option Jvm.ClassFile.FieldType)).before args0 about1 = true := code_word (m := ⟨2, 6⟩) (meth := k2m6) (c := k2c6) (by decide +kernel) rfl rfl rfl (by decide +kernel)
set_option maxRecDepth 65536 in
theorem w_c13 : (Jvm.Cond.code ({ cls := "java/lang/Math", name := "max", desc := "(II)I" } : Jvm.MethodName) jdk_29_method_65_code (2 : Nat) (Option.some Jvm.ClassFile.FieldType.int)).before args0 about1 = true := code_word (m := ⟨10, 2⟩) (meth := k10m2) (c := k10c2) (by decide +kernel) rfl rfl rfl (by decide +kernel)
set_option maxRecDepth 65536 in
theorem w_c14 : (Jvm.Cond.code ({ cls := "java/lang/Math", name := "min", desc := "(II)I" } : Jvm.MethodName) jdk_29_method_69_code (2 : Nat) (Option.some Jvm.ClassFile.FieldType.int)).before args0 about1 = true := code_word (m := ⟨10, 4⟩) (meth := k10m4) (c := k10c4) (by decide +kernel) rfl rfl rfl (by decide +kernel)
set_option maxRecDepth 65536 in
theorem w_c15 : (Jvm.Cond.code ({ cls := "com/example/kinwarden/kinwarden/IntMap", name := "moveToRoomFor", desc := "(II)V" } : Jvm.MethodName) prog_53_method_13_code (8 : Nat) (Option.none : Option Jvm.ClassFile.FieldType)).before args0 about1 = true := code_word (m := ⟨2, 7⟩) (meth := k2m7) (c := k2c7) (by decide +kernel) rfl rfl rfl (by decide +kernel)
set_option maxRecDepth 65536 in
theorem w_c16 : (Jvm.Cond.code ({ cls := "com/example/kinwarden/kinwarden/IntMap", name := "slotsFor", desc := "(J)J" } : Jvm.MethodName) prog_53_method_14_code (4 : Nat) (Option.some Jvm.ClassFile.FieldType.long)).before args0 about1 = true := code_word (m := ⟨2, 8⟩) (meth := k2m8) (c := k2c8) (by decide +kernel) rfl rfl rfl (by decide +kernel)
set_option maxRecDepth 65536 in
theorem w_c17 : (Jvm.Cond.code ({ cls := "java/lang/Math", name := "max", desc := "(JJ)J" } : Jvm.MethodName) jdk_29_method_66_code (4 : Nat) (Option.some Jvm.ClassFile.FieldType.long)).before args0 about1 = true := code_word (m := ⟨10, 3⟩) (meth := k10m3) (c := k10c3) (by decide +kernel) rfl rfl rfl (by decide +kernel)
set_option maxRecDepth 65536 in
theorem w_c18 : (Jvm.Cond.code ({ cls := "java/lang/Math", name := "toIntExact", desc := "(J)I" } : Jvm.MethodName) jdk_29_method_43_code (2 : Nat) (Option.some Jvm.ClassFile.FieldType.int)).before args0 about1 = true := code_word (m := ⟨10, 1⟩) (meth := k10m1) (c := k10c1) (by decide +kernel) rfl rfl rfl (by decide +kernel)
set_option maxRecDepth 65536 in
theorem w_c19 : (Jvm.Cond.code ({ cls := "java/util/Objects", name := "requireNonNull", desc := "(Ljava/lang/Object;)Ljava/lang/Object;" } : Jvm.MethodName) jdk_31_method_10_code (1 : Nat) (Option.some (Jvm.ClassFile.FieldType.object "java/lang/Object"))).before args0 about1 = true := code_word (m := ⟨11, 1⟩) (meth := k11m1) (c := k11c1) (by decide +kernel) rfl rfl rfl (by decide +kernel)
set_option maxRecDepth 65536 in
theorem w_c20 : (Jvm.Cond.code ({ cls := "com/example/kinwarden/kinwarden/IntMap", name := "forEach", desc := "(Lcom/example/kinwarden/kinwarden/IntMap$EntryConsumer;)V" } : Jvm.MethodName) prog_53_method_15_code (2 : Nat) (Option.none : Option Jvm.ClassFile.FieldType)).before args0 about1 = true := code_word (m := ⟨2, 9⟩) (meth := k2m9) (c := k2c9) (by decide +kernel) rfl rfl rfl (by decide +kernel)
set_option maxRecDepth 65536 in
theorem w_c21 : (Jvm.Cond.code ({ cls := "com/example/kinwarden/kinwarden/IntMap", name := "forEach", desc := "([I[ILcom/example/kinwarden/kinwarden/IntMap$EntryConsumer;)V" } : Jvm.MethodName) prog_53_method_16_code (4 : Nat) (Option.none : Option Jvm.ClassFile.FieldType)).before args0 about1 = true := code_word (m := ⟨2, 10⟩) (meth := k2m10) (c := k2c10) (by decide +kernel) rfl rfl rfl (by decide +kernel)
def codes1 : List Jvm.Cond := [Jvm.Cond.code x code maxLocals ret, Jvm.Cond.code ({ cls := "com/example/kinwarden/kinwarden/IntMap", name := "<init>", desc := "()V" } : Jvm.MethodName) prog_53_method_1_code (1 : Nat) (Option.none : Option Jvm.ClassFile.FieldType), Jvm.Cond.code ({ cls := "com/example/kinwarden/kinwarden/IntMap", name := "emptyRoom", desc := "(I)[I" } : Jvm.MethodName) prog_53_method_17_code (2 : Nat) (Option.some (Jvm.ClassFile.FieldType.array Jvm.ClassFile.FieldType.int)), Jvm.Cond.code ({ cls := "java/util/Arrays", name := "fill", desc := "([II)V" } : Jvm.MethodName) jdk_65_method_103_code (4 : Nat) (Option.none : Option Jvm.ClassFile.FieldType), Jvm.Cond.code ({ cls := "com/example/kinwarden/kinwarden/IntMap", name := "<init>", desc := "([I[I)V" } : Jvm.MethodName) prog_53_method_2_code (3 : Nat) (Option.none : Option Jvm.ClassFile.FieldType), Jvm.Cond.code ({ cls := "java/lang/Object", name := "<init>", desc := "()V" } : Jvm.MethodName) object_method_1_code (1 : Nat) (Option.none : Option Jvm.ClassFile.FieldType), Jvm.Cond.code ({ cls := "com/example/kinwarden/kinwarden/IntMap", name := "bytes", desc := "()J" } : Jvm.MethodName) prog_53_method_4_code (2 : Nat) (Option.some Jvm.ClassFile.FieldType.long), Jvm.Cond.code ({ cls := "com/example/kinwarden/kinwarden/IntMap", name := "put", desc := "(II)V" } : Jvm.MethodName) prog_53_method_9_code (3 : Nat) (Option.none : Option Jvm.ClassFile.FieldType), Jvm.Cond.code ({ cls := "com/example/kinwarden/kinwarden/IntMap", name := "makeRoomFor", desc := "(I)V" } : Jvm.MethodName) prog_53_method_10_code (2 : Nat) (Option.none : Option Jvm.ClassFile.FieldType), Jvm.Cond.code ({ cls := "com/example/kinwarden/kinwarden/IntMap", name := "hasRoomFor", desc := "(I)Z" } : Jvm.MethodName) prog_53_method_11_code (2 : Nat) (Option.some Jvm.ClassFile.FieldType.boolean), Jvm.Cond.code ({ cls := "com/example/kinwarden/kinwarden/IntMap", name := "slot", desc := "([II)I" } : Jvm.MethodName) prog_53_method_18_code (5 : Nat) (Option.some Jvm.ClassFile.FieldType.int), Jvm.Cond.code ({ cls := "java/lang/Integer", name := "numberOfLeadingZeros", desc := "(I)I" } : Jvm.MethodName) jdk_33_method_47_code (2 : Nat) (Option.some Jvm.ClassFile.FieldType.int), Jvm.Cond.code ({ cls := "com/example/kinwarden/kinwarden/IntMap", name := "putInRoom", desc := "(II)V" } : Jvm.MethodName) prog_53_method_12_code (4 : Nat) (Option.none : Option Jvm.ClassFile.FieldType), Jvm.Cond.code ({ cls := "java/lang/Math", name := "max", desc := "(II)I" } : Jvm.MethodName) jdk_29_method_65_code (2 : Nat) (Option.some Jvm.ClassFile.FieldType.int), Jvm.Cond.code ({ cls := "java/lang/Math", name := "min", desc := "(II)I" } : Jvm.MethodName) jdk_29_method_69_code (2 : Nat) (Option.some Jvm.ClassFile.FieldType.int), Jvm.Cond.code ({ cls := "com/example/kinwarden/kinwarden/IntMap", name := "moveToRoomFor", desc := "(II)V" } : Jvm.MethodName) prog_53_method_13_code (8 : Nat) (Option.none : Option Jvm.ClassFile.FieldType), Jvm.Cond.code ({ cls := "com/example/kinwarden/kinwarden/IntMap", name := "slotsFor", desc := "(J)J" } : Jvm.MethodName) prog_53_method_14_code (4 : Nat) (Option.some Jvm.ClassFile.FieldType.long), Jvm.Cond.code ({ cls := "java/lang/Math", name := "max", desc := "(JJ)J" } : Jvm.MethodName) jdk_29_method_66_code (4 : Nat) (Option.some Jvm.ClassFile.FieldType.long), Jvm.Cond.code ({ cls := "java/lang/Math", name := "toIntExact", desc := "(J)I" } : Jvm.MethodName) jdk_29_method_43_code (2 : Nat) (Option.some Jvm.ClassFile.FieldType.int), Jvm.Cond.code ({ cls := "java/util/Objects", name := "requireNonNull", desc := "(Ljava/lang/Object;)Ljava/lang/Object;" } : Jvm.MethodName) jdk_31_method_10_code (1 : Nat) (Option.some (Jvm.ClassFile.FieldType.object "java/lang/Object")), Jvm.Cond.code ({ cls := "com/example/kinwarden/kinwarden/IntMap", name := "forEach", desc := "(Lcom/example/kinwarden/kinwarden/IntMap$EntryConsumer;)V" } : Jvm.MethodName) prog_53_method_15_code (2 : Nat) (Option.none : Option Jvm.ClassFile.FieldType), Jvm.Cond.code ({ cls := "com/example/kinwarden/kinwarden/IntMap", name := "forEach", desc := "([I[ILcom/example/kinwarden/kinwarden/IntMap$EntryConsumer;)V" } : Jvm.MethodName) prog_53_method_16_code (4 : Nat) (Option.none : Option Jvm.ClassFile.FieldType)]
set_option maxRecDepth 65536 in
theorem codes_eq : words1.filter isCode = codes1 := rfl
theorem w_codes : ∀ c ∈ words1.filter isCode, c.before args0 about1 = true := by
  rw [codes_eq]
  intro c hc
  simp only [codes1, List.mem_cons, List.not_mem_nil, or_false] at hc
  rcases hc with rfl | rfl | rfl | rfl | rfl | rfl | rfl | rfl | rfl | rfl | rfl | rfl | rfl | rfl | rfl | rfl | rfl | rfl | rfl | rfl | rfl | rfl
  · exact w_c0
  · exact w_c1
  · exact w_c2
  · exact w_c3
  · exact w_c4
  · exact w_c5
  · exact w_c6
  · exact w_c7
  · exact w_c8
  · exact w_c9
  · exact w_c10
  · exact w_c11
  · exact w_c12
  · exact w_c13
  · exact w_c14
  · exact w_c15
  · exact w_c16
  · exact w_c17
  · exact w_c18
  · exact w_c19
  · exact w_c20
  · exact w_c21
set_option maxRecDepth 65536 in
theorem w_t1 : (words1.take 24).all (fun c => isCode c || c.before args0 about1) = true := by decide +kernel
set_option maxRecDepth 65536 in
theorem w_t2 : ((words1.drop 24).take 24).all (fun c => isCode c || c.before args0 about1) = true := by decide +kernel
set_option maxRecDepth 65536 in
theorem w_t3 : (((words1.drop 24).drop 24).take 24).all (fun c => isCode c || c.before args0 about1) = true := by decide +kernel
set_option maxRecDepth 65536 in
theorem w_t4 : ((((words1.drop 24).drop 24).drop 24).take 24).all (fun c => isCode c || c.before args0 about1) = true := by decide +kernel
set_option maxRecDepth 65536 in
theorem w_t5 : ((((words1.drop 24).drop 24).drop 24).drop 24).all (fun c => isCode c || c.before args0 about1) = true := by decide +kernel
theorem w_tables : (allAtoms (Jvm.Cond.code x code maxLocals ret :: tables_1)).before args0 about1 = true := by
  rw [allAtoms_all]
  show words1.all (fun c => c.before args0 about1) = true
  refine all_split ?_ w_codes
  rw [← List.take_append_drop 24 words1, List.all_append, w_t1, ← List.take_append_drop 24 (words1.drop 24), List.all_append, w_t2, ← List.take_append_drop 24 ((words1.drop 24).drop 24), List.all_append, w_t3, ← List.take_append_drop 24 (((words1.drop 24).drop 24).drop 24), List.all_append, w_t4, w_t5]
  rfl
set_option maxRecDepth 65536 in
theorem w_case : (Jvm.Cond.and given_1 narrow_1).before args0 about1 = true := by decide +kernel
theorem w_applies : (headSpec (Jvm.Cond.code x code maxLocals ret :: tables_1) room_1).applies x e0.platform about1 = true :=
  (Spec.applies_iff w_frames).mpr ⟨w_running, w_runnable, w_alone, w_named, w_hears, w_ripe, w_room, w_tables⟩
theorem atStart : AtStart classFile x code maxLocals ret World_1 tables_1 room_1 Calls_1 rest_1 Pre_1 launch0 p0 e0 about1 theMethod args0 below0 :=
  ⟨lists_1, trivial, launch0.admits_env _ _ _, launch0.least_env, fairChoices_fair.cas, fairChoices_fair.clock, w_frames, w_args, w_heap, w_applies, trivial, trivial, w_case⟩
end start1
theorem witness_1 : WitnessClaimed_1 := ⟨start1.p0, start1.e0, start1.about1, start1.theMethod, start1.args0, start1.below0, start1.atStart⟩
end Jvm.Pilot.@@N@@
