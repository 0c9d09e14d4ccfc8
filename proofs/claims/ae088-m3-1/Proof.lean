import JvmDerived
import JvmDerived.Pilot.@@N@@Statement
import JvmDerived.Pilot.@@N@@Code
set_option linter.unusedVariables false
set_option linter.unusedSimpArgs false
namespace Jvm.RoadKit
open Sem ClassFile Op Lib Jvm.Stand Jvm.Free Jvm.LawKit
section New
variable {p : Program} {l : Launch} {e : Env} {R : Room} {s : State} {m : MethodId} {args : Array Value} {below : List Frame} {meth : Method} {c : Code} {T : State} {locs : List Loc} {cells slots : Nat}
theorem retI (X : Stand p l e R s m args below meth c T locs cells slots) (hx : p.tables.exec = Jvm.exec) {pc : Nat} {Ls : Array Slot} {z : Int32} {rest : List Value} (hret : meth.sig.returnType = some .int) (hd : decode c.code pc = .ok (.ireturn, 1)) {fs : List Frame}
    (hl : ∀ (f : JFrame) (acts : List Action), f.method = m → f.locked = none → f.entered = [] → (doReturn e (T.setTop f) acts (some (.int z))).1 = T.setFrames fs) : Steps p.tables e below (T.setTop (mkF m pc Ls (.int z :: rest))) (T.setFrames fs) :=
  retOut X hx hret rfl (Or.inl ⟨rfl, Or.inl rfl, _, rfl⟩) hd hl
theorem own_retJ (X : Stand p l e R s m args below meth c T locs cells slots) (hx : p.tables.exec = Jvm.exec) {pc : Nat} {Ls : Array Slot} {z : Int64} {rest : List Value} (hret : meth.sig.returnType = some .long) (hd : decode c.code pc = .ok (.lreturn, 1)) {fs : List Frame}
    (hl : ∀ (f : JFrame) (acts : List Action), f.method = m → f.locked = none → f.entered = [] → (doReturn e (T.setTop f) acts (some (.long z))).1 = T.setFrames fs) : Steps p.tables e below (T.setTop (mkF m pc Ls (.long z :: rest))) (T.setFrames fs) :=
  retOut X hx hret rfl (Or.inr (Or.inl ⟨rfl, rfl, _, rfl⟩)) hd hl
theorem own_retD (X : Stand p l e R s m args below meth c T locs cells slots) (hx : p.tables.exec = Jvm.exec) {pc : Nat} {Ls : Array Slot} {z : UInt64} {rest : List Value} (hret : meth.sig.returnType = some .double) (hd : decode c.code pc = .ok (.dreturn, 1)) {fs : List Frame}
    (hl : ∀ (f : JFrame) (acts : List Action), f.method = m → f.locked = none → f.entered = [] → (doReturn e (T.setTop f) acts (some (.double z))).1 = T.setFrames fs) : Steps p.tables e below (T.setTop (mkF m pc Ls (.double z :: rest))) (T.setFrames fs) :=
  retOut X hx hret rfl (Or.inr (Or.inr (Or.inl ⟨rfl, rfl, _, rfl⟩))) hd hl
theorem own_retR (X : Stand p l e R s m args below meth c T locs cells slots) (hx : p.tables.exec = Jvm.exec) {pc : Nat} {Ls : Array Slot} {w : Value} {t : FieldType} {rest : List Value} (hret : meth.sig.returnType = some t) (ht : t.isReference = true) (hv : w.isRef = true) (hd : decode c.code pc = .ok (.areturn, 1)) {fs : List Frame}
    (hl : ∀ (f : JFrame) (acts : List Action), f.method = m → f.locked = none → f.entered = [] → (doReturn e (T.setTop f) acts (some w)).1 = T.setFrames fs) : Steps p.tables e below (T.setTop (mkF m pc Ls (w :: rest))) (T.setFrames fs) :=
  retOut X hx hret (by rcases ref_cases hv with rfl | ⟨a, rfl⟩ <;> cases t <;> first | rfl | cases ht) (Or.inr (Or.inr (Or.inr (Or.inr ⟨rfl, ht, hv⟩)))) hd hl
end New
section Own
variable {p : Program} {e : Env} {below : List Frame}
/-- the run from S ends as P says -/
def own_Gl (p : Program) (e : Env) (below : List Frame) (P : Outcome → State → Prop) (S : State) : Prop := ∃ s₂ o, Steps p.tables e below S s₂ ∧ s₂.status = .running ∧ Ended s₂ below o ∧ P o s₂
theorem own_gl {P : Outcome → State → Prop} {S : State} (h : own_Gl p e below P S) : ∃ s₂ o, Steps p.tables e below S s₂ ∧ s₂.status = .running ∧ Ended s₂ below o ∧ P o s₂ := h
theorem own_st {P : Outcome → State → Prop} {S S' : State} (h : ∀ t, Steps p.tables e below S' t → Steps p.tables e below S t) (k : own_Gl p e below P S') : own_Gl p e below P S := by
  obtain ⟨s₂, o, h1, h2⟩ := k
  exact ⟨s₂, o, h _ h1, h2⟩
theorem own_cast {P : Outcome → State → Prop} {S S' : State} (h : S' = S) (k : own_Gl p e below P S') : own_Gl p e below P S := h ▸ k
theorem own_join {P : Outcome → State → Prop} {S : State} {α : Type} {F : α → State} {H : α → Prop} (J : ∀ x, H x → own_Gl p e below P (F x)) (k : (∀ x, H x → own_Gl p e below P (F x)) → own_Gl p e below P S) : own_Gl p e below P S := k J
theorem own_selfsel {s : State} {args : Array Value} {y : MethodName} {n : Nat} (wi : (Cond.instantiable y.cls n).before args s = true) (wp : (Cond.privateMethod y).before args s = true) (hinst : (Cond.instanceMethod y).before args s = true) (hy : y.cls ≠ "java/lang/invoke/MethodHandle" ∧ y.cls ≠ "java/lang/invoke/VarHandle") : (Cond.selects y.cls y y).before args s = true := by
  obtain ⟨c, k, h1, h2, -, h3, -⟩ := Cond.instantiable_spec wi
  exact selects_self_of_private h1 h2 (by simp only [Bool.or_eq_false_iff] at h3; exact h3.1) (Cond.privateMethod_at wp) hinst hy
/-- a place of an array is written, whatever it holds -/
theorem own_arv_any {Z : State} {h h' : Heap} {a : Addr} {c : Cell} {k : ClassId} {ty : FieldType} {z j : Int32} {vs : List Value} {dv v : Value} (A : Arr Z h a c ty) (q1 : c.cls = k) (S : c.slots.size = z.toNatClampNeg) (q3 : ¬ z < 0) (H : Has c vs dv) (G : ∀ i, i < c.slots.size → fits ty (vs.getD i dv) = true) (hv : fits ty v = true) (W : Wr h h' a j.toNatClampNeg v) (hj : ¬ (j < 0 ∨ c.slots.size ≤ j.toNatClampNeg)) : ∃ vs', Arv Z h' a k ty z vs' dv := by
  have F : Arv Z h a k ty z (vs ++ List.replicate z.toNatClampNeg dv) dv := Arv.pad ⟨c, A, q1, S, q3, H, G⟩ (pad_rep vs dv _)
  obtain ⟨c', A', r1, r2, r3, r4, r5⟩ := F
  cases A.1.symm.trans A'.1
  exact ⟨_, Arv.set A' r1 r2 r3 r4 r5 hv W j.toNatClampNeg rfl (by
    have q := Nat.lt_of_not_le fun y => hj (Or.inr y)
    rw [S] at q
    simp only [List.length_append, List.length_replicate]
    omega)⟩
end Own
end Jvm.RoadKit

namespace Jvm.Pilot.@@N@@
open Jvm Jvm.ClassFile Sem Op Lib Jvm.Free Jvm.Stand Jvm.LawKit Jvm.RoadKit Bundle Jvm.Pilot.@@N@@.Jvm.D

/-- what Integer.numberOfLeadingZeros computes, stage by stage -/
def own_n4 (n x : Int32) : Int32 := n - ((x.toUInt32 >>> ((1 : Int32) &&& 31).toUInt32).toInt32)
def own_n3 (n x : Int32) : Int32 := if x < 4 then own_n4 n x else own_n4 (n + (-2 : Int32)) ((x.toUInt32 >>> ((2 : Int32) &&& 31).toUInt32).toInt32)
def own_n2 (n x : Int32) : Int32 := if x < 16 then own_n3 n x else own_n3 (n + (-4 : Int32)) ((x.toUInt32 >>> ((4 : Int32) &&& 31).toUInt32).toInt32)
def own_n1 (n x : Int32) : Int32 := if x < 256 then own_n2 n x else own_n2 (n + (-8 : Int32)) ((x.toUInt32 >>> ((8 : Int32) &&& 31).toUInt32).toInt32)
def own_nlz (x : Int32) : Int32 := if 0 < x then (if x < 65536 then own_n1 31 x else own_n1 (31 + (-16 : Int32)) ((x.toUInt32 >>> ((16 : Int32) &&& 31).toUInt32).toInt32)) else if x = 0 then 32 else 0
def own_hi (q : Int64) : Int32 := ((q.toUInt64 >>> ((32 : Int32) &&& 0x3f).toInt64.toUInt64).toInt64).toInt32
def own_nlz64 (q : Int64) : Int32 := if own_hi q = 0 then 32 + own_nlz q.toInt32 else own_nlz (own_hi q)
def own_child (x : Int64) (f : Int32) : Int64 := (x <<< ((1 : Int32) &&& 0x3f).toInt64) ||| (if f = 0 then 0 else 1)
def own_up (x : Int64) (f : Int32) : Int64 := (x.toUInt64 >>> (f &&& 0x3f).toInt64.toUInt64).toInt64
def own_er (x : Int64) : Int32 := if (x &&& 1) = 1 then 1 else 0
/-- y's highest bit is the k-th -/
def own_top (y : Int) (k : Nat) : Prop := (2 ^ k : Nat) ≤ y ∧ y < (2 ^ (k + 1) : Nat)
theorem own_us (x : Int32) (q : Int32) (k : Nat) (hq : q.toBitVec.toNat % 32 = k) (h0 : 0 < k) (hx : 0 ≤ x.toInt) : ((x.toUInt32 >>> (q &&& 31).toUInt32).toInt32).toInt = x.toInt / (2 ^ k : Nat) := by
  rw [c_iushr x q k hq h0, Int.emod_eq_of_lt hx (by have := (rng32 x).2; omega)]
theorem own_sub (n : Int32) (d : Int32) (hn : 0 ≤ n.toInt ∧ n.toInt ≤ 31) (hd : 0 ≤ d.toInt ∧ d.toInt ≤ 31) : (n - d).toInt = n.toInt - d.toInt := by
  have h := c_isub n d
  have r := rng32 (n - d)
  omega
theorem own_addm (n m : Int32) (hn : 0 ≤ n.toInt ∧ n.toInt ≤ 31) (hm : -16 ≤ m.toInt ∧ m.toInt ≤ 0) : (n + m).toInt = n.toInt + m.toInt := by
  have h := c_iadd n m
  have r := rng32 (n + m)
  omega
theorem own_s4 (n x : Int32) (hn : 1 ≤ n.toInt ∧ n.toInt ≤ 31) (h1 : 1 ≤ x.toInt) (h2 : x.toInt < 4) : ∃ k : Nat, k ≤ 1 ∧ own_top x.toInt k ∧ (own_n4 n x).toInt = n.toInt - k := by
  have u := own_us x 1 1 (by decide) (by decide) (by omega)
  have s := own_sub n ((x.toUInt32 >>> ((1 : Int32) &&& 31).toUInt32).toInt32) (by omega) (by rw [u]; omega)
  have e : own_n4 n x = n - ((x.toUInt32 >>> ((1 : Int32) &&& 31).toUInt32).toInt32) := rfl
  rw [e, s, u]
  by_cases h : x.toInt < 2
  · exact ⟨0, by omega, ⟨by omega, by omega⟩, by omega⟩
  · exact ⟨1, by omega, ⟨by omega, by omega⟩, by omega⟩
theorem own_pow {a b : Nat} (h : (2 ^ a : Nat) < 2 ^ b) : a < b := (Nat.pow_lt_pow_iff_right (by decide)).mp h
theorem own_topmul {y : Int} {k j : Nat} (h : own_top (y / (2 ^ j : Nat)) k) : own_top y (k + j) := by
  obtain ⟨h1, h2⟩ := h
  have hp : (0 : Int) < (2 ^ j : Nat) := by have := Nat.two_pow_pos j; omega
  constructor
  · rw [Nat.pow_add, Int.natCast_mul]
    exact (Int.le_ediv_iff_mul_le hp).mp h1
  · have := (Int.ediv_lt_iff_lt_mul hp).mp h2
    rw [show k + j + 1 = (k + 1) + j by omega, Nat.pow_add, Int.natCast_mul]
    exact this
theorem own_lt {x : Int32} {c : Int32} {C : Int} (hc : c.toInt = C) : x < c ↔ x.toInt < C := by rw [Int32.lt_iff_toInt_lt, hc]
theorem own_s3 (n x : Int32) (hn : 3 ≤ n.toInt ∧ n.toInt ≤ 31) (h1 : 1 ≤ x.toInt) (h2 : x.toInt < 16) : ∃ k : Nat, k ≤ 3 ∧ own_top x.toInt k ∧ (own_n3 n x).toInt = n.toInt - k := by
  unfold own_n3
  split
  · rename_i h
    obtain ⟨k, a, b, c⟩ := own_s4 n x (by omega) h1 ((own_lt (C := 4) (by decide)).mp h)
    exact ⟨k, by omega, b, c⟩
  · rename_i h
    rw [own_lt (C := 4) (by decide)] at h
    have u := own_us x 2 2 (by decide) (by decide) (by omega)
    have m := own_addm n (-2) (by omega) (by decide)
    have e : (-2 : Int32).toInt = -2 := by decide
    obtain ⟨k, a, b, c⟩ := own_s4 (n + (-2 : Int32)) _ (by omega) (by rw [u]; omega) (by rw [u]; omega)
    rw [u] at b
    exact ⟨k + 2, by omega, own_topmul b, by rw [c]; omega⟩
theorem own_s2 (n x : Int32) (hn : 7 ≤ n.toInt ∧ n.toInt ≤ 31) (h1 : 1 ≤ x.toInt) (h2 : x.toInt < 256) : ∃ k : Nat, k ≤ 7 ∧ own_top x.toInt k ∧ (own_n2 n x).toInt = n.toInt - k := by
  unfold own_n2
  split
  · rename_i h
    obtain ⟨k, a, b, c⟩ := own_s3 n x (by omega) h1 ((own_lt (C := 16) (by decide)).mp h)
    exact ⟨k, by omega, b, c⟩
  · rename_i h
    rw [own_lt (C := 16) (by decide)] at h
    have u := own_us x 4 4 (by decide) (by decide) (by omega)
    have m := own_addm n (-4) (by omega) (by decide)
    have e : (-4 : Int32).toInt = -4 := by decide
    obtain ⟨k, a, b, c⟩ := own_s3 (n + (-4 : Int32)) _ (by omega) (by rw [u]; omega) (by rw [u]; omega)
    rw [u] at b
    exact ⟨k + 4, by omega, own_topmul b, by rw [c]; omega⟩
theorem own_s1 (n x : Int32) (hn : 15 ≤ n.toInt ∧ n.toInt ≤ 31) (h1 : 1 ≤ x.toInt) (h2 : x.toInt < 65536) : ∃ k : Nat, k ≤ 15 ∧ own_top x.toInt k ∧ (own_n1 n x).toInt = n.toInt - k := by
  unfold own_n1
  split
  · rename_i h
    obtain ⟨k, a, b, c⟩ := own_s2 n x (by omega) h1 ((own_lt (C := 256) (by decide)).mp h)
    exact ⟨k, by omega, b, c⟩
  · rename_i h
    rw [own_lt (C := 256) (by decide)] at h
    have u := own_us x 8 8 (by decide) (by decide) (by omega)
    have m := own_addm n (-8) (by omega) (by decide)
    have e : (-8 : Int32).toInt = -8 := by decide
    obtain ⟨k, a, b, c⟩ := own_s2 (n + (-8 : Int32)) _ (by omega) (by rw [u]; omega) (by rw [u]; omega)
    rw [u] at b
    exact ⟨k + 8, by omega, own_topmul b, by rw [c]; omega⟩
theorem own_s0 (x : Int32) (h1 : 1 ≤ x.toInt) : ∃ k : Nat, k ≤ 30 ∧ own_top x.toInt k ∧ (own_nlz x).toInt = 31 - k := by
  have r := rng32 x
  have e31 : (31 : Int32).toInt = 31 := by decide
  have e15 : (31 + (-16 : Int32)).toInt = 15 := by decide
  unfold own_nlz
  rw [if_pos (by rw [Int32.lt_iff_toInt_lt]; have : (0 : Int32).toInt = 0 := by decide
                 omega)]
  split
  · rename_i h
    obtain ⟨k, a, b, c⟩ := own_s1 31 x (by omega) h1 ((own_lt (C := 65536) (by decide)).mp h)
    exact ⟨k, by omega, b, by omega⟩
  · rename_i h
    rw [own_lt (C := 65536) (by decide)] at h
    have u := own_us x 16 16 (by decide) (by decide) (by omega)
    obtain ⟨k, a, b, c⟩ := own_s1 (31 + (-16 : Int32)) _ (by omega) (by rw [u]; omega) (by rw [u]; omega)
    rw [u] at b
    have tt := own_topmul b
    have lt : (2 ^ (k + 16) : Nat) < 2 ^ 31 := by have := tt.1; omega
    have := own_pow lt
    exact ⟨k + 16, by omega, tt, by rw [c]; omega⟩
theorem own_s64 (q : Int64) (h1 : 1 ≤ q.toInt) : ∃ k : Nat, k ≤ 62 ∧ own_top q.toInt k ∧ (own_nlz64 q).toInt = 63 - k := by
  have r := rng64 q
  have u := c_lushr q 32 32 (by decide) (by decide)
  rw [Int.emod_eq_of_lt (by omega) (by omega)] at u
  have w : (own_hi q).toInt = q.toInt / (2 ^ 32 : Nat) := by
    have a := c_l2i (((q.toUInt64 >>> ((32 : Int32) &&& 0x3f).toInt64.toUInt64).toInt64))
    have b := rng32 (own_hi q)
    have e : own_hi q = ((q.toUInt64 >>> ((32 : Int32) &&& 0x3f).toInt64.toUInt64).toInt64).toInt32 := rfl
    rw [← e, u] at a
    omega
  have z : (0 : Int32).toInt = 0 := by decide
  have z2 : (32 : Int32).toInt = 32 := by decide
  unfold own_nlz64
  split
  · rename_i h
    rw [← Int32.toInt_inj, w, z] at h
    have a := c_l2i q
    have b := rng32 q.toInt32
    have c := c_iadd 32 (own_nlz q.toInt32)
    have d := rng32 (32 + own_nlz q.toInt32)
    by_cases hb : q.toInt < 2147483648
    · obtain ⟨k, k1, k2, k3⟩ := own_s0 q.toInt32 (by omega)
      refine ⟨k, by omega, ?_, by omega⟩
      rw [show q.toInt = q.toInt32.toInt by omega]
      exact k2
    · refine ⟨31, by omega, ⟨by omega, by omega⟩, ?_⟩
      have n0 : own_nlz q.toInt32 = 0 := by
        unfold own_nlz
        rw [if_neg (by rw [Int32.lt_iff_toInt_lt, z]; omega), if_neg (by rw [← Int32.toInt_inj, z]; omega)]
      rw [n0] at c d ⊢
      omega
  · rename_i h
    rw [← Int32.toInt_inj, w, z] at h
    obtain ⟨k, k1, k2, k3⟩ := own_s0 (own_hi q) (by rw [w]; omega)
    rw [w] at k2
    exact ⟨k + 32, by omega, own_topmul k2, by omega⟩
theorem own_depth {p d : Int64} (hp : 1 ≤ p.toInt) (hd : 2 * p.toInt ≤ d.toInt ∧ d.toInt ≤ 2 * p.toInt + 1) : (63 : Int32) - own_nlz64 d = (63 : Int32) - own_nlz64 p + 1 := by
  obtain ⟨k, k1, ⟨k2, k2'⟩, k3⟩ := own_s64 p hp
  obtain ⟨j, j1, ⟨j2, j2'⟩, j3⟩ := own_s64 d (by omega)
  have e1 : (2 ^ (k + 1) : Nat) < 2 ^ (j + 1) := by
    have : (2 ^ (k + 1) : Nat) = 2 * 2 ^ k := by rw [Nat.pow_succ]; omega
    omega
  have e2 : (2 ^ j : Nat) < 2 ^ (k + 2) := by
    have : (2 ^ (k + 2) : Nat) = 2 * 2 ^ (k + 1) := by rw [Nat.pow_succ]; omega
    omega
  have f1 := own_pow e1
  have f2 := own_pow e2
  have a1 := c_isub 63 (own_nlz64 d)
  have a2 := c_isub 63 (own_nlz64 p)
  have a3 := c_iadd (63 - own_nlz64 p) 1
  have b1 := rng32 (63 - own_nlz64 d)
  have b2 := rng32 (63 - own_nlz64 p)
  have b3 := rng32 (63 - own_nlz64 p + 1)
  have z : (63 : Int32).toInt = 63 := by decide
  have z1 : (1 : Int32).toInt = 1 := by decide
  apply Int32.toInt_inj.mp
  omega
theorem own_chI (x : Int64) (f : Int32) (b : Int64) (hb : (if f = 0 then (0 : Int64) else 1) = b) (h01 : 0 ≤ b.toInt ∧ b.toInt < 2) : ((own_child x f).toInt - (2 * x.toInt + b.toInt)) % 18446744073709551616 = 0 := by
  have a := c_lshl x 1 1 (by decide)
  have o := c_orL (x <<< ((1 : Int32) &&& 0x3f).toInt64) b 1 (by decide) 2 (by decide) (by omega) h01.1 h01.2
  have e : own_child x f = (x <<< ((1 : Int32) &&& 0x3f).toInt64) ||| b := by unfold own_child; rw [hb]
  rw [e]
  omega
theorem own_ch0 (x : Int64) : own_child x 0 = x * 2 + 0 := by
  have a := own_chI x 0 0 (by decide) (by decide)
  have b := c_lmul x 2
  have c := c_ladd (x * 2) 0
  have r1 := rng64 (own_child x 0)
  have r2 := rng64 (x * 2 + 0)
  have z : (0 : Int64).toInt = 0 := by decide
  have z2 : (2 : Int64).toInt = 2 := by decide
  apply Int64.toInt_inj.mp
  rw [z2] at b
  omega
theorem own_ch1 (x : Int64) : own_child x 1 = x * 2 + 1 := by
  have a := own_chI x 1 1 (by decide) (by decide)
  have b := c_lmul x 2
  have c := c_ladd (x * 2) 1
  have r1 := rng64 (own_child x 1)
  have r2 := rng64 (x * 2 + 1)
  have z : (1 : Int64).toInt = 1 := by decide
  have z2 : (2 : Int64).toInt = 2 := by decide
  apply Int64.toInt_inj.mp
  rw [z2] at b
  omega
theorem own_p (x : Int64) (h : ¬ (x &&& 4611686018427387903) = 0) : 1 ≤ (x &&& 4611686018427387903).toInt ∧ (x &&& 4611686018427387903).toInt < 4611686018427387904 := by
  have a := c_maskL x 4611686018427387903 62 (by decide) (by decide)
  rw [← Int64.toInt_inj] at h
  have z : (0 : Int64).toInt = 0 := by decide
  rw [z] at h
  omega
theorem own_d {p : Int64} (f : Int32) (b : Int) (hb : (if f = 0 then (0 : Int64) else 1).toInt = b) (h01 : 0 ≤ b ∧ b < 2) (hp : 1 ≤ p.toInt ∧ p.toInt < 4611686018427387904) : (own_child p f).toInt = 2 * p.toInt + b := by
  have a := own_chI p f _ rfl (by rw [hb]; exact h01)
  have r := rng64 (own_child p f)
  rw [hb] at a
  omega
theorem own_upd {p d : Int64} (b : Int) (h01 : 0 ≤ b ∧ b < 2) (hp : 1 ≤ p.toInt ∧ p.toInt < 4611686018427387904) (hd : d.toInt = 2 * p.toInt + b) : own_up d 1 = p := by
  have u := c_lushr d 1 1 (by decide) (by decide)
  rw [Int.emod_eq_of_lt (by omega) (by omega)] at u
  apply Int64.toInt_inj.mp
  have e : own_up d 1 = (d.toUInt64 >>> ((1 : Int32) &&& 0x3f).toInt64.toUInt64).toInt64 := rfl
  rw [e, u]
  omega
theorem own_er1 {p d : Int64} (hd : d.toInt = 2 * p.toInt + 1) : own_er d = 1 := by
  have a := c_maskL d 1 1 (by decide) (by decide)
  unfold own_er
  rw [if_pos]
  apply Int64.toInt_inj.mp
  have z : (1 : Int64).toInt = 1 := by decide
  rw [z]
  omega
theorem own_er0 {p d : Int64} (hd : d.toInt = 2 * p.toInt + 0) : own_er d = 0 := by
  have a := c_maskL d 1 1 (by decide) (by decide)
  unfold own_er
  rw [if_neg]
  rw [← Int64.toInt_inj]
  have z : (1 : Int64).toInt = 1 := by decide
  rw [z]
  omega

theorem d1_0 : decode prog_16_method_3_code 0 = .ok (.lload_n 0, 1) := by decide +kernel
theorem d1_1 : decode prog_16_method_3_code 1 = .ok (.iconst 1, 1) := by decide +kernel
theorem d1_2 : decode prog_16_method_3_code 2 = .ok (.lshl, 1) := by decide +kernel
theorem d1_3 : decode prog_16_method_3_code 3 = .ok (.iload_n 2, 1) := by decide +kernel
theorem d1_4 : decode prog_16_method_3_code 4 = .ok (.ifCond .eq 7, 3) := by decide +kernel
theorem d1_7 : decode prog_16_method_3_code 7 = .ok (.lconst 1, 1) := by decide +kernel
theorem d1_8 : decode prog_16_method_3_code 8 = .ok (.goto 4, 3) := by decide +kernel
theorem d1_11 : decode prog_16_method_3_code 11 = .ok (.lconst 0, 1) := by decide +kernel
theorem d1_12 : decode prog_16_method_3_code 12 = .ok (.lor, 1) := by decide +kernel
theorem d1_13 : decode prog_16_method_3_code 13 = .ok (.lreturn, 1) := by decide +kernel
theorem pn_0 : plainName "com/example/bloodwood/bloodwood/internal/TreePath" = true := by first | (simp [plainName, overriddenIn]; done) | decide +kernel
theorem ef_1 (m : MethodId) (q : Int64) (f : Int32) : entryFrame m #[(.long q), (.int f)] 3 = mkF m 0 #[.val (.long q), .second, .val (.int f)] [] := by first | (simp [entryFrame, mkF, argsToLocals, Value.category]; done) | rfl
def Q1 (Z : State) (q : Int64) (f : Int32) (h0 : Heap) (n0 : Nat) (v : Option Value) (h : Heap) (L : List Loc) : Prop := v = some (.long (own_child q f)) ∧ Fr n0 L ∧ h = h0
set_option maxRecDepth 65536 in
set_option maxHeartbeats 40000000 in
theorem rm1 (l : Launch) (Z : State) (a0 : Array Value) (hw : ∀ d ∈ tables_1, d.before a0 Z = true) (ws : List Jvm.Cond) (q : Int64) (f : Int32) (h0 : Heap) (n0 : Nat) (Z0 : n0 ≤ h0.size)  :
    MetFree l (⟨"com/example/bloodwood/bloodwood/internal/TreePath", "child", "(JZ)J"⟩ : MethodName) (head1 (Jvm.Cond.code (⟨"com/example/bloodwood/bloodwood/internal/TreePath", "child", "(JZ)J"⟩ : MethodName) prog_16_method_3_code 3 (some .long) :: ws) ({ frames := 0, cells := 0, slots := 0, locals := 0 } : Room)) (fun ar_ U => ar_ = #[(.long q), (.int f)] ∧ Z.Warmed39 U.vm ∧ U.heap = h0) (fun _ _ _ _ _ => True) (fun _ U o U' => ∃ v L, o = .returned v ∧ Q1 Z q f h0 n0 v U'.heap L ∧ FrameEnd U o U' L ({ frames := 0, cells := 0, slots := 0, locals := 0 } : Room).cells ({ frames := 0, cells := 0, slots := 0, locals := 0 } : Room).slots) := by
  refine MetFree.of_bodySF (plainFor_of_name pn_0) hisR ?_
  intro p e s m args below meth c s₁ Bd hml0 hP hK
  obtain ⟨rfl, hZ, hh⟩ := hP
  have hx := Bd.exec
  have hby := Bd.bytes
  have hml : c.maxLocals = 3 := hml0
  have hown : s.vm.findClass "com/example/bloodwood/bloodwood/internal/TreePath" = some m.cls := findClass_of_methodNamed Bd.named
  have hnm := (name_of_methodNamed Bd.named Bd.method).1
  have X0 : Stand p l e ({ frames := 0, cells := 0, slots := 0, locals := 0 } : Room) s m #[(.long q), (.int f)] below meth c s₁ [] 0 0 := Stand.of_body Bd
  have e0 : s₁.heap = h0 := by rw [← hh, Bd.state]; rfl
  have N0 := Fr.nil n0
  refine own_gl ?_
  refine own_st (S' := s₁.setTop (mkF m 0 #[.val (.long q), .second, .val (.int f)] [])) (fun t_ k_ => castTop (ef_1 m q f) k_) ?_
  refine own_st (S' := s₁.setTop (mkF m 1 #[.val (.long q), .second, .val (.int f)] [(.long q)])) (fun t_ k_ => XS.lloadN X0.here hx rfl (hb hby d1_0) rfl k_) ?_
  refine own_st (S' := s₁.setTop (mkF m 2 #[.val (.long q), .second, .val (.int f)] [(.int (1 : Int32)), (.long q)])) (fun t_ k_ => XS.iconst X0.here hx rfl (hb hby d1_1) k_) ?_
  refine own_st (S' := s₁.setTop (mkF m 3 #[.val (.long q), .second, .val (.int f)] [(.long (q <<< ((1 : Int32) &&& 0x3f).toInt64))])) (fun t_ k_ => XS.lshl X0.here hx rfl (hb hby d1_2) rfl k_) ?_
  refine own_st (S' := s₁.setTop (mkF m 4 #[.val (.long q), .second, .val (.int f)] [(.int f), (.long (q <<< ((1 : Int32) &&& 0x3f).toInt64))])) (fun t_ k_ => XS.iloadN X0.here hx rfl (hb hby d1_3) rfl k_) ?_
  by_cases hc4 : f = (0 : Int32)
  · refine own_st (S' := s₁.setTop (mkF m 11 #[.val (.long q), .second, .val (.int f)] [(.long (q <<< ((1 : Int32) &&& 0x3f).toInt64))])) (fun t_ k_ => XS.ifYes X0.here hx rfl (pc0 := 4) (pc' := 11) rfl (hb hby d1_4) rfl ((if0 _ _).trans (teq hc4).1) (by decide) (by decide) k_) ?_
    refine own_st (S' := s₁.setTop (mkF m 12 #[.val (.long q), .second, .val (.int f)] [(.long (0 : Int64)), (.long (q <<< ((1 : Int32) &&& 0x3f).toInt64))])) (fun t_ k_ => XS.lconst X0.here hx rfl (hb hby d1_11) k_) ?_
    refine own_st (S' := s₁.setTop (mkF m 13 #[.val (.long q), .second, .val (.int f)] [(.long ((q <<< ((1 : Int32) &&& 0x3f).toInt64) ||| (0 : Int64)))])) (fun t_ k_ => XS.lor X0.here hx rfl (hb hby d1_12) rfl k_) ?_
    obtain ⟨fs, hr, hrun, hended, hW, hsame⟩ := X0.leave (v := some (.long ((q <<< ((1 : Int32) &&& 0x3f).toInt64) ||| (0 : Int64)))) (fun h => by rw [Bd.returns] at h; cases h)
    refine ⟨_, _, own_retJ X0 hx Bd.returns (hb hby d1_13) hr, hrun, hended, _, _, rfl, ?_, ⟨_, rfl⟩, hW, hsame.mono (by decide) (by decide)⟩
    show Q1 Z q f h0 n0 _ s₁.heap _
    rw [e0]
    exact ⟨(congrArg (fun z => some (Value.long z)) (show ((q <<< ((1 : Int32) &&& 0x3f).toInt64) ||| (0 : Int64)) = (own_child q f) from by simp [own_child, hc4])), N0, rfl⟩
  · refine own_st (S' := s₁.setTop (mkF m 7 #[.val (.long q), .second, .val (.int f)] [(.long (q <<< ((1 : Int32) &&& 0x3f).toInt64))])) (fun t_ k_ => XS.ifNo X0.here hx rfl (hb hby d1_4) rfl ((if0 _ _).trans (feq hc4).1) k_) ?_
    refine own_st (S' := s₁.setTop (mkF m 8 #[.val (.long q), .second, .val (.int f)] [(.long (1 : Int64)), (.long (q <<< ((1 : Int32) &&& 0x3f).toInt64))])) (fun t_ k_ => XS.lconst X0.here hx rfl (hb hby d1_7) k_) ?_
    refine own_st (S' := s₁.setTop (mkF m 12 #[.val (.long q), .second, .val (.int f)] [(.long (1 : Int64)), (.long (q <<< ((1 : Int32) &&& 0x3f).toInt64))])) (fun t_ k_ => XS.goto X0.here hx rfl (pc0 := 8) (pc' := 12) rfl (hb hby d1_8) (by decide) (by decide) k_) ?_
    refine own_st (S' := s₁.setTop (mkF m 13 #[.val (.long q), .second, .val (.int f)] [(.long ((q <<< ((1 : Int32) &&& 0x3f).toInt64) ||| (1 : Int64)))])) (fun t_ k_ => XS.lor X0.here hx rfl (hb hby d1_12) rfl k_) ?_
    obtain ⟨fs, hr, hrun, hended, hW, hsame⟩ := X0.leave (v := some (.long ((q <<< ((1 : Int32) &&& 0x3f).toInt64) ||| (1 : Int64)))) (fun h => by rw [Bd.returns] at h; cases h)
    refine ⟨_, _, own_retJ X0 hx Bd.returns (hb hby d1_13) hr, hrun, hended, _, _, rfl, ?_, ⟨_, rfl⟩, hW, hsame.mono (by decide) (by decide)⟩
    show Q1 Z q f h0 n0 _ s₁.heap _
    rw [e0]
    exact ⟨(congrArg (fun z => some (Value.long z)) (show ((q <<< ((1 : Int32) &&& 0x3f).toInt64) ||| (1 : Int64)) = (own_child q f) from by simp [own_child, hc4])), N0, rfl⟩
theorem d2_0 : decode prog_16_method_6_code 0 = .ok (.lload_n 0, 1) := by decide +kernel
theorem d2_1 : decode prog_16_method_6_code 1 = .ok (.iload_n 2, 1) := by decide +kernel
theorem d2_2 : decode prog_16_method_6_code 2 = .ok (.lushr, 1) := by decide +kernel
theorem d2_3 : decode prog_16_method_6_code 3 = .ok (.lreturn, 1) := by decide +kernel
theorem ef_2 (m : MethodId) (q : Int64) (f : Int32) : entryFrame m #[(.long q), (.int f)] 3 = mkF m 0 #[.val (.long q), .second, .val (.int f)] [] := by first | (simp [entryFrame, mkF, argsToLocals, Value.category]; done) | rfl
def Q2 (Z : State) (q : Int64) (f : Int32) (h0 : Heap) (n0 : Nat) (v : Option Value) (h : Heap) (L : List Loc) : Prop := v = some (.long (own_up q f)) ∧ Fr n0 L ∧ h = h0
set_option maxRecDepth 65536 in
set_option maxHeartbeats 40000000 in
theorem rm2 (l : Launch) (Z : State) (a0 : Array Value) (hw : ∀ d ∈ tables_1, d.before a0 Z = true) (ws : List Jvm.Cond) (q : Int64) (f : Int32) (h0 : Heap) (n0 : Nat) (Z0 : n0 ≤ h0.size)  :
    MetFree l (⟨"com/example/bloodwood/bloodwood/internal/TreePath", "up", "(JI)J"⟩ : MethodName) (head1 (Jvm.Cond.code (⟨"com/example/bloodwood/bloodwood/internal/TreePath", "up", "(JI)J"⟩ : MethodName) prog_16_method_6_code 3 (some .long) :: ws) ({ frames := 0, cells := 0, slots := 0, locals := 0 } : Room)) (fun ar_ U => ar_ = #[(.long q), (.int f)] ∧ Z.Warmed39 U.vm ∧ U.heap = h0) (fun _ _ _ _ _ => True) (fun _ U o U' => ∃ v L, o = .returned v ∧ Q2 Z q f h0 n0 v U'.heap L ∧ FrameEnd U o U' L ({ frames := 0, cells := 0, slots := 0, locals := 0 } : Room).cells ({ frames := 0, cells := 0, slots := 0, locals := 0 } : Room).slots) := by
  refine MetFree.of_bodySF (plainFor_of_name pn_0) hisR ?_
  intro p e s m args below meth c s₁ Bd hml0 hP hK
  obtain ⟨rfl, hZ, hh⟩ := hP
  have hx := Bd.exec
  have hby := Bd.bytes
  have hml : c.maxLocals = 3 := hml0
  have hown : s.vm.findClass "com/example/bloodwood/bloodwood/internal/TreePath" = some m.cls := findClass_of_methodNamed Bd.named
  have hnm := (name_of_methodNamed Bd.named Bd.method).1
  have X0 : Stand p l e ({ frames := 0, cells := 0, slots := 0, locals := 0 } : Room) s m #[(.long q), (.int f)] below meth c s₁ [] 0 0 := Stand.of_body Bd
  have e0 : s₁.heap = h0 := by rw [← hh, Bd.state]; rfl
  have N0 := Fr.nil n0
  refine own_gl ?_
  refine own_st (S' := s₁.setTop (mkF m 0 #[.val (.long q), .second, .val (.int f)] [])) (fun t_ k_ => castTop (ef_2 m q f) k_) ?_
  refine own_st (S' := s₁.setTop (mkF m 1 #[.val (.long q), .second, .val (.int f)] [(.long q)])) (fun t_ k_ => XS.lloadN X0.here hx rfl (hb hby d2_0) rfl k_) ?_
  refine own_st (S' := s₁.setTop (mkF m 2 #[.val (.long q), .second, .val (.int f)] [(.int f), (.long q)])) (fun t_ k_ => XS.iloadN X0.here hx rfl (hb hby d2_1) rfl k_) ?_
  refine own_st (S' := s₁.setTop (mkF m 3 #[.val (.long q), .second, .val (.int f)] [(.long ((q.toUInt64 >>> (f &&& 0x3f).toInt64.toUInt64).toInt64))])) (fun t_ k_ => XS.lushr X0.here hx rfl (hb hby d2_2) rfl k_) ?_
  obtain ⟨fs, hr, hrun, hended, hW, hsame⟩ := X0.leave (v := some (.long ((q.toUInt64 >>> (f &&& 0x3f).toInt64.toUInt64).toInt64))) (fun h => by rw [Bd.returns] at h; cases h)
  refine ⟨_, _, own_retJ X0 hx Bd.returns (hb hby d2_3) hr, hrun, hended, _, _, rfl, ?_, ⟨_, rfl⟩, hW, hsame.mono (by decide) (by decide)⟩
  show Q2 Z q f h0 n0 _ s₁.heap _
  rw [e0]
  exact ⟨(congrArg (fun z => some (Value.long z)) (show ((q.toUInt64 >>> (f &&& 0x3f).toInt64.toUInt64).toInt64) = (own_up q f) from by rfl)), N0, rfl⟩
theorem d3_0 : decode prog_16_method_4_code 0 = .ok (.lload_n 0, 1) := by decide +kernel
theorem d3_1 : decode prog_16_method_4_code 1 = .ok (.lconst 1, 1) := by decide +kernel
theorem d3_2 : decode prog_16_method_4_code 2 = .ok (.land, 1) := by decide +kernel
theorem d3_3 : decode prog_16_method_4_code 3 = .ok (.lconst 1, 1) := by decide +kernel
theorem d3_4 : decode prog_16_method_4_code 4 = .ok (.lcmp, 1) := by decide +kernel
theorem d3_5 : decode prog_16_method_4_code 5 = .ok (.ifCond .ne 7, 3) := by decide +kernel
theorem d3_8 : decode prog_16_method_4_code 8 = .ok (.iconst 1, 1) := by decide +kernel
theorem d3_9 : decode prog_16_method_4_code 9 = .ok (.goto 4, 3) := by decide +kernel
theorem d3_12 : decode prog_16_method_4_code 12 = .ok (.iconst 0, 1) := by decide +kernel
theorem d3_13 : decode prog_16_method_4_code 13 = .ok (.ireturn, 1) := by decide +kernel
theorem ef_3 (m : MethodId) (q : Int64) : entryFrame m #[(.long q)] 2 = mkF m 0 #[.val (.long q), .second] [] := by first | (simp [entryFrame, mkF, argsToLocals, Value.category]; done) | rfl
def Q3 (Z : State) (q : Int64) (h0 : Heap) (n0 : Nat) (v : Option Value) (h : Heap) (L : List Loc) : Prop := v = some (.int (own_er q)) ∧ Fr n0 L ∧ h = h0
set_option maxRecDepth 65536 in
set_option maxHeartbeats 40000000 in
theorem rm3 (l : Launch) (Z : State) (a0 : Array Value) (hw : ∀ d ∈ tables_1, d.before a0 Z = true) (ws : List Jvm.Cond) (q : Int64) (h0 : Heap) (n0 : Nat) (Z0 : n0 ≤ h0.size)  :
    MetFree l (⟨"com/example/bloodwood/bloodwood/internal/TreePath", "endsRight", "(J)Z"⟩ : MethodName) (head1 (Jvm.Cond.code (⟨"com/example/bloodwood/bloodwood/internal/TreePath", "endsRight", "(J)Z"⟩ : MethodName) prog_16_method_4_code 2 (some .boolean) :: ws) ({ frames := 0, cells := 0, slots := 0, locals := 0 } : Room)) (fun ar_ U => ar_ = #[(.long q)] ∧ Z.Warmed39 U.vm ∧ U.heap = h0) (fun _ _ _ _ _ => True) (fun _ U o U' => ∃ v L, o = .returned v ∧ Q3 Z q h0 n0 v U'.heap L ∧ FrameEnd U o U' L ({ frames := 0, cells := 0, slots := 0, locals := 0 } : Room).cells ({ frames := 0, cells := 0, slots := 0, locals := 0 } : Room).slots) := by
  refine MetFree.of_bodySF (plainFor_of_name pn_0) hisR ?_
  intro p e s m args below meth c s₁ Bd hml0 hP hK
  obtain ⟨rfl, hZ, hh⟩ := hP
  have hx := Bd.exec
  have hby := Bd.bytes
  have hml : c.maxLocals = 2 := hml0
  have hown : s.vm.findClass "com/example/bloodwood/bloodwood/internal/TreePath" = some m.cls := findClass_of_methodNamed Bd.named
  have hnm := (name_of_methodNamed Bd.named Bd.method).1
  have X0 : Stand p l e ({ frames := 0, cells := 0, slots := 0, locals := 0 } : Room) s m #[(.long q)] below meth c s₁ [] 0 0 := Stand.of_body Bd
  have e0 : s₁.heap = h0 := by rw [← hh, Bd.state]; rfl
  have N0 := Fr.nil n0
  refine own_gl ?_
  refine own_st (S' := s₁.setTop (mkF m 0 #[.val (.long q), .second] [])) (fun t_ k_ => castTop (ef_3 m q) k_) ?_
  refine own_st (S' := s₁.setTop (mkF m 1 #[.val (.long q), .second] [(.long q)])) (fun t_ k_ => XS.lloadN X0.here hx rfl (hb hby d3_0) rfl k_) ?_
  refine own_st (S' := s₁.setTop (mkF m 2 #[.val (.long q), .second] [(.long (1 : Int64)), (.long q)])) (fun t_ k_ => XS.lconst X0.here hx rfl (hb hby d3_1) k_) ?_
  refine own_st (S' := s₁.setTop (mkF m 3 #[.val (.long q), .second] [(.long (q &&& (1 : Int64)))])) (fun t_ k_ => XS.land X0.here hx rfl (hb hby d3_2) rfl k_) ?_
  refine own_st (S' := s₁.setTop (mkF m 4 #[.val (.long q), .second] [(.long (1 : Int64)), (.long (q &&& (1 : Int64)))])) (fun t_ k_ => XS.lconst X0.here hx rfl (hb hby d3_3) k_) ?_
  refine own_st (S' := s₁.setTop (mkF m 5 #[.val (.long q), .second] [(.int (lcmpW (q &&& (1 : Int64)) (1 : Int64)))])) (fun t_ k_ => XS.lcmp X0.here hx rfl (hb hby d3_4) rfl k_) ?_
  by_cases hc5 : (q &&& (1 : Int64)) = (1 : Int64)
  · refine own_st (S' := s₁.setTop (mkF m 8 #[.val (.long q), .second] [])) (fun t_ k_ => XS.ifNo X0.here hx rfl (hb hby d3_5) rfl ((if0 _ _).trans (teq ((lw_eq _ _).mpr hc5)).2) k_) ?_
    refine own_st (S' := s₁.setTop (mkF m 9 #[.val (.long q), .second] [(.int (1 : Int32))])) (fun t_ k_ => XS.iconst X0.here hx rfl (hb hby d3_8) k_) ?_
    refine own_st (S' := s₁.setTop (mkF m 13 #[.val (.long q), .second] [(.int (1 : Int32))])) (fun t_ k_ => XS.goto X0.here hx rfl (pc0 := 9) (pc' := 13) rfl (hb hby d3_9) (by decide) (by decide) k_) ?_
    obtain ⟨fs, hr, hrun, hended, hW, hsame⟩ := X0.leave (v := some (.int (1 : Int32))) (fun h => by rw [Bd.returns] at h; cases h)
    refine ⟨_, _, retN X0 hx (t := .boolean) Bd.returns (by simp) (hb hby d3_13) hr, hrun, hended, _, _, rfl, ?_, ⟨_, rfl⟩, hW, hsame.mono (by decide) (by decide)⟩
    show Q3 Z q h0 n0 _ s₁.heap _
    rw [e0]
    exact ⟨(congrArg (fun z => some (Value.int z)) (show (1 : Int32) = (own_er q) from by simp [own_er, hc5])), N0, rfl⟩
  · refine own_st (S' := s₁.setTop (mkF m 12 #[.val (.long q), .second] [])) (fun t_ k_ => XS.ifYes X0.here hx rfl (pc0 := 5) (pc' := 12) rfl (hb hby d3_5) rfl ((if0 _ _).trans (feq (fun q => hc5 ((lw_eq _ _).mp q))).2) (by decide) (by decide) k_) ?_
    refine own_st (S' := s₁.setTop (mkF m 13 #[.val (.long q), .second] [(.int (0 : Int32))])) (fun t_ k_ => XS.iconst X0.here hx rfl (hb hby d3_12) k_) ?_
    obtain ⟨fs, hr, hrun, hended, hW, hsame⟩ := X0.leave (v := some (.int (0 : Int32))) (fun h => by rw [Bd.returns] at h; cases h)
    refine ⟨_, _, retN X0 hx (t := .boolean) Bd.returns (by simp) (hb hby d3_13) hr, hrun, hended, _, _, rfl, ?_, ⟨_, rfl⟩, hW, hsame.mono (by decide) (by decide)⟩
    show Q3 Z q h0 n0 _ s₁.heap _
    rw [e0]
    exact ⟨(congrArg (fun z => some (Value.int z)) (show (0 : Int32) = (own_er q) from by simp [own_er, hc5])), N0, rfl⟩
theorem d4_0 : decode jdk_33_method_47_code 0 = .ok (.iload_n 0, 1) := by decide +kernel
theorem d4_1 : decode jdk_33_method_47_code 1 = .ok (.ifCond .gt 14, 3) := by decide +kernel
theorem d4_4 : decode jdk_33_method_47_code 4 = .ok (.iload_n 0, 1) := by decide +kernel
theorem d4_5 : decode jdk_33_method_47_code 5 = .ok (.ifCond .ne 8, 3) := by decide +kernel
theorem d4_8 : decode jdk_33_method_47_code 8 = .ok (.bipush 32, 2) := by decide +kernel
theorem d4_10 : decode jdk_33_method_47_code 10 = .ok (.goto 4, 3) := by decide +kernel
theorem d4_13 : decode jdk_33_method_47_code 13 = .ok (.iconst 0, 1) := by decide +kernel
theorem d4_14 : decode jdk_33_method_47_code 14 = .ok (.ireturn, 1) := by decide +kernel
theorem d4_15 : decode jdk_33_method_47_code 15 = .ok (.bipush 31, 2) := by decide +kernel
theorem d4_17 : decode jdk_33_method_47_code 17 = .ok (.istore_n 1, 1) := by decide +kernel
theorem d4_18 : decode jdk_33_method_47_code 18 = .ok (.iload_n 0, 1) := by decide +kernel
theorem d4_19 : decode jdk_33_method_47_code 19 = .ok (.ldc_w 264, 3) := by decide +kernel
theorem d4_22 : decode jdk_33_method_47_code 22 = .ok (.if_icmp .lt 11, 3) := by decide +kernel
theorem d4_25 : decode jdk_33_method_47_code 25 = .ok (.iinc 1 (-16), 3) := by decide +kernel
theorem d4_28 : decode jdk_33_method_47_code 28 = .ok (.iload_n 0, 1) := by decide +kernel
theorem d4_29 : decode jdk_33_method_47_code 29 = .ok (.bipush 16, 2) := by decide +kernel
theorem d4_31 : decode jdk_33_method_47_code 31 = .ok (.iushr, 1) := by decide +kernel
theorem d4_32 : decode jdk_33_method_47_code 32 = .ok (.istore_n 0, 1) := by decide +kernel
theorem d4_33 : decode jdk_33_method_47_code 33 = .ok (.iload_n 0, 1) := by decide +kernel
theorem d4_34 : decode jdk_33_method_47_code 34 = .ok (.sipush 256, 3) := by decide +kernel
theorem d4_37 : decode jdk_33_method_47_code 37 = .ok (.if_icmp .lt 11, 3) := by decide +kernel
theorem d4_40 : decode jdk_33_method_47_code 40 = .ok (.iinc 1 (-8), 3) := by decide +kernel
theorem d4_43 : decode jdk_33_method_47_code 43 = .ok (.iload_n 0, 1) := by decide +kernel
theorem d4_44 : decode jdk_33_method_47_code 44 = .ok (.bipush 8, 2) := by decide +kernel
theorem d4_46 : decode jdk_33_method_47_code 46 = .ok (.iushr, 1) := by decide +kernel
theorem d4_47 : decode jdk_33_method_47_code 47 = .ok (.istore_n 0, 1) := by decide +kernel
theorem d4_48 : decode jdk_33_method_47_code 48 = .ok (.iload_n 0, 1) := by decide +kernel
theorem d4_49 : decode jdk_33_method_47_code 49 = .ok (.bipush 16, 2) := by decide +kernel
theorem d4_51 : decode jdk_33_method_47_code 51 = .ok (.if_icmp .lt 10, 3) := by decide +kernel
theorem d4_54 : decode jdk_33_method_47_code 54 = .ok (.iinc 1 (-4), 3) := by decide +kernel
theorem d4_57 : decode jdk_33_method_47_code 57 = .ok (.iload_n 0, 1) := by decide +kernel
theorem d4_58 : decode jdk_33_method_47_code 58 = .ok (.iconst 4, 1) := by decide +kernel
theorem d4_59 : decode jdk_33_method_47_code 59 = .ok (.iushr, 1) := by decide +kernel
theorem d4_60 : decode jdk_33_method_47_code 60 = .ok (.istore_n 0, 1) := by decide +kernel
theorem d4_61 : decode jdk_33_method_47_code 61 = .ok (.iload_n 0, 1) := by decide +kernel
theorem d4_62 : decode jdk_33_method_47_code 62 = .ok (.iconst 4, 1) := by decide +kernel
theorem d4_63 : decode jdk_33_method_47_code 63 = .ok (.if_icmp .lt 10, 3) := by decide +kernel
theorem d4_66 : decode jdk_33_method_47_code 66 = .ok (.iinc 1 (-2), 3) := by decide +kernel
theorem d4_69 : decode jdk_33_method_47_code 69 = .ok (.iload_n 0, 1) := by decide +kernel
theorem d4_70 : decode jdk_33_method_47_code 70 = .ok (.iconst 2, 1) := by decide +kernel
theorem d4_71 : decode jdk_33_method_47_code 71 = .ok (.iushr, 1) := by decide +kernel
theorem d4_72 : decode jdk_33_method_47_code 72 = .ok (.istore_n 0, 1) := by decide +kernel
theorem d4_73 : decode jdk_33_method_47_code 73 = .ok (.iload_n 1, 1) := by decide +kernel
theorem d4_74 : decode jdk_33_method_47_code 74 = .ok (.iload_n 0, 1) := by decide +kernel
theorem d4_75 : decode jdk_33_method_47_code 75 = .ok (.iconst 1, 1) := by decide +kernel
theorem d4_76 : decode jdk_33_method_47_code 76 = .ok (.iushr, 1) := by decide +kernel
theorem d4_77 : decode jdk_33_method_47_code 77 = .ok (.isub, 1) := by decide +kernel
theorem d4_78 : decode jdk_33_method_47_code 78 = .ok (.ireturn, 1) := by decide +kernel
theorem pn_1 : plainName "java/lang/Integer" = true := by first | (simp [plainName, overriddenIn]; done) | decide +kernel
theorem ef_4 (m : MethodId) (x1 : Int32) : entryFrame m #[(.int x1)] 2 = mkF m 0 #[.val (.int x1), .unset] [] := by first | (simp [entryFrame, mkF, argsToLocals, Value.category]; done) | rfl
def Q4 (Z : State) (x1 : Int32) (h0 : Heap) (n0 : Nat) (v : Option Value) (h : Heap) (L : List Loc) : Prop := v = some (.int (own_nlz x1)) ∧ Fr n0 L ∧ h = h0
set_option maxRecDepth 65536 in
set_option maxHeartbeats 40000000 in
theorem rm4 (l : Launch) (Z : State) (a0 : Array Value) (hw : ∀ d ∈ tables_1, d.before a0 Z = true) (ws : List Jvm.Cond) (x1 : Int32) (h0 : Heap) (n0 : Nat) (Z0 : n0 ≤ h0.size)  :
    MetFree l (⟨"java/lang/Integer", "numberOfLeadingZeros", "(I)I"⟩ : MethodName) (head1 (Jvm.Cond.code (⟨"java/lang/Integer", "numberOfLeadingZeros", "(I)I"⟩ : MethodName) jdk_33_method_47_code 2 (some .int) :: ws) ({ frames := 0, cells := 0, slots := 0, locals := 0 } : Room)) (fun ar_ U => ar_ = #[(.int x1)] ∧ Z.Warmed39 U.vm ∧ U.heap = h0) (fun _ _ _ _ _ => True) (fun _ U o U' => ∃ v L, o = .returned v ∧ Q4 Z x1 h0 n0 v U'.heap L ∧ FrameEnd U o U' L ({ frames := 0, cells := 0, slots := 0, locals := 0 } : Room).cells ({ frames := 0, cells := 0, slots := 0, locals := 0 } : Room).slots) := by
  refine MetFree.of_bodySF (plainFor_of_name pn_1) hisR ?_
  intro p e s m args below meth c s₁ Bd hml0 hP hK
  obtain ⟨rfl, hZ, hh⟩ := hP
  have hx := Bd.exec
  have hby := Bd.bytes
  have hml : c.maxLocals = 2 := hml0
  have hown : s.vm.findClass "java/lang/Integer" = some m.cls := findClass_of_methodNamed Bd.named
  have hnm := (name_of_methodNamed Bd.named Bd.method).1
  have X0 : Stand p l e ({ frames := 0, cells := 0, slots := 0, locals := 0 } : Room) s m #[(.int x1)] below meth c s₁ [] 0 0 := Stand.of_body Bd
  have e0 : s₁.heap = h0 := by rw [← hh, Bd.state]; rfl
  have N0 := Fr.nil n0
  refine own_gl ?_
  refine own_st (S' := s₁.setTop (mkF m 0 #[.val (.int x1), .unset] [])) (fun t_ k_ => castTop (ef_4 m x1) k_) ?_
  refine own_st (S' := s₁.setTop (mkF m 1 #[.val (.int x1), .unset] [(.int x1)])) (fun t_ k_ => XS.iloadN X0.here hx rfl (hb hby d4_0) rfl k_) ?_
  by_cases hc1 : (0 : Int32) < x1
  · refine own_st (S' := s₁.setTop (mkF m 15 #[.val (.int x1), .unset] [])) (fun t_ k_ => XS.ifYes X0.here hx rfl (pc0 := 1) (pc' := 15) rfl (hb hby d4_1) rfl ((if0 _ _).trans (tlt hc1).2.2.1) (by decide) (by decide) k_) ?_
    refine own_st (S' := s₁.setTop (mkF m 17 #[.val (.int x1), .unset] [(.int (31 : Int32))])) (fun t_ k_ => XS.bipush X0.here hx rfl (hb hby d4_15) k_) ?_
    refine own_st (S' := s₁.setTop (mkF m 18 #[.val (.int x1), .val (.int (31 : Int32))] [])) (fun t_ k_ => XS.istoreN X0.here hx rfl (hb hby d4_17) rfl (l' := #[.val (.int x1), .val (.int (31 : Int32))]) rfl k_) ?_
    refine own_st (S' := s₁.setTop (mkF m 19 #[.val (.int x1), .val (.int (31 : Int32))] [(.int x1)])) (fun t_ k_ => XS.iloadN X0.here hx rfl (hb hby d4_18) rfl k_) ?_
    refine own_st (S' := s₁.setTop (mkF m 22 #[.val (.int x1), .val (.int (31 : Int32))] [(.int (65536 : Int32)), (.int x1)])) (fun t_ k_ => X0.ldcWI hx hown (mvT hZ (hw _ (List.mem_of_getElem? (i := 23) rfl))) (g := (mkF m 19 #[.val (.int x1), .val (.int (31 : Int32))] [(.int x1)])) rfl (hb hby d4_19) k_) ?_
    by_cases hc22 : x1 < (65536 : Int32)
    · refine own_st (S' := s₁.setTop (mkF m 33 #[.val (.int x1), .val (.int (31 : Int32))] [])) (fun t_ k_ => XS.icmpYes X0.here hx rfl (pc0 := 22) (pc' := 33) rfl (hb hby d4_22) rfl (tlt hc22).1 (by decide) (by decide) k_) ?_
      refine own_st (S' := s₁.setTop (mkF m 34 #[.val (.int x1), .val (.int (31 : Int32))] [(.int x1)])) (fun t_ k_ => XS.iloadN X0.here hx rfl (hb hby d4_33) rfl k_) ?_
      refine own_st (S' := s₁.setTop (mkF m 37 #[.val (.int x1), .val (.int (31 : Int32))] [(.int (256 : Int32)), (.int x1)])) (fun t_ k_ => XS.sipush X0.here hx rfl (hb hby d4_34) k_) ?_
      by_cases hc37 : x1 < (256 : Int32)
      · refine own_st (S' := s₁.setTop (mkF m 48 #[.val (.int x1), .val (.int (31 : Int32))] [])) (fun t_ k_ => XS.icmpYes X0.here hx rfl (pc0 := 37) (pc' := 48) rfl (hb hby d4_37) rfl (tlt hc37).1 (by decide) (by decide) k_) ?_
        refine own_st (S' := s₁.setTop (mkF m 49 #[.val (.int x1), .val (.int (31 : Int32))] [(.int x1)])) (fun t_ k_ => XS.iloadN X0.here hx rfl (hb hby d4_48) rfl k_) ?_
        refine own_st (S' := s₁.setTop (mkF m 51 #[.val (.int x1), .val (.int (31 : Int32))] [(.int (16 : Int32)), (.int x1)])) (fun t_ k_ => XS.bipush X0.here hx rfl (hb hby d4_49) k_) ?_
        by_cases hc51 : x1 < (16 : Int32)
        · refine own_st (S' := s₁.setTop (mkF m 61 #[.val (.int x1), .val (.int (31 : Int32))] [])) (fun t_ k_ => XS.icmpYes X0.here hx rfl (pc0 := 51) (pc' := 61) rfl (hb hby d4_51) rfl (tlt hc51).1 (by decide) (by decide) k_) ?_
          refine own_st (S' := s₁.setTop (mkF m 62 #[.val (.int x1), .val (.int (31 : Int32))] [(.int x1)])) (fun t_ k_ => XS.iloadN X0.here hx rfl (hb hby d4_61) rfl k_) ?_
          refine own_st (S' := s₁.setTop (mkF m 63 #[.val (.int x1), .val (.int (31 : Int32))] [(.int (4 : Int32)), (.int x1)])) (fun t_ k_ => XS.iconst X0.here hx rfl (hb hby d4_62) k_) ?_
          by_cases hc63 : x1 < (4 : Int32)
          · refine own_st (S' := s₁.setTop (mkF m 73 #[.val (.int x1), .val (.int (31 : Int32))] [])) (fun t_ k_ => XS.icmpYes X0.here hx rfl (pc0 := 63) (pc' := 73) rfl (hb hby d4_63) rfl (tlt hc63).1 (by decide) (by decide) k_) ?_
            refine own_st (S' := s₁.setTop (mkF m 74 #[.val (.int x1), .val (.int (31 : Int32))] [(.int (31 : Int32))])) (fun t_ k_ => XS.iloadN X0.here hx rfl (hb hby d4_73) rfl k_) ?_
            refine own_st (S' := s₁.setTop (mkF m 75 #[.val (.int x1), .val (.int (31 : Int32))] [(.int x1), (.int (31 : Int32))])) (fun t_ k_ => XS.iloadN X0.here hx rfl (hb hby d4_74) rfl k_) ?_
            refine own_st (S' := s₁.setTop (mkF m 76 #[.val (.int x1), .val (.int (31 : Int32))] [(.int (1 : Int32)), (.int x1), (.int (31 : Int32))])) (fun t_ k_ => XS.iconst X0.here hx rfl (hb hby d4_75) k_) ?_
            refine own_st (S' := s₁.setTop (mkF m 77 #[.val (.int x1), .val (.int (31 : Int32))] [(.int ((x1.toUInt32 >>> ((1 : Int32) &&& 31).toUInt32).toInt32)), (.int (31 : Int32))])) (fun t_ k_ => XS.iushr X0.here hx rfl (hb hby d4_76) rfl k_) ?_
            refine own_st (S' := s₁.setTop (mkF m 78 #[.val (.int x1), .val (.int (31 : Int32))] [(.int ((31 : Int32) - ((x1.toUInt32 >>> ((1 : Int32) &&& 31).toUInt32).toInt32)))])) (fun t_ k_ => XS.isub X0.here hx rfl (hb hby d4_77) rfl k_) ?_
            obtain ⟨fs, hr, hrun, hended, hW, hsame⟩ := X0.leave (v := some (.int ((31 : Int32) - ((x1.toUInt32 >>> ((1 : Int32) &&& 31).toUInt32).toInt32)))) (fun h => by rw [Bd.returns] at h; cases h)
            refine ⟨_, _, retI X0 hx Bd.returns (hb hby d4_78) hr, hrun, hended, _, _, rfl, ?_, ⟨_, rfl⟩, hW, hsame.mono (by decide) (by decide)⟩
            show Q4 Z x1 h0 n0 _ s₁.heap _
            rw [e0]
            exact ⟨(congrArg (fun z => some (Value.int z)) (show ((31 : Int32) - ((x1.toUInt32 >>> ((1 : Int32) &&& 31).toUInt32).toInt32)) = (own_nlz x1) from by simp only [own_nlz, own_n1, own_n2, own_n3, own_n4, hc1, hc22, hc37, hc51, hc63, if_true, if_false])), N0, rfl⟩
          · refine own_st (S' := s₁.setTop (mkF m 66 #[.val (.int x1), .val (.int (31 : Int32))] [])) (fun t_ k_ => XS.icmpNo X0.here hx rfl (hb hby d4_63) rfl (flt hc63).1 k_) ?_
            refine own_st (S' := s₁.setTop (mkF m 69 #[.val (.int x1), .val (.int ((31 : Int32) + (-2 : Int32)))] [])) (fun t_ k_ => XS.iinc X0.here hx rfl (hb hby d4_66) rfl (l' := #[.val (.int x1), .val (.int ((31 : Int32) + (-2 : Int32)))]) rfl k_) ?_
            refine own_st (S' := s₁.setTop (mkF m 70 #[.val (.int x1), .val (.int ((31 : Int32) + (-2 : Int32)))] [(.int x1)])) (fun t_ k_ => XS.iloadN X0.here hx rfl (hb hby d4_69) rfl k_) ?_
            refine own_st (S' := s₁.setTop (mkF m 71 #[.val (.int x1), .val (.int ((31 : Int32) + (-2 : Int32)))] [(.int (2 : Int32)), (.int x1)])) (fun t_ k_ => XS.iconst X0.here hx rfl (hb hby d4_70) k_) ?_
            refine own_st (S' := s₁.setTop (mkF m 72 #[.val (.int x1), .val (.int ((31 : Int32) + (-2 : Int32)))] [(.int ((x1.toUInt32 >>> ((2 : Int32) &&& 31).toUInt32).toInt32))])) (fun t_ k_ => XS.iushr X0.here hx rfl (hb hby d4_71) rfl k_) ?_
            refine own_st (S' := s₁.setTop (mkF m 73 #[.val (.int ((x1.toUInt32 >>> ((2 : Int32) &&& 31).toUInt32).toInt32)), .val (.int ((31 : Int32) + (-2 : Int32)))] [])) (fun t_ k_ => XS.istoreN X0.here hx rfl (hb hby d4_72) rfl (l' := #[.val (.int ((x1.toUInt32 >>> ((2 : Int32) &&& 31).toUInt32).toInt32)), .val (.int ((31 : Int32) + (-2 : Int32)))]) rfl k_) ?_
            refine own_st (S' := s₁.setTop (mkF m 74 #[.val (.int ((x1.toUInt32 >>> ((2 : Int32) &&& 31).toUInt32).toInt32)), .val (.int ((31 : Int32) + (-2 : Int32)))] [(.int ((31 : Int32) + (-2 : Int32)))])) (fun t_ k_ => XS.iloadN X0.here hx rfl (hb hby d4_73) rfl k_) ?_
            refine own_st (S' := s₁.setTop (mkF m 75 #[.val (.int ((x1.toUInt32 >>> ((2 : Int32) &&& 31).toUInt32).toInt32)), .val (.int ((31 : Int32) + (-2 : Int32)))] [(.int ((x1.toUInt32 >>> ((2 : Int32) &&& 31).toUInt32).toInt32)), (.int ((31 : Int32) + (-2 : Int32)))])) (fun t_ k_ => XS.iloadN X0.here hx rfl (hb hby d4_74) rfl k_) ?_
            refine own_st (S' := s₁.setTop (mkF m 76 #[.val (.int ((x1.toUInt32 >>> ((2 : Int32) &&& 31).toUInt32).toInt32)), .val (.int ((31 : Int32) + (-2 : Int32)))] [(.int (1 : Int32)), (.int ((x1.toUInt32 >>> ((2 : Int32) &&& 31).toUInt32).toInt32)), (.int ((31 : Int32) + (-2 : Int32)))])) (fun t_ k_ => XS.iconst X0.here hx rfl (hb hby d4_75) k_) ?_
            refine own_st (S' := s₁.setTop (mkF m 77 #[.val (.int ((x1.toUInt32 >>> ((2 : Int32) &&& 31).toUInt32).toInt32)), .val (.int ((31 : Int32) + (-2 : Int32)))] [(.int ((((x1.toUInt32 >>> ((2 : Int32) &&& 31).toUInt32).toInt32).toUInt32 >>> ((1 : Int32) &&& 31).toUInt32).toInt32)), (.int ((31 : Int32) + (-2 : Int32)))])) (fun t_ k_ => XS.iushr X0.here hx rfl (hb hby d4_76) rfl k_) ?_
            refine own_st (S' := s₁.setTop (mkF m 78 #[.val (.int ((x1.toUInt32 >>> ((2 : Int32) &&& 31).toUInt32).toInt32)), .val (.int ((31 : Int32) + (-2 : Int32)))] [(.int (((31 : Int32) + (-2 : Int32)) - ((((x1.toUInt32 >>> ((2 : Int32) &&& 31).toUInt32).toInt32).toUInt32 >>> ((1 : Int32) &&& 31).toUInt32).toInt32)))])) (fun t_ k_ => XS.isub X0.here hx rfl (hb hby d4_77) rfl k_) ?_
            obtain ⟨fs, hr, hrun, hended, hW, hsame⟩ := X0.leave (v := some (.int (((31 : Int32) + (-2 : Int32)) - ((((x1.toUInt32 >>> ((2 : Int32) &&& 31).toUInt32).toInt32).toUInt32 >>> ((1 : Int32) &&& 31).toUInt32).toInt32)))) (fun h => by rw [Bd.returns] at h; cases h)
            refine ⟨_, _, retI X0 hx Bd.returns (hb hby d4_78) hr, hrun, hended, _, _, rfl, ?_, ⟨_, rfl⟩, hW, hsame.mono (by decide) (by decide)⟩
            show Q4 Z x1 h0 n0 _ s₁.heap _
            rw [e0]
            exact ⟨(congrArg (fun z => some (Value.int z)) (show (((31 : Int32) + (-2 : Int32)) - ((((x1.toUInt32 >>> ((2 : Int32) &&& 31).toUInt32).toInt32).toUInt32 >>> ((1 : Int32) &&& 31).toUInt32).toInt32)) = (own_nlz x1) from by simp only [own_nlz, own_n1, own_n2, own_n3, own_n4, hc1, hc22, hc37, hc51, hc63, if_true, if_false])), N0, rfl⟩
        · refine own_st (S' := s₁.setTop (mkF m 54 #[.val (.int x1), .val (.int (31 : Int32))] [])) (fun t_ k_ => XS.icmpNo X0.here hx rfl (hb hby d4_51) rfl (flt hc51).1 k_) ?_
          refine own_st (S' := s₁.setTop (mkF m 57 #[.val (.int x1), .val (.int ((31 : Int32) + (-4 : Int32)))] [])) (fun t_ k_ => XS.iinc X0.here hx rfl (hb hby d4_54) rfl (l' := #[.val (.int x1), .val (.int ((31 : Int32) + (-4 : Int32)))]) rfl k_) ?_
          refine own_st (S' := s₁.setTop (mkF m 58 #[.val (.int x1), .val (.int ((31 : Int32) + (-4 : Int32)))] [(.int x1)])) (fun t_ k_ => XS.iloadN X0.here hx rfl (hb hby d4_57) rfl k_) ?_
          refine own_st (S' := s₁.setTop (mkF m 59 #[.val (.int x1), .val (.int ((31 : Int32) + (-4 : Int32)))] [(.int (4 : Int32)), (.int x1)])) (fun t_ k_ => XS.iconst X0.here hx rfl (hb hby d4_58) k_) ?_
          refine own_st (S' := s₁.setTop (mkF m 60 #[.val (.int x1), .val (.int ((31 : Int32) + (-4 : Int32)))] [(.int ((x1.toUInt32 >>> ((4 : Int32) &&& 31).toUInt32).toInt32))])) (fun t_ k_ => XS.iushr X0.here hx rfl (hb hby d4_59) rfl k_) ?_
          refine own_st (S' := s₁.setTop (mkF m 61 #[.val (.int ((x1.toUInt32 >>> ((4 : Int32) &&& 31).toUInt32).toInt32)), .val (.int ((31 : Int32) + (-4 : Int32)))] [])) (fun t_ k_ => XS.istoreN X0.here hx rfl (hb hby d4_60) rfl (l' := #[.val (.int ((x1.toUInt32 >>> ((4 : Int32) &&& 31).toUInt32).toInt32)), .val (.int ((31 : Int32) + (-4 : Int32)))]) rfl k_) ?_
          refine own_st (S' := s₁.setTop (mkF m 62 #[.val (.int ((x1.toUInt32 >>> ((4 : Int32) &&& 31).toUInt32).toInt32)), .val (.int ((31 : Int32) + (-4 : Int32)))] [(.int ((x1.toUInt32 >>> ((4 : Int32) &&& 31).toUInt32).toInt32))])) (fun t_ k_ => XS.iloadN X0.here hx rfl (hb hby d4_61) rfl k_) ?_
          refine own_st (S' := s₁.setTop (mkF m 63 #[.val (.int ((x1.toUInt32 >>> ((4 : Int32) &&& 31).toUInt32).toInt32)), .val (.int ((31 : Int32) + (-4 : Int32)))] [(.int (4 : Int32)), (.int ((x1.toUInt32 >>> ((4 : Int32) &&& 31).toUInt32).toInt32))])) (fun t_ k_ => XS.iconst X0.here hx rfl (hb hby d4_62) k_) ?_
          by_cases hc63 : ((x1.toUInt32 >>> ((4 : Int32) &&& 31).toUInt32).toInt32) < (4 : Int32)
          · refine own_st (S' := s₁.setTop (mkF m 73 #[.val (.int ((x1.toUInt32 >>> ((4 : Int32) &&& 31).toUInt32).toInt32)), .val (.int ((31 : Int32) + (-4 : Int32)))] [])) (fun t_ k_ => XS.icmpYes X0.here hx rfl (pc0 := 63) (pc' := 73) rfl (hb hby d4_63) rfl (tlt hc63).1 (by decide) (by decide) k_) ?_
            refine own_st (S' := s₁.setTop (mkF m 74 #[.val (.int ((x1.toUInt32 >>> ((4 : Int32) &&& 31).toUInt32).toInt32)), .val (.int ((31 : Int32) + (-4 : Int32)))] [(.int ((31 : Int32) + (-4 : Int32)))])) (fun t_ k_ => XS.iloadN X0.here hx rfl (hb hby d4_73) rfl k_) ?_
            refine own_st (S' := s₁.setTop (mkF m 75 #[.val (.int ((x1.toUInt32 >>> ((4 : Int32) &&& 31).toUInt32).toInt32)), .val (.int ((31 : Int32) + (-4 : Int32)))] [(.int ((x1.toUInt32 >>> ((4 : Int32) &&& 31).toUInt32).toInt32)), (.int ((31 : Int32) + (-4 : Int32)))])) (fun t_ k_ => XS.iloadN X0.here hx rfl (hb hby d4_74) rfl k_) ?_
            refine own_st (S' := s₁.setTop (mkF m 76 #[.val (.int ((x1.toUInt32 >>> ((4 : Int32) &&& 31).toUInt32).toInt32)), .val (.int ((31 : Int32) + (-4 : Int32)))] [(.int (1 : Int32)), (.int ((x1.toUInt32 >>> ((4 : Int32) &&& 31).toUInt32).toInt32)), (.int ((31 : Int32) + (-4 : Int32)))])) (fun t_ k_ => XS.iconst X0.here hx rfl (hb hby d4_75) k_) ?_
            refine own_st (S' := s₁.setTop (mkF m 77 #[.val (.int ((x1.toUInt32 >>> ((4 : Int32) &&& 31).toUInt32).toInt32)), .val (.int ((31 : Int32) + (-4 : Int32)))] [(.int ((((x1.toUInt32 >>> ((4 : Int32) &&& 31).toUInt32).toInt32).toUInt32 >>> ((1 : Int32) &&& 31).toUInt32).toInt32)), (.int ((31 : Int32) + (-4 : Int32)))])) (fun t_ k_ => XS.iushr X0.here hx rfl (hb hby d4_76) rfl k_) ?_
            refine own_st (S' := s₁.setTop (mkF m 78 #[.val (.int ((x1.toUInt32 >>> ((4 : Int32) &&& 31).toUInt32).toInt32)), .val (.int ((31 : Int32) + (-4 : Int32)))] [(.int (((31 : Int32) + (-4 : Int32)) - ((((x1.toUInt32 >>> ((4 : Int32) &&& 31).toUInt32).toInt32).toUInt32 >>> ((1 : Int32) &&& 31).toUInt32).toInt32)))])) (fun t_ k_ => XS.isub X0.here hx rfl (hb hby d4_77) rfl k_) ?_
            obtain ⟨fs, hr, hrun, hended, hW, hsame⟩ := X0.leave (v := some (.int (((31 : Int32) + (-4 : Int32)) - ((((x1.toUInt32 >>> ((4 : Int32) &&& 31).toUInt32).toInt32).toUInt32 >>> ((1 : Int32) &&& 31).toUInt32).toInt32)))) (fun h => by rw [Bd.returns] at h; cases h)
            refine ⟨_, _, retI X0 hx Bd.returns (hb hby d4_78) hr, hrun, hended, _, _, rfl, ?_, ⟨_, rfl⟩, hW, hsame.mono (by decide) (by decide)⟩
            show Q4 Z x1 h0 n0 _ s₁.heap _
            rw [e0]
            exact ⟨(congrArg (fun z => some (Value.int z)) (show (((31 : Int32) + (-4 : Int32)) - ((((x1.toUInt32 >>> ((4 : Int32) &&& 31).toUInt32).toInt32).toUInt32 >>> ((1 : Int32) &&& 31).toUInt32).toInt32)) = (own_nlz x1) from by simp only [own_nlz, own_n1, own_n2, own_n3, own_n4, hc1, hc22, hc37, hc51, hc63, if_true, if_false])), N0, rfl⟩
          · refine own_st (S' := s₁.setTop (mkF m 66 #[.val (.int ((x1.toUInt32 >>> ((4 : Int32) &&& 31).toUInt32).toInt32)), .val (.int ((31 : Int32) + (-4 : Int32)))] [])) (fun t_ k_ => XS.icmpNo X0.here hx rfl (hb hby d4_63) rfl (flt hc63).1 k_) ?_
            refine own_st (S' := s₁.setTop (mkF m 69 #[.val (.int ((x1.toUInt32 >>> ((4 : Int32) &&& 31).toUInt32).toInt32)), .val (.int (((31 : Int32) + (-4 : Int32)) + (-2 : Int32)))] [])) (fun t_ k_ => XS.iinc X0.here hx rfl (hb hby d4_66) rfl (l' := #[.val (.int ((x1.toUInt32 >>> ((4 : Int32) &&& 31).toUInt32).toInt32)), .val (.int (((31 : Int32) + (-4 : Int32)) + (-2 : Int32)))]) rfl k_) ?_
            refine own_st (S' := s₁.setTop (mkF m 70 #[.val (.int ((x1.toUInt32 >>> ((4 : Int32) &&& 31).toUInt32).toInt32)), .val (.int (((31 : Int32) + (-4 : Int32)) + (-2 : Int32)))] [(.int ((x1.toUInt32 >>> ((4 : Int32) &&& 31).toUInt32).toInt32))])) (fun t_ k_ => XS.iloadN X0.here hx rfl (hb hby d4_69) rfl k_) ?_
            refine own_st (S' := s₁.setTop (mkF m 71 #[.val (.int ((x1.toUInt32 >>> ((4 : Int32) &&& 31).toUInt32).toInt32)), .val (.int (((31 : Int32) + (-4 : Int32)) + (-2 : Int32)))] [(.int (2 : Int32)), (.int ((x1.toUInt32 >>> ((4 : Int32) &&& 31).toUInt32).toInt32))])) (fun t_ k_ => XS.iconst X0.here hx rfl (hb hby d4_70) k_) ?_
            refine own_st (S' := s₁.setTop (mkF m 72 #[.val (.int ((x1.toUInt32 >>> ((4 : Int32) &&& 31).toUInt32).toInt32)), .val (.int (((31 : Int32) + (-4 : Int32)) + (-2 : Int32)))] [(.int ((((x1.toUInt32 >>> ((4 : Int32) &&& 31).toUInt32).toInt32).toUInt32 >>> ((2 : Int32) &&& 31).toUInt32).toInt32))])) (fun t_ k_ => XS.iushr X0.here hx rfl (hb hby d4_71) rfl k_) ?_
            refine own_st (S' := s₁.setTop (mkF m 73 #[.val (.int ((((x1.toUInt32 >>> ((4 : Int32) &&& 31).toUInt32).toInt32).toUInt32 >>> ((2 : Int32) &&& 31).toUInt32).toInt32)), .val (.int (((31 : Int32) + (-4 : Int32)) + (-2 : Int32)))] [])) (fun t_ k_ => XS.istoreN X0.here hx rfl (hb hby d4_72) rfl (l' := #[.val (.int ((((x1.toUInt32 >>> ((4 : Int32) &&& 31).toUInt32).toInt32).toUInt32 >>> ((2 : Int32) &&& 31).toUInt32).toInt32)), .val (.int (((31 : Int32) + (-4 : Int32)) + (-2 : Int32)))]) rfl k_) ?_
            refine own_st (S' := s₁.setTop (mkF m 74 #[.val (.int ((((x1.toUInt32 >>> ((4 : Int32) &&& 31).toUInt32).toInt32).toUInt32 >>> ((2 : Int32) &&& 31).toUInt32).toInt32)), .val (.int (((31 : Int32) + (-4 : Int32)) + (-2 : Int32)))] [(.int (((31 : Int32) + (-4 : Int32)) + (-2 : Int32)))])) (fun t_ k_ => XS.iloadN X0.here hx rfl (hb hby d4_73) rfl k_) ?_
            refine own_st (S' := s₁.setTop (mkF m 75 #[.val (.int ((((x1.toUInt32 >>> ((4 : Int32) &&& 31).toUInt32).toInt32).toUInt32 >>> ((2 : Int32) &&& 31).toUInt32).toInt32)), .val (.int (((31 : Int32) + (-4 : Int32)) + (-2 : Int32)))] [(.int ((((x1.toUInt32 >>> ((4 : Int32) &&& 31).toUInt32).toInt32).toUInt32 >>> ((2 : Int32) &&& 31).toUInt32).toInt32)), (.int (((31 : Int32) + (-4 : Int32)) + (-2 : Int32)))])) (fun t_ k_ => XS.iloadN X0.here hx rfl (hb hby d4_74) rfl k_) ?_
            refine own_st (S' := s₁.setTop (mkF m 76 #[.val (.int ((((x1.toUInt32 >>> ((4 : Int32) &&& 31).toUInt32).toInt32).toUInt32 >>> ((2 : Int32) &&& 31).toUInt32).toInt32)), .val (.int (((31 : Int32) + (-4 : Int32)) + (-2 : Int32)))] [(.int (1 : Int32)), (.int ((((x1.toUInt32 >>> ((4 : Int32) &&& 31).toUInt32).toInt32).toUInt32 >>> ((2 : Int32) &&& 31).toUInt32).toInt32)), (.int (((31 : Int32) + (-4 : Int32)) + (-2 : Int32)))])) (fun t_ k_ => XS.iconst X0.here hx rfl (hb hby d4_75) k_) ?_
            refine own_st (S' := s₁.setTop (mkF m 77 #[.val (.int ((((x1.toUInt32 >>> ((4 : Int32) &&& 31).toUInt32).toInt32).toUInt32 >>> ((2 : Int32) &&& 31).toUInt32).toInt32)), .val (.int (((31 : Int32) + (-4 : Int32)) + (-2 : Int32)))] [(.int ((((((x1.toUInt32 >>> ((4 : Int32) &&& 31).toUInt32).toInt32).toUInt32 >>> ((2 : Int32) &&& 31).toUInt32).toInt32).toUInt32 >>> ((1 : Int32) &&& 31).toUInt32).toInt32)), (.int (((31 : Int32) + (-4 : Int32)) + (-2 : Int32)))])) (fun t_ k_ => XS.iushr X0.here hx rfl (hb hby d4_76) rfl k_) ?_
            refine own_st (S' := s₁.setTop (mkF m 78 #[.val (.int ((((x1.toUInt32 >>> ((4 : Int32) &&& 31).toUInt32).toInt32).toUInt32 >>> ((2 : Int32) &&& 31).toUInt32).toInt32)), .val (.int (((31 : Int32) + (-4 : Int32)) + (-2 : Int32)))] [(.int ((((31 : Int32) + (-4 : Int32)) + (-2 : Int32)) - ((((((x1.toUInt32 >>> ((4 : Int32) &&& 31).toUInt32).toInt32).toUInt32 >>> ((2 : Int32) &&& 31).toUInt32).toInt32).toUInt32 >>> ((1 : Int32) &&& 31).toUInt32).toInt32)))])) (fun t_ k_ => XS.isub X0.here hx rfl (hb hby d4_77) rfl k_) ?_
            obtain ⟨fs, hr, hrun, hended, hW, hsame⟩ := X0.leave (v := some (.int ((((31 : Int32) + (-4 : Int32)) + (-2 : Int32)) - ((((((x1.toUInt32 >>> ((4 : Int32) &&& 31).toUInt32).toInt32).toUInt32 >>> ((2 : Int32) &&& 31).toUInt32).toInt32).toUInt32 >>> ((1 : Int32) &&& 31).toUInt32).toInt32)))) (fun h => by rw [Bd.returns] at h; cases h)
            refine ⟨_, _, retI X0 hx Bd.returns (hb hby d4_78) hr, hrun, hended, _, _, rfl, ?_, ⟨_, rfl⟩, hW, hsame.mono (by decide) (by decide)⟩
            show Q4 Z x1 h0 n0 _ s₁.heap _
            rw [e0]
            exact ⟨(congrArg (fun z => some (Value.int z)) (show ((((31 : Int32) + (-4 : Int32)) + (-2 : Int32)) - ((((((x1.toUInt32 >>> ((4 : Int32) &&& 31).toUInt32).toInt32).toUInt32 >>> ((2 : Int32) &&& 31).toUInt32).toInt32).toUInt32 >>> ((1 : Int32) &&& 31).toUInt32).toInt32)) = (own_nlz x1) from by simp only [own_nlz, own_n1, own_n2, own_n3, own_n4, hc1, hc22, hc37, hc51, hc63, if_true, if_false])), N0, rfl⟩
      · refine own_st (S' := s₁.setTop (mkF m 40 #[.val (.int x1), .val (.int (31 : Int32))] [])) (fun t_ k_ => XS.icmpNo X0.here hx rfl (hb hby d4_37) rfl (flt hc37).1 k_) ?_
        refine own_st (S' := s₁.setTop (mkF m 43 #[.val (.int x1), .val (.int ((31 : Int32) + (-8 : Int32)))] [])) (fun t_ k_ => XS.iinc X0.here hx rfl (hb hby d4_40) rfl (l' := #[.val (.int x1), .val (.int ((31 : Int32) + (-8 : Int32)))]) rfl k_) ?_
        refine own_st (S' := s₁.setTop (mkF m 44 #[.val (.int x1), .val (.int ((31 : Int32) + (-8 : Int32)))] [(.int x1)])) (fun t_ k_ => XS.iloadN X0.here hx rfl (hb hby d4_43) rfl k_) ?_
        refine own_st (S' := s₁.setTop (mkF m 46 #[.val (.int x1), .val (.int ((31 : Int32) + (-8 : Int32)))] [(.int (8 : Int32)), (.int x1)])) (fun t_ k_ => XS.bipush X0.here hx rfl (hb hby d4_44) k_) ?_
        refine own_st (S' := s₁.setTop (mkF m 47 #[.val (.int x1), .val (.int ((31 : Int32) + (-8 : Int32)))] [(.int ((x1.toUInt32 >>> ((8 : Int32) &&& 31).toUInt32).toInt32))])) (fun t_ k_ => XS.iushr X0.here hx rfl (hb hby d4_46) rfl k_) ?_
        refine own_st (S' := s₁.setTop (mkF m 48 #[.val (.int ((x1.toUInt32 >>> ((8 : Int32) &&& 31).toUInt32).toInt32)), .val (.int ((31 : Int32) + (-8 : Int32)))] [])) (fun t_ k_ => XS.istoreN X0.here hx rfl (hb hby d4_47) rfl (l' := #[.val (.int ((x1.toUInt32 >>> ((8 : Int32) &&& 31).toUInt32).toInt32)), .val (.int ((31 : Int32) + (-8 : Int32)))]) rfl k_) ?_
        refine own_st (S' := s₁.setTop (mkF m 49 #[.val (.int ((x1.toUInt32 >>> ((8 : Int32) &&& 31).toUInt32).toInt32)), .val (.int ((31 : Int32) + (-8 : Int32)))] [(.int ((x1.toUInt32 >>> ((8 : Int32) &&& 31).toUInt32).toInt32))])) (fun t_ k_ => XS.iloadN X0.here hx rfl (hb hby d4_48) rfl k_) ?_
        refine own_st (S' := s₁.setTop (mkF m 51 #[.val (.int ((x1.toUInt32 >>> ((8 : Int32) &&& 31).toUInt32).toInt32)), .val (.int ((31 : Int32) + (-8 : Int32)))] [(.int (16 : Int32)), (.int ((x1.toUInt32 >>> ((8 : Int32) &&& 31).toUInt32).toInt32))])) (fun t_ k_ => XS.bipush X0.here hx rfl (hb hby d4_49) k_) ?_
        by_cases hc51 : ((x1.toUInt32 >>> ((8 : Int32) &&& 31).toUInt32).toInt32) < (16 : Int32)
        · refine own_st (S' := s₁.setTop (mkF m 61 #[.val (.int ((x1.toUInt32 >>> ((8 : Int32) &&& 31).toUInt32).toInt32)), .val (.int ((31 : Int32) + (-8 : Int32)))] [])) (fun t_ k_ => XS.icmpYes X0.here hx rfl (pc0 := 51) (pc' := 61) rfl (hb hby d4_51) rfl (tlt hc51).1 (by decide) (by decide) k_) ?_
          refine own_st (S' := s₁.setTop (mkF m 62 #[.val (.int ((x1.toUInt32 >>> ((8 : Int32) &&& 31).toUInt32).toInt32)), .val (.int ((31 : Int32) + (-8 : Int32)))] [(.int ((x1.toUInt32 >>> ((8 : Int32) &&& 31).toUInt32).toInt32))])) (fun t_ k_ => XS.iloadN X0.here hx rfl (hb hby d4_61) rfl k_) ?_
          refine own_st (S' := s₁.setTop (mkF m 63 #[.val (.int ((x1.toUInt32 >>> ((8 : Int32) &&& 31).toUInt32).toInt32)), .val (.int ((31 : Int32) + (-8 : Int32)))] [(.int (4 : Int32)), (.int ((x1.toUInt32 >>> ((8 : Int32) &&& 31).toUInt32).toInt32))])) (fun t_ k_ => XS.iconst X0.here hx rfl (hb hby d4_62) k_) ?_
          by_cases hc63 : ((x1.toUInt32 >>> ((8 : Int32) &&& 31).toUInt32).toInt32) < (4 : Int32)
          · refine own_st (S' := s₁.setTop (mkF m 73 #[.val (.int ((x1.toUInt32 >>> ((8 : Int32) &&& 31).toUInt32).toInt32)), .val (.int ((31 : Int32) + (-8 : Int32)))] [])) (fun t_ k_ => XS.icmpYes X0.here hx rfl (pc0 := 63) (pc' := 73) rfl (hb hby d4_63) rfl (tlt hc63).1 (by decide) (by decide) k_) ?_
            refine own_st (S' := s₁.setTop (mkF m 74 #[.val (.int ((x1.toUInt32 >>> ((8 : Int32) &&& 31).toUInt32).toInt32)), .val (.int ((31 : Int32) + (-8 : Int32)))] [(.int ((31 : Int32) + (-8 : Int32)))])) (fun t_ k_ => XS.iloadN X0.here hx rfl (hb hby d4_73) rfl k_) ?_
            refine own_st (S' := s₁.setTop (mkF m 75 #[.val (.int ((x1.toUInt32 >>> ((8 : Int32) &&& 31).toUInt32).toInt32)), .val (.int ((31 : Int32) + (-8 : Int32)))] [(.int ((x1.toUInt32 >>> ((8 : Int32) &&& 31).toUInt32).toInt32)), (.int ((31 : Int32) + (-8 : Int32)))])) (fun t_ k_ => XS.iloadN X0.here hx rfl (hb hby d4_74) rfl k_) ?_
            refine own_st (S' := s₁.setTop (mkF m 76 #[.val (.int ((x1.toUInt32 >>> ((8 : Int32) &&& 31).toUInt32).toInt32)), .val (.int ((31 : Int32) + (-8 : Int32)))] [(.int (1 : Int32)), (.int ((x1.toUInt32 >>> ((8 : Int32) &&& 31).toUInt32).toInt32)), (.int ((31 : Int32) + (-8 : Int32)))])) (fun t_ k_ => XS.iconst X0.here hx rfl (hb hby d4_75) k_) ?_
            refine own_st (S' := s₁.setTop (mkF m 77 #[.val (.int ((x1.toUInt32 >>> ((8 : Int32) &&& 31).toUInt32).toInt32)), .val (.int ((31 : Int32) + (-8 : Int32)))] [(.int ((((x1.toUInt32 >>> ((8 : Int32) &&& 31).toUInt32).toInt32).toUInt32 >>> ((1 : Int32) &&& 31).toUInt32).toInt32)), (.int ((31 : Int32) + (-8 : Int32)))])) (fun t_ k_ => XS.iushr X0.here hx rfl (hb hby d4_76) rfl k_) ?_
            refine own_st (S' := s₁.setTop (mkF m 78 #[.val (.int ((x1.toUInt32 >>> ((8 : Int32) &&& 31).toUInt32).toInt32)), .val (.int ((31 : Int32) + (-8 : Int32)))] [(.int (((31 : Int32) + (-8 : Int32)) - ((((x1.toUInt32 >>> ((8 : Int32) &&& 31).toUInt32).toInt32).toUInt32 >>> ((1 : Int32) &&& 31).toUInt32).toInt32)))])) (fun t_ k_ => XS.isub X0.here hx rfl (hb hby d4_77) rfl k_) ?_
            obtain ⟨fs, hr, hrun, hended, hW, hsame⟩ := X0.leave (v := some (.int (((31 : Int32) + (-8 : Int32)) - ((((x1.toUInt32 >>> ((8 : Int32) &&& 31).toUInt32).toInt32).toUInt32 >>> ((1 : Int32) &&& 31).toUInt32).toInt32)))) (fun h => by rw [Bd.returns] at h; cases h)
            refine ⟨_, _, retI X0 hx Bd.returns (hb hby d4_78) hr, hrun, hended, _, _, rfl, ?_, ⟨_, rfl⟩, hW, hsame.mono (by decide) (by decide)⟩
            show Q4 Z x1 h0 n0 _ s₁.heap _
            rw [e0]
            exact ⟨(congrArg (fun z => some (Value.int z)) (show (((31 : Int32) + (-8 : Int32)) - ((((x1.toUInt32 >>> ((8 : Int32) &&& 31).toUInt32).toInt32).toUInt32 >>> ((1 : Int32) &&& 31).toUInt32).toInt32)) = (own_nlz x1) from by simp only [own_nlz, own_n1, own_n2, own_n3, own_n4, hc1, hc22, hc37, hc51, hc63, if_true, if_false])), N0, rfl⟩
          · refine own_st (S' := s₁.setTop (mkF m 66 #[.val (.int ((x1.toUInt32 >>> ((8 : Int32) &&& 31).toUInt32).toInt32)), .val (.int ((31 : Int32) + (-8 : Int32)))] [])) (fun t_ k_ => XS.icmpNo X0.here hx rfl (hb hby d4_63) rfl (flt hc63).1 k_) ?_
            refine own_st (S' := s₁.setTop (mkF m 69 #[.val (.int ((x1.toUInt32 >>> ((8 : Int32) &&& 31).toUInt32).toInt32)), .val (.int (((31 : Int32) + (-8 : Int32)) + (-2 : Int32)))] [])) (fun t_ k_ => XS.iinc X0.here hx rfl (hb hby d4_66) rfl (l' := #[.val (.int ((x1.toUInt32 >>> ((8 : Int32) &&& 31).toUInt32).toInt32)), .val (.int (((31 : Int32) + (-8 : Int32)) + (-2 : Int32)))]) rfl k_) ?_
            refine own_st (S' := s₁.setTop (mkF m 70 #[.val (.int ((x1.toUInt32 >>> ((8 : Int32) &&& 31).toUInt32).toInt32)), .val (.int (((31 : Int32) + (-8 : Int32)) + (-2 : Int32)))] [(.int ((x1.toUInt32 >>> ((8 : Int32) &&& 31).toUInt32).toInt32))])) (fun t_ k_ => XS.iloadN X0.here hx rfl (hb hby d4_69) rfl k_) ?_
            refine own_st (S' := s₁.setTop (mkF m 71 #[.val (.int ((x1.toUInt32 >>> ((8 : Int32) &&& 31).toUInt32).toInt32)), .val (.int (((31 : Int32) + (-8 : Int32)) + (-2 : Int32)))] [(.int (2 : Int32)), (.int ((x1.toUInt32 >>> ((8 : Int32) &&& 31).toUInt32).toInt32))])) (fun t_ k_ => XS.iconst X0.here hx rfl (hb hby d4_70) k_) ?_
            refine own_st (S' := s₁.setTop (mkF m 72 #[.val (.int ((x1.toUInt32 >>> ((8 : Int32) &&& 31).toUInt32).toInt32)), .val (.int (((31 : Int32) + (-8 : Int32)) + (-2 : Int32)))] [(.int ((((x1.toUInt32 >>> ((8 : Int32) &&& 31).toUInt32).toInt32).toUInt32 >>> ((2 : Int32) &&& 31).toUInt32).toInt32))])) (fun t_ k_ => XS.iushr X0.here hx rfl (hb hby d4_71) rfl k_) ?_
            refine own_st (S' := s₁.setTop (mkF m 73 #[.val (.int ((((x1.toUInt32 >>> ((8 : Int32) &&& 31).toUInt32).toInt32).toUInt32 >>> ((2 : Int32) &&& 31).toUInt32).toInt32)), .val (.int (((31 : Int32) + (-8 : Int32)) + (-2 : Int32)))] [])) (fun t_ k_ => XS.istoreN X0.here hx rfl (hb hby d4_72) rfl (l' := #[.val (.int ((((x1.toUInt32 >>> ((8 : Int32) &&& 31).toUInt32).toInt32).toUInt32 >>> ((2 : Int32) &&& 31).toUInt32).toInt32)), .val (.int (((31 : Int32) + (-8 : Int32)) + (-2 : Int32)))]) rfl k_) ?_
            refine own_st (S' := s₁.setTop (mkF m 74 #[.val (.int ((((x1.toUInt32 >>> ((8 : Int32) &&& 31).toUInt32).toInt32).toUInt32 >>> ((2 : Int32) &&& 31).toUInt32).toInt32)), .val (.int (((31 : Int32) + (-8 : Int32)) + (-2 : Int32)))] [(.int (((31 : Int32) + (-8 : Int32)) + (-2 : Int32)))])) (fun t_ k_ => XS.iloadN X0.here hx rfl (hb hby d4_73) rfl k_) ?_
            refine own_st (S' := s₁.setTop (mkF m 75 #[.val (.int ((((x1.toUInt32 >>> ((8 : Int32) &&& 31).toUInt32).toInt32).toUInt32 >>> ((2 : Int32) &&& 31).toUInt32).toInt32)), .val (.int (((31 : Int32) + (-8 : Int32)) + (-2 : Int32)))] [(.int ((((x1.toUInt32 >>> ((8 : Int32) &&& 31).toUInt32).toInt32).toUInt32 >>> ((2 : Int32) &&& 31).toUInt32).toInt32)), (.int (((31 : Int32) + (-8 : Int32)) + (-2 : Int32)))])) (fun t_ k_ => XS.iloadN X0.here hx rfl (hb hby d4_74) rfl k_) ?_
            refine own_st (S' := s₁.setTop (mkF m 76 #[.val (.int ((((x1.toUInt32 >>> ((8 : Int32) &&& 31).toUInt32).toInt32).toUInt32 >>> ((2 : Int32) &&& 31).toUInt32).toInt32)), .val (.int (((31 : Int32) + (-8 : Int32)) + (-2 : Int32)))] [(.int (1 : Int32)), (.int ((((x1.toUInt32 >>> ((8 : Int32) &&& 31).toUInt32).toInt32).toUInt32 >>> ((2 : Int32) &&& 31).toUInt32).toInt32)), (.int (((31 : Int32) + (-8 : Int32)) + (-2 : Int32)))])) (fun t_ k_ => XS.iconst X0.here hx rfl (hb hby d4_75) k_) ?_
            refine own_st (S' := s₁.setTop (mkF m 77 #[.val (.int ((((x1.toUInt32 >>> ((8 : Int32) &&& 31).toUInt32).toInt32).toUInt32 >>> ((2 : Int32) &&& 31).toUInt32).toInt32)), .val (.int (((31 : Int32) + (-8 : Int32)) + (-2 : Int32)))] [(.int ((((((x1.toUInt32 >>> ((8 : Int32) &&& 31).toUInt32).toInt32).toUInt32 >>> ((2 : Int32) &&& 31).toUInt32).toInt32).toUInt32 >>> ((1 : Int32) &&& 31).toUInt32).toInt32)), (.int (((31 : Int32) + (-8 : Int32)) + (-2 : Int32)))])) (fun t_ k_ => XS.iushr X0.here hx rfl (hb hby d4_76) rfl k_) ?_
            refine own_st (S' := s₁.setTop (mkF m 78 #[.val (.int ((((x1.toUInt32 >>> ((8 : Int32) &&& 31).toUInt32).toInt32).toUInt32 >>> ((2 : Int32) &&& 31).toUInt32).toInt32)), .val (.int (((31 : Int32) + (-8 : Int32)) + (-2 : Int32)))] [(.int ((((31 : Int32) + (-8 : Int32)) + (-2 : Int32)) - ((((((x1.toUInt32 >>> ((8 : Int32) &&& 31).toUInt32).toInt32).toUInt32 >>> ((2 : Int32) &&& 31).toUInt32).toInt32).toUInt32 >>> ((1 : Int32) &&& 31).toUInt32).toInt32)))])) (fun t_ k_ => XS.isub X0.here hx rfl (hb hby d4_77) rfl k_) ?_
            obtain ⟨fs, hr, hrun, hended, hW, hsame⟩ := X0.leave (v := some (.int ((((31 : Int32) + (-8 : Int32)) + (-2 : Int32)) - ((((((x1.toUInt32 >>> ((8 : Int32) &&& 31).toUInt32).toInt32).toUInt32 >>> ((2 : Int32) &&& 31).toUInt32).toInt32).toUInt32 >>> ((1 : Int32) &&& 31).toUInt32).toInt32)))) (fun h => by rw [Bd.returns] at h; cases h)
            refine ⟨_, _, retI X0 hx Bd.returns (hb hby d4_78) hr, hrun, hended, _, _, rfl, ?_, ⟨_, rfl⟩, hW, hsame.mono (by decide) (by decide)⟩
            show Q4 Z x1 h0 n0 _ s₁.heap _
            rw [e0]
            exact ⟨(congrArg (fun z => some (Value.int z)) (show ((((31 : Int32) + (-8 : Int32)) + (-2 : Int32)) - ((((((x1.toUInt32 >>> ((8 : Int32) &&& 31).toUInt32).toInt32).toUInt32 >>> ((2 : Int32) &&& 31).toUInt32).toInt32).toUInt32 >>> ((1 : Int32) &&& 31).toUInt32).toInt32)) = (own_nlz x1) from by simp only [own_nlz, own_n1, own_n2, own_n3, own_n4, hc1, hc22, hc37, hc51, hc63, if_true, if_false])), N0, rfl⟩
        · refine own_st (S' := s₁.setTop (mkF m 54 #[.val (.int ((x1.toUInt32 >>> ((8 : Int32) &&& 31).toUInt32).toInt32)), .val (.int ((31 : Int32) + (-8 : Int32)))] [])) (fun t_ k_ => XS.icmpNo X0.here hx rfl (hb hby d4_51) rfl (flt hc51).1 k_) ?_
          refine own_st (S' := s₁.setTop (mkF m 57 #[.val (.int ((x1.toUInt32 >>> ((8 : Int32) &&& 31).toUInt32).toInt32)), .val (.int (((31 : Int32) + (-8 : Int32)) + (-4 : Int32)))] [])) (fun t_ k_ => XS.iinc X0.here hx rfl (hb hby d4_54) rfl (l' := #[.val (.int ((x1.toUInt32 >>> ((8 : Int32) &&& 31).toUInt32).toInt32)), .val (.int (((31 : Int32) + (-8 : Int32)) + (-4 : Int32)))]) rfl k_) ?_
          refine own_st (S' := s₁.setTop (mkF m 58 #[.val (.int ((x1.toUInt32 >>> ((8 : Int32) &&& 31).toUInt32).toInt32)), .val (.int (((31 : Int32) + (-8 : Int32)) + (-4 : Int32)))] [(.int ((x1.toUInt32 >>> ((8 : Int32) &&& 31).toUInt32).toInt32))])) (fun t_ k_ => XS.iloadN X0.here hx rfl (hb hby d4_57) rfl k_) ?_
          refine own_st (S' := s₁.setTop (mkF m 59 #[.val (.int ((x1.toUInt32 >>> ((8 : Int32) &&& 31).toUInt32).toInt32)), .val (.int (((31 : Int32) + (-8 : Int32)) + (-4 : Int32)))] [(.int (4 : Int32)), (.int ((x1.toUInt32 >>> ((8 : Int32) &&& 31).toUInt32).toInt32))])) (fun t_ k_ => XS.iconst X0.here hx rfl (hb hby d4_58) k_) ?_
          refine own_st (S' := s₁.setTop (mkF m 60 #[.val (.int ((x1.toUInt32 >>> ((8 : Int32) &&& 31).toUInt32).toInt32)), .val (.int (((31 : Int32) + (-8 : Int32)) + (-4 : Int32)))] [(.int ((((x1.toUInt32 >>> ((8 : Int32) &&& 31).toUInt32).toInt32).toUInt32 >>> ((4 : Int32) &&& 31).toUInt32).toInt32))])) (fun t_ k_ => XS.iushr X0.here hx rfl (hb hby d4_59) rfl k_) ?_
          refine own_st (S' := s₁.setTop (mkF m 61 #[.val (.int ((((x1.toUInt32 >>> ((8 : Int32) &&& 31).toUInt32).toInt32).toUInt32 >>> ((4 : Int32) &&& 31).toUInt32).toInt32)), .val (.int (((31 : Int32) + (-8 : Int32)) + (-4 : Int32)))] [])) (fun t_ k_ => XS.istoreN X0.here hx rfl (hb hby d4_60) rfl (l' := #[.val (.int ((((x1.toUInt32 >>> ((8 : Int32) &&& 31).toUInt32).toInt32).toUInt32 >>> ((4 : Int32) &&& 31).toUInt32).toInt32)), .val (.int (((31 : Int32) + (-8 : Int32)) + (-4 : Int32)))]) rfl k_) ?_
          refine own_st (S' := s₁.setTop (mkF m 62 #[.val (.int ((((x1.toUInt32 >>> ((8 : Int32) &&& 31).toUInt32).toInt32).toUInt32 >>> ((4 : Int32) &&& 31).toUInt32).toInt32)), .val (.int (((31 : Int32) + (-8 : Int32)) + (-4 : Int32)))] [(.int ((((x1.toUInt32 >>> ((8 : Int32) &&& 31).toUInt32).toInt32).toUInt32 >>> ((4 : Int32) &&& 31).toUInt32).toInt32))])) (fun t_ k_ => XS.iloadN X0.here hx rfl (hb hby d4_61) rfl k_) ?_
          refine own_st (S' := s₁.setTop (mkF m 63 #[.val (.int ((((x1.toUInt32 >>> ((8 : Int32) &&& 31).toUInt32).toInt32).toUInt32 >>> ((4 : Int32) &&& 31).toUInt32).toInt32)), .val (.int (((31 : Int32) + (-8 : Int32)) + (-4 : Int32)))] [(.int (4 : Int32)), (.int ((((x1.toUInt32 >>> ((8 : Int32) &&& 31).toUInt32).toInt32).toUInt32 >>> ((4 : Int32) &&& 31).toUInt32).toInt32))])) (fun t_ k_ => XS.iconst X0.here hx rfl (hb hby d4_62) k_) ?_
          by_cases hc63 : ((((x1.toUInt32 >>> ((8 : Int32) &&& 31).toUInt32).toInt32).toUInt32 >>> ((4 : Int32) &&& 31).toUInt32).toInt32) < (4 : Int32)
          · refine own_st (S' := s₁.setTop (mkF m 73 #[.val (.int ((((x1.toUInt32 >>> ((8 : Int32) &&& 31).toUInt32).toInt32).toUInt32 >>> ((4 : Int32) &&& 31).toUInt32).toInt32)), .val (.int (((31 : Int32) + (-8 : Int32)) + (-4 : Int32)))] [])) (fun t_ k_ => XS.icmpYes X0.here hx rfl (pc0 := 63) (pc' := 73) rfl (hb hby d4_63) rfl (tlt hc63).1 (by decide) (by decide) k_) ?_
            refine own_st (S' := s₁.setTop (mkF m 74 #[.val (.int ((((x1.toUInt32 >>> ((8 : Int32) &&& 31).toUInt32).toInt32).toUInt32 >>> ((4 : Int32) &&& 31).toUInt32).toInt32)), .val (.int (((31 : Int32) + (-8 : Int32)) + (-4 : Int32)))] [(.int (((31 : Int32) + (-8 : Int32)) + (-4 : Int32)))])) (fun t_ k_ => XS.iloadN X0.here hx rfl (hb hby d4_73) rfl k_) ?_
            refine own_st (S' := s₁.setTop (mkF m 75 #[.val (.int ((((x1.toUInt32 >>> ((8 : Int32) &&& 31).toUInt32).toInt32).toUInt32 >>> ((4 : Int32) &&& 31).toUInt32).toInt32)), .val (.int (((31 : Int32) + (-8 : Int32)) + (-4 : Int32)))] [(.int ((((x1.toUInt32 >>> ((8 : Int32) &&& 31).toUInt32).toInt32).toUInt32 >>> ((4 : Int32) &&& 31).toUInt32).toInt32)), (.int (((31 : Int32) + (-8 : Int32)) + (-4 : Int32)))])) (fun t_ k_ => XS.iloadN X0.here hx rfl (hb hby d4_74) rfl k_) ?_
            refine own_st (S' := s₁.setTop (mkF m 76 #[.val (.int ((((x1.toUInt32 >>> ((8 : Int32) &&& 31).toUInt32).toInt32).toUInt32 >>> ((4 : Int32) &&& 31).toUInt32).toInt32)), .val (.int (((31 : Int32) + (-8 : Int32)) + (-4 : Int32)))] [(.int (1 : Int32)), (.int ((((x1.toUInt32 >>> ((8 : Int32) &&& 31).toUInt32).toInt32).toUInt32 >>> ((4 : Int32) &&& 31).toUInt32).toInt32)), (.int (((31 : Int32) + (-8 : Int32)) + (-4 : Int32)))])) (fun t_ k_ => XS.iconst X0.here hx rfl (hb hby d4_75) k_) ?_
            refine own_st (S' := s₁.setTop (mkF m 77 #[.val (.int ((((x1.toUInt32 >>> ((8 : Int32) &&& 31).toUInt32).toInt32).toUInt32 >>> ((4 : Int32) &&& 31).toUInt32).toInt32)), .val (.int (((31 : Int32) + (-8 : Int32)) + (-4 : Int32)))] [(.int ((((((x1.toUInt32 >>> ((8 : Int32) &&& 31).toUInt32).toInt32).toUInt32 >>> ((4 : Int32) &&& 31).toUInt32).toInt32).toUInt32 >>> ((1 : Int32) &&& 31).toUInt32).toInt32)), (.int (((31 : Int32) + (-8 : Int32)) + (-4 : Int32)))])) (fun t_ k_ => XS.iushr X0.here hx rfl (hb hby d4_76) rfl k_) ?_
            refine own_st (S' := s₁.setTop (mkF m 78 #[.val (.int ((((x1.toUInt32 >>> ((8 : Int32) &&& 31).toUInt32).toInt32).toUInt32 >>> ((4 : Int32) &&& 31).toUInt32).toInt32)), .val (.int (((31 : Int32) + (-8 : Int32)) + (-4 : Int32)))] [(.int ((((31 : Int32) + (-8 : Int32)) + (-4 : Int32)) - ((((((x1.toUInt32 >>> ((8 : Int32) &&& 31).toUInt32).toInt32).toUInt32 >>> ((4 : Int32) &&& 31).toUInt32).toInt32).toUInt32 >>> ((1 : Int32) &&& 31).toUInt32).toInt32)))])) (fun t_ k_ => XS.isub X0.here hx rfl (hb hby d4_77) rfl k_) ?_
            obtain ⟨fs, hr, hrun, hended, hW, hsame⟩ := X0.leave (v := some (.int ((((31 : Int32) + (-8 : Int32)) + (-4 : Int32)) - ((((((x1.toUInt32 >>> ((8 : Int32) &&& 31).toUInt32).toInt32).toUInt32 >>> ((4 : Int32) &&& 31).toUInt32).toInt32).toUInt32 >>> ((1 : Int32) &&& 31).toUInt32).toInt32)))) (fun h => by rw [Bd.returns] at h; cases h)
            refine ⟨_, _, retI X0 hx Bd.returns (hb hby d4_78) hr, hrun, hended, _, _, rfl, ?_, ⟨_, rfl⟩, hW, hsame.mono (by decide) (by decide)⟩
            show Q4 Z x1 h0 n0 _ s₁.heap _
            rw [e0]
            exact ⟨(congrArg (fun z => some (Value.int z)) (show ((((31 : Int32) + (-8 : Int32)) + (-4 : Int32)) - ((((((x1.toUInt32 >>> ((8 : Int32) &&& 31).toUInt32).toInt32).toUInt32 >>> ((4 : Int32) &&& 31).toUInt32).toInt32).toUInt32 >>> ((1 : Int32) &&& 31).toUInt32).toInt32)) = (own_nlz x1) from by simp only [own_nlz, own_n1, own_n2, own_n3, own_n4, hc1, hc22, hc37, hc51, hc63, if_true, if_false])), N0, rfl⟩
          · refine own_st (S' := s₁.setTop (mkF m 66 #[.val (.int ((((x1.toUInt32 >>> ((8 : Int32) &&& 31).toUInt32).toInt32).toUInt32 >>> ((4 : Int32) &&& 31).toUInt32).toInt32)), .val (.int (((31 : Int32) + (-8 : Int32)) + (-4 : Int32)))] [])) (fun t_ k_ => XS.icmpNo X0.here hx rfl (hb hby d4_63) rfl (flt hc63).1 k_) ?_
            refine own_st (S' := s₁.setTop (mkF m 69 #[.val (.int ((((x1.toUInt32 >>> ((8 : Int32) &&& 31).toUInt32).toInt32).toUInt32 >>> ((4 : Int32) &&& 31).toUInt32).toInt32)), .val (.int ((((31 : Int32) + (-8 : Int32)) + (-4 : Int32)) + (-2 : Int32)))] [])) (fun t_ k_ => XS.iinc X0.here hx rfl (hb hby d4_66) rfl (l' := #[.val (.int ((((x1.toUInt32 >>> ((8 : Int32) &&& 31).toUInt32).toInt32).toUInt32 >>> ((4 : Int32) &&& 31).toUInt32).toInt32)), .val (.int ((((31 : Int32) + (-8 : Int32)) + (-4 : Int32)) + (-2 : Int32)))]) rfl k_) ?_
            refine own_st (S' := s₁.setTop (mkF m 70 #[.val (.int ((((x1.toUInt32 >>> ((8 : Int32) &&& 31).toUInt32).toInt32).toUInt32 >>> ((4 : Int32) &&& 31).toUInt32).toInt32)), .val (.int ((((31 : Int32) + (-8 : Int32)) + (-4 : Int32)) + (-2 : Int32)))] [(.int ((((x1.toUInt32 >>> ((8 : Int32) &&& 31).toUInt32).toInt32).toUInt32 >>> ((4 : Int32) &&& 31).toUInt32).toInt32))])) (fun t_ k_ => XS.iloadN X0.here hx rfl (hb hby d4_69) rfl k_) ?_
            refine own_st (S' := s₁.setTop (mkF m 71 #[.val (.int ((((x1.toUInt32 >>> ((8 : Int32) &&& 31).toUInt32).toInt32).toUInt32 >>> ((4 : Int32) &&& 31).toUInt32).toInt32)), .val (.int ((((31 : Int32) + (-8 : Int32)) + (-4 : Int32)) + (-2 : Int32)))] [(.int (2 : Int32)), (.int ((((x1.toUInt32 >>> ((8 : Int32) &&& 31).toUInt32).toInt32).toUInt32 >>> ((4 : Int32) &&& 31).toUInt32).toInt32))])) (fun t_ k_ => XS.iconst X0.here hx rfl (hb hby d4_70) k_) ?_
            refine own_st (S' := s₁.setTop (mkF m 72 #[.val (.int ((((x1.toUInt32 >>> ((8 : Int32) &&& 31).toUInt32).toInt32).toUInt32 >>> ((4 : Int32) &&& 31).toUInt32).toInt32)), .val (.int ((((31 : Int32) + (-8 : Int32)) + (-4 : Int32)) + (-2 : Int32)))] [(.int ((((((x1.toUInt32 >>> ((8 : Int32) &&& 31).toUInt32).toInt32).toUInt32 >>> ((4 : Int32) &&& 31).toUInt32).toInt32).toUInt32 >>> ((2 : Int32) &&& 31).toUInt32).toInt32))])) (fun t_ k_ => XS.iushr X0.here hx rfl (hb hby d4_71) rfl k_) ?_
            refine own_st (S' := s₁.setTop (mkF m 73 #[.val (.int ((((((x1.toUInt32 >>> ((8 : Int32) &&& 31).toUInt32).toInt32).toUInt32 >>> ((4 : Int32) &&& 31).toUInt32).toInt32).toUInt32 >>> ((2 : Int32) &&& 31).toUInt32).toInt32)), .val (.int ((((31 : Int32) + (-8 : Int32)) + (-4 : Int32)) + (-2 : Int32)))] [])) (fun t_ k_ => XS.istoreN X0.here hx rfl (hb hby d4_72) rfl (l' := #[.val (.int ((((((x1.toUInt32 >>> ((8 : Int32) &&& 31).toUInt32).toInt32).toUInt32 >>> ((4 : Int32) &&& 31).toUInt32).toInt32).toUInt32 >>> ((2 : Int32) &&& 31).toUInt32).toInt32)), .val (.int ((((31 : Int32) + (-8 : Int32)) + (-4 : Int32)) + (-2 : Int32)))]) rfl k_) ?_
            refine own_st (S' := s₁.setTop (mkF m 74 #[.val (.int ((((((x1.toUInt32 >>> ((8 : Int32) &&& 31).toUInt32).toInt32).toUInt32 >>> ((4 : Int32) &&& 31).toUInt32).toInt32).toUInt32 >>> ((2 : Int32) &&& 31).toUInt32).toInt32)), .val (.int ((((31 : Int32) + (-8 : Int32)) + (-4 : Int32)) + (-2 : Int32)))] [(.int ((((31 : Int32) + (-8 : Int32)) + (-4 : Int32)) + (-2 : Int32)))])) (fun t_ k_ => XS.iloadN X0.here hx rfl (hb hby d4_73) rfl k_) ?_
            refine own_st (S' := s₁.setTop (mkF m 75 #[.val (.int ((((((x1.toUInt32 >>> ((8 : Int32) &&& 31).toUInt32).toInt32).toUInt32 >>> ((4 : Int32) &&& 31).toUInt32).toInt32).toUInt32 >>> ((2 : Int32) &&& 31).toUInt32).toInt32)), .val (.int ((((31 : Int32) + (-8 : Int32)) + (-4 : Int32)) + (-2 : Int32)))] [(.int ((((((x1.toUInt32 >>> ((8 : Int32) &&& 31).toUInt32).toInt32).toUInt32 >>> ((4 : Int32) &&& 31).toUInt32).toInt32).toUInt32 >>> ((2 : Int32) &&& 31).toUInt32).toInt32)), (.int ((((31 : Int32) + (-8 : Int32)) + (-4 : Int32)) + (-2 : Int32)))])) (fun t_ k_ => XS.iloadN X0.here hx rfl (hb hby d4_74) rfl k_) ?_
            refine own_st (S' := s₁.setTop (mkF m 76 #[.val (.int ((((((x1.toUInt32 >>> ((8 : Int32) &&& 31).toUInt32).toInt32).toUInt32 >>> ((4 : Int32) &&& 31).toUInt32).toInt32).toUInt32 >>> ((2 : Int32) &&& 31).toUInt32).toInt32)), .val (.int ((((31 : Int32) + (-8 : Int32)) + (-4 : Int32)) + (-2 : Int32)))] [(.int (1 : Int32)), (.int ((((((x1.toUInt32 >>> ((8 : Int32) &&& 31).toUInt32).toInt32).toUInt32 >>> ((4 : Int32) &&& 31).toUInt32).toInt32).toUInt32 >>> ((2 : Int32) &&& 31).toUInt32).toInt32)), (.int ((((31 : Int32) + (-8 : Int32)) + (-4 : Int32)) + (-2 : Int32)))])) (fun t_ k_ => XS.iconst X0.here hx rfl (hb hby d4_75) k_) ?_
            refine own_st (S' := s₁.setTop (mkF m 77 #[.val (.int ((((((x1.toUInt32 >>> ((8 : Int32) &&& 31).toUInt32).toInt32).toUInt32 >>> ((4 : Int32) &&& 31).toUInt32).toInt32).toUInt32 >>> ((2 : Int32) &&& 31).toUInt32).toInt32)), .val (.int ((((31 : Int32) + (-8 : Int32)) + (-4 : Int32)) + (-2 : Int32)))] [(.int ((((((((x1.toUInt32 >>> ((8 : Int32) &&& 31).toUInt32).toInt32).toUInt32 >>> ((4 : Int32) &&& 31).toUInt32).toInt32).toUInt32 >>> ((2 : Int32) &&& 31).toUInt32).toInt32).toUInt32 >>> ((1 : Int32) &&& 31).toUInt32).toInt32)), (.int ((((31 : Int32) + (-8 : Int32)) + (-4 : Int32)) + (-2 : Int32)))])) (fun t_ k_ => XS.iushr X0.here hx rfl (hb hby d4_76) rfl k_) ?_
            refine own_st (S' := s₁.setTop (mkF m 78 #[.val (.int ((((((x1.toUInt32 >>> ((8 : Int32) &&& 31).toUInt32).toInt32).toUInt32 >>> ((4 : Int32) &&& 31).toUInt32).toInt32).toUInt32 >>> ((2 : Int32) &&& 31).toUInt32).toInt32)), .val (.int ((((31 : Int32) + (-8 : Int32)) + (-4 : Int32)) + (-2 : Int32)))] [(.int (((((31 : Int32) + (-8 : Int32)) + (-4 : Int32)) + (-2 : Int32)) - ((((((((x1.toUInt32 >>> ((8 : Int32) &&& 31).toUInt32).toInt32).toUInt32 >>> ((4 : Int32) &&& 31).toUInt32).toInt32).toUInt32 >>> ((2 : Int32) &&& 31).toUInt32).toInt32).toUInt32 >>> ((1 : Int32) &&& 31).toUInt32).toInt32)))])) (fun t_ k_ => XS.isub X0.here hx rfl (hb hby d4_77) rfl k_) ?_
            obtain ⟨fs, hr, hrun, hended, hW, hsame⟩ := X0.leave (v := some (.int (((((31 : Int32) + (-8 : Int32)) + (-4 : Int32)) + (-2 : Int32)) - ((((((((x1.toUInt32 >>> ((8 : Int32) &&& 31).toUInt32).toInt32).toUInt32 >>> ((4 : Int32) &&& 31).toUInt32).toInt32).toUInt32 >>> ((2 : Int32) &&& 31).toUInt32).toInt32).toUInt32 >>> ((1 : Int32) &&& 31).toUInt32).toInt32)))) (fun h => by rw [Bd.returns] at h; cases h)
            refine ⟨_, _, retI X0 hx Bd.returns (hb hby d4_78) hr, hrun, hended, _, _, rfl, ?_, ⟨_, rfl⟩, hW, hsame.mono (by decide) (by decide)⟩
            show Q4 Z x1 h0 n0 _ s₁.heap _
            rw [e0]
            exact ⟨(congrArg (fun z => some (Value.int z)) (show (((((31 : Int32) + (-8 : Int32)) + (-4 : Int32)) + (-2 : Int32)) - ((((((((x1.toUInt32 >>> ((8 : Int32) &&& 31).toUInt32).toInt32).toUInt32 >>> ((4 : Int32) &&& 31).toUInt32).toInt32).toUInt32 >>> ((2 : Int32) &&& 31).toUInt32).toInt32).toUInt32 >>> ((1 : Int32) &&& 31).toUInt32).toInt32)) = (own_nlz x1) from by simp only [own_nlz, own_n1, own_n2, own_n3, own_n4, hc1, hc22, hc37, hc51, hc63, if_true, if_false])), N0, rfl⟩
    · refine own_st (S' := s₁.setTop (mkF m 25 #[.val (.int x1), .val (.int (31 : Int32))] [])) (fun t_ k_ => XS.icmpNo X0.here hx rfl (hb hby d4_22) rfl (flt hc22).1 k_) ?_
      refine own_st (S' := s₁.setTop (mkF m 28 #[.val (.int x1), .val (.int ((31 : Int32) + (-16 : Int32)))] [])) (fun t_ k_ => XS.iinc X0.here hx rfl (hb hby d4_25) rfl (l' := #[.val (.int x1), .val (.int ((31 : Int32) + (-16 : Int32)))]) rfl k_) ?_
      refine own_st (S' := s₁.setTop (mkF m 29 #[.val (.int x1), .val (.int ((31 : Int32) + (-16 : Int32)))] [(.int x1)])) (fun t_ k_ => XS.iloadN X0.here hx rfl (hb hby d4_28) rfl k_) ?_
      refine own_st (S' := s₁.setTop (mkF m 31 #[.val (.int x1), .val (.int ((31 : Int32) + (-16 : Int32)))] [(.int (16 : Int32)), (.int x1)])) (fun t_ k_ => XS.bipush X0.here hx rfl (hb hby d4_29) k_) ?_
      refine own_st (S' := s₁.setTop (mkF m 32 #[.val (.int x1), .val (.int ((31 : Int32) + (-16 : Int32)))] [(.int ((x1.toUInt32 >>> ((16 : Int32) &&& 31).toUInt32).toInt32))])) (fun t_ k_ => XS.iushr X0.here hx rfl (hb hby d4_31) rfl k_) ?_
      refine own_st (S' := s₁.setTop (mkF m 33 #[.val (.int ((x1.toUInt32 >>> ((16 : Int32) &&& 31).toUInt32).toInt32)), .val (.int ((31 : Int32) + (-16 : Int32)))] [])) (fun t_ k_ => XS.istoreN X0.here hx rfl (hb hby d4_32) rfl (l' := #[.val (.int ((x1.toUInt32 >>> ((16 : Int32) &&& 31).toUInt32).toInt32)), .val (.int ((31 : Int32) + (-16 : Int32)))]) rfl k_) ?_
      refine own_st (S' := s₁.setTop (mkF m 34 #[.val (.int ((x1.toUInt32 >>> ((16 : Int32) &&& 31).toUInt32).toInt32)), .val (.int ((31 : Int32) + (-16 : Int32)))] [(.int ((x1.toUInt32 >>> ((16 : Int32) &&& 31).toUInt32).toInt32))])) (fun t_ k_ => XS.iloadN X0.here hx rfl (hb hby d4_33) rfl k_) ?_
      refine own_st (S' := s₁.setTop (mkF m 37 #[.val (.int ((x1.toUInt32 >>> ((16 : Int32) &&& 31).toUInt32).toInt32)), .val (.int ((31 : Int32) + (-16 : Int32)))] [(.int (256 : Int32)), (.int ((x1.toUInt32 >>> ((16 : Int32) &&& 31).toUInt32).toInt32))])) (fun t_ k_ => XS.sipush X0.here hx rfl (hb hby d4_34) k_) ?_
      by_cases hc37 : ((x1.toUInt32 >>> ((16 : Int32) &&& 31).toUInt32).toInt32) < (256 : Int32)
      · refine own_st (S' := s₁.setTop (mkF m 48 #[.val (.int ((x1.toUInt32 >>> ((16 : Int32) &&& 31).toUInt32).toInt32)), .val (.int ((31 : Int32) + (-16 : Int32)))] [])) (fun t_ k_ => XS.icmpYes X0.here hx rfl (pc0 := 37) (pc' := 48) rfl (hb hby d4_37) rfl (tlt hc37).1 (by decide) (by decide) k_) ?_
        refine own_st (S' := s₁.setTop (mkF m 49 #[.val (.int ((x1.toUInt32 >>> ((16 : Int32) &&& 31).toUInt32).toInt32)), .val (.int ((31 : Int32) + (-16 : Int32)))] [(.int ((x1.toUInt32 >>> ((16 : Int32) &&& 31).toUInt32).toInt32))])) (fun t_ k_ => XS.iloadN X0.here hx rfl (hb hby d4_48) rfl k_) ?_
        refine own_st (S' := s₁.setTop (mkF m 51 #[.val (.int ((x1.toUInt32 >>> ((16 : Int32) &&& 31).toUInt32).toInt32)), .val (.int ((31 : Int32) + (-16 : Int32)))] [(.int (16 : Int32)), (.int ((x1.toUInt32 >>> ((16 : Int32) &&& 31).toUInt32).toInt32))])) (fun t_ k_ => XS.bipush X0.here hx rfl (hb hby d4_49) k_) ?_
        by_cases hc51 : ((x1.toUInt32 >>> ((16 : Int32) &&& 31).toUInt32).toInt32) < (16 : Int32)
        · refine own_st (S' := s₁.setTop (mkF m 61 #[.val (.int ((x1.toUInt32 >>> ((16 : Int32) &&& 31).toUInt32).toInt32)), .val (.int ((31 : Int32) + (-16 : Int32)))] [])) (fun t_ k_ => XS.icmpYes X0.here hx rfl (pc0 := 51) (pc' := 61) rfl (hb hby d4_51) rfl (tlt hc51).1 (by decide) (by decide) k_) ?_
          refine own_st (S' := s₁.setTop (mkF m 62 #[.val (.int ((x1.toUInt32 >>> ((16 : Int32) &&& 31).toUInt32).toInt32)), .val (.int ((31 : Int32) + (-16 : Int32)))] [(.int ((x1.toUInt32 >>> ((16 : Int32) &&& 31).toUInt32).toInt32))])) (fun t_ k_ => XS.iloadN X0.here hx rfl (hb hby d4_61) rfl k_) ?_
          refine own_st (S' := s₁.setTop (mkF m 63 #[.val (.int ((x1.toUInt32 >>> ((16 : Int32) &&& 31).toUInt32).toInt32)), .val (.int ((31 : Int32) + (-16 : Int32)))] [(.int (4 : Int32)), (.int ((x1.toUInt32 >>> ((16 : Int32) &&& 31).toUInt32).toInt32))])) (fun t_ k_ => XS.iconst X0.here hx rfl (hb hby d4_62) k_) ?_
          by_cases hc63 : ((x1.toUInt32 >>> ((16 : Int32) &&& 31).toUInt32).toInt32) < (4 : Int32)
          · refine own_st (S' := s₁.setTop (mkF m 73 #[.val (.int ((x1.toUInt32 >>> ((16 : Int32) &&& 31).toUInt32).toInt32)), .val (.int ((31 : Int32) + (-16 : Int32)))] [])) (fun t_ k_ => XS.icmpYes X0.here hx rfl (pc0 := 63) (pc' := 73) rfl (hb hby d4_63) rfl (tlt hc63).1 (by decide) (by decide) k_) ?_
            refine own_st (S' := s₁.setTop (mkF m 74 #[.val (.int ((x1.toUInt32 >>> ((16 : Int32) &&& 31).toUInt32).toInt32)), .val (.int ((31 : Int32) + (-16 : Int32)))] [(.int ((31 : Int32) + (-16 : Int32)))])) (fun t_ k_ => XS.iloadN X0.here hx rfl (hb hby d4_73) rfl k_) ?_
            refine own_st (S' := s₁.setTop (mkF m 75 #[.val (.int ((x1.toUInt32 >>> ((16 : Int32) &&& 31).toUInt32).toInt32)), .val (.int ((31 : Int32) + (-16 : Int32)))] [(.int ((x1.toUInt32 >>> ((16 : Int32) &&& 31).toUInt32).toInt32)), (.int ((31 : Int32) + (-16 : Int32)))])) (fun t_ k_ => XS.iloadN X0.here hx rfl (hb hby d4_74) rfl k_) ?_
            refine own_st (S' := s₁.setTop (mkF m 76 #[.val (.int ((x1.toUInt32 >>> ((16 : Int32) &&& 31).toUInt32).toInt32)), .val (.int ((31 : Int32) + (-16 : Int32)))] [(.int (1 : Int32)), (.int ((x1.toUInt32 >>> ((16 : Int32) &&& 31).toUInt32).toInt32)), (.int ((31 : Int32) + (-16 : Int32)))])) (fun t_ k_ => XS.iconst X0.here hx rfl (hb hby d4_75) k_) ?_
            refine own_st (S' := s₁.setTop (mkF m 77 #[.val (.int ((x1.toUInt32 >>> ((16 : Int32) &&& 31).toUInt32).toInt32)), .val (.int ((31 : Int32) + (-16 : Int32)))] [(.int ((((x1.toUInt32 >>> ((16 : Int32) &&& 31).toUInt32).toInt32).toUInt32 >>> ((1 : Int32) &&& 31).toUInt32).toInt32)), (.int ((31 : Int32) + (-16 : Int32)))])) (fun t_ k_ => XS.iushr X0.here hx rfl (hb hby d4_76) rfl k_) ?_
            refine own_st (S' := s₁.setTop (mkF m 78 #[.val (.int ((x1.toUInt32 >>> ((16 : Int32) &&& 31).toUInt32).toInt32)), .val (.int ((31 : Int32) + (-16 : Int32)))] [(.int (((31 : Int32) + (-16 : Int32)) - ((((x1.toUInt32 >>> ((16 : Int32) &&& 31).toUInt32).toInt32).toUInt32 >>> ((1 : Int32) &&& 31).toUInt32).toInt32)))])) (fun t_ k_ => XS.isub X0.here hx rfl (hb hby d4_77) rfl k_) ?_
            obtain ⟨fs, hr, hrun, hended, hW, hsame⟩ := X0.leave (v := some (.int (((31 : Int32) + (-16 : Int32)) - ((((x1.toUInt32 >>> ((16 : Int32) &&& 31).toUInt32).toInt32).toUInt32 >>> ((1 : Int32) &&& 31).toUInt32).toInt32)))) (fun h => by rw [Bd.returns] at h; cases h)
            refine ⟨_, _, retI X0 hx Bd.returns (hb hby d4_78) hr, hrun, hended, _, _, rfl, ?_, ⟨_, rfl⟩, hW, hsame.mono (by decide) (by decide)⟩
            show Q4 Z x1 h0 n0 _ s₁.heap _
            rw [e0]
            exact ⟨(congrArg (fun z => some (Value.int z)) (show (((31 : Int32) + (-16 : Int32)) - ((((x1.toUInt32 >>> ((16 : Int32) &&& 31).toUInt32).toInt32).toUInt32 >>> ((1 : Int32) &&& 31).toUInt32).toInt32)) = (own_nlz x1) from by simp only [own_nlz, own_n1, own_n2, own_n3, own_n4, hc1, hc22, hc37, hc51, hc63, if_true, if_false])), N0, rfl⟩
          · refine own_st (S' := s₁.setTop (mkF m 66 #[.val (.int ((x1.toUInt32 >>> ((16 : Int32) &&& 31).toUInt32).toInt32)), .val (.int ((31 : Int32) + (-16 : Int32)))] [])) (fun t_ k_ => XS.icmpNo X0.here hx rfl (hb hby d4_63) rfl (flt hc63).1 k_) ?_
            refine own_st (S' := s₁.setTop (mkF m 69 #[.val (.int ((x1.toUInt32 >>> ((16 : Int32) &&& 31).toUInt32).toInt32)), .val (.int (((31 : Int32) + (-16 : Int32)) + (-2 : Int32)))] [])) (fun t_ k_ => XS.iinc X0.here hx rfl (hb hby d4_66) rfl (l' := #[.val (.int ((x1.toUInt32 >>> ((16 : Int32) &&& 31).toUInt32).toInt32)), .val (.int (((31 : Int32) + (-16 : Int32)) + (-2 : Int32)))]) rfl k_) ?_
            refine own_st (S' := s₁.setTop (mkF m 70 #[.val (.int ((x1.toUInt32 >>> ((16 : Int32) &&& 31).toUInt32).toInt32)), .val (.int (((31 : Int32) + (-16 : Int32)) + (-2 : Int32)))] [(.int ((x1.toUInt32 >>> ((16 : Int32) &&& 31).toUInt32).toInt32))])) (fun t_ k_ => XS.iloadN X0.here hx rfl (hb hby d4_69) rfl k_) ?_
            refine own_st (S' := s₁.setTop (mkF m 71 #[.val (.int ((x1.toUInt32 >>> ((16 : Int32) &&& 31).toUInt32).toInt32)), .val (.int (((31 : Int32) + (-16 : Int32)) + (-2 : Int32)))] [(.int (2 : Int32)), (.int ((x1.toUInt32 >>> ((16 : Int32) &&& 31).toUInt32).toInt32))])) (fun t_ k_ => XS.iconst X0.here hx rfl (hb hby d4_70) k_) ?_
            refine own_st (S' := s₁.setTop (mkF m 72 #[.val (.int ((x1.toUInt32 >>> ((16 : Int32) &&& 31).toUInt32).toInt32)), .val (.int (((31 : Int32) + (-16 : Int32)) + (-2 : Int32)))] [(.int ((((x1.toUInt32 >>> ((16 : Int32) &&& 31).toUInt32).toInt32).toUInt32 >>> ((2 : Int32) &&& 31).toUInt32).toInt32))])) (fun t_ k_ => XS.iushr X0.here hx rfl (hb hby d4_71) rfl k_) ?_
            refine own_st (S' := s₁.setTop (mkF m 73 #[.val (.int ((((x1.toUInt32 >>> ((16 : Int32) &&& 31).toUInt32).toInt32).toUInt32 >>> ((2 : Int32) &&& 31).toUInt32).toInt32)), .val (.int (((31 : Int32) + (-16 : Int32)) + (-2 : Int32)))] [])) (fun t_ k_ => XS.istoreN X0.here hx rfl (hb hby d4_72) rfl (l' := #[.val (.int ((((x1.toUInt32 >>> ((16 : Int32) &&& 31).toUInt32).toInt32).toUInt32 >>> ((2 : Int32) &&& 31).toUInt32).toInt32)), .val (.int (((31 : Int32) + (-16 : Int32)) + (-2 : Int32)))]) rfl k_) ?_
            refine own_st (S' := s₁.setTop (mkF m 74 #[.val (.int ((((x1.toUInt32 >>> ((16 : Int32) &&& 31).toUInt32).toInt32).toUInt32 >>> ((2 : Int32) &&& 31).toUInt32).toInt32)), .val (.int (((31 : Int32) + (-16 : Int32)) + (-2 : Int32)))] [(.int (((31 : Int32) + (-16 : Int32)) + (-2 : Int32)))])) (fun t_ k_ => XS.iloadN X0.here hx rfl (hb hby d4_73) rfl k_) ?_
            refine own_st (S' := s₁.setTop (mkF m 75 #[.val (.int ((((x1.toUInt32 >>> ((16 : Int32) &&& 31).toUInt32).toInt32).toUInt32 >>> ((2 : Int32) &&& 31).toUInt32).toInt32)), .val (.int (((31 : Int32) + (-16 : Int32)) + (-2 : Int32)))] [(.int ((((x1.toUInt32 >>> ((16 : Int32) &&& 31).toUInt32).toInt32).toUInt32 >>> ((2 : Int32) &&& 31).toUInt32).toInt32)), (.int (((31 : Int32) + (-16 : Int32)) + (-2 : Int32)))])) (fun t_ k_ => XS.iloadN X0.here hx rfl (hb hby d4_74) rfl k_) ?_
            refine own_st (S' := s₁.setTop (mkF m 76 #[.val (.int ((((x1.toUInt32 >>> ((16 : Int32) &&& 31).toUInt32).toInt32).toUInt32 >>> ((2 : Int32) &&& 31).toUInt32).toInt32)), .val (.int (((31 : Int32) + (-16 : Int32)) + (-2 : Int32)))] [(.int (1 : Int32)), (.int ((((x1.toUInt32 >>> ((16 : Int32) &&& 31).toUInt32).toInt32).toUInt32 >>> ((2 : Int32) &&& 31).toUInt32).toInt32)), (.int (((31 : Int32) + (-16 : Int32)) + (-2 : Int32)))])) (fun t_ k_ => XS.iconst X0.here hx rfl (hb hby d4_75) k_) ?_
            refine own_st (S' := s₁.setTop (mkF m 77 #[.val (.int ((((x1.toUInt32 >>> ((16 : Int32) &&& 31).toUInt32).toInt32).toUInt32 >>> ((2 : Int32) &&& 31).toUInt32).toInt32)), .val (.int (((31 : Int32) + (-16 : Int32)) + (-2 : Int32)))] [(.int ((((((x1.toUInt32 >>> ((16 : Int32) &&& 31).toUInt32).toInt32).toUInt32 >>> ((2 : Int32) &&& 31).toUInt32).toInt32).toUInt32 >>> ((1 : Int32) &&& 31).toUInt32).toInt32)), (.int (((31 : Int32) + (-16 : Int32)) + (-2 : Int32)))])) (fun t_ k_ => XS.iushr X0.here hx rfl (hb hby d4_76) rfl k_) ?_
            refine own_st (S' := s₁.setTop (mkF m 78 #[.val (.int ((((x1.toUInt32 >>> ((16 : Int32) &&& 31).toUInt32).toInt32).toUInt32 >>> ((2 : Int32) &&& 31).toUInt32).toInt32)), .val (.int (((31 : Int32) + (-16 : Int32)) + (-2 : Int32)))] [(.int ((((31 : Int32) + (-16 : Int32)) + (-2 : Int32)) - ((((((x1.toUInt32 >>> ((16 : Int32) &&& 31).toUInt32).toInt32).toUInt32 >>> ((2 : Int32) &&& 31).toUInt32).toInt32).toUInt32 >>> ((1 : Int32) &&& 31).toUInt32).toInt32)))])) (fun t_ k_ => XS.isub X0.here hx rfl (hb hby d4_77) rfl k_) ?_
            obtain ⟨fs, hr, hrun, hended, hW, hsame⟩ := X0.leave (v := some (.int ((((31 : Int32) + (-16 : Int32)) + (-2 : Int32)) - ((((((x1.toUInt32 >>> ((16 : Int32) &&& 31).toUInt32).toInt32).toUInt32 >>> ((2 : Int32) &&& 31).toUInt32).toInt32).toUInt32 >>> ((1 : Int32) &&& 31).toUInt32).toInt32)))) (fun h => by rw [Bd.returns] at h; cases h)
            refine ⟨_, _, retI X0 hx Bd.returns (hb hby d4_78) hr, hrun, hended, _, _, rfl, ?_, ⟨_, rfl⟩, hW, hsame.mono (by decide) (by decide)⟩
            show Q4 Z x1 h0 n0 _ s₁.heap _
            rw [e0]
            exact ⟨(congrArg (fun z => some (Value.int z)) (show ((((31 : Int32) + (-16 : Int32)) + (-2 : Int32)) - ((((((x1.toUInt32 >>> ((16 : Int32) &&& 31).toUInt32).toInt32).toUInt32 >>> ((2 : Int32) &&& 31).toUInt32).toInt32).toUInt32 >>> ((1 : Int32) &&& 31).toUInt32).toInt32)) = (own_nlz x1) from by simp only [own_nlz, own_n1, own_n2, own_n3, own_n4, hc1, hc22, hc37, hc51, hc63, if_true, if_false])), N0, rfl⟩
        · refine own_st (S' := s₁.setTop (mkF m 54 #[.val (.int ((x1.toUInt32 >>> ((16 : Int32) &&& 31).toUInt32).toInt32)), .val (.int ((31 : Int32) + (-16 : Int32)))] [])) (fun t_ k_ => XS.icmpNo X0.here hx rfl (hb hby d4_51) rfl (flt hc51).1 k_) ?_
          refine own_st (S' := s₁.setTop (mkF m 57 #[.val (.int ((x1.toUInt32 >>> ((16 : Int32) &&& 31).toUInt32).toInt32)), .val (.int (((31 : Int32) + (-16 : Int32)) + (-4 : Int32)))] [])) (fun t_ k_ => XS.iinc X0.here hx rfl (hb hby d4_54) rfl (l' := #[.val (.int ((x1.toUInt32 >>> ((16 : Int32) &&& 31).toUInt32).toInt32)), .val (.int (((31 : Int32) + (-16 : Int32)) + (-4 : Int32)))]) rfl k_) ?_
          refine own_st (S' := s₁.setTop (mkF m 58 #[.val (.int ((x1.toUInt32 >>> ((16 : Int32) &&& 31).toUInt32).toInt32)), .val (.int (((31 : Int32) + (-16 : Int32)) + (-4 : Int32)))] [(.int ((x1.toUInt32 >>> ((16 : Int32) &&& 31).toUInt32).toInt32))])) (fun t_ k_ => XS.iloadN X0.here hx rfl (hb hby d4_57) rfl k_) ?_
          refine own_st (S' := s₁.setTop (mkF m 59 #[.val (.int ((x1.toUInt32 >>> ((16 : Int32) &&& 31).toUInt32).toInt32)), .val (.int (((31 : Int32) + (-16 : Int32)) + (-4 : Int32)))] [(.int (4 : Int32)), (.int ((x1.toUInt32 >>> ((16 : Int32) &&& 31).toUInt32).toInt32))])) (fun t_ k_ => XS.iconst X0.here hx rfl (hb hby d4_58) k_) ?_
          refine own_st (S' := s₁.setTop (mkF m 60 #[.val (.int ((x1.toUInt32 >>> ((16 : Int32) &&& 31).toUInt32).toInt32)), .val (.int (((31 : Int32) + (-16 : Int32)) + (-4 : Int32)))] [(.int ((((x1.toUInt32 >>> ((16 : Int32) &&& 31).toUInt32).toInt32).toUInt32 >>> ((4 : Int32) &&& 31).toUInt32).toInt32))])) (fun t_ k_ => XS.iushr X0.here hx rfl (hb hby d4_59) rfl k_) ?_
          refine own_st (S' := s₁.setTop (mkF m 61 #[.val (.int ((((x1.toUInt32 >>> ((16 : Int32) &&& 31).toUInt32).toInt32).toUInt32 >>> ((4 : Int32) &&& 31).toUInt32).toInt32)), .val (.int (((31 : Int32) + (-16 : Int32)) + (-4 : Int32)))] [])) (fun t_ k_ => XS.istoreN X0.here hx rfl (hb hby d4_60) rfl (l' := #[.val (.int ((((x1.toUInt32 >>> ((16 : Int32) &&& 31).toUInt32).toInt32).toUInt32 >>> ((4 : Int32) &&& 31).toUInt32).toInt32)), .val (.int (((31 : Int32) + (-16 : Int32)) + (-4 : Int32)))]) rfl k_) ?_
          refine own_st (S' := s₁.setTop (mkF m 62 #[.val (.int ((((x1.toUInt32 >>> ((16 : Int32) &&& 31).toUInt32).toInt32).toUInt32 >>> ((4 : Int32) &&& 31).toUInt32).toInt32)), .val (.int (((31 : Int32) + (-16 : Int32)) + (-4 : Int32)))] [(.int ((((x1.toUInt32 >>> ((16 : Int32) &&& 31).toUInt32).toInt32).toUInt32 >>> ((4 : Int32) &&& 31).toUInt32).toInt32))])) (fun t_ k_ => XS.iloadN X0.here hx rfl (hb hby d4_61) rfl k_) ?_
          refine own_st (S' := s₁.setTop (mkF m 63 #[.val (.int ((((x1.toUInt32 >>> ((16 : Int32) &&& 31).toUInt32).toInt32).toUInt32 >>> ((4 : Int32) &&& 31).toUInt32).toInt32)), .val (.int (((31 : Int32) + (-16 : Int32)) + (-4 : Int32)))] [(.int (4 : Int32)), (.int ((((x1.toUInt32 >>> ((16 : Int32) &&& 31).toUInt32).toInt32).toUInt32 >>> ((4 : Int32) &&& 31).toUInt32).toInt32))])) (fun t_ k_ => XS.iconst X0.here hx rfl (hb hby d4_62) k_) ?_
          by_cases hc63 : ((((x1.toUInt32 >>> ((16 : Int32) &&& 31).toUInt32).toInt32).toUInt32 >>> ((4 : Int32) &&& 31).toUInt32).toInt32) < (4 : Int32)
          · refine own_st (S' := s₁.setTop (mkF m 73 #[.val (.int ((((x1.toUInt32 >>> ((16 : Int32) &&& 31).toUInt32).toInt32).toUInt32 >>> ((4 : Int32) &&& 31).toUInt32).toInt32)), .val (.int (((31 : Int32) + (-16 : Int32)) + (-4 : Int32)))] [])) (fun t_ k_ => XS.icmpYes X0.here hx rfl (pc0 := 63) (pc' := 73) rfl (hb hby d4_63) rfl (tlt hc63).1 (by decide) (by decide) k_) ?_
            refine own_st (S' := s₁.setTop (mkF m 74 #[.val (.int ((((x1.toUInt32 >>> ((16 : Int32) &&& 31).toUInt32).toInt32).toUInt32 >>> ((4 : Int32) &&& 31).toUInt32).toInt32)), .val (.int (((31 : Int32) + (-16 : Int32)) + (-4 : Int32)))] [(.int (((31 : Int32) + (-16 : Int32)) + (-4 : Int32)))])) (fun t_ k_ => XS.iloadN X0.here hx rfl (hb hby d4_73) rfl k_) ?_
            refine own_st (S' := s₁.setTop (mkF m 75 #[.val (.int ((((x1.toUInt32 >>> ((16 : Int32) &&& 31).toUInt32).toInt32).toUInt32 >>> ((4 : Int32) &&& 31).toUInt32).toInt32)), .val (.int (((31 : Int32) + (-16 : Int32)) + (-4 : Int32)))] [(.int ((((x1.toUInt32 >>> ((16 : Int32) &&& 31).toUInt32).toInt32).toUInt32 >>> ((4 : Int32) &&& 31).toUInt32).toInt32)), (.int (((31 : Int32) + (-16 : Int32)) + (-4 : Int32)))])) (fun t_ k_ => XS.iloadN X0.here hx rfl (hb hby d4_74) rfl k_) ?_
            refine own_st (S' := s₁.setTop (mkF m 76 #[.val (.int ((((x1.toUInt32 >>> ((16 : Int32) &&& 31).toUInt32).toInt32).toUInt32 >>> ((4 : Int32) &&& 31).toUInt32).toInt32)), .val (.int (((31 : Int32) + (-16 : Int32)) + (-4 : Int32)))] [(.int (1 : Int32)), (.int ((((x1.toUInt32 >>> ((16 : Int32) &&& 31).toUInt32).toInt32).toUInt32 >>> ((4 : Int32) &&& 31).toUInt32).toInt32)), (.int (((31 : Int32) + (-16 : Int32)) + (-4 : Int32)))])) (fun t_ k_ => XS.iconst X0.here hx rfl (hb hby d4_75) k_) ?_
            refine own_st (S' := s₁.setTop (mkF m 77 #[.val (.int ((((x1.toUInt32 >>> ((16 : Int32) &&& 31).toUInt32).toInt32).toUInt32 >>> ((4 : Int32) &&& 31).toUInt32).toInt32)), .val (.int (((31 : Int32) + (-16 : Int32)) + (-4 : Int32)))] [(.int ((((((x1.toUInt32 >>> ((16 : Int32) &&& 31).toUInt32).toInt32).toUInt32 >>> ((4 : Int32) &&& 31).toUInt32).toInt32).toUInt32 >>> ((1 : Int32) &&& 31).toUInt32).toInt32)), (.int (((31 : Int32) + (-16 : Int32)) + (-4 : Int32)))])) (fun t_ k_ => XS.iushr X0.here hx rfl (hb hby d4_76) rfl k_) ?_
            refine own_st (S' := s₁.setTop (mkF m 78 #[.val (.int ((((x1.toUInt32 >>> ((16 : Int32) &&& 31).toUInt32).toInt32).toUInt32 >>> ((4 : Int32) &&& 31).toUInt32).toInt32)), .val (.int (((31 : Int32) + (-16 : Int32)) + (-4 : Int32)))] [(.int ((((31 : Int32) + (-16 : Int32)) + (-4 : Int32)) - ((((((x1.toUInt32 >>> ((16 : Int32) &&& 31).toUInt32).toInt32).toUInt32 >>> ((4 : Int32) &&& 31).toUInt32).toInt32).toUInt32 >>> ((1 : Int32) &&& 31).toUInt32).toInt32)))])) (fun t_ k_ => XS.isub X0.here hx rfl (hb hby d4_77) rfl k_) ?_
            obtain ⟨fs, hr, hrun, hended, hW, hsame⟩ := X0.leave (v := some (.int ((((31 : Int32) + (-16 : Int32)) + (-4 : Int32)) - ((((((x1.toUInt32 >>> ((16 : Int32) &&& 31).toUInt32).toInt32).toUInt32 >>> ((4 : Int32) &&& 31).toUInt32).toInt32).toUInt32 >>> ((1 : Int32) &&& 31).toUInt32).toInt32)))) (fun h => by rw [Bd.returns] at h; cases h)
            refine ⟨_, _, retI X0 hx Bd.returns (hb hby d4_78) hr, hrun, hended, _, _, rfl, ?_, ⟨_, rfl⟩, hW, hsame.mono (by decide) (by decide)⟩
            show Q4 Z x1 h0 n0 _ s₁.heap _
            rw [e0]
            exact ⟨(congrArg (fun z => some (Value.int z)) (show ((((31 : Int32) + (-16 : Int32)) + (-4 : Int32)) - ((((((x1.toUInt32 >>> ((16 : Int32) &&& 31).toUInt32).toInt32).toUInt32 >>> ((4 : Int32) &&& 31).toUInt32).toInt32).toUInt32 >>> ((1 : Int32) &&& 31).toUInt32).toInt32)) = (own_nlz x1) from by simp only [own_nlz, own_n1, own_n2, own_n3, own_n4, hc1, hc22, hc37, hc51, hc63, if_true, if_false])), N0, rfl⟩
          · refine own_st (S' := s₁.setTop (mkF m 66 #[.val (.int ((((x1.toUInt32 >>> ((16 : Int32) &&& 31).toUInt32).toInt32).toUInt32 >>> ((4 : Int32) &&& 31).toUInt32).toInt32)), .val (.int (((31 : Int32) + (-16 : Int32)) + (-4 : Int32)))] [])) (fun t_ k_ => XS.icmpNo X0.here hx rfl (hb hby d4_63) rfl (flt hc63).1 k_) ?_
            refine own_st (S' := s₁.setTop (mkF m 69 #[.val (.int ((((x1.toUInt32 >>> ((16 : Int32) &&& 31).toUInt32).toInt32).toUInt32 >>> ((4 : Int32) &&& 31).toUInt32).toInt32)), .val (.int ((((31 : Int32) + (-16 : Int32)) + (-4 : Int32)) + (-2 : Int32)))] [])) (fun t_ k_ => XS.iinc X0.here hx rfl (hb hby d4_66) rfl (l' := #[.val (.int ((((x1.toUInt32 >>> ((16 : Int32) &&& 31).toUInt32).toInt32).toUInt32 >>> ((4 : Int32) &&& 31).toUInt32).toInt32)), .val (.int ((((31 : Int32) + (-16 : Int32)) + (-4 : Int32)) + (-2 : Int32)))]) rfl k_) ?_
            refine own_st (S' := s₁.setTop (mkF m 70 #[.val (.int ((((x1.toUInt32 >>> ((16 : Int32) &&& 31).toUInt32).toInt32).toUInt32 >>> ((4 : Int32) &&& 31).toUInt32).toInt32)), .val (.int ((((31 : Int32) + (-16 : Int32)) + (-4 : Int32)) + (-2 : Int32)))] [(.int ((((x1.toUInt32 >>> ((16 : Int32) &&& 31).toUInt32).toInt32).toUInt32 >>> ((4 : Int32) &&& 31).toUInt32).toInt32))])) (fun t_ k_ => XS.iloadN X0.here hx rfl (hb hby d4_69) rfl k_) ?_
            refine own_st (S' := s₁.setTop (mkF m 71 #[.val (.int ((((x1.toUInt32 >>> ((16 : Int32) &&& 31).toUInt32).toInt32).toUInt32 >>> ((4 : Int32) &&& 31).toUInt32).toInt32)), .val (.int ((((31 : Int32) + (-16 : Int32)) + (-4 : Int32)) + (-2 : Int32)))] [(.int (2 : Int32)), (.int ((((x1.toUInt32 >>> ((16 : Int32) &&& 31).toUInt32).toInt32).toUInt32 >>> ((4 : Int32) &&& 31).toUInt32).toInt32))])) (fun t_ k_ => XS.iconst X0.here hx rfl (hb hby d4_70) k_) ?_
            refine own_st (S' := s₁.setTop (mkF m 72 #[.val (.int ((((x1.toUInt32 >>> ((16 : Int32) &&& 31).toUInt32).toInt32).toUInt32 >>> ((4 : Int32) &&& 31).toUInt32).toInt32)), .val (.int ((((31 : Int32) + (-16 : Int32)) + (-4 : Int32)) + (-2 : Int32)))] [(.int ((((((x1.toUInt32 >>> ((16 : Int32) &&& 31).toUInt32).toInt32).toUInt32 >>> ((4 : Int32) &&& 31).toUInt32).toInt32).toUInt32 >>> ((2 : Int32) &&& 31).toUInt32).toInt32))])) (fun t_ k_ => XS.iushr X0.here hx rfl (hb hby d4_71) rfl k_) ?_
            refine own_st (S' := s₁.setTop (mkF m 73 #[.val (.int ((((((x1.toUInt32 >>> ((16 : Int32) &&& 31).toUInt32).toInt32).toUInt32 >>> ((4 : Int32) &&& 31).toUInt32).toInt32).toUInt32 >>> ((2 : Int32) &&& 31).toUInt32).toInt32)), .val (.int ((((31 : Int32) + (-16 : Int32)) + (-4 : Int32)) + (-2 : Int32)))] [])) (fun t_ k_ => XS.istoreN X0.here hx rfl (hb hby d4_72) rfl (l' := #[.val (.int ((((((x1.toUInt32 >>> ((16 : Int32) &&& 31).toUInt32).toInt32).toUInt32 >>> ((4 : Int32) &&& 31).toUInt32).toInt32).toUInt32 >>> ((2 : Int32) &&& 31).toUInt32).toInt32)), .val (.int ((((31 : Int32) + (-16 : Int32)) + (-4 : Int32)) + (-2 : Int32)))]) rfl k_) ?_
            refine own_st (S' := s₁.setTop (mkF m 74 #[.val (.int ((((((x1.toUInt32 >>> ((16 : Int32) &&& 31).toUInt32).toInt32).toUInt32 >>> ((4 : Int32) &&& 31).toUInt32).toInt32).toUInt32 >>> ((2 : Int32) &&& 31).toUInt32).toInt32)), .val (.int ((((31 : Int32) + (-16 : Int32)) + (-4 : Int32)) + (-2 : Int32)))] [(.int ((((31 : Int32) + (-16 : Int32)) + (-4 : Int32)) + (-2 : Int32)))])) (fun t_ k_ => XS.iloadN X0.here hx rfl (hb hby d4_73) rfl k_) ?_
            refine own_st (S' := s₁.setTop (mkF m 75 #[.val (.int ((((((x1.toUInt32 >>> ((16 : Int32) &&& 31).toUInt32).toInt32).toUInt32 >>> ((4 : Int32) &&& 31).toUInt32).toInt32).toUInt32 >>> ((2 : Int32) &&& 31).toUInt32).toInt32)), .val (.int ((((31 : Int32) + (-16 : Int32)) + (-4 : Int32)) + (-2 : Int32)))] [(.int ((((((x1.toUInt32 >>> ((16 : Int32) &&& 31).toUInt32).toInt32).toUInt32 >>> ((4 : Int32) &&& 31).toUInt32).toInt32).toUInt32 >>> ((2 : Int32) &&& 31).toUInt32).toInt32)), (.int ((((31 : Int32) + (-16 : Int32)) + (-4 : Int32)) + (-2 : Int32)))])) (fun t_ k_ => XS.iloadN X0.here hx rfl (hb hby d4_74) rfl k_) ?_
            refine own_st (S' := s₁.setTop (mkF m 76 #[.val (.int ((((((x1.toUInt32 >>> ((16 : Int32) &&& 31).toUInt32).toInt32).toUInt32 >>> ((4 : Int32) &&& 31).toUInt32).toInt32).toUInt32 >>> ((2 : Int32) &&& 31).toUInt32).toInt32)), .val (.int ((((31 : Int32) + (-16 : Int32)) + (-4 : Int32)) + (-2 : Int32)))] [(.int (1 : Int32)), (.int ((((((x1.toUInt32 >>> ((16 : Int32) &&& 31).toUInt32).toInt32).toUInt32 >>> ((4 : Int32) &&& 31).toUInt32).toInt32).toUInt32 >>> ((2 : Int32) &&& 31).toUInt32).toInt32)), (.int ((((31 : Int32) + (-16 : Int32)) + (-4 : Int32)) + (-2 : Int32)))])) (fun t_ k_ => XS.iconst X0.here hx rfl (hb hby d4_75) k_) ?_
            refine own_st (S' := s₁.setTop (mkF m 77 #[.val (.int ((((((x1.toUInt32 >>> ((16 : Int32) &&& 31).toUInt32).toInt32).toUInt32 >>> ((4 : Int32) &&& 31).toUInt32).toInt32).toUInt32 >>> ((2 : Int32) &&& 31).toUInt32).toInt32)), .val (.int ((((31 : Int32) + (-16 : Int32)) + (-4 : Int32)) + (-2 : Int32)))] [(.int ((((((((x1.toUInt32 >>> ((16 : Int32) &&& 31).toUInt32).toInt32).toUInt32 >>> ((4 : Int32) &&& 31).toUInt32).toInt32).toUInt32 >>> ((2 : Int32) &&& 31).toUInt32).toInt32).toUInt32 >>> ((1 : Int32) &&& 31).toUInt32).toInt32)), (.int ((((31 : Int32) + (-16 : Int32)) + (-4 : Int32)) + (-2 : Int32)))])) (fun t_ k_ => XS.iushr X0.here hx rfl (hb hby d4_76) rfl k_) ?_
            refine own_st (S' := s₁.setTop (mkF m 78 #[.val (.int ((((((x1.toUInt32 >>> ((16 : Int32) &&& 31).toUInt32).toInt32).toUInt32 >>> ((4 : Int32) &&& 31).toUInt32).toInt32).toUInt32 >>> ((2 : Int32) &&& 31).toUInt32).toInt32)), .val (.int ((((31 : Int32) + (-16 : Int32)) + (-4 : Int32)) + (-2 : Int32)))] [(.int (((((31 : Int32) + (-16 : Int32)) + (-4 : Int32)) + (-2 : Int32)) - ((((((((x1.toUInt32 >>> ((16 : Int32) &&& 31).toUInt32).toInt32).toUInt32 >>> ((4 : Int32) &&& 31).toUInt32).toInt32).toUInt32 >>> ((2 : Int32) &&& 31).toUInt32).toInt32).toUInt32 >>> ((1 : Int32) &&& 31).toUInt32).toInt32)))])) (fun t_ k_ => XS.isub X0.here hx rfl (hb hby d4_77) rfl k_) ?_
            obtain ⟨fs, hr, hrun, hended, hW, hsame⟩ := X0.leave (v := some (.int (((((31 : Int32) + (-16 : Int32)) + (-4 : Int32)) + (-2 : Int32)) - ((((((((x1.toUInt32 >>> ((16 : Int32) &&& 31).toUInt32).toInt32).toUInt32 >>> ((4 : Int32) &&& 31).toUInt32).toInt32).toUInt32 >>> ((2 : Int32) &&& 31).toUInt32).toInt32).toUInt32 >>> ((1 : Int32) &&& 31).toUInt32).toInt32)))) (fun h => by rw [Bd.returns] at h; cases h)
            refine ⟨_, _, retI X0 hx Bd.returns (hb hby d4_78) hr, hrun, hended, _, _, rfl, ?_, ⟨_, rfl⟩, hW, hsame.mono (by decide) (by decide)⟩
            show Q4 Z x1 h0 n0 _ s₁.heap _
            rw [e0]
            exact ⟨(congrArg (fun z => some (Value.int z)) (show (((((31 : Int32) + (-16 : Int32)) + (-4 : Int32)) + (-2 : Int32)) - ((((((((x1.toUInt32 >>> ((16 : Int32) &&& 31).toUInt32).toInt32).toUInt32 >>> ((4 : Int32) &&& 31).toUInt32).toInt32).toUInt32 >>> ((2 : Int32) &&& 31).toUInt32).toInt32).toUInt32 >>> ((1 : Int32) &&& 31).toUInt32).toInt32)) = (own_nlz x1) from by simp only [own_nlz, own_n1, own_n2, own_n3, own_n4, hc1, hc22, hc37, hc51, hc63, if_true, if_false])), N0, rfl⟩
      · refine own_st (S' := s₁.setTop (mkF m 40 #[.val (.int ((x1.toUInt32 >>> ((16 : Int32) &&& 31).toUInt32).toInt32)), .val (.int ((31 : Int32) + (-16 : Int32)))] [])) (fun t_ k_ => XS.icmpNo X0.here hx rfl (hb hby d4_37) rfl (flt hc37).1 k_) ?_
        refine own_st (S' := s₁.setTop (mkF m 43 #[.val (.int ((x1.toUInt32 >>> ((16 : Int32) &&& 31).toUInt32).toInt32)), .val (.int (((31 : Int32) + (-16 : Int32)) + (-8 : Int32)))] [])) (fun t_ k_ => XS.iinc X0.here hx rfl (hb hby d4_40) rfl (l' := #[.val (.int ((x1.toUInt32 >>> ((16 : Int32) &&& 31).toUInt32).toInt32)), .val (.int (((31 : Int32) + (-16 : Int32)) + (-8 : Int32)))]) rfl k_) ?_
        refine own_st (S' := s₁.setTop (mkF m 44 #[.val (.int ((x1.toUInt32 >>> ((16 : Int32) &&& 31).toUInt32).toInt32)), .val (.int (((31 : Int32) + (-16 : Int32)) + (-8 : Int32)))] [(.int ((x1.toUInt32 >>> ((16 : Int32) &&& 31).toUInt32).toInt32))])) (fun t_ k_ => XS.iloadN X0.here hx rfl (hb hby d4_43) rfl k_) ?_
        refine own_st (S' := s₁.setTop (mkF m 46 #[.val (.int ((x1.toUInt32 >>> ((16 : Int32) &&& 31).toUInt32).toInt32)), .val (.int (((31 : Int32) + (-16 : Int32)) + (-8 : Int32)))] [(.int (8 : Int32)), (.int ((x1.toUInt32 >>> ((16 : Int32) &&& 31).toUInt32).toInt32))])) (fun t_ k_ => XS.bipush X0.here hx rfl (hb hby d4_44) k_) ?_
        refine own_st (S' := s₁.setTop (mkF m 47 #[.val (.int ((x1.toUInt32 >>> ((16 : Int32) &&& 31).toUInt32).toInt32)), .val (.int (((31 : Int32) + (-16 : Int32)) + (-8 : Int32)))] [(.int ((((x1.toUInt32 >>> ((16 : Int32) &&& 31).toUInt32).toInt32).toUInt32 >>> ((8 : Int32) &&& 31).toUInt32).toInt32))])) (fun t_ k_ => XS.iushr X0.here hx rfl (hb hby d4_46) rfl k_) ?_
        refine own_st (S' := s₁.setTop (mkF m 48 #[.val (.int ((((x1.toUInt32 >>> ((16 : Int32) &&& 31).toUInt32).toInt32).toUInt32 >>> ((8 : Int32) &&& 31).toUInt32).toInt32)), .val (.int (((31 : Int32) + (-16 : Int32)) + (-8 : Int32)))] [])) (fun t_ k_ => XS.istoreN X0.here hx rfl (hb hby d4_47) rfl (l' := #[.val (.int ((((x1.toUInt32 >>> ((16 : Int32) &&& 31).toUInt32).toInt32).toUInt32 >>> ((8 : Int32) &&& 31).toUInt32).toInt32)), .val (.int (((31 : Int32) + (-16 : Int32)) + (-8 : Int32)))]) rfl k_) ?_
        refine own_st (S' := s₁.setTop (mkF m 49 #[.val (.int ((((x1.toUInt32 >>> ((16 : Int32) &&& 31).toUInt32).toInt32).toUInt32 >>> ((8 : Int32) &&& 31).toUInt32).toInt32)), .val (.int (((31 : Int32) + (-16 : Int32)) + (-8 : Int32)))] [(.int ((((x1.toUInt32 >>> ((16 : Int32) &&& 31).toUInt32).toInt32).toUInt32 >>> ((8 : Int32) &&& 31).toUInt32).toInt32))])) (fun t_ k_ => XS.iloadN X0.here hx rfl (hb hby d4_48) rfl k_) ?_
        refine own_st (S' := s₁.setTop (mkF m 51 #[.val (.int ((((x1.toUInt32 >>> ((16 : Int32) &&& 31).toUInt32).toInt32).toUInt32 >>> ((8 : Int32) &&& 31).toUInt32).toInt32)), .val (.int (((31 : Int32) + (-16 : Int32)) + (-8 : Int32)))] [(.int (16 : Int32)), (.int ((((x1.toUInt32 >>> ((16 : Int32) &&& 31).toUInt32).toInt32).toUInt32 >>> ((8 : Int32) &&& 31).toUInt32).toInt32))])) (fun t_ k_ => XS.bipush X0.here hx rfl (hb hby d4_49) k_) ?_
        by_cases hc51 : ((((x1.toUInt32 >>> ((16 : Int32) &&& 31).toUInt32).toInt32).toUInt32 >>> ((8 : Int32) &&& 31).toUInt32).toInt32) < (16 : Int32)
        · refine own_st (S' := s₁.setTop (mkF m 61 #[.val (.int ((((x1.toUInt32 >>> ((16 : Int32) &&& 31).toUInt32).toInt32).toUInt32 >>> ((8 : Int32) &&& 31).toUInt32).toInt32)), .val (.int (((31 : Int32) + (-16 : Int32)) + (-8 : Int32)))] [])) (fun t_ k_ => XS.icmpYes X0.here hx rfl (pc0 := 51) (pc' := 61) rfl (hb hby d4_51) rfl (tlt hc51).1 (by decide) (by decide) k_) ?_
          refine own_st (S' := s₁.setTop (mkF m 62 #[.val (.int ((((x1.toUInt32 >>> ((16 : Int32) &&& 31).toUInt32).toInt32).toUInt32 >>> ((8 : Int32) &&& 31).toUInt32).toInt32)), .val (.int (((31 : Int32) + (-16 : Int32)) + (-8 : Int32)))] [(.int ((((x1.toUInt32 >>> ((16 : Int32) &&& 31).toUInt32).toInt32).toUInt32 >>> ((8 : Int32) &&& 31).toUInt32).toInt32))])) (fun t_ k_ => XS.iloadN X0.here hx rfl (hb hby d4_61) rfl k_) ?_
          refine own_st (S' := s₁.setTop (mkF m 63 #[.val (.int ((((x1.toUInt32 >>> ((16 : Int32) &&& 31).toUInt32).toInt32).toUInt32 >>> ((8 : Int32) &&& 31).toUInt32).toInt32)), .val (.int (((31 : Int32) + (-16 : Int32)) + (-8 : Int32)))] [(.int (4 : Int32)), (.int ((((x1.toUInt32 >>> ((16 : Int32) &&& 31).toUInt32).toInt32).toUInt32 >>> ((8 : Int32) &&& 31).toUInt32).toInt32))])) (fun t_ k_ => XS.iconst X0.here hx rfl (hb hby d4_62) k_) ?_
          by_cases hc63 : ((((x1.toUInt32 >>> ((16 : Int32) &&& 31).toUInt32).toInt32).toUInt32 >>> ((8 : Int32) &&& 31).toUInt32).toInt32) < (4 : Int32)
          · refine own_st (S' := s₁.setTop (mkF m 73 #[.val (.int ((((x1.toUInt32 >>> ((16 : Int32) &&& 31).toUInt32).toInt32).toUInt32 >>> ((8 : Int32) &&& 31).toUInt32).toInt32)), .val (.int (((31 : Int32) + (-16 : Int32)) + (-8 : Int32)))] [])) (fun t_ k_ => XS.icmpYes X0.here hx rfl (pc0 := 63) (pc' := 73) rfl (hb hby d4_63) rfl (tlt hc63).1 (by decide) (by decide) k_) ?_
            refine own_st (S' := s₁.setTop (mkF m 74 #[.val (.int ((((x1.toUInt32 >>> ((16 : Int32) &&& 31).toUInt32).toInt32).toUInt32 >>> ((8 : Int32) &&& 31).toUInt32).toInt32)), .val (.int (((31 : Int32) + (-16 : Int32)) + (-8 : Int32)))] [(.int (((31 : Int32) + (-16 : Int32)) + (-8 : Int32)))])) (fun t_ k_ => XS.iloadN X0.here hx rfl (hb hby d4_73) rfl k_) ?_
            refine own_st (S' := s₁.setTop (mkF m 75 #[.val (.int ((((x1.toUInt32 >>> ((16 : Int32) &&& 31).toUInt32).toInt32).toUInt32 >>> ((8 : Int32) &&& 31).toUInt32).toInt32)), .val (.int (((31 : Int32) + (-16 : Int32)) + (-8 : Int32)))] [(.int ((((x1.toUInt32 >>> ((16 : Int32) &&& 31).toUInt32).toInt32).toUInt32 >>> ((8 : Int32) &&& 31).toUInt32).toInt32)), (.int (((31 : Int32) + (-16 : Int32)) + (-8 : Int32)))])) (fun t_ k_ => XS.iloadN X0.here hx rfl (hb hby d4_74) rfl k_) ?_
            refine own_st (S' := s₁.setTop (mkF m 76 #[.val (.int ((((x1.toUInt32 >>> ((16 : Int32) &&& 31).toUInt32).toInt32).toUInt32 >>> ((8 : Int32) &&& 31).toUInt32).toInt32)), .val (.int (((31 : Int32) + (-16 : Int32)) + (-8 : Int32)))] [(.int (1 : Int32)), (.int ((((x1.toUInt32 >>> ((16 : Int32) &&& 31).toUInt32).toInt32).toUInt32 >>> ((8 : Int32) &&& 31).toUInt32).toInt32)), (.int (((31 : Int32) + (-16 : Int32)) + (-8 : Int32)))])) (fun t_ k_ => XS.iconst X0.here hx rfl (hb hby d4_75) k_) ?_
            refine own_st (S' := s₁.setTop (mkF m 77 #[.val (.int ((((x1.toUInt32 >>> ((16 : Int32) &&& 31).toUInt32).toInt32).toUInt32 >>> ((8 : Int32) &&& 31).toUInt32).toInt32)), .val (.int (((31 : Int32) + (-16 : Int32)) + (-8 : Int32)))] [(.int ((((((x1.toUInt32 >>> ((16 : Int32) &&& 31).toUInt32).toInt32).toUInt32 >>> ((8 : Int32) &&& 31).toUInt32).toInt32).toUInt32 >>> ((1 : Int32) &&& 31).toUInt32).toInt32)), (.int (((31 : Int32) + (-16 : Int32)) + (-8 : Int32)))])) (fun t_ k_ => XS.iushr X0.here hx rfl (hb hby d4_76) rfl k_) ?_
            refine own_st (S' := s₁.setTop (mkF m 78 #[.val (.int ((((x1.toUInt32 >>> ((16 : Int32) &&& 31).toUInt32).toInt32).toUInt32 >>> ((8 : Int32) &&& 31).toUInt32).toInt32)), .val (.int (((31 : Int32) + (-16 : Int32)) + (-8 : Int32)))] [(.int ((((31 : Int32) + (-16 : Int32)) + (-8 : Int32)) - ((((((x1.toUInt32 >>> ((16 : Int32) &&& 31).toUInt32).toInt32).toUInt32 >>> ((8 : Int32) &&& 31).toUInt32).toInt32).toUInt32 >>> ((1 : Int32) &&& 31).toUInt32).toInt32)))])) (fun t_ k_ => XS.isub X0.here hx rfl (hb hby d4_77) rfl k_) ?_
            obtain ⟨fs, hr, hrun, hended, hW, hsame⟩ := X0.leave (v := some (.int ((((31 : Int32) + (-16 : Int32)) + (-8 : Int32)) - ((((((x1.toUInt32 >>> ((16 : Int32) &&& 31).toUInt32).toInt32).toUInt32 >>> ((8 : Int32) &&& 31).toUInt32).toInt32).toUInt32 >>> ((1 : Int32) &&& 31).toUInt32).toInt32)))) (fun h => by rw [Bd.returns] at h; cases h)
            refine ⟨_, _, retI X0 hx Bd.returns (hb hby d4_78) hr, hrun, hended, _, _, rfl, ?_, ⟨_, rfl⟩, hW, hsame.mono (by decide) (by decide)⟩
            show Q4 Z x1 h0 n0 _ s₁.heap _
            rw [e0]
            exact ⟨(congrArg (fun z => some (Value.int z)) (show ((((31 : Int32) + (-16 : Int32)) + (-8 : Int32)) - ((((((x1.toUInt32 >>> ((16 : Int32) &&& 31).toUInt32).toInt32).toUInt32 >>> ((8 : Int32) &&& 31).toUInt32).toInt32).toUInt32 >>> ((1 : Int32) &&& 31).toUInt32).toInt32)) = (own_nlz x1) from by simp only [own_nlz, own_n1, own_n2, own_n3, own_n4, hc1, hc22, hc37, hc51, hc63, if_true, if_false])), N0, rfl⟩
          · refine own_st (S' := s₁.setTop (mkF m 66 #[.val (.int ((((x1.toUInt32 >>> ((16 : Int32) &&& 31).toUInt32).toInt32).toUInt32 >>> ((8 : Int32) &&& 31).toUInt32).toInt32)), .val (.int (((31 : Int32) + (-16 : Int32)) + (-8 : Int32)))] [])) (fun t_ k_ => XS.icmpNo X0.here hx rfl (hb hby d4_63) rfl (flt hc63).1 k_) ?_
            refine own_st (S' := s₁.setTop (mkF m 69 #[.val (.int ((((x1.toUInt32 >>> ((16 : Int32) &&& 31).toUInt32).toInt32).toUInt32 >>> ((8 : Int32) &&& 31).toUInt32).toInt32)), .val (.int ((((31 : Int32) + (-16 : Int32)) + (-8 : Int32)) + (-2 : Int32)))] [])) (fun t_ k_ => XS.iinc X0.here hx rfl (hb hby d4_66) rfl (l' := #[.val (.int ((((x1.toUInt32 >>> ((16 : Int32) &&& 31).toUInt32).toInt32).toUInt32 >>> ((8 : Int32) &&& 31).toUInt32).toInt32)), .val (.int ((((31 : Int32) + (-16 : Int32)) + (-8 : Int32)) + (-2 : Int32)))]) rfl k_) ?_
            refine own_st (S' := s₁.setTop (mkF m 70 #[.val (.int ((((x1.toUInt32 >>> ((16 : Int32) &&& 31).toUInt32).toInt32).toUInt32 >>> ((8 : Int32) &&& 31).toUInt32).toInt32)), .val (.int ((((31 : Int32) + (-16 : Int32)) + (-8 : Int32)) + (-2 : Int32)))] [(.int ((((x1.toUInt32 >>> ((16 : Int32) &&& 31).toUInt32).toInt32).toUInt32 >>> ((8 : Int32) &&& 31).toUInt32).toInt32))])) (fun t_ k_ => XS.iloadN X0.here hx rfl (hb hby d4_69) rfl k_) ?_
            refine own_st (S' := s₁.setTop (mkF m 71 #[.val (.int ((((x1.toUInt32 >>> ((16 : Int32) &&& 31).toUInt32).toInt32).toUInt32 >>> ((8 : Int32) &&& 31).toUInt32).toInt32)), .val (.int ((((31 : Int32) + (-16 : Int32)) + (-8 : Int32)) + (-2 : Int32)))] [(.int (2 : Int32)), (.int ((((x1.toUInt32 >>> ((16 : Int32) &&& 31).toUInt32).toInt32).toUInt32 >>> ((8 : Int32) &&& 31).toUInt32).toInt32))])) (fun t_ k_ => XS.iconst X0.here hx rfl (hb hby d4_70) k_) ?_
            refine own_st (S' := s₁.setTop (mkF m 72 #[.val (.int ((((x1.toUInt32 >>> ((16 : Int32) &&& 31).toUInt32).toInt32).toUInt32 >>> ((8 : Int32) &&& 31).toUInt32).toInt32)), .val (.int ((((31 : Int32) + (-16 : Int32)) + (-8 : Int32)) + (-2 : Int32)))] [(.int ((((((x1.toUInt32 >>> ((16 : Int32) &&& 31).toUInt32).toInt32).toUInt32 >>> ((8 : Int32) &&& 31).toUInt32).toInt32).toUInt32 >>> ((2 : Int32) &&& 31).toUInt32).toInt32))])) (fun t_ k_ => XS.iushr X0.here hx rfl (hb hby d4_71) rfl k_) ?_
            refine own_st (S' := s₁.setTop (mkF m 73 #[.val (.int ((((((x1.toUInt32 >>> ((16 : Int32) &&& 31).toUInt32).toInt32).toUInt32 >>> ((8 : Int32) &&& 31).toUInt32).toInt32).toUInt32 >>> ((2 : Int32) &&& 31).toUInt32).toInt32)), .val (.int ((((31 : Int32) + (-16 : Int32)) + (-8 : Int32)) + (-2 : Int32)))] [])) (fun t_ k_ => XS.istoreN X0.here hx rfl (hb hby d4_72) rfl (l' := #[.val (.int ((((((x1.toUInt32 >>> ((16 : Int32) &&& 31).toUInt32).toInt32).toUInt32 >>> ((8 : Int32) &&& 31).toUInt32).toInt32).toUInt32 >>> ((2 : Int32) &&& 31).toUInt32).toInt32)), .val (.int ((((31 : Int32) + (-16 : Int32)) + (-8 : Int32)) + (-2 : Int32)))]) rfl k_) ?_
            refine own_st (S' := s₁.setTop (mkF m 74 #[.val (.int ((((((x1.toUInt32 >>> ((16 : Int32) &&& 31).toUInt32).toInt32).toUInt32 >>> ((8 : Int32) &&& 31).toUInt32).toInt32).toUInt32 >>> ((2 : Int32) &&& 31).toUInt32).toInt32)), .val (.int ((((31 : Int32) + (-16 : Int32)) + (-8 : Int32)) + (-2 : Int32)))] [(.int ((((31 : Int32) + (-16 : Int32)) + (-8 : Int32)) + (-2 : Int32)))])) (fun t_ k_ => XS.iloadN X0.here hx rfl (hb hby d4_73) rfl k_) ?_
            refine own_st (S' := s₁.setTop (mkF m 75 #[.val (.int ((((((x1.toUInt32 >>> ((16 : Int32) &&& 31).toUInt32).toInt32).toUInt32 >>> ((8 : Int32) &&& 31).toUInt32).toInt32).toUInt32 >>> ((2 : Int32) &&& 31).toUInt32).toInt32)), .val (.int ((((31 : Int32) + (-16 : Int32)) + (-8 : Int32)) + (-2 : Int32)))] [(.int ((((((x1.toUInt32 >>> ((16 : Int32) &&& 31).toUInt32).toInt32).toUInt32 >>> ((8 : Int32) &&& 31).toUInt32).toInt32).toUInt32 >>> ((2 : Int32) &&& 31).toUInt32).toInt32)), (.int ((((31 : Int32) + (-16 : Int32)) + (-8 : Int32)) + (-2 : Int32)))])) (fun t_ k_ => XS.iloadN X0.here hx rfl (hb hby d4_74) rfl k_) ?_
            refine own_st (S' := s₁.setTop (mkF m 76 #[.val (.int ((((((x1.toUInt32 >>> ((16 : Int32) &&& 31).toUInt32).toInt32).toUInt32 >>> ((8 : Int32) &&& 31).toUInt32).toInt32).toUInt32 >>> ((2 : Int32) &&& 31).toUInt32).toInt32)), .val (.int ((((31 : Int32) + (-16 : Int32)) + (-8 : Int32)) + (-2 : Int32)))] [(.int (1 : Int32)), (.int ((((((x1.toUInt32 >>> ((16 : Int32) &&& 31).toUInt32).toInt32).toUInt32 >>> ((8 : Int32) &&& 31).toUInt32).toInt32).toUInt32 >>> ((2 : Int32) &&& 31).toUInt32).toInt32)), (.int ((((31 : Int32) + (-16 : Int32)) + (-8 : Int32)) + (-2 : Int32)))])) (fun t_ k_ => XS.iconst X0.here hx rfl (hb hby d4_75) k_) ?_
            refine own_st (S' := s₁.setTop (mkF m 77 #[.val (.int ((((((x1.toUInt32 >>> ((16 : Int32) &&& 31).toUInt32).toInt32).toUInt32 >>> ((8 : Int32) &&& 31).toUInt32).toInt32).toUInt32 >>> ((2 : Int32) &&& 31).toUInt32).toInt32)), .val (.int ((((31 : Int32) + (-16 : Int32)) + (-8 : Int32)) + (-2 : Int32)))] [(.int ((((((((x1.toUInt32 >>> ((16 : Int32) &&& 31).toUInt32).toInt32).toUInt32 >>> ((8 : Int32) &&& 31).toUInt32).toInt32).toUInt32 >>> ((2 : Int32) &&& 31).toUInt32).toInt32).toUInt32 >>> ((1 : Int32) &&& 31).toUInt32).toInt32)), (.int ((((31 : Int32) + (-16 : Int32)) + (-8 : Int32)) + (-2 : Int32)))])) (fun t_ k_ => XS.iushr X0.here hx rfl (hb hby d4_76) rfl k_) ?_
            refine own_st (S' := s₁.setTop (mkF m 78 #[.val (.int ((((((x1.toUInt32 >>> ((16 : Int32) &&& 31).toUInt32).toInt32).toUInt32 >>> ((8 : Int32) &&& 31).toUInt32).toInt32).toUInt32 >>> ((2 : Int32) &&& 31).toUInt32).toInt32)), .val (.int ((((31 : Int32) + (-16 : Int32)) + (-8 : Int32)) + (-2 : Int32)))] [(.int (((((31 : Int32) + (-16 : Int32)) + (-8 : Int32)) + (-2 : Int32)) - ((((((((x1.toUInt32 >>> ((16 : Int32) &&& 31).toUInt32).toInt32).toUInt32 >>> ((8 : Int32) &&& 31).toUInt32).toInt32).toUInt32 >>> ((2 : Int32) &&& 31).toUInt32).toInt32).toUInt32 >>> ((1 : Int32) &&& 31).toUInt32).toInt32)))])) (fun t_ k_ => XS.isub X0.here hx rfl (hb hby d4_77) rfl k_) ?_
            obtain ⟨fs, hr, hrun, hended, hW, hsame⟩ := X0.leave (v := some (.int (((((31 : Int32) + (-16 : Int32)) + (-8 : Int32)) + (-2 : Int32)) - ((((((((x1.toUInt32 >>> ((16 : Int32) &&& 31).toUInt32).toInt32).toUInt32 >>> ((8 : Int32) &&& 31).toUInt32).toInt32).toUInt32 >>> ((2 : Int32) &&& 31).toUInt32).toInt32).toUInt32 >>> ((1 : Int32) &&& 31).toUInt32).toInt32)))) (fun h => by rw [Bd.returns] at h; cases h)
            refine ⟨_, _, retI X0 hx Bd.returns (hb hby d4_78) hr, hrun, hended, _, _, rfl, ?_, ⟨_, rfl⟩, hW, hsame.mono (by decide) (by decide)⟩
            show Q4 Z x1 h0 n0 _ s₁.heap _
            rw [e0]
            exact ⟨(congrArg (fun z => some (Value.int z)) (show (((((31 : Int32) + (-16 : Int32)) + (-8 : Int32)) + (-2 : Int32)) - ((((((((x1.toUInt32 >>> ((16 : Int32) &&& 31).toUInt32).toInt32).toUInt32 >>> ((8 : Int32) &&& 31).toUInt32).toInt32).toUInt32 >>> ((2 : Int32) &&& 31).toUInt32).toInt32).toUInt32 >>> ((1 : Int32) &&& 31).toUInt32).toInt32)) = (own_nlz x1) from by simp only [own_nlz, own_n1, own_n2, own_n3, own_n4, hc1, hc22, hc37, hc51, hc63, if_true, if_false])), N0, rfl⟩
        · refine own_st (S' := s₁.setTop (mkF m 54 #[.val (.int ((((x1.toUInt32 >>> ((16 : Int32) &&& 31).toUInt32).toInt32).toUInt32 >>> ((8 : Int32) &&& 31).toUInt32).toInt32)), .val (.int (((31 : Int32) + (-16 : Int32)) + (-8 : Int32)))] [])) (fun t_ k_ => XS.icmpNo X0.here hx rfl (hb hby d4_51) rfl (flt hc51).1 k_) ?_
          refine own_st (S' := s₁.setTop (mkF m 57 #[.val (.int ((((x1.toUInt32 >>> ((16 : Int32) &&& 31).toUInt32).toInt32).toUInt32 >>> ((8 : Int32) &&& 31).toUInt32).toInt32)), .val (.int ((((31 : Int32) + (-16 : Int32)) + (-8 : Int32)) + (-4 : Int32)))] [])) (fun t_ k_ => XS.iinc X0.here hx rfl (hb hby d4_54) rfl (l' := #[.val (.int ((((x1.toUInt32 >>> ((16 : Int32) &&& 31).toUInt32).toInt32).toUInt32 >>> ((8 : Int32) &&& 31).toUInt32).toInt32)), .val (.int ((((31 : Int32) + (-16 : Int32)) + (-8 : Int32)) + (-4 : Int32)))]) rfl k_) ?_
          refine own_st (S' := s₁.setTop (mkF m 58 #[.val (.int ((((x1.toUInt32 >>> ((16 : Int32) &&& 31).toUInt32).toInt32).toUInt32 >>> ((8 : Int32) &&& 31).toUInt32).toInt32)), .val (.int ((((31 : Int32) + (-16 : Int32)) + (-8 : Int32)) + (-4 : Int32)))] [(.int ((((x1.toUInt32 >>> ((16 : Int32) &&& 31).toUInt32).toInt32).toUInt32 >>> ((8 : Int32) &&& 31).toUInt32).toInt32))])) (fun t_ k_ => XS.iloadN X0.here hx rfl (hb hby d4_57) rfl k_) ?_
          refine own_st (S' := s₁.setTop (mkF m 59 #[.val (.int ((((x1.toUInt32 >>> ((16 : Int32) &&& 31).toUInt32).toInt32).toUInt32 >>> ((8 : Int32) &&& 31).toUInt32).toInt32)), .val (.int ((((31 : Int32) + (-16 : Int32)) + (-8 : Int32)) + (-4 : Int32)))] [(.int (4 : Int32)), (.int ((((x1.toUInt32 >>> ((16 : Int32) &&& 31).toUInt32).toInt32).toUInt32 >>> ((8 : Int32) &&& 31).toUInt32).toInt32))])) (fun t_ k_ => XS.iconst X0.here hx rfl (hb hby d4_58) k_) ?_
          refine own_st (S' := s₁.setTop (mkF m 60 #[.val (.int ((((x1.toUInt32 >>> ((16 : Int32) &&& 31).toUInt32).toInt32).toUInt32 >>> ((8 : Int32) &&& 31).toUInt32).toInt32)), .val (.int ((((31 : Int32) + (-16 : Int32)) + (-8 : Int32)) + (-4 : Int32)))] [(.int ((((((x1.toUInt32 >>> ((16 : Int32) &&& 31).toUInt32).toInt32).toUInt32 >>> ((8 : Int32) &&& 31).toUInt32).toInt32).toUInt32 >>> ((4 : Int32) &&& 31).toUInt32).toInt32))])) (fun t_ k_ => XS.iushr X0.here hx rfl (hb hby d4_59) rfl k_) ?_
          refine own_st (S' := s₁.setTop (mkF m 61 #[.val (.int ((((((x1.toUInt32 >>> ((16 : Int32) &&& 31).toUInt32).toInt32).toUInt32 >>> ((8 : Int32) &&& 31).toUInt32).toInt32).toUInt32 >>> ((4 : Int32) &&& 31).toUInt32).toInt32)), .val (.int ((((31 : Int32) + (-16 : Int32)) + (-8 : Int32)) + (-4 : Int32)))] [])) (fun t_ k_ => XS.istoreN X0.here hx rfl (hb hby d4_60) rfl (l' := #[.val (.int ((((((x1.toUInt32 >>> ((16 : Int32) &&& 31).toUInt32).toInt32).toUInt32 >>> ((8 : Int32) &&& 31).toUInt32).toInt32).toUInt32 >>> ((4 : Int32) &&& 31).toUInt32).toInt32)), .val (.int ((((31 : Int32) + (-16 : Int32)) + (-8 : Int32)) + (-4 : Int32)))]) rfl k_) ?_
          refine own_st (S' := s₁.setTop (mkF m 62 #[.val (.int ((((((x1.toUInt32 >>> ((16 : Int32) &&& 31).toUInt32).toInt32).toUInt32 >>> ((8 : Int32) &&& 31).toUInt32).toInt32).toUInt32 >>> ((4 : Int32) &&& 31).toUInt32).toInt32)), .val (.int ((((31 : Int32) + (-16 : Int32)) + (-8 : Int32)) + (-4 : Int32)))] [(.int ((((((x1.toUInt32 >>> ((16 : Int32) &&& 31).toUInt32).toInt32).toUInt32 >>> ((8 : Int32) &&& 31).toUInt32).toInt32).toUInt32 >>> ((4 : Int32) &&& 31).toUInt32).toInt32))])) (fun t_ k_ => XS.iloadN X0.here hx rfl (hb hby d4_61) rfl k_) ?_
          refine own_st (S' := s₁.setTop (mkF m 63 #[.val (.int ((((((x1.toUInt32 >>> ((16 : Int32) &&& 31).toUInt32).toInt32).toUInt32 >>> ((8 : Int32) &&& 31).toUInt32).toInt32).toUInt32 >>> ((4 : Int32) &&& 31).toUInt32).toInt32)), .val (.int ((((31 : Int32) + (-16 : Int32)) + (-8 : Int32)) + (-4 : Int32)))] [(.int (4 : Int32)), (.int ((((((x1.toUInt32 >>> ((16 : Int32) &&& 31).toUInt32).toInt32).toUInt32 >>> ((8 : Int32) &&& 31).toUInt32).toInt32).toUInt32 >>> ((4 : Int32) &&& 31).toUInt32).toInt32))])) (fun t_ k_ => XS.iconst X0.here hx rfl (hb hby d4_62) k_) ?_
          by_cases hc63 : ((((((x1.toUInt32 >>> ((16 : Int32) &&& 31).toUInt32).toInt32).toUInt32 >>> ((8 : Int32) &&& 31).toUInt32).toInt32).toUInt32 >>> ((4 : Int32) &&& 31).toUInt32).toInt32) < (4 : Int32)
          · refine own_st (S' := s₁.setTop (mkF m 73 #[.val (.int ((((((x1.toUInt32 >>> ((16 : Int32) &&& 31).toUInt32).toInt32).toUInt32 >>> ((8 : Int32) &&& 31).toUInt32).toInt32).toUInt32 >>> ((4 : Int32) &&& 31).toUInt32).toInt32)), .val (.int ((((31 : Int32) + (-16 : Int32)) + (-8 : Int32)) + (-4 : Int32)))] [])) (fun t_ k_ => XS.icmpYes X0.here hx rfl (pc0 := 63) (pc' := 73) rfl (hb hby d4_63) rfl (tlt hc63).1 (by decide) (by decide) k_) ?_
            refine own_st (S' := s₁.setTop (mkF m 74 #[.val (.int ((((((x1.toUInt32 >>> ((16 : Int32) &&& 31).toUInt32).toInt32).toUInt32 >>> ((8 : Int32) &&& 31).toUInt32).toInt32).toUInt32 >>> ((4 : Int32) &&& 31).toUInt32).toInt32)), .val (.int ((((31 : Int32) + (-16 : Int32)) + (-8 : Int32)) + (-4 : Int32)))] [(.int ((((31 : Int32) + (-16 : Int32)) + (-8 : Int32)) + (-4 : Int32)))])) (fun t_ k_ => XS.iloadN X0.here hx rfl (hb hby d4_73) rfl k_) ?_
            refine own_st (S' := s₁.setTop (mkF m 75 #[.val (.int ((((((x1.toUInt32 >>> ((16 : Int32) &&& 31).toUInt32).toInt32).toUInt32 >>> ((8 : Int32) &&& 31).toUInt32).toInt32).toUInt32 >>> ((4 : Int32) &&& 31).toUInt32).toInt32)), .val (.int ((((31 : Int32) + (-16 : Int32)) + (-8 : Int32)) + (-4 : Int32)))] [(.int ((((((x1.toUInt32 >>> ((16 : Int32) &&& 31).toUInt32).toInt32).toUInt32 >>> ((8 : Int32) &&& 31).toUInt32).toInt32).toUInt32 >>> ((4 : Int32) &&& 31).toUInt32).toInt32)), (.int ((((31 : Int32) + (-16 : Int32)) + (-8 : Int32)) + (-4 : Int32)))])) (fun t_ k_ => XS.iloadN X0.here hx rfl (hb hby d4_74) rfl k_) ?_
            refine own_st (S' := s₁.setTop (mkF m 76 #[.val (.int ((((((x1.toUInt32 >>> ((16 : Int32) &&& 31).toUInt32).toInt32).toUInt32 >>> ((8 : Int32) &&& 31).toUInt32).toInt32).toUInt32 >>> ((4 : Int32) &&& 31).toUInt32).toInt32)), .val (.int ((((31 : Int32) + (-16 : Int32)) + (-8 : Int32)) + (-4 : Int32)))] [(.int (1 : Int32)), (.int ((((((x1.toUInt32 >>> ((16 : Int32) &&& 31).toUInt32).toInt32).toUInt32 >>> ((8 : Int32) &&& 31).toUInt32).toInt32).toUInt32 >>> ((4 : Int32) &&& 31).toUInt32).toInt32)), (.int ((((31 : Int32) + (-16 : Int32)) + (-8 : Int32)) + (-4 : Int32)))])) (fun t_ k_ => XS.iconst X0.here hx rfl (hb hby d4_75) k_) ?_
            refine own_st (S' := s₁.setTop (mkF m 77 #[.val (.int ((((((x1.toUInt32 >>> ((16 : Int32) &&& 31).toUInt32).toInt32).toUInt32 >>> ((8 : Int32) &&& 31).toUInt32).toInt32).toUInt32 >>> ((4 : Int32) &&& 31).toUInt32).toInt32)), .val (.int ((((31 : Int32) + (-16 : Int32)) + (-8 : Int32)) + (-4 : Int32)))] [(.int ((((((((x1.toUInt32 >>> ((16 : Int32) &&& 31).toUInt32).toInt32).toUInt32 >>> ((8 : Int32) &&& 31).toUInt32).toInt32).toUInt32 >>> ((4 : Int32) &&& 31).toUInt32).toInt32).toUInt32 >>> ((1 : Int32) &&& 31).toUInt32).toInt32)), (.int ((((31 : Int32) + (-16 : Int32)) + (-8 : Int32)) + (-4 : Int32)))])) (fun t_ k_ => XS.iushr X0.here hx rfl (hb hby d4_76) rfl k_) ?_
            refine own_st (S' := s₁.setTop (mkF m 78 #[.val (.int ((((((x1.toUInt32 >>> ((16 : Int32) &&& 31).toUInt32).toInt32).toUInt32 >>> ((8 : Int32) &&& 31).toUInt32).toInt32).toUInt32 >>> ((4 : Int32) &&& 31).toUInt32).toInt32)), .val (.int ((((31 : Int32) + (-16 : Int32)) + (-8 : Int32)) + (-4 : Int32)))] [(.int (((((31 : Int32) + (-16 : Int32)) + (-8 : Int32)) + (-4 : Int32)) - ((((((((x1.toUInt32 >>> ((16 : Int32) &&& 31).toUInt32).toInt32).toUInt32 >>> ((8 : Int32) &&& 31).toUInt32).toInt32).toUInt32 >>> ((4 : Int32) &&& 31).toUInt32).toInt32).toUInt32 >>> ((1 : Int32) &&& 31).toUInt32).toInt32)))])) (fun t_ k_ => XS.isub X0.here hx rfl (hb hby d4_77) rfl k_) ?_
            obtain ⟨fs, hr, hrun, hended, hW, hsame⟩ := X0.leave (v := some (.int (((((31 : Int32) + (-16 : Int32)) + (-8 : Int32)) + (-4 : Int32)) - ((((((((x1.toUInt32 >>> ((16 : Int32) &&& 31).toUInt32).toInt32).toUInt32 >>> ((8 : Int32) &&& 31).toUInt32).toInt32).toUInt32 >>> ((4 : Int32) &&& 31).toUInt32).toInt32).toUInt32 >>> ((1 : Int32) &&& 31).toUInt32).toInt32)))) (fun h => by rw [Bd.returns] at h; cases h)
            refine ⟨_, _, retI X0 hx Bd.returns (hb hby d4_78) hr, hrun, hended, _, _, rfl, ?_, ⟨_, rfl⟩, hW, hsame.mono (by decide) (by decide)⟩
            show Q4 Z x1 h0 n0 _ s₁.heap _
            rw [e0]
            exact ⟨(congrArg (fun z => some (Value.int z)) (show (((((31 : Int32) + (-16 : Int32)) + (-8 : Int32)) + (-4 : Int32)) - ((((((((x1.toUInt32 >>> ((16 : Int32) &&& 31).toUInt32).toInt32).toUInt32 >>> ((8 : Int32) &&& 31).toUInt32).toInt32).toUInt32 >>> ((4 : Int32) &&& 31).toUInt32).toInt32).toUInt32 >>> ((1 : Int32) &&& 31).toUInt32).toInt32)) = (own_nlz x1) from by simp only [own_nlz, own_n1, own_n2, own_n3, own_n4, hc1, hc22, hc37, hc51, hc63, if_true, if_false])), N0, rfl⟩
          · refine own_st (S' := s₁.setTop (mkF m 66 #[.val (.int ((((((x1.toUInt32 >>> ((16 : Int32) &&& 31).toUInt32).toInt32).toUInt32 >>> ((8 : Int32) &&& 31).toUInt32).toInt32).toUInt32 >>> ((4 : Int32) &&& 31).toUInt32).toInt32)), .val (.int ((((31 : Int32) + (-16 : Int32)) + (-8 : Int32)) + (-4 : Int32)))] [])) (fun t_ k_ => XS.icmpNo X0.here hx rfl (hb hby d4_63) rfl (flt hc63).1 k_) ?_
            refine own_st (S' := s₁.setTop (mkF m 69 #[.val (.int ((((((x1.toUInt32 >>> ((16 : Int32) &&& 31).toUInt32).toInt32).toUInt32 >>> ((8 : Int32) &&& 31).toUInt32).toInt32).toUInt32 >>> ((4 : Int32) &&& 31).toUInt32).toInt32)), .val (.int (((((31 : Int32) + (-16 : Int32)) + (-8 : Int32)) + (-4 : Int32)) + (-2 : Int32)))] [])) (fun t_ k_ => XS.iinc X0.here hx rfl (hb hby d4_66) rfl (l' := #[.val (.int ((((((x1.toUInt32 >>> ((16 : Int32) &&& 31).toUInt32).toInt32).toUInt32 >>> ((8 : Int32) &&& 31).toUInt32).toInt32).toUInt32 >>> ((4 : Int32) &&& 31).toUInt32).toInt32)), .val (.int (((((31 : Int32) + (-16 : Int32)) + (-8 : Int32)) + (-4 : Int32)) + (-2 : Int32)))]) rfl k_) ?_
            refine own_st (S' := s₁.setTop (mkF m 70 #[.val (.int ((((((x1.toUInt32 >>> ((16 : Int32) &&& 31).toUInt32).toInt32).toUInt32 >>> ((8 : Int32) &&& 31).toUInt32).toInt32).toUInt32 >>> ((4 : Int32) &&& 31).toUInt32).toInt32)), .val (.int (((((31 : Int32) + (-16 : Int32)) + (-8 : Int32)) + (-4 : Int32)) + (-2 : Int32)))] [(.int ((((((x1.toUInt32 >>> ((16 : Int32) &&& 31).toUInt32).toInt32).toUInt32 >>> ((8 : Int32) &&& 31).toUInt32).toInt32).toUInt32 >>> ((4 : Int32) &&& 31).toUInt32).toInt32))])) (fun t_ k_ => XS.iloadN X0.here hx rfl (hb hby d4_69) rfl k_) ?_
            refine own_st (S' := s₁.setTop (mkF m 71 #[.val (.int ((((((x1.toUInt32 >>> ((16 : Int32) &&& 31).toUInt32).toInt32).toUInt32 >>> ((8 : Int32) &&& 31).toUInt32).toInt32).toUInt32 >>> ((4 : Int32) &&& 31).toUInt32).toInt32)), .val (.int (((((31 : Int32) + (-16 : Int32)) + (-8 : Int32)) + (-4 : Int32)) + (-2 : Int32)))] [(.int (2 : Int32)), (.int ((((((x1.toUInt32 >>> ((16 : Int32) &&& 31).toUInt32).toInt32).toUInt32 >>> ((8 : Int32) &&& 31).toUInt32).toInt32).toUInt32 >>> ((4 : Int32) &&& 31).toUInt32).toInt32))])) (fun t_ k_ => XS.iconst X0.here hx rfl (hb hby d4_70) k_) ?_
            refine own_st (S' := s₁.setTop (mkF m 72 #[.val (.int ((((((x1.toUInt32 >>> ((16 : Int32) &&& 31).toUInt32).toInt32).toUInt32 >>> ((8 : Int32) &&& 31).toUInt32).toInt32).toUInt32 >>> ((4 : Int32) &&& 31).toUInt32).toInt32)), .val (.int (((((31 : Int32) + (-16 : Int32)) + (-8 : Int32)) + (-4 : Int32)) + (-2 : Int32)))] [(.int ((((((((x1.toUInt32 >>> ((16 : Int32) &&& 31).toUInt32).toInt32).toUInt32 >>> ((8 : Int32) &&& 31).toUInt32).toInt32).toUInt32 >>> ((4 : Int32) &&& 31).toUInt32).toInt32).toUInt32 >>> ((2 : Int32) &&& 31).toUInt32).toInt32))])) (fun t_ k_ => XS.iushr X0.here hx rfl (hb hby d4_71) rfl k_) ?_
            refine own_st (S' := s₁.setTop (mkF m 73 #[.val (.int ((((((((x1.toUInt32 >>> ((16 : Int32) &&& 31).toUInt32).toInt32).toUInt32 >>> ((8 : Int32) &&& 31).toUInt32).toInt32).toUInt32 >>> ((4 : Int32) &&& 31).toUInt32).toInt32).toUInt32 >>> ((2 : Int32) &&& 31).toUInt32).toInt32)), .val (.int (((((31 : Int32) + (-16 : Int32)) + (-8 : Int32)) + (-4 : Int32)) + (-2 : Int32)))] [])) (fun t_ k_ => XS.istoreN X0.here hx rfl (hb hby d4_72) rfl (l' := #[.val (.int ((((((((x1.toUInt32 >>> ((16 : Int32) &&& 31).toUInt32).toInt32).toUInt32 >>> ((8 : Int32) &&& 31).toUInt32).toInt32).toUInt32 >>> ((4 : Int32) &&& 31).toUInt32).toInt32).toUInt32 >>> ((2 : Int32) &&& 31).toUInt32).toInt32)), .val (.int (((((31 : Int32) + (-16 : Int32)) + (-8 : Int32)) + (-4 : Int32)) + (-2 : Int32)))]) rfl k_) ?_
            refine own_st (S' := s₁.setTop (mkF m 74 #[.val (.int ((((((((x1.toUInt32 >>> ((16 : Int32) &&& 31).toUInt32).toInt32).toUInt32 >>> ((8 : Int32) &&& 31).toUInt32).toInt32).toUInt32 >>> ((4 : Int32) &&& 31).toUInt32).toInt32).toUInt32 >>> ((2 : Int32) &&& 31).toUInt32).toInt32)), .val (.int (((((31 : Int32) + (-16 : Int32)) + (-8 : Int32)) + (-4 : Int32)) + (-2 : Int32)))] [(.int (((((31 : Int32) + (-16 : Int32)) + (-8 : Int32)) + (-4 : Int32)) + (-2 : Int32)))])) (fun t_ k_ => XS.iloadN X0.here hx rfl (hb hby d4_73) rfl k_) ?_
            refine own_st (S' := s₁.setTop (mkF m 75 #[.val (.int ((((((((x1.toUInt32 >>> ((16 : Int32) &&& 31).toUInt32).toInt32).toUInt32 >>> ((8 : Int32) &&& 31).toUInt32).toInt32).toUInt32 >>> ((4 : Int32) &&& 31).toUInt32).toInt32).toUInt32 >>> ((2 : Int32) &&& 31).toUInt32).toInt32)), .val (.int (((((31 : Int32) + (-16 : Int32)) + (-8 : Int32)) + (-4 : Int32)) + (-2 : Int32)))] [(.int ((((((((x1.toUInt32 >>> ((16 : Int32) &&& 31).toUInt32).toInt32).toUInt32 >>> ((8 : Int32) &&& 31).toUInt32).toInt32).toUInt32 >>> ((4 : Int32) &&& 31).toUInt32).toInt32).toUInt32 >>> ((2 : Int32) &&& 31).toUInt32).toInt32)), (.int (((((31 : Int32) + (-16 : Int32)) + (-8 : Int32)) + (-4 : Int32)) + (-2 : Int32)))])) (fun t_ k_ => XS.iloadN X0.here hx rfl (hb hby d4_74) rfl k_) ?_
            refine own_st (S' := s₁.setTop (mkF m 76 #[.val (.int ((((((((x1.toUInt32 >>> ((16 : Int32) &&& 31).toUInt32).toInt32).toUInt32 >>> ((8 : Int32) &&& 31).toUInt32).toInt32).toUInt32 >>> ((4 : Int32) &&& 31).toUInt32).toInt32).toUInt32 >>> ((2 : Int32) &&& 31).toUInt32).toInt32)), .val (.int (((((31 : Int32) + (-16 : Int32)) + (-8 : Int32)) + (-4 : Int32)) + (-2 : Int32)))] [(.int (1 : Int32)), (.int ((((((((x1.toUInt32 >>> ((16 : Int32) &&& 31).toUInt32).toInt32).toUInt32 >>> ((8 : Int32) &&& 31).toUInt32).toInt32).toUInt32 >>> ((4 : Int32) &&& 31).toUInt32).toInt32).toUInt32 >>> ((2 : Int32) &&& 31).toUInt32).toInt32)), (.int (((((31 : Int32) + (-16 : Int32)) + (-8 : Int32)) + (-4 : Int32)) + (-2 : Int32)))])) (fun t_ k_ => XS.iconst X0.here hx rfl (hb hby d4_75) k_) ?_
            refine own_st (S' := s₁.setTop (mkF m 77 #[.val (.int ((((((((x1.toUInt32 >>> ((16 : Int32) &&& 31).toUInt32).toInt32).toUInt32 >>> ((8 : Int32) &&& 31).toUInt32).toInt32).toUInt32 >>> ((4 : Int32) &&& 31).toUInt32).toInt32).toUInt32 >>> ((2 : Int32) &&& 31).toUInt32).toInt32)), .val (.int (((((31 : Int32) + (-16 : Int32)) + (-8 : Int32)) + (-4 : Int32)) + (-2 : Int32)))] [(.int ((((((((((x1.toUInt32 >>> ((16 : Int32) &&& 31).toUInt32).toInt32).toUInt32 >>> ((8 : Int32) &&& 31).toUInt32).toInt32).toUInt32 >>> ((4 : Int32) &&& 31).toUInt32).toInt32).toUInt32 >>> ((2 : Int32) &&& 31).toUInt32).toInt32).toUInt32 >>> ((1 : Int32) &&& 31).toUInt32).toInt32)), (.int (((((31 : Int32) + (-16 : Int32)) + (-8 : Int32)) + (-4 : Int32)) + (-2 : Int32)))])) (fun t_ k_ => XS.iushr X0.here hx rfl (hb hby d4_76) rfl k_) ?_
            refine own_st (S' := s₁.setTop (mkF m 78 #[.val (.int ((((((((x1.toUInt32 >>> ((16 : Int32) &&& 31).toUInt32).toInt32).toUInt32 >>> ((8 : Int32) &&& 31).toUInt32).toInt32).toUInt32 >>> ((4 : Int32) &&& 31).toUInt32).toInt32).toUInt32 >>> ((2 : Int32) &&& 31).toUInt32).toInt32)), .val (.int (((((31 : Int32) + (-16 : Int32)) + (-8 : Int32)) + (-4 : Int32)) + (-2 : Int32)))] [(.int ((((((31 : Int32) + (-16 : Int32)) + (-8 : Int32)) + (-4 : Int32)) + (-2 : Int32)) - ((((((((((x1.toUInt32 >>> ((16 : Int32) &&& 31).toUInt32).toInt32).toUInt32 >>> ((8 : Int32) &&& 31).toUInt32).toInt32).toUInt32 >>> ((4 : Int32) &&& 31).toUInt32).toInt32).toUInt32 >>> ((2 : Int32) &&& 31).toUInt32).toInt32).toUInt32 >>> ((1 : Int32) &&& 31).toUInt32).toInt32)))])) (fun t_ k_ => XS.isub X0.here hx rfl (hb hby d4_77) rfl k_) ?_
            obtain ⟨fs, hr, hrun, hended, hW, hsame⟩ := X0.leave (v := some (.int ((((((31 : Int32) + (-16 : Int32)) + (-8 : Int32)) + (-4 : Int32)) + (-2 : Int32)) - ((((((((((x1.toUInt32 >>> ((16 : Int32) &&& 31).toUInt32).toInt32).toUInt32 >>> ((8 : Int32) &&& 31).toUInt32).toInt32).toUInt32 >>> ((4 : Int32) &&& 31).toUInt32).toInt32).toUInt32 >>> ((2 : Int32) &&& 31).toUInt32).toInt32).toUInt32 >>> ((1 : Int32) &&& 31).toUInt32).toInt32)))) (fun h => by rw [Bd.returns] at h; cases h)
            refine ⟨_, _, retI X0 hx Bd.returns (hb hby d4_78) hr, hrun, hended, _, _, rfl, ?_, ⟨_, rfl⟩, hW, hsame.mono (by decide) (by decide)⟩
            show Q4 Z x1 h0 n0 _ s₁.heap _
            rw [e0]
            exact ⟨(congrArg (fun z => some (Value.int z)) (show ((((((31 : Int32) + (-16 : Int32)) + (-8 : Int32)) + (-4 : Int32)) + (-2 : Int32)) - ((((((((((x1.toUInt32 >>> ((16 : Int32) &&& 31).toUInt32).toInt32).toUInt32 >>> ((8 : Int32) &&& 31).toUInt32).toInt32).toUInt32 >>> ((4 : Int32) &&& 31).toUInt32).toInt32).toUInt32 >>> ((2 : Int32) &&& 31).toUInt32).toInt32).toUInt32 >>> ((1 : Int32) &&& 31).toUInt32).toInt32)) = (own_nlz x1) from by simp only [own_nlz, own_n1, own_n2, own_n3, own_n4, hc1, hc22, hc37, hc51, hc63, if_true, if_false])), N0, rfl⟩
  · refine own_st (S' := s₁.setTop (mkF m 4 #[.val (.int x1), .unset] [])) (fun t_ k_ => XS.ifNo X0.here hx rfl (hb hby d4_1) rfl ((if0 _ _).trans (flt hc1).2.2.1) k_) ?_
    refine own_st (S' := s₁.setTop (mkF m 5 #[.val (.int x1), .unset] [(.int x1)])) (fun t_ k_ => XS.iloadN X0.here hx rfl (hb hby d4_4) rfl k_) ?_
    by_cases hc5 : x1 = (0 : Int32)
    · refine own_st (S' := s₁.setTop (mkF m 8 #[.val (.int x1), .unset] [])) (fun t_ k_ => XS.ifNo X0.here hx rfl (hb hby d4_5) rfl ((if0 _ _).trans (teq hc5).2) k_) ?_
      refine own_st (S' := s₁.setTop (mkF m 10 #[.val (.int x1), .unset] [(.int (32 : Int32))])) (fun t_ k_ => XS.bipush X0.here hx rfl (hb hby d4_8) k_) ?_
      refine own_st (S' := s₁.setTop (mkF m 14 #[.val (.int x1), .unset] [(.int (32 : Int32))])) (fun t_ k_ => XS.goto X0.here hx rfl (pc0 := 10) (pc' := 14) rfl (hb hby d4_10) (by decide) (by decide) k_) ?_
      obtain ⟨fs, hr, hrun, hended, hW, hsame⟩ := X0.leave (v := some (.int (32 : Int32))) (fun h => by rw [Bd.returns] at h; cases h)
      refine ⟨_, _, retI X0 hx Bd.returns (hb hby d4_14) hr, hrun, hended, _, _, rfl, ?_, ⟨_, rfl⟩, hW, hsame.mono (by decide) (by decide)⟩
      show Q4 Z x1 h0 n0 _ s₁.heap _
      rw [e0]
      exact ⟨(congrArg (fun z => some (Value.int z)) (show (32 : Int32) = (own_nlz x1) from by rw [hc5]; decide)), N0, rfl⟩
    · refine own_st (S' := s₁.setTop (mkF m 13 #[.val (.int x1), .unset] [])) (fun t_ k_ => XS.ifYes X0.here hx rfl (pc0 := 5) (pc' := 13) rfl (hb hby d4_5) rfl ((if0 _ _).trans (feq hc5).2) (by decide) (by decide) k_) ?_
      refine own_st (S' := s₁.setTop (mkF m 14 #[.val (.int x1), .unset] [(.int (0 : Int32))])) (fun t_ k_ => XS.iconst X0.here hx rfl (hb hby d4_13) k_) ?_
      obtain ⟨fs, hr, hrun, hended, hW, hsame⟩ := X0.leave (v := some (.int (0 : Int32))) (fun h => by rw [Bd.returns] at h; cases h)
      refine ⟨_, _, retI X0 hx Bd.returns (hb hby d4_14) hr, hrun, hended, _, _, rfl, ?_, ⟨_, rfl⟩, hW, hsame.mono (by decide) (by decide)⟩
      show Q4 Z x1 h0 n0 _ s₁.heap _
      rw [e0]
      exact ⟨(congrArg (fun z => some (Value.int z)) (show (0 : Int32) = (own_nlz x1) from by simp only [own_nlz, own_n1, own_n2, own_n3, own_n4, hc1, hc5, if_true, if_false])), N0, rfl⟩
theorem d5_0 : decode jdk_35_method_48_code 0 = .ok (.lload_n 0, 1) := by decide +kernel
theorem d5_1 : decode jdk_35_method_48_code 1 = .ok (.bipush 32, 2) := by decide +kernel
theorem d5_3 : decode jdk_35_method_48_code 3 = .ok (.lushr, 1) := by decide +kernel
theorem d5_4 : decode jdk_35_method_48_code 4 = .ok (.l2i, 1) := by decide +kernel
theorem d5_5 : decode jdk_35_method_48_code 5 = .ok (.istore_n 2, 1) := by decide +kernel
theorem d5_6 : decode jdk_35_method_48_code 6 = .ok (.iload_n 2, 1) := by decide +kernel
theorem d5_7 : decode jdk_35_method_48_code 7 = .ok (.ifCond .ne 14, 3) := by decide +kernel
theorem d5_10 : decode jdk_35_method_48_code 10 = .ok (.bipush 32, 2) := by decide +kernel
theorem d5_12 : decode jdk_35_method_48_code 12 = .ok (.lload_n 0, 1) := by decide +kernel
theorem d5_13 : decode jdk_35_method_48_code 13 = .ok (.l2i, 1) := by decide +kernel
theorem d5_14 : decode jdk_35_method_48_code 14 = .ok (.invokestatic 308, 3) := by decide +kernel
theorem d5_17 : decode jdk_35_method_48_code 17 = .ok (.iadd, 1) := by decide +kernel
theorem d5_18 : decode jdk_35_method_48_code 18 = .ok (.goto 7, 3) := by decide +kernel
theorem d5_21 : decode jdk_35_method_48_code 21 = .ok (.iload_n 2, 1) := by decide +kernel
theorem d5_22 : decode jdk_35_method_48_code 22 = .ok (.invokestatic 308, 3) := by decide +kernel
theorem d5_25 : decode jdk_35_method_48_code 25 = .ok (.ireturn, 1) := by decide +kernel
theorem pn_2 : plainName "java/lang/Long" = true := by first | (simp [plainName, overriddenIn]; done) | decide +kernel
theorem ef_5 (m : MethodId) (q : Int64) : entryFrame m #[(.long q)] 3 = mkF m 0 #[.val (.long q), .second, .unset] [] := by first | (simp [entryFrame, mkF, argsToLocals, Value.category]; done) | rfl
theorem pd_0 : parseMethodDescriptor "(I)I" = some ⟨[.int], some .int⟩ := by decide +kernel
def Q5 (Z : State) (q : Int64) (h0 : Heap) (n0 : Nat) (v : Option Value) (h : Heap) (L : List Loc) : Prop := v = some (.int (own_nlz64 q)) ∧ Fr n0 L ∧ h = h0
set_option maxRecDepth 65536 in
set_option maxHeartbeats 40000000 in
theorem rm5 (l : Launch) (Z : State) (a0 : Array Value) (hw : ∀ d ∈ tables_1, d.before a0 Z = true) (ws : List Jvm.Cond) (q : Int64) (h0 : Heap) (n0 : Nat) (Z0 : n0 ≤ h0.size)  :
    MetFree l (⟨"java/lang/Long", "numberOfLeadingZeros", "(J)I"⟩ : MethodName) (head1 (Jvm.Cond.code (⟨"java/lang/Long", "numberOfLeadingZeros", "(J)I"⟩ : MethodName) jdk_35_method_48_code 3 (some .int) :: ws) ({ frames := 1, cells := 0, slots := 0, locals := 14 } : Room)) (fun ar_ U => ar_ = #[(.long q)] ∧ Z.Warmed39 U.vm ∧ U.heap = h0) (fun _ _ _ _ _ => True) (fun _ U o U' => ∃ v L, o = .returned v ∧ Q5 Z q h0 n0 v U'.heap L ∧ FrameEnd U o U' L ({ frames := 1, cells := 0, slots := 0, locals := 14 } : Room).cells ({ frames := 1, cells := 0, slots := 0, locals := 14 } : Room).slots) := by
  refine MetFree.of_bodySF (plainFor_of_name pn_2) hisR ?_
  intro p e s m args below meth c s₁ Bd hml0 hP hK
  obtain ⟨rfl, hZ, hh⟩ := hP
  have hx := Bd.exec
  have hby := Bd.bytes
  have hml : c.maxLocals = 3 := hml0
  have hown : s.vm.findClass "java/lang/Long" = some m.cls := findClass_of_methodNamed Bd.named
  have hnm := (name_of_methodNamed Bd.named Bd.method).1
  have X0 : Stand p l e ({ frames := 1, cells := 0, slots := 0, locals := 14 } : Room) s m #[(.long q)] below meth c s₁ [] 0 0 := Stand.of_body Bd
  have e0 : s₁.heap = h0 := by rw [← hh, Bd.state]; rfl
  have N0 := Fr.nil n0
  refine own_gl ?_
  refine own_st (S' := s₁.setTop (mkF m 0 #[.val (.long q), .second, .unset] [])) (fun t_ k_ => castTop (ef_5 m q) k_) ?_
  refine own_st (S' := s₁.setTop (mkF m 1 #[.val (.long q), .second, .unset] [(.long q)])) (fun t_ k_ => XS.lloadN X0.here hx rfl (hb hby d5_0) rfl k_) ?_
  refine own_st (S' := s₁.setTop (mkF m 3 #[.val (.long q), .second, .unset] [(.int (32 : Int32)), (.long q)])) (fun t_ k_ => XS.bipush X0.here hx rfl (hb hby d5_1) k_) ?_
  refine own_st (S' := s₁.setTop (mkF m 4 #[.val (.long q), .second, .unset] [(.long ((q.toUInt64 >>> ((32 : Int32) &&& 0x3f).toInt64.toUInt64).toInt64))])) (fun t_ k_ => XS.lushr X0.here hx rfl (hb hby d5_3) rfl k_) ?_
  refine own_st (S' := s₁.setTop (mkF m 5 #[.val (.long q), .second, .unset] [(.int (((q.toUInt64 >>> ((32 : Int32) &&& 0x3f).toInt64.toUInt64).toInt64).toInt32))])) (fun t_ k_ => XS.l2i X0.here hx rfl (hb hby d5_4) rfl k_) ?_
  refine own_st (S' := s₁.setTop (mkF m 6 #[.val (.long q), .second, .val (.int (((q.toUInt64 >>> ((32 : Int32) &&& 0x3f).toInt64.toUInt64).toInt64).toInt32))] [])) (fun t_ k_ => XS.istoreN X0.here hx rfl (hb hby d5_5) rfl (l' := #[.val (.long q), .second, .val (.int (((q.toUInt64 >>> ((32 : Int32) &&& 0x3f).toInt64.toUInt64).toInt64).toInt32))]) rfl k_) ?_
  refine own_st (S' := s₁.setTop (mkF m 7 #[.val (.long q), .second, .val (.int (((q.toUInt64 >>> ((32 : Int32) &&& 0x3f).toInt64.toUInt64).toInt64).toInt32))] [(.int (((q.toUInt64 >>> ((32 : Int32) &&& 0x3f).toInt64.toUInt64).toInt64).toInt32))])) (fun t_ k_ => XS.iloadN X0.here hx rfl (hb hby d5_6) rfl k_) ?_
  by_cases hc7 : (((q.toUInt64 >>> ((32 : Int32) &&& 0x3f).toInt64.toUInt64).toInt64).toInt32) = (0 : Int32)
  · refine own_st (S' := s₁.setTop (mkF m 10 #[.val (.long q), .second, .val (.int (((q.toUInt64 >>> ((32 : Int32) &&& 0x3f).toInt64.toUInt64).toInt64).toInt32))] [])) (fun t_ k_ => XS.ifNo X0.here hx rfl (hb hby d5_7) rfl ((if0 _ _).trans (teq hc7).2) k_) ?_
    refine own_st (S' := s₁.setTop (mkF m 12 #[.val (.long q), .second, .val (.int (((q.toUInt64 >>> ((32 : Int32) &&& 0x3f).toInt64.toUInt64).toInt64).toInt32))] [(.int (32 : Int32))])) (fun t_ k_ => XS.bipush X0.here hx rfl (hb hby d5_10) k_) ?_
    refine own_st (S' := s₁.setTop (mkF m 13 #[.val (.long q), .second, .val (.int (((q.toUInt64 >>> ((32 : Int32) &&& 0x3f).toInt64.toUInt64).toInt64).toInt32))] [(.long q), (.int (32 : Int32))])) (fun t_ k_ => XS.lloadN X0.here hx rfl (hb hby d5_12) rfl k_) ?_
    refine own_st (S' := s₁.setTop (mkF m 14 #[.val (.long q), .second, .val (.int (((q.toUInt64 >>> ((32 : Int32) &&& 0x3f).toInt64.toUInt64).toInt64).toInt32))] [(.int (q.toInt32)), (.int (32 : Int32))])) (fun t_ k_ => XS.l2i X0.here hx rfl (hb hby d5_13) rfl k_) ?_
    obtain ⟨_, _, ⟨T_1, L_1, k_1, n_1⟩, -, X_1, ⟨Lc_1, hQ_1, l_1, y_1, z_1⟩, st_1⟩ := Jvm.LawKit.callS X0 hx (y := (⟨"java/lang/Integer", "numberOfLeadingZeros", "(I)I"⟩ : MethodName)) hown (mvT hZ (hw _ (List.mem_of_getElem? (i := 19) rfl))) (mvT hZ (hw _ (List.mem_of_getElem? (i := 20) rfl))) (mvT hZ (hw _ (List.mem_of_getElem? (i := 21) rfl))) (mvT hZ (hw _ (List.mem_of_getElem? (i := 22) rfl))) (by decide) (backOf (W := 1) (rm4 l Z a0 hw [] (q.toInt32) h0 n0 Z0 ) hZ (hw _ (List.mem_of_getElem? (i := 22) rfl)) (hw _ (List.mem_of_getElem? (i := 21) rfl)) (by decide) (by decide)) (g := (mkF m 14 #[.val (.long q), .second, .val (.int (((q.toUInt64 >>> ((32 : Int32) &&& 0x3f).toInt64.toUInt64).toInt64).toInt32))] [(.int (q.toInt32)), (.int (32 : Int32))])) rfl (by rw [hml]; rfl) (argsL := [(.int (q.toInt32))]) (rest := [(.int (32 : Int32))]) (lenOf pd_0 rfl) rfl (by show 2 * 0 + _ ≤ _; exact Nat.le_of_eq rfl) (hb hby d5_14) (fun _ _ => ⟨rfl, e0, (by decide : 0 + 0 ≤ _), (by decide : 0 + 0 ≤ _)⟩)
    dsimp only [Pt.U, Pt.locs, Pt.cells, Pt.slots] at X_1 l_1 y_1 z_1 st_1 hQ_1
    subst l_1 y_1 z_1
    obtain ⟨rfl, M_1, q_1⟩ := hQ_1
    have N_1 := Fr.app N0 M_1
    refine own_st (S' := T_1.setTop (mkF m 17 #[.val (.long q), .second, .val (.int (((q.toUInt64 >>> ((32 : Int32) &&& 0x3f).toInt64.toUInt64).toInt64).toInt32))] [(.int (own_nlz (q.toInt32))), (.int (32 : Int32))])) st_1 ?_
    refine own_st (S' := T_1.setTop (mkF m 18 #[.val (.long q), .second, .val (.int (((q.toUInt64 >>> ((32 : Int32) &&& 0x3f).toInt64.toUInt64).toInt64).toInt32))] [(.int ((32 : Int32) + (own_nlz (q.toInt32))))])) (fun t_ k_ => XS.iadd X_1.here hx rfl (hb hby d5_17) rfl k_) ?_
    refine own_st (S' := T_1.setTop (mkF m 25 #[.val (.long q), .second, .val (.int (((q.toUInt64 >>> ((32 : Int32) &&& 0x3f).toInt64.toUInt64).toInt64).toInt32))] [(.int ((32 : Int32) + (own_nlz (q.toInt32))))])) (fun t_ k_ => XS.goto X_1.here hx rfl (pc0 := 18) (pc' := 25) rfl (hb hby d5_18) (by decide) (by decide) k_) ?_
    obtain ⟨fs, hr, hrun, hended, hW, hsame⟩ := X_1.leave (v := some (.int ((32 : Int32) + (own_nlz (q.toInt32))))) (fun h => by rw [Bd.returns] at h; cases h)
    refine ⟨_, _, retI X_1 hx Bd.returns (hb hby d5_25) hr, hrun, hended, _, _, rfl, ?_, ⟨_, rfl⟩, hW, hsame.mono (by decide) (by decide)⟩
    show Q5 Z q h0 n0 _ T_1.heap _
    rw [q_1]
    exact ⟨(congrArg (fun z => some (Value.int z)) (show ((32 : Int32) + (own_nlz (q.toInt32))) = (own_nlz64 q) from by unfold own_nlz64; rw [if_pos (show  own_hi q = 0 from hc7)])), N_1, rfl⟩
  · refine own_st (S' := s₁.setTop (mkF m 21 #[.val (.long q), .second, .val (.int (((q.toUInt64 >>> ((32 : Int32) &&& 0x3f).toInt64.toUInt64).toInt64).toInt32))] [])) (fun t_ k_ => XS.ifYes X0.here hx rfl (pc0 := 7) (pc' := 21) rfl (hb hby d5_7) rfl ((if0 _ _).trans (feq hc7).2) (by decide) (by decide) k_) ?_
    refine own_st (S' := s₁.setTop (mkF m 22 #[.val (.long q), .second, .val (.int (((q.toUInt64 >>> ((32 : Int32) &&& 0x3f).toInt64.toUInt64).toInt64).toInt32))] [(.int (((q.toUInt64 >>> ((32 : Int32) &&& 0x3f).toInt64.toUInt64).toInt64).toInt32))])) (fun t_ k_ => XS.iloadN X0.here hx rfl (hb hby d5_21) rfl k_) ?_
    obtain ⟨_, _, ⟨T_2, L_2, k_2, n_2⟩, -, X_2, ⟨Lc_2, hQ_2, l_2, y_2, z_2⟩, st_2⟩ := Jvm.LawKit.callS X0 hx (y := (⟨"java/lang/Integer", "numberOfLeadingZeros", "(I)I"⟩ : MethodName)) hown (mvT hZ (hw _ (List.mem_of_getElem? (i := 19) rfl))) (mvT hZ (hw _ (List.mem_of_getElem? (i := 20) rfl))) (mvT hZ (hw _ (List.mem_of_getElem? (i := 21) rfl))) (mvT hZ (hw _ (List.mem_of_getElem? (i := 22) rfl))) (by decide) (backOf (W := 0) (rm4 l Z a0 hw [] (((q.toUInt64 >>> ((32 : Int32) &&& 0x3f).toInt64.toUInt64).toInt64).toInt32) h0 n0 Z0 ) hZ (hw _ (List.mem_of_getElem? (i := 22) rfl)) (hw _ (List.mem_of_getElem? (i := 21) rfl)) (by decide) (by decide)) (g := (mkF m 22 #[.val (.long q), .second, .val (.int (((q.toUInt64 >>> ((32 : Int32) &&& 0x3f).toInt64.toUInt64).toInt64).toInt32))] [(.int (((q.toUInt64 >>> ((32 : Int32) &&& 0x3f).toInt64.toUInt64).toInt64).toInt32))])) rfl (by rw [hml]; rfl) (argsL := [(.int (((q.toUInt64 >>> ((32 : Int32) &&& 0x3f).toInt64.toUInt64).toInt64).toInt32))]) (rest := []) (lenOf pd_0 rfl) rfl (by show 2 * 0 + _ ≤ _; exact Nat.le_of_eq rfl) (hb hby d5_22) (fun _ _ => ⟨rfl, e0, (by decide : 0 + 0 ≤ _), (by decide : 0 + 0 ≤ _)⟩)
    dsimp only [Pt.U, Pt.locs, Pt.cells, Pt.slots] at X_2 l_2 y_2 z_2 st_2 hQ_2
    subst l_2 y_2 z_2
    obtain ⟨rfl, M_2, q_2⟩ := hQ_2
    have N_2 := Fr.app N0 M_2
    refine own_st (S' := T_2.setTop (mkF m 25 #[.val (.long q), .second, .val (.int (((q.toUInt64 >>> ((32 : Int32) &&& 0x3f).toInt64.toUInt64).toInt64).toInt32))] [(.int (own_nlz (((q.toUInt64 >>> ((32 : Int32) &&& 0x3f).toInt64.toUInt64).toInt64).toInt32)))])) st_2 ?_
    obtain ⟨fs, hr, hrun, hended, hW, hsame⟩ := X_2.leave (v := some (.int (own_nlz (((q.toUInt64 >>> ((32 : Int32) &&& 0x3f).toInt64.toUInt64).toInt64).toInt32)))) (fun h => by rw [Bd.returns] at h; cases h)
    refine ⟨_, _, retI X_2 hx Bd.returns (hb hby d5_25) hr, hrun, hended, _, _, rfl, ?_, ⟨_, rfl⟩, hW, hsame.mono (by decide) (by decide)⟩
    show Q5 Z q h0 n0 _ T_2.heap _
    rw [q_2]
    exact ⟨(congrArg (fun z => some (Value.int z)) (show (own_nlz (((q.toUInt64 >>> ((32 : Int32) &&& 0x3f).toInt64.toUInt64).toInt64).toInt32)) = (own_nlz64 q) from by unfold own_nlz64; rw [if_neg (show ¬ own_hi q = 0 from hc7)]; rfl)), N_2, rfl⟩
theorem d6_0 : decode prog_16_method_2_code 0 = .ok (.bipush 63, 2) := by decide +kernel
theorem d6_2 : decode prog_16_method_2_code 2 = .ok (.lload_n 0, 1) := by decide +kernel
theorem d6_3 : decode prog_16_method_2_code 3 = .ok (.invokestatic 9, 3) := by decide +kernel
theorem d6_6 : decode prog_16_method_2_code 6 = .ok (.isub, 1) := by decide +kernel
theorem d6_7 : decode prog_16_method_2_code 7 = .ok (.ireturn, 1) := by decide +kernel
theorem ef_6 (m : MethodId) (q : Int64) : entryFrame m #[(.long q)] 2 = mkF m 0 #[.val (.long q), .second] [] := by first | (simp [entryFrame, mkF, argsToLocals, Value.category]; done) | rfl
theorem pd_1 : parseMethodDescriptor "(J)I" = some ⟨[.long], some .int⟩ := by decide +kernel
def Q6 (Z : State) (q : Int64) (h0 : Heap) (n0 : Nat) (v : Option Value) (h : Heap) (L : List Loc) : Prop := v = some (.int ((63 : Int32) - (own_nlz64 q))) ∧ Fr n0 L ∧ h = h0
set_option maxRecDepth 65536 in
set_option maxHeartbeats 40000000 in
theorem rm6 (l : Launch) (Z : State) (a0 : Array Value) (hw : ∀ d ∈ tables_1, d.before a0 Z = true) (ws : List Jvm.Cond) (q : Int64) (h0 : Heap) (n0 : Nat) (Z0 : n0 ≤ h0.size)  :
    MetFree l (⟨"com/example/bloodwood/bloodwood/internal/TreePath", "depth", "(J)I"⟩ : MethodName) (head1 (Jvm.Cond.code (⟨"com/example/bloodwood/bloodwood/internal/TreePath", "depth", "(J)I"⟩ : MethodName) prog_16_method_2_code 2 (some .int) :: ws) ({ frames := 2, cells := 0, slots := 0, locals := 29 } : Room)) (fun ar_ U => ar_ = #[(.long q)] ∧ Z.Warmed39 U.vm ∧ U.heap = h0) (fun _ _ _ _ _ => True) (fun _ U o U' => ∃ v L, o = .returned v ∧ Q6 Z q h0 n0 v U'.heap L ∧ FrameEnd U o U' L ({ frames := 2, cells := 0, slots := 0, locals := 29 } : Room).cells ({ frames := 2, cells := 0, slots := 0, locals := 29 } : Room).slots) := by
  refine MetFree.of_bodySF (plainFor_of_name pn_0) hisR ?_
  intro p e s m args below meth c s₁ Bd hml0 hP hK
  obtain ⟨rfl, hZ, hh⟩ := hP
  have hx := Bd.exec
  have hby := Bd.bytes
  have hml : c.maxLocals = 2 := hml0
  have hown : s.vm.findClass "com/example/bloodwood/bloodwood/internal/TreePath" = some m.cls := findClass_of_methodNamed Bd.named
  have hnm := (name_of_methodNamed Bd.named Bd.method).1
  have X0 : Stand p l e ({ frames := 2, cells := 0, slots := 0, locals := 29 } : Room) s m #[(.long q)] below meth c s₁ [] 0 0 := Stand.of_body Bd
  have e0 : s₁.heap = h0 := by rw [← hh, Bd.state]; rfl
  have N0 := Fr.nil n0
  refine own_gl ?_
  refine own_st (S' := s₁.setTop (mkF m 0 #[.val (.long q), .second] [])) (fun t_ k_ => castTop (ef_6 m q) k_) ?_
  refine own_st (S' := s₁.setTop (mkF m 2 #[.val (.long q), .second] [(.int (63 : Int32))])) (fun t_ k_ => XS.bipush X0.here hx rfl (hb hby d6_0) k_) ?_
  refine own_st (S' := s₁.setTop (mkF m 3 #[.val (.long q), .second] [(.long q), (.int (63 : Int32))])) (fun t_ k_ => XS.lloadN X0.here hx rfl (hb hby d6_2) rfl k_) ?_
  obtain ⟨_, _, ⟨T_1, L_1, k_1, n_1⟩, -, X_1, ⟨Lc_1, hQ_1, l_1, y_1, z_1⟩, st_1⟩ := Jvm.LawKit.callS X0 hx (y := (⟨"java/lang/Long", "numberOfLeadingZeros", "(J)I"⟩ : MethodName)) hown (mvT hZ (hw _ (List.mem_of_getElem? (i := 15) rfl))) (mvT hZ (hw _ (List.mem_of_getElem? (i := 16) rfl))) (mvT hZ (hw _ (List.mem_of_getElem? (i := 17) rfl))) (mvT hZ (hw _ (List.mem_of_getElem? (i := 18) rfl))) (by decide) (backOf (W := 1) (rm5 l Z a0 hw [] q h0 n0 Z0 ) hZ (hw _ (List.mem_of_getElem? (i := 18) rfl)) (hw _ (List.mem_of_getElem? (i := 17) rfl)) (by decide) (by decide)) (g := (mkF m 3 #[.val (.long q), .second] [(.long q), (.int (63 : Int32))])) rfl (by rw [hml]; rfl) (argsL := [(.long q)]) (rest := [(.int (63 : Int32))]) (lenOf pd_1 rfl) rfl (by show 2 * 0 + _ ≤ _; exact Nat.le_of_eq rfl) (hb hby d6_3) (fun _ _ => ⟨rfl, e0, (by decide : 0 + 0 ≤ _), (by decide : 0 + 0 ≤ _)⟩)
  dsimp only [Pt.U, Pt.locs, Pt.cells, Pt.slots] at X_1 l_1 y_1 z_1 st_1 hQ_1
  subst l_1 y_1 z_1
  obtain ⟨rfl, M_1, q_1⟩ := hQ_1
  have N_1 := Fr.app N0 M_1
  refine own_st (S' := T_1.setTop (mkF m 6 #[.val (.long q), .second] [(.int (own_nlz64 q)), (.int (63 : Int32))])) st_1 ?_
  refine own_st (S' := T_1.setTop (mkF m 7 #[.val (.long q), .second] [(.int ((63 : Int32) - (own_nlz64 q)))])) (fun t_ k_ => XS.isub X_1.here hx rfl (hb hby d6_6) rfl k_) ?_
  obtain ⟨fs, hr, hrun, hended, hW, hsame⟩ := X_1.leave (v := some (.int ((63 : Int32) - (own_nlz64 q)))) (fun h => by rw [Bd.returns] at h; cases h)
  refine ⟨_, _, retI X_1 hx Bd.returns (hb hby d6_7) hr, hrun, hended, _, _, rfl, ?_, ⟨_, rfl⟩, hW, hsame.mono (by decide) (by decide)⟩
  show Q6 Z q h0 n0 _ T_1.heap _
  rw [q_1]
  exact ⟨rfl, N_1, rfl⟩
theorem pn_3 : plainName "com/example/bloodwood/bloodwood/internal/TreePathChildPinLaw" = true := by first | (simp [plainName, overriddenIn]; done) | decide +kernel
theorem ef_0 (m : MethodId) (p0 : Int64) (p1 : Int32) : entryFrame m #[(.long p0), (.int p1)] maxLocals = mkF m 0 #[.val (.long p0), .second, .val (.int p1), .unset, .unset, .unset, .unset, .unset, .unset, .unset, .unset, .unset] [] := by first | (simp [entryFrame, mkF, argsToLocals, Value.category, maxLocals]; done) | rfl
theorem pd_2 : parseMethodDescriptor "(JZ)J" = some ⟨[.long, .boolean], some .long⟩ := by decide +kernel
theorem pd_3 : parseMethodDescriptor "(JI)J" = some ⟨[.long, .int], some .long⟩ := by decide +kernel
theorem pd_4 : parseMethodDescriptor "(J)Z" = some ⟨[.long], some .boolean⟩ := by decide +kernel
def Q0 (Z : State) (p0 : Int64) (p1 : Int32) (h0 : Heap) (n0 : Nat) (v : Option Value) (h : Heap) (L : List Loc) : Prop := v = some (.int (1 : Int32)) ∧ Fr n0 L
set_option maxRecDepth 65536 in
set_option maxHeartbeats 40000000 in
theorem rm0 (l : Launch) (Z : State) (a0 : Array Value) (hw : ∀ d ∈ tables_1, d.before a0 Z = true) (ws : List Jvm.Cond) (p0 : Int64) (p1 : Int32) (h0 : Heap) (n0 : Nat) (Z0 : n0 ≤ h0.size)  :
    MetFree l x (head1 (Jvm.Cond.code x code maxLocals ret :: ws) room_1) (fun ar_ U => ar_ = #[(.long p0), (.int p1)] ∧ Z.Warmed39 U.vm ∧ U.heap = h0) (fun _ _ _ _ _ => True) (fun _ U o U' => ∃ v L, o = .returned v ∧ Q0 Z p0 p1 h0 n0 v U'.heap L ∧ FrameEnd U o U' L room_1.cells room_1.slots) := by
  refine MetFree.of_bodySF (plainFor_of_name pn_3) hisR ?_
  intro p e s m args below meth c s₁ Bd hml0 hP hK
  obtain ⟨rfl, hZ, hh⟩ := hP
  have hx := Bd.exec
  have hby := Bd.bytes
  have hml : c.maxLocals = 12 := hml0
  have hown : s.vm.findClass "com/example/bloodwood/bloodwood/internal/TreePathChildPinLaw" = some m.cls := findClass_of_methodNamed Bd.named
  have hnm := (name_of_methodNamed Bd.named Bd.method).1
  have X0 : Stand p l e room_1 s m #[(.long p0), (.int p1)] below meth c s₁ [] 0 0 := Stand.of_body Bd
  have e0 : s₁.heap = h0 := by rw [← hh, Bd.state]; rfl
  have N0 := Fr.nil n0
  refine own_gl ?_
  refine own_st (S' := s₁.setTop (mkF m 0 #[.val (.long p0), .second, .val (.int p1), .unset, .unset, .unset, .unset, .unset, .unset, .unset, .unset, .unset] [])) (fun t_ k_ => castTop (ef_0 m p0 p1) k_) ?_
  refine own_st (S' := s₁.setTop (mkF m 1 #[.val (.long p0), .second, .val (.int p1), .unset, .unset, .unset, .unset, .unset, .unset, .unset, .unset, .unset] [(.int p1)])) (fun t_ k_ => XS.iloadN X0.here hx rfl (hb hby at_0) rfl k_) ?_
  refine own_st (S' := s₁.setTop (mkF m 2 #[.val (.long p0), .second, .val (.int p1), .unset, .unset, .unset, .unset, .unset, .unset, .unset, .unset, .unset] [(.int (1 : Int32)), (.int p1)])) (fun t_ k_ => XS.iconst X0.here hx rfl (hb hby at_1) k_) ?_
  refine own_st (S' := s₁.setTop (mkF m 3 #[.val (.long p0), .second, .val (.int p1), .unset, .unset, .unset, .unset, .unset, .unset, .unset, .unset, .unset] [(.int (p1 &&& (1 : Int32)))])) (fun t_ k_ => XS.iand X0.here hx rfl (hb hby at_2) rfl k_) ?_
  by_cases hc3 : (p1 &&& (1 : Int32)) = (0 : Int32)
  · refine own_st (S' := s₁.setTop (mkF m 10 #[.val (.long p0), .second, .val (.int p1), .unset, .unset, .unset, .unset, .unset, .unset, .unset, .unset, .unset] [])) (fun t_ k_ => XS.ifYes X0.here hx rfl (pc0 := 3) (pc' := 10) rfl (hb hby at_3) rfl ((if0 _ _).trans (teq hc3).1) (by decide) (by decide) k_) ?_
    refine own_st (S' := s₁.setTop (mkF m 11 #[.val (.long p0), .second, .val (.int p1), .unset, .unset, .unset, .unset, .unset, .unset, .unset, .unset, .unset] [(.int (0 : Int32))])) (fun t_ k_ => XS.iconst X0.here hx rfl (hb hby at_10) k_) ?_
    refine own_st (S' := s₁.setTop (mkF m 12 #[.val (.long p0), .second, .val (.int p1), .val (.int (0 : Int32)), .unset, .unset, .unset, .unset, .unset, .unset, .unset, .unset] [])) (fun t_ k_ => XS.istoreN X0.here hx rfl (hb hby at_11) rfl (l' := #[.val (.long p0), .second, .val (.int p1), .val (.int (0 : Int32)), .unset, .unset, .unset, .unset, .unset, .unset, .unset, .unset]) rfl k_) ?_
    refine own_st (S' := s₁.setTop (mkF m 13 #[.val (.long p0), .second, .val (.int p1), .val (.int (0 : Int32)), .unset, .unset, .unset, .unset, .unset, .unset, .unset, .unset] [(.int (0 : Int32))])) (fun t_ k_ => XS.iloadN X0.here hx rfl (hb hby at_12) rfl k_) ?_
    refine own_st (S' := s₁.setTop (mkF m 20 #[.val (.long p0), .second, .val (.int p1), .val (.int (0 : Int32)), .unset, .unset, .unset, .unset, .unset, .unset, .unset, .unset] [])) (fun t_ k_ => XS.ifYes X0.here hx rfl (pc0 := 13) (pc' := 20) rfl (hb hby at_13) rfl ((if0 _ _).trans (teq (by decide : (0 : Int32) = (0 : Int32))).1) (by decide) (by decide) k_) ?_
    refine own_st (S' := s₁.setTop (mkF m 21 #[.val (.long p0), .second, .val (.int p1), .val (.int (0 : Int32)), .unset, .unset, .unset, .unset, .unset, .unset, .unset, .unset] [(.long (0 : Int64))])) (fun t_ k_ => XS.lconst X0.here hx rfl (hb hby at_20) k_) ?_
    refine own_st (S' := s₁.setTop (mkF m 23 #[.val (.long p0), .second, .val (.int p1), .val (.int (0 : Int32)), .val (.long (0 : Int64)), .second, .unset, .unset, .unset, .unset, .unset, .unset] [])) (fun t_ k_ => XS.lstore X0.here hx rfl (hb hby at_21) rfl (l' := #[.val (.long p0), .second, .val (.int p1), .val (.int (0 : Int32)), .val (.long (0 : Int64)), .second, .unset, .unset, .unset, .unset, .unset, .unset]) rfl k_) ?_
    refine own_st (S' := s₁.setTop (mkF m 24 #[.val (.long p0), .second, .val (.int p1), .val (.int (0 : Int32)), .val (.long (0 : Int64)), .second, .unset, .unset, .unset, .unset, .unset, .unset] [(.long p0)])) (fun t_ k_ => XS.lloadN X0.here hx rfl (hb hby at_23) rfl k_) ?_
    refine own_st (S' := s₁.setTop (mkF m 25 #[.val (.long p0), .second, .val (.int p1), .val (.int (0 : Int32)), .val (.long (0 : Int64)), .second, .unset, .unset, .unset, .unset, .unset, .unset] [(.int (0 : Int32)), (.long p0)])) (fun t_ k_ => XS.iloadN X0.here hx rfl (hb hby at_24) rfl k_) ?_
    obtain ⟨_, _, ⟨T_1, L_1, k_1, n_1⟩, -, X_1, ⟨Lc_1, hQ_1, l_1, y_1, z_1⟩, st_1⟩ := Jvm.LawKit.callS X0 hx (y := (⟨"com/example/bloodwood/bloodwood/internal/TreePath", "child", "(JZ)J"⟩ : MethodName)) hown (mvT hZ (hw _ (List.mem_of_getElem? (i := 0) rfl))) (mvT hZ (hw _ (List.mem_of_getElem? (i := 1) rfl))) (mvT hZ (hw _ (List.mem_of_getElem? (i := 2) rfl))) (mvT hZ (hw _ (List.mem_of_getElem? (i := 3) rfl))) (by decide) (backOf (W := 0) (rm1 l Z a0 hw [] p0 (0 : Int32) h0 n0 Z0 ) hZ (hw _ (List.mem_of_getElem? (i := 3) rfl)) (hw _ (List.mem_of_getElem? (i := 2) rfl)) (by decide) (by decide)) (g := (mkF m 25 #[.val (.long p0), .second, .val (.int p1), .val (.int (0 : Int32)), .val (.long (0 : Int64)), .second, .unset, .unset, .unset, .unset, .unset, .unset] [(.int (0 : Int32)), (.long p0)])) rfl (by rw [hml]; rfl) (argsL := [(.long p0), (.int (0 : Int32))]) (rest := []) (lenOf pd_2 rfl) rfl (by show 2 * 0 + _ ≤ _; exact Nat.le_of_eq rfl) (hb hby at_25) (fun _ _ => ⟨rfl, e0, (by decide : 0 + 0 ≤ _), (by decide : 0 + 0 ≤ _)⟩)
    dsimp only [Pt.U, Pt.locs, Pt.cells, Pt.slots] at X_1 l_1 y_1 z_1 st_1 hQ_1
    subst l_1 y_1 z_1
    obtain ⟨rfl, M_1, q_1⟩ := hQ_1
    have N_1 := Fr.app N0 M_1
    refine own_st (S' := T_1.setTop (mkF m 28 #[.val (.long p0), .second, .val (.int p1), .val (.int (0 : Int32)), .val (.long (0 : Int64)), .second, .unset, .unset, .unset, .unset, .unset, .unset] [(.long (own_child p0 (0 : Int32)))])) st_1 ?_
    refine own_st (S' := T_1.setTop (mkF m 30 #[.val (.long p0), .second, .val (.int p1), .val (.int (0 : Int32)), .val (.long (0 : Int64)), .second, .val (.long (own_child p0 (0 : Int32))), .second, .unset, .unset, .unset, .unset] [])) (fun t_ k_ => XS.lstore X_1.here hx rfl (hb hby at_28) rfl (l' := #[.val (.long p0), .second, .val (.int p1), .val (.int (0 : Int32)), .val (.long (0 : Int64)), .second, .val (.long (own_child p0 (0 : Int32))), .second, .unset, .unset, .unset, .unset]) rfl k_) ?_
    refine own_st (S' := T_1.setTop (mkF m 32 #[.val (.long p0), .second, .val (.int p1), .val (.int (0 : Int32)), .val (.long (0 : Int64)), .second, .val (.long (own_child p0 (0 : Int32))), .second, .unset, .unset, .unset, .unset] [(.long (own_child p0 (0 : Int32)))])) (fun t_ k_ => XS.lload X_1.here hx rfl (hb hby at_30) rfl k_) ?_
    refine own_st (S' := T_1.setTop (mkF m 33 #[.val (.long p0), .second, .val (.int p1), .val (.int (0 : Int32)), .val (.long (0 : Int64)), .second, .val (.long (own_child p0 (0 : Int32))), .second, .unset, .unset, .unset, .unset] [(.long p0), (.long (own_child p0 (0 : Int32)))])) (fun t_ k_ => XS.lloadN X_1.here hx rfl (hb hby at_32) rfl k_) ?_
    refine own_st (S' := T_1.setTop (mkF m 36 #[.val (.long p0), .second, .val (.int p1), .val (.int (0 : Int32)), .val (.long (0 : Int64)), .second, .val (.long (own_child p0 (0 : Int32))), .second, .unset, .unset, .unset, .unset] [(.long (2 : Int64)), (.long p0), (.long (own_child p0 (0 : Int32)))])) (fun t_ k_ => X_1.ldc2J hx hown (mvT hZ (hw _ (List.mem_of_getElem? (i := 4) rfl))) (g := (mkF m 33 #[.val (.long p0), .second, .val (.int p1), .val (.int (0 : Int32)), .val (.long (0 : Int64)), .second, .val (.long (own_child p0 (0 : Int32))), .second, .unset, .unset, .unset, .unset] [(.long p0), (.long (own_child p0 (0 : Int32)))])) rfl (hb hby at_33) k_) ?_
    refine own_st (S' := T_1.setTop (mkF m 37 #[.val (.long p0), .second, .val (.int p1), .val (.int (0 : Int32)), .val (.long (0 : Int64)), .second, .val (.long (own_child p0 (0 : Int32))), .second, .unset, .unset, .unset, .unset] [(.long (p0 * (2 : Int64))), (.long (own_child p0 (0 : Int32)))])) (fun t_ k_ => XS.lmul X_1.here hx rfl (hb hby at_36) rfl k_) ?_
    refine own_st (S' := T_1.setTop (mkF m 39 #[.val (.long p0), .second, .val (.int p1), .val (.int (0 : Int32)), .val (.long (0 : Int64)), .second, .val (.long (own_child p0 (0 : Int32))), .second, .unset, .unset, .unset, .unset] [(.long (0 : Int64)), (.long (p0 * (2 : Int64))), (.long (own_child p0 (0 : Int32)))])) (fun t_ k_ => XS.lload X_1.here hx rfl (hb hby at_37) rfl k_) ?_
    refine own_st (S' := T_1.setTop (mkF m 40 #[.val (.long p0), .second, .val (.int p1), .val (.int (0 : Int32)), .val (.long (0 : Int64)), .second, .val (.long (own_child p0 (0 : Int32))), .second, .unset, .unset, .unset, .unset] [(.long ((p0 * (2 : Int64)) + (0 : Int64))), (.long (own_child p0 (0 : Int32)))])) (fun t_ k_ => XS.ladd X_1.here hx rfl (hb hby at_39) rfl k_) ?_
    refine own_st (S' := T_1.setTop (mkF m 41 #[.val (.long p0), .second, .val (.int p1), .val (.int (0 : Int32)), .val (.long (0 : Int64)), .second, .val (.long (own_child p0 (0 : Int32))), .second, .unset, .unset, .unset, .unset] [(.int (lcmpW (own_child p0 (0 : Int32)) ((p0 * (2 : Int64)) + (0 : Int64))))])) (fun t_ k_ => XS.lcmp X_1.here hx rfl (hb hby at_40) rfl k_) ?_
    by_cases hc41 : (own_child p0 (0 : Int32)) = ((p0 * (2 : Int64)) + (0 : Int64))
    · refine own_st (S' := T_1.setTop (mkF m 46 #[.val (.long p0), .second, .val (.int p1), .val (.int (0 : Int32)), .val (.long (0 : Int64)), .second, .val (.long (own_child p0 (0 : Int32))), .second, .unset, .unset, .unset, .unset] [])) (fun t_ k_ => XS.ifYes X_1.here hx rfl (pc0 := 41) (pc' := 46) rfl (hb hby at_41) rfl ((if0 _ _).trans (teq ((lw_eq _ _).mpr hc41)).1) (by decide) (by decide) k_) ?_
      refine own_st (S' := T_1.setTop (mkF m 47 #[.val (.long p0), .second, .val (.int p1), .val (.int (0 : Int32)), .val (.long (0 : Int64)), .second, .val (.long (own_child p0 (0 : Int32))), .second, .unset, .unset, .unset, .unset] [(.long p0)])) (fun t_ k_ => XS.lloadN X_1.here hx rfl (hb hby at_46) rfl k_) ?_
      refine own_st (S' := T_1.setTop (mkF m 50 #[.val (.long p0), .second, .val (.int p1), .val (.int (0 : Int32)), .val (.long (0 : Int64)), .second, .val (.long (own_child p0 (0 : Int32))), .second, .unset, .unset, .unset, .unset] [(.long (4611686018427387903 : Int64)), (.long p0)])) (fun t_ k_ => X_1.ldc2J hx hown (mvT hZ (hw _ (List.mem_of_getElem? (i := 5) rfl))) (g := (mkF m 47 #[.val (.long p0), .second, .val (.int p1), .val (.int (0 : Int32)), .val (.long (0 : Int64)), .second, .val (.long (own_child p0 (0 : Int32))), .second, .unset, .unset, .unset, .unset] [(.long p0)])) rfl (hb hby at_47) k_) ?_
      refine own_st (S' := T_1.setTop (mkF m 51 #[.val (.long p0), .second, .val (.int p1), .val (.int (0 : Int32)), .val (.long (0 : Int64)), .second, .val (.long (own_child p0 (0 : Int32))), .second, .unset, .unset, .unset, .unset] [(.long (p0 &&& (4611686018427387903 : Int64)))])) (fun t_ k_ => XS.land X_1.here hx rfl (hb hby at_50) rfl k_) ?_
      refine own_st (S' := T_1.setTop (mkF m 53 #[.val (.long p0), .second, .val (.int p1), .val (.int (0 : Int32)), .val (.long (0 : Int64)), .second, .val (.long (own_child p0 (0 : Int32))), .second, .val (.long (p0 &&& (4611686018427387903 : Int64))), .second, .unset, .unset] [])) (fun t_ k_ => XS.lstore X_1.here hx rfl (hb hby at_51) rfl (l' := #[.val (.long p0), .second, .val (.int p1), .val (.int (0 : Int32)), .val (.long (0 : Int64)), .second, .val (.long (own_child p0 (0 : Int32))), .second, .val (.long (p0 &&& (4611686018427387903 : Int64))), .second, .unset, .unset]) rfl k_) ?_
      refine own_st (S' := T_1.setTop (mkF m 55 #[.val (.long p0), .second, .val (.int p1), .val (.int (0 : Int32)), .val (.long (0 : Int64)), .second, .val (.long (own_child p0 (0 : Int32))), .second, .val (.long (p0 &&& (4611686018427387903 : Int64))), .second, .unset, .unset] [(.long (p0 &&& (4611686018427387903 : Int64)))])) (fun t_ k_ => XS.lload X_1.here hx rfl (hb hby at_53) rfl k_) ?_
      refine own_st (S' := T_1.setTop (mkF m 56 #[.val (.long p0), .second, .val (.int p1), .val (.int (0 : Int32)), .val (.long (0 : Int64)), .second, .val (.long (own_child p0 (0 : Int32))), .second, .val (.long (p0 &&& (4611686018427387903 : Int64))), .second, .unset, .unset] [(.long (0 : Int64)), (.long (p0 &&& (4611686018427387903 : Int64)))])) (fun t_ k_ => XS.lconst X_1.here hx rfl (hb hby at_55) k_) ?_
      refine own_st (S' := T_1.setTop (mkF m 57 #[.val (.long p0), .second, .val (.int p1), .val (.int (0 : Int32)), .val (.long (0 : Int64)), .second, .val (.long (own_child p0 (0 : Int32))), .second, .val (.long (p0 &&& (4611686018427387903 : Int64))), .second, .unset, .unset] [(.int (lcmpW (p0 &&& (4611686018427387903 : Int64)) (0 : Int64)))])) (fun t_ k_ => XS.lcmp X_1.here hx rfl (hb hby at_56) rfl k_) ?_
      by_cases hc57 : (p0 &&& (4611686018427387903 : Int64)) = (0 : Int64)
      · refine own_st (S' := T_1.setTop (mkF m 60 #[.val (.long p0), .second, .val (.int p1), .val (.int (0 : Int32)), .val (.long (0 : Int64)), .second, .val (.long (own_child p0 (0 : Int32))), .second, .val (.long (p0 &&& (4611686018427387903 : Int64))), .second, .unset, .unset] [])) (fun t_ k_ => XS.ifNo X_1.here hx rfl (hb hby at_57) rfl ((if0 _ _).trans (teq ((lw_eq _ _).mpr hc57)).2) k_) ?_
        refine own_st (S' := T_1.setTop (mkF m 61 #[.val (.long p0), .second, .val (.int p1), .val (.int (0 : Int32)), .val (.long (0 : Int64)), .second, .val (.long (own_child p0 (0 : Int32))), .second, .val (.long (p0 &&& (4611686018427387903 : Int64))), .second, .unset, .unset] [(.int (1 : Int32))])) (fun t_ k_ => XS.iconst X_1.here hx rfl (hb hby at_60) k_) ?_
        obtain ⟨fs, hr, hrun, hended, hW, hsame⟩ := X_1.leave (v := some (.int (1 : Int32))) (fun h => by rw [Bd.returns] at h; cases h)
        refine ⟨_, _, retN X_1 hx (t := .boolean) Bd.returns (by simp) (hb hby at_61) hr, hrun, hended, _, _, rfl, ?_, ⟨_, rfl⟩, hW, hsame.mono (by decide) (by decide)⟩
        show Q0 Z p0 p1 h0 n0 _ T_1.heap _
        rw [q_1]
        exact ⟨rfl, N_1⟩
      · refine own_st (S' := T_1.setTop (mkF m 62 #[.val (.long p0), .second, .val (.int p1), .val (.int (0 : Int32)), .val (.long (0 : Int64)), .second, .val (.long (own_child p0 (0 : Int32))), .second, .val (.long (p0 &&& (4611686018427387903 : Int64))), .second, .unset, .unset] [])) (fun t_ k_ => XS.ifYes X_1.here hx rfl (pc0 := 57) (pc' := 62) rfl (hb hby at_57) rfl ((if0 _ _).trans (feq (fun q => hc57 ((lw_eq _ _).mp q))).2) (by decide) (by decide) k_) ?_
        refine own_st (S' := T_1.setTop (mkF m 64 #[.val (.long p0), .second, .val (.int p1), .val (.int (0 : Int32)), .val (.long (0 : Int64)), .second, .val (.long (own_child p0 (0 : Int32))), .second, .val (.long (p0 &&& (4611686018427387903 : Int64))), .second, .unset, .unset] [(.long (p0 &&& (4611686018427387903 : Int64)))])) (fun t_ k_ => XS.lload X_1.here hx rfl (hb hby at_62) rfl k_) ?_
        refine own_st (S' := T_1.setTop (mkF m 65 #[.val (.long p0), .second, .val (.int p1), .val (.int (0 : Int32)), .val (.long (0 : Int64)), .second, .val (.long (own_child p0 (0 : Int32))), .second, .val (.long (p0 &&& (4611686018427387903 : Int64))), .second, .unset, .unset] [(.int (0 : Int32)), (.long (p0 &&& (4611686018427387903 : Int64)))])) (fun t_ k_ => XS.iloadN X_1.here hx rfl (hb hby at_64) rfl k_) ?_
        obtain ⟨_, _, ⟨T_2, L_2, k_2, n_2⟩, -, X_2, ⟨Lc_2, hQ_2, l_2, y_2, z_2⟩, st_2⟩ := Jvm.LawKit.callS X_1 hx (y := (⟨"com/example/bloodwood/bloodwood/internal/TreePath", "child", "(JZ)J"⟩ : MethodName)) hown (mvT hZ (hw _ (List.mem_of_getElem? (i := 0) rfl))) (mvT hZ (hw _ (List.mem_of_getElem? (i := 1) rfl))) (mvT hZ (hw _ (List.mem_of_getElem? (i := 2) rfl))) (mvT hZ (hw _ (List.mem_of_getElem? (i := 3) rfl))) (by decide) (backOf (W := 0) (rm1 l Z a0 hw [] (p0 &&& (4611686018427387903 : Int64)) (0 : Int32) h0 n0 Z0 ) hZ (hw _ (List.mem_of_getElem? (i := 3) rfl)) (hw _ (List.mem_of_getElem? (i := 2) rfl)) (by decide) (by decide)) (g := (mkF m 65 #[.val (.long p0), .second, .val (.int p1), .val (.int (0 : Int32)), .val (.long (0 : Int64)), .second, .val (.long (own_child p0 (0 : Int32))), .second, .val (.long (p0 &&& (4611686018427387903 : Int64))), .second, .unset, .unset] [(.int (0 : Int32)), (.long (p0 &&& (4611686018427387903 : Int64)))])) rfl (by rw [hml]; rfl) (argsL := [(.long (p0 &&& (4611686018427387903 : Int64))), (.int (0 : Int32))]) (rest := []) (lenOf pd_2 rfl) rfl (by show 2 * 0 + _ ≤ _; exact Nat.le_of_eq rfl) (hb hby at_65) (fun _ _ => ⟨rfl, q_1, (by decide : 0 + 0 ≤ _), (by decide : 0 + 0 ≤ _)⟩)
        dsimp only [Pt.U, Pt.locs, Pt.cells, Pt.slots] at X_2 l_2 y_2 z_2 st_2 hQ_2
        subst l_2 y_2 z_2
        obtain ⟨rfl, M_2, q_2⟩ := hQ_2
        have N_2 := Fr.app N_1 M_2
        refine own_st (S' := T_2.setTop (mkF m 68 #[.val (.long p0), .second, .val (.int p1), .val (.int (0 : Int32)), .val (.long (0 : Int64)), .second, .val (.long (own_child p0 (0 : Int32))), .second, .val (.long (p0 &&& (4611686018427387903 : Int64))), .second, .unset, .unset] [(.long (own_child (p0 &&& (4611686018427387903 : Int64)) (0 : Int32)))])) st_2 ?_
        refine own_st (S' := T_2.setTop (mkF m 70 #[.val (.long p0), .second, .val (.int p1), .val (.int (0 : Int32)), .val (.long (0 : Int64)), .second, .val (.long (own_child p0 (0 : Int32))), .second, .val (.long (p0 &&& (4611686018427387903 : Int64))), .second, .val (.long (own_child (p0 &&& (4611686018427387903 : Int64)) (0 : Int32))), .second] [])) (fun t_ k_ => XS.lstore X_2.here hx rfl (hb hby at_68) rfl (l' := #[.val (.long p0), .second, .val (.int p1), .val (.int (0 : Int32)), .val (.long (0 : Int64)), .second, .val (.long (own_child p0 (0 : Int32))), .second, .val (.long (p0 &&& (4611686018427387903 : Int64))), .second, .val (.long (own_child (p0 &&& (4611686018427387903 : Int64)) (0 : Int32))), .second]) rfl k_) ?_
        refine own_st (S' := T_2.setTop (mkF m 72 #[.val (.long p0), .second, .val (.int p1), .val (.int (0 : Int32)), .val (.long (0 : Int64)), .second, .val (.long (own_child p0 (0 : Int32))), .second, .val (.long (p0 &&& (4611686018427387903 : Int64))), .second, .val (.long (own_child (p0 &&& (4611686018427387903 : Int64)) (0 : Int32))), .second] [(.long (own_child (p0 &&& (4611686018427387903 : Int64)) (0 : Int32)))])) (fun t_ k_ => XS.lload X_2.here hx rfl (hb hby at_70) rfl k_) ?_
        refine own_st (S' := T_2.setTop (mkF m 73 #[.val (.long p0), .second, .val (.int p1), .val (.int (0 : Int32)), .val (.long (0 : Int64)), .second, .val (.long (own_child p0 (0 : Int32))), .second, .val (.long (p0 &&& (4611686018427387903 : Int64))), .second, .val (.long (own_child (p0 &&& (4611686018427387903 : Int64)) (0 : Int32))), .second] [(.int (1 : Int32)), (.long (own_child (p0 &&& (4611686018427387903 : Int64)) (0 : Int32)))])) (fun t_ k_ => XS.iconst X_2.here hx rfl (hb hby at_72) k_) ?_
        obtain ⟨_, _, ⟨T_3, L_3, k_3, n_3⟩, -, X_3, ⟨Lc_3, hQ_3, l_3, y_3, z_3⟩, st_3⟩ := Jvm.LawKit.callS X_2 hx (y := (⟨"com/example/bloodwood/bloodwood/internal/TreePath", "up", "(JI)J"⟩ : MethodName)) hown (mvT hZ (hw _ (List.mem_of_getElem? (i := 6) rfl))) (mvT hZ (hw _ (List.mem_of_getElem? (i := 7) rfl))) (mvT hZ (hw _ (List.mem_of_getElem? (i := 2) rfl))) (mvT hZ (hw _ (List.mem_of_getElem? (i := 8) rfl))) (by decide) (backOf (W := 0) (rm2 l Z a0 hw [] (own_child (p0 &&& (4611686018427387903 : Int64)) (0 : Int32)) (1 : Int32) h0 n0 Z0 ) hZ (hw _ (List.mem_of_getElem? (i := 8) rfl)) (hw _ (List.mem_of_getElem? (i := 2) rfl)) (by decide) (by decide)) (g := (mkF m 73 #[.val (.long p0), .second, .val (.int p1), .val (.int (0 : Int32)), .val (.long (0 : Int64)), .second, .val (.long (own_child p0 (0 : Int32))), .second, .val (.long (p0 &&& (4611686018427387903 : Int64))), .second, .val (.long (own_child (p0 &&& (4611686018427387903 : Int64)) (0 : Int32))), .second] [(.int (1 : Int32)), (.long (own_child (p0 &&& (4611686018427387903 : Int64)) (0 : Int32)))])) rfl (by rw [hml]; rfl) (argsL := [(.long (own_child (p0 &&& (4611686018427387903 : Int64)) (0 : Int32))), (.int (1 : Int32))]) (rest := []) (lenOf pd_3 rfl) rfl (by show 2 * 0 + _ ≤ _; exact Nat.le_of_eq rfl) (hb hby at_73) (fun _ _ => ⟨rfl, q_2, (by decide : 0 + 0 ≤ _), (by decide : 0 + 0 ≤ _)⟩)
        dsimp only [Pt.U, Pt.locs, Pt.cells, Pt.slots] at X_3 l_3 y_3 z_3 st_3 hQ_3
        subst l_3 y_3 z_3
        obtain ⟨rfl, M_3, q_3⟩ := hQ_3
        have N_3 := Fr.app N_2 M_3
        refine own_st (S' := T_3.setTop (mkF m 76 #[.val (.long p0), .second, .val (.int p1), .val (.int (0 : Int32)), .val (.long (0 : Int64)), .second, .val (.long (own_child p0 (0 : Int32))), .second, .val (.long (p0 &&& (4611686018427387903 : Int64))), .second, .val (.long (own_child (p0 &&& (4611686018427387903 : Int64)) (0 : Int32))), .second] [(.long (own_up (own_child (p0 &&& (4611686018427387903 : Int64)) (0 : Int32)) (1 : Int32)))])) st_3 ?_
        refine own_st (S' := T_3.setTop (mkF m 78 #[.val (.long p0), .second, .val (.int p1), .val (.int (0 : Int32)), .val (.long (0 : Int64)), .second, .val (.long (own_child p0 (0 : Int32))), .second, .val (.long (p0 &&& (4611686018427387903 : Int64))), .second, .val (.long (own_child (p0 &&& (4611686018427387903 : Int64)) (0 : Int32))), .second] [(.long (p0 &&& (4611686018427387903 : Int64))), (.long (own_up (own_child (p0 &&& (4611686018427387903 : Int64)) (0 : Int32)) (1 : Int32)))])) (fun t_ k_ => XS.lload X_3.here hx rfl (hb hby at_76) rfl k_) ?_
        refine own_st (S' := T_3.setTop (mkF m 79 #[.val (.long p0), .second, .val (.int p1), .val (.int (0 : Int32)), .val (.long (0 : Int64)), .second, .val (.long (own_child p0 (0 : Int32))), .second, .val (.long (p0 &&& (4611686018427387903 : Int64))), .second, .val (.long (own_child (p0 &&& (4611686018427387903 : Int64)) (0 : Int32))), .second] [(.int (lcmpW (own_up (own_child (p0 &&& (4611686018427387903 : Int64)) (0 : Int32)) (1 : Int32)) (p0 &&& (4611686018427387903 : Int64))))])) (fun t_ k_ => XS.lcmp X_3.here hx rfl (hb hby at_78) rfl k_) ?_
        by_cases hc79 : (own_up (own_child (p0 &&& (4611686018427387903 : Int64)) (0 : Int32)) (1 : Int32)) = (p0 &&& (4611686018427387903 : Int64))
        · refine own_st (S' := T_3.setTop (mkF m 82 #[.val (.long p0), .second, .val (.int p1), .val (.int (0 : Int32)), .val (.long (0 : Int64)), .second, .val (.long (own_child p0 (0 : Int32))), .second, .val (.long (p0 &&& (4611686018427387903 : Int64))), .second, .val (.long (own_child (p0 &&& (4611686018427387903 : Int64)) (0 : Int32))), .second] [])) (fun t_ k_ => XS.ifNo X_3.here hx rfl (hb hby at_79) rfl ((if0 _ _).trans (teq ((lw_eq _ _).mpr hc79)).2) k_) ?_
          refine own_st (S' := T_3.setTop (mkF m 84 #[.val (.long p0), .second, .val (.int p1), .val (.int (0 : Int32)), .val (.long (0 : Int64)), .second, .val (.long (own_child p0 (0 : Int32))), .second, .val (.long (p0 &&& (4611686018427387903 : Int64))), .second, .val (.long (own_child (p0 &&& (4611686018427387903 : Int64)) (0 : Int32))), .second] [(.long (own_child (p0 &&& (4611686018427387903 : Int64)) (0 : Int32)))])) (fun t_ k_ => XS.lload X_3.here hx rfl (hb hby at_82) rfl k_) ?_
          obtain ⟨_, _, ⟨T_4, L_4, k_4, n_4⟩, -, X_4, ⟨Lc_4, hQ_4, l_4, y_4, z_4⟩, st_4⟩ := Jvm.LawKit.callS X_3 hx (y := (⟨"com/example/bloodwood/bloodwood/internal/TreePath", "endsRight", "(J)Z"⟩ : MethodName)) hown (mvT hZ (hw _ (List.mem_of_getElem? (i := 9) rfl))) (mvT hZ (hw _ (List.mem_of_getElem? (i := 10) rfl))) (mvT hZ (hw _ (List.mem_of_getElem? (i := 2) rfl))) (mvT hZ (hw _ (List.mem_of_getElem? (i := 11) rfl))) (by decide) (backOf (W := 0) (rm3 l Z a0 hw [] (own_child (p0 &&& (4611686018427387903 : Int64)) (0 : Int32)) h0 n0 Z0 ) hZ (hw _ (List.mem_of_getElem? (i := 11) rfl)) (hw _ (List.mem_of_getElem? (i := 2) rfl)) (by decide) (by decide)) (g := (mkF m 84 #[.val (.long p0), .second, .val (.int p1), .val (.int (0 : Int32)), .val (.long (0 : Int64)), .second, .val (.long (own_child p0 (0 : Int32))), .second, .val (.long (p0 &&& (4611686018427387903 : Int64))), .second, .val (.long (own_child (p0 &&& (4611686018427387903 : Int64)) (0 : Int32))), .second] [(.long (own_child (p0 &&& (4611686018427387903 : Int64)) (0 : Int32)))])) rfl (by rw [hml]; rfl) (argsL := [(.long (own_child (p0 &&& (4611686018427387903 : Int64)) (0 : Int32)))]) (rest := []) (lenOf pd_4 rfl) rfl (by show 2 * 0 + _ ≤ _; exact Nat.le_of_eq rfl) (hb hby at_84) (fun _ _ => ⟨rfl, q_3, (by decide : 0 + 0 ≤ _), (by decide : 0 + 0 ≤ _)⟩)
          dsimp only [Pt.U, Pt.locs, Pt.cells, Pt.slots] at X_4 l_4 y_4 z_4 st_4 hQ_4
          subst l_4 y_4 z_4
          obtain ⟨rfl, M_4, q_4⟩ := hQ_4
          have N_4 := Fr.app N_3 M_4
          refine own_st (S' := T_4.setTop (mkF m 87 #[.val (.long p0), .second, .val (.int p1), .val (.int (0 : Int32)), .val (.long (0 : Int64)), .second, .val (.long (own_child p0 (0 : Int32))), .second, .val (.long (p0 &&& (4611686018427387903 : Int64))), .second, .val (.long (own_child (p0 &&& (4611686018427387903 : Int64)) (0 : Int32))), .second] [(.int (own_er (own_child (p0 &&& (4611686018427387903 : Int64)) (0 : Int32))))])) st_4 ?_
          refine own_st (S' := T_4.setTop (mkF m 88 #[.val (.long p0), .second, .val (.int p1), .val (.int (0 : Int32)), .val (.long (0 : Int64)), .second, .val (.long (own_child p0 (0 : Int32))), .second, .val (.long (p0 &&& (4611686018427387903 : Int64))), .second, .val (.long (own_child (p0 &&& (4611686018427387903 : Int64)) (0 : Int32))), .second] [(.int (0 : Int32)), (.int (own_er (own_child (p0 &&& (4611686018427387903 : Int64)) (0 : Int32))))])) (fun t_ k_ => XS.iloadN X_4.here hx rfl (hb hby at_87) rfl k_) ?_
          by_cases hc88 : (own_er (own_child (p0 &&& (4611686018427387903 : Int64)) (0 : Int32))) = (0 : Int32)
          · refine own_st (S' := T_4.setTop (mkF m 91 #[.val (.long p0), .second, .val (.int p1), .val (.int (0 : Int32)), .val (.long (0 : Int64)), .second, .val (.long (own_child p0 (0 : Int32))), .second, .val (.long (p0 &&& (4611686018427387903 : Int64))), .second, .val (.long (own_child (p0 &&& (4611686018427387903 : Int64)) (0 : Int32))), .second] [])) (fun t_ k_ => XS.icmpNo X_4.here hx rfl (hb hby at_88) rfl (teq hc88).2 k_) ?_
            refine own_st (S' := T_4.setTop (mkF m 93 #[.val (.long p0), .second, .val (.int p1), .val (.int (0 : Int32)), .val (.long (0 : Int64)), .second, .val (.long (own_child p0 (0 : Int32))), .second, .val (.long (p0 &&& (4611686018427387903 : Int64))), .second, .val (.long (own_child (p0 &&& (4611686018427387903 : Int64)) (0 : Int32))), .second] [(.long (own_child (p0 &&& (4611686018427387903 : Int64)) (0 : Int32)))])) (fun t_ k_ => XS.lload X_4.here hx rfl (hb hby at_91) rfl k_) ?_
            obtain ⟨_, _, ⟨T_5, L_5, k_5, n_5⟩, -, X_5, ⟨Lc_5, hQ_5, l_5, y_5, z_5⟩, st_5⟩ := Jvm.LawKit.callS X_4 hx (y := (⟨"com/example/bloodwood/bloodwood/internal/TreePath", "depth", "(J)I"⟩ : MethodName)) hown (mvT hZ (hw _ (List.mem_of_getElem? (i := 12) rfl))) (mvT hZ (hw _ (List.mem_of_getElem? (i := 13) rfl))) (mvT hZ (hw _ (List.mem_of_getElem? (i := 2) rfl))) (mvT hZ (hw _ (List.mem_of_getElem? (i := 14) rfl))) (by decide) (backOf (W := 0) (rm6 l Z a0 hw [] (own_child (p0 &&& (4611686018427387903 : Int64)) (0 : Int32)) h0 n0 Z0 ) hZ (hw _ (List.mem_of_getElem? (i := 14) rfl)) (hw _ (List.mem_of_getElem? (i := 2) rfl)) (by decide) (by decide)) (g := (mkF m 93 #[.val (.long p0), .second, .val (.int p1), .val (.int (0 : Int32)), .val (.long (0 : Int64)), .second, .val (.long (own_child p0 (0 : Int32))), .second, .val (.long (p0 &&& (4611686018427387903 : Int64))), .second, .val (.long (own_child (p0 &&& (4611686018427387903 : Int64)) (0 : Int32))), .second] [(.long (own_child (p0 &&& (4611686018427387903 : Int64)) (0 : Int32)))])) rfl (by rw [hml]; rfl) (argsL := [(.long (own_child (p0 &&& (4611686018427387903 : Int64)) (0 : Int32)))]) (rest := []) (lenOf pd_1 rfl) rfl (by show 2 * 0 + _ ≤ _; exact Nat.le_of_eq rfl) (hb hby at_93) (fun _ _ => ⟨rfl, q_4, (by decide : 0 + 0 ≤ _), (by decide : 0 + 0 ≤ _)⟩)
            dsimp only [Pt.U, Pt.locs, Pt.cells, Pt.slots] at X_5 l_5 y_5 z_5 st_5 hQ_5
            subst l_5 y_5 z_5
            obtain ⟨rfl, M_5, q_5⟩ := hQ_5
            have N_5 := Fr.app N_4 M_5
            refine own_st (S' := T_5.setTop (mkF m 96 #[.val (.long p0), .second, .val (.int p1), .val (.int (0 : Int32)), .val (.long (0 : Int64)), .second, .val (.long (own_child p0 (0 : Int32))), .second, .val (.long (p0 &&& (4611686018427387903 : Int64))), .second, .val (.long (own_child (p0 &&& (4611686018427387903 : Int64)) (0 : Int32))), .second] [(.int ((63 : Int32) - (own_nlz64 (own_child (p0 &&& (4611686018427387903 : Int64)) (0 : Int32)))))])) st_5 ?_
            refine own_st (S' := T_5.setTop (mkF m 98 #[.val (.long p0), .second, .val (.int p1), .val (.int (0 : Int32)), .val (.long (0 : Int64)), .second, .val (.long (own_child p0 (0 : Int32))), .second, .val (.long (p0 &&& (4611686018427387903 : Int64))), .second, .val (.long (own_child (p0 &&& (4611686018427387903 : Int64)) (0 : Int32))), .second] [(.long (p0 &&& (4611686018427387903 : Int64))), (.int ((63 : Int32) - (own_nlz64 (own_child (p0 &&& (4611686018427387903 : Int64)) (0 : Int32)))))])) (fun t_ k_ => XS.lload X_5.here hx rfl (hb hby at_96) rfl k_) ?_
            obtain ⟨_, _, ⟨T_6, L_6, k_6, n_6⟩, -, X_6, ⟨Lc_6, hQ_6, l_6, y_6, z_6⟩, st_6⟩ := Jvm.LawKit.callS X_5 hx (y := (⟨"com/example/bloodwood/bloodwood/internal/TreePath", "depth", "(J)I"⟩ : MethodName)) hown (mvT hZ (hw _ (List.mem_of_getElem? (i := 12) rfl))) (mvT hZ (hw _ (List.mem_of_getElem? (i := 13) rfl))) (mvT hZ (hw _ (List.mem_of_getElem? (i := 2) rfl))) (mvT hZ (hw _ (List.mem_of_getElem? (i := 14) rfl))) (by decide) (backOf (W := 1) (rm6 l Z a0 hw [] (p0 &&& (4611686018427387903 : Int64)) h0 n0 Z0 ) hZ (hw _ (List.mem_of_getElem? (i := 14) rfl)) (hw _ (List.mem_of_getElem? (i := 2) rfl)) (by decide) (by decide)) (g := (mkF m 98 #[.val (.long p0), .second, .val (.int p1), .val (.int (0 : Int32)), .val (.long (0 : Int64)), .second, .val (.long (own_child p0 (0 : Int32))), .second, .val (.long (p0 &&& (4611686018427387903 : Int64))), .second, .val (.long (own_child (p0 &&& (4611686018427387903 : Int64)) (0 : Int32))), .second] [(.long (p0 &&& (4611686018427387903 : Int64))), (.int ((63 : Int32) - (own_nlz64 (own_child (p0 &&& (4611686018427387903 : Int64)) (0 : Int32)))))])) rfl (by rw [hml]; rfl) (argsL := [(.long (p0 &&& (4611686018427387903 : Int64)))]) (rest := [(.int ((63 : Int32) - (own_nlz64 (own_child (p0 &&& (4611686018427387903 : Int64)) (0 : Int32)))))]) (lenOf pd_1 rfl) rfl (by show 2 * 0 + _ ≤ _; exact Nat.le_of_eq rfl) (hb hby at_98) (fun _ _ => ⟨rfl, q_5, (by decide : 0 + 0 ≤ _), (by decide : 0 + 0 ≤ _)⟩)
            dsimp only [Pt.U, Pt.locs, Pt.cells, Pt.slots] at X_6 l_6 y_6 z_6 st_6 hQ_6
            subst l_6 y_6 z_6
            obtain ⟨rfl, M_6, q_6⟩ := hQ_6
            have N_6 := Fr.app N_5 M_6
            refine own_st (S' := T_6.setTop (mkF m 101 #[.val (.long p0), .second, .val (.int p1), .val (.int (0 : Int32)), .val (.long (0 : Int64)), .second, .val (.long (own_child p0 (0 : Int32))), .second, .val (.long (p0 &&& (4611686018427387903 : Int64))), .second, .val (.long (own_child (p0 &&& (4611686018427387903 : Int64)) (0 : Int32))), .second] [(.int ((63 : Int32) - (own_nlz64 (p0 &&& (4611686018427387903 : Int64))))), (.int ((63 : Int32) - (own_nlz64 (own_child (p0 &&& (4611686018427387903 : Int64)) (0 : Int32)))))])) st_6 ?_
            refine own_st (S' := T_6.setTop (mkF m 102 #[.val (.long p0), .second, .val (.int p1), .val (.int (0 : Int32)), .val (.long (0 : Int64)), .second, .val (.long (own_child p0 (0 : Int32))), .second, .val (.long (p0 &&& (4611686018427387903 : Int64))), .second, .val (.long (own_child (p0 &&& (4611686018427387903 : Int64)) (0 : Int32))), .second] [(.int (1 : Int32)), (.int ((63 : Int32) - (own_nlz64 (p0 &&& (4611686018427387903 : Int64))))), (.int ((63 : Int32) - (own_nlz64 (own_child (p0 &&& (4611686018427387903 : Int64)) (0 : Int32)))))])) (fun t_ k_ => XS.iconst X_6.here hx rfl (hb hby at_101) k_) ?_
            refine own_st (S' := T_6.setTop (mkF m 103 #[.val (.long p0), .second, .val (.int p1), .val (.int (0 : Int32)), .val (.long (0 : Int64)), .second, .val (.long (own_child p0 (0 : Int32))), .second, .val (.long (p0 &&& (4611686018427387903 : Int64))), .second, .val (.long (own_child (p0 &&& (4611686018427387903 : Int64)) (0 : Int32))), .second] [(.int (((63 : Int32) - (own_nlz64 (p0 &&& (4611686018427387903 : Int64)))) + (1 : Int32))), (.int ((63 : Int32) - (own_nlz64 (own_child (p0 &&& (4611686018427387903 : Int64)) (0 : Int32)))))])) (fun t_ k_ => XS.iadd X_6.here hx rfl (hb hby at_102) rfl k_) ?_
            by_cases hc103 : ((63 : Int32) - (own_nlz64 (own_child (p0 &&& (4611686018427387903 : Int64)) (0 : Int32)))) = (((63 : Int32) - (own_nlz64 (p0 &&& (4611686018427387903 : Int64)))) + (1 : Int32))
            · refine own_st (S' := T_6.setTop (mkF m 106 #[.val (.long p0), .second, .val (.int p1), .val (.int (0 : Int32)), .val (.long (0 : Int64)), .second, .val (.long (own_child p0 (0 : Int32))), .second, .val (.long (p0 &&& (4611686018427387903 : Int64))), .second, .val (.long (own_child (p0 &&& (4611686018427387903 : Int64)) (0 : Int32))), .second] [])) (fun t_ k_ => XS.icmpNo X_6.here hx rfl (hb hby at_103) rfl (teq hc103).2 k_) ?_
              refine own_st (S' := T_6.setTop (mkF m 107 #[.val (.long p0), .second, .val (.int p1), .val (.int (0 : Int32)), .val (.long (0 : Int64)), .second, .val (.long (own_child p0 (0 : Int32))), .second, .val (.long (p0 &&& (4611686018427387903 : Int64))), .second, .val (.long (own_child (p0 &&& (4611686018427387903 : Int64)) (0 : Int32))), .second] [(.int (1 : Int32))])) (fun t_ k_ => XS.iconst X_6.here hx rfl (hb hby at_106) k_) ?_
              refine own_st (S' := T_6.setTop (mkF m 111 #[.val (.long p0), .second, .val (.int p1), .val (.int (0 : Int32)), .val (.long (0 : Int64)), .second, .val (.long (own_child p0 (0 : Int32))), .second, .val (.long (p0 &&& (4611686018427387903 : Int64))), .second, .val (.long (own_child (p0 &&& (4611686018427387903 : Int64)) (0 : Int32))), .second] [(.int (1 : Int32))])) (fun t_ k_ => XS.goto X_6.here hx rfl (pc0 := 107) (pc' := 111) rfl (hb hby at_107) (by decide) (by decide) k_) ?_
              obtain ⟨fs, hr, hrun, hended, hW, hsame⟩ := X_6.leave (v := some (.int (1 : Int32))) (fun h => by rw [Bd.returns] at h; cases h)
              refine ⟨_, _, retN X_6 hx (t := .boolean) Bd.returns (by simp) (hb hby at_111) hr, hrun, hended, _, _, rfl, ?_, ⟨_, rfl⟩, hW, hsame.mono (by decide) (by decide)⟩
              show Q0 Z p0 p1 h0 n0 _ T_6.heap _
              rw [q_6]
              exact ⟨rfl, N_6⟩
            · exact absurd (own_depth (own_p p0 hc57).1 (by rw [(own_d 0 0 (by decide) (by decide) (own_p p0 hc57))]; omega)) hc103
          · exact absurd (own_er0 (own_d 0 0 (by decide) (by decide) (own_p p0 hc57))) hc88
        · exact absurd (own_upd 0 (by decide) (own_p p0 hc57) (own_d 0 0 (by decide) (by decide) (own_p p0 hc57))) hc79
    · exact absurd (own_ch0 p0) hc41
  · refine own_st (S' := s₁.setTop (mkF m 6 #[.val (.long p0), .second, .val (.int p1), .unset, .unset, .unset, .unset, .unset, .unset, .unset, .unset, .unset] [])) (fun t_ k_ => XS.ifNo X0.here hx rfl (hb hby at_3) rfl ((if0 _ _).trans (feq hc3).1) k_) ?_
    refine own_st (S' := s₁.setTop (mkF m 7 #[.val (.long p0), .second, .val (.int p1), .unset, .unset, .unset, .unset, .unset, .unset, .unset, .unset, .unset] [(.int (1 : Int32))])) (fun t_ k_ => XS.iconst X0.here hx rfl (hb hby at_6) k_) ?_
    refine own_st (S' := s₁.setTop (mkF m 11 #[.val (.long p0), .second, .val (.int p1), .unset, .unset, .unset, .unset, .unset, .unset, .unset, .unset, .unset] [(.int (1 : Int32))])) (fun t_ k_ => XS.goto X0.here hx rfl (pc0 := 7) (pc' := 11) rfl (hb hby at_7) (by decide) (by decide) k_) ?_
    refine own_st (S' := s₁.setTop (mkF m 12 #[.val (.long p0), .second, .val (.int p1), .val (.int (1 : Int32)), .unset, .unset, .unset, .unset, .unset, .unset, .unset, .unset] [])) (fun t_ k_ => XS.istoreN X0.here hx rfl (hb hby at_11) rfl (l' := #[.val (.long p0), .second, .val (.int p1), .val (.int (1 : Int32)), .unset, .unset, .unset, .unset, .unset, .unset, .unset, .unset]) rfl k_) ?_
    refine own_st (S' := s₁.setTop (mkF m 13 #[.val (.long p0), .second, .val (.int p1), .val (.int (1 : Int32)), .unset, .unset, .unset, .unset, .unset, .unset, .unset, .unset] [(.int (1 : Int32))])) (fun t_ k_ => XS.iloadN X0.here hx rfl (hb hby at_12) rfl k_) ?_
    refine own_st (S' := s₁.setTop (mkF m 16 #[.val (.long p0), .second, .val (.int p1), .val (.int (1 : Int32)), .unset, .unset, .unset, .unset, .unset, .unset, .unset, .unset] [])) (fun t_ k_ => XS.ifNo X0.here hx rfl (hb hby at_13) rfl ((if0 _ _).trans (feq (by decide : ¬ ((1 : Int32) = (0 : Int32)))).1) k_) ?_
    refine own_st (S' := s₁.setTop (mkF m 17 #[.val (.long p0), .second, .val (.int p1), .val (.int (1 : Int32)), .unset, .unset, .unset, .unset, .unset, .unset, .unset, .unset] [(.long (1 : Int64))])) (fun t_ k_ => XS.lconst X0.here hx rfl (hb hby at_16) k_) ?_
    refine own_st (S' := s₁.setTop (mkF m 21 #[.val (.long p0), .second, .val (.int p1), .val (.int (1 : Int32)), .unset, .unset, .unset, .unset, .unset, .unset, .unset, .unset] [(.long (1 : Int64))])) (fun t_ k_ => XS.goto X0.here hx rfl (pc0 := 17) (pc' := 21) rfl (hb hby at_17) (by decide) (by decide) k_) ?_
    refine own_st (S' := s₁.setTop (mkF m 23 #[.val (.long p0), .second, .val (.int p1), .val (.int (1 : Int32)), .val (.long (1 : Int64)), .second, .unset, .unset, .unset, .unset, .unset, .unset] [])) (fun t_ k_ => XS.lstore X0.here hx rfl (hb hby at_21) rfl (l' := #[.val (.long p0), .second, .val (.int p1), .val (.int (1 : Int32)), .val (.long (1 : Int64)), .second, .unset, .unset, .unset, .unset, .unset, .unset]) rfl k_) ?_
    refine own_st (S' := s₁.setTop (mkF m 24 #[.val (.long p0), .second, .val (.int p1), .val (.int (1 : Int32)), .val (.long (1 : Int64)), .second, .unset, .unset, .unset, .unset, .unset, .unset] [(.long p0)])) (fun t_ k_ => XS.lloadN X0.here hx rfl (hb hby at_23) rfl k_) ?_
    refine own_st (S' := s₁.setTop (mkF m 25 #[.val (.long p0), .second, .val (.int p1), .val (.int (1 : Int32)), .val (.long (1 : Int64)), .second, .unset, .unset, .unset, .unset, .unset, .unset] [(.int (1 : Int32)), (.long p0)])) (fun t_ k_ => XS.iloadN X0.here hx rfl (hb hby at_24) rfl k_) ?_
    obtain ⟨_, _, ⟨T_7, L_7, k_7, n_7⟩, -, X_7, ⟨Lc_7, hQ_7, l_7, y_7, z_7⟩, st_7⟩ := Jvm.LawKit.callS X0 hx (y := (⟨"com/example/bloodwood/bloodwood/internal/TreePath", "child", "(JZ)J"⟩ : MethodName)) hown (mvT hZ (hw _ (List.mem_of_getElem? (i := 0) rfl))) (mvT hZ (hw _ (List.mem_of_getElem? (i := 1) rfl))) (mvT hZ (hw _ (List.mem_of_getElem? (i := 2) rfl))) (mvT hZ (hw _ (List.mem_of_getElem? (i := 3) rfl))) (by decide) (backOf (W := 0) (rm1 l Z a0 hw [] p0 (1 : Int32) h0 n0 Z0 ) hZ (hw _ (List.mem_of_getElem? (i := 3) rfl)) (hw _ (List.mem_of_getElem? (i := 2) rfl)) (by decide) (by decide)) (g := (mkF m 25 #[.val (.long p0), .second, .val (.int p1), .val (.int (1 : Int32)), .val (.long (1 : Int64)), .second, .unset, .unset, .unset, .unset, .unset, .unset] [(.int (1 : Int32)), (.long p0)])) rfl (by rw [hml]; rfl) (argsL := [(.long p0), (.int (1 : Int32))]) (rest := []) (lenOf pd_2 rfl) rfl (by show 2 * 0 + _ ≤ _; exact Nat.le_of_eq rfl) (hb hby at_25) (fun _ _ => ⟨rfl, e0, (by decide : 0 + 0 ≤ _), (by decide : 0 + 0 ≤ _)⟩)
    dsimp only [Pt.U, Pt.locs, Pt.cells, Pt.slots] at X_7 l_7 y_7 z_7 st_7 hQ_7
    subst l_7 y_7 z_7
    obtain ⟨rfl, M_7, q_7⟩ := hQ_7
    have N_7 := Fr.app N0 M_7
    refine own_st (S' := T_7.setTop (mkF m 28 #[.val (.long p0), .second, .val (.int p1), .val (.int (1 : Int32)), .val (.long (1 : Int64)), .second, .unset, .unset, .unset, .unset, .unset, .unset] [(.long (own_child p0 (1 : Int32)))])) st_7 ?_
    refine own_st (S' := T_7.setTop (mkF m 30 #[.val (.long p0), .second, .val (.int p1), .val (.int (1 : Int32)), .val (.long (1 : Int64)), .second, .val (.long (own_child p0 (1 : Int32))), .second, .unset, .unset, .unset, .unset] [])) (fun t_ k_ => XS.lstore X_7.here hx rfl (hb hby at_28) rfl (l' := #[.val (.long p0), .second, .val (.int p1), .val (.int (1 : Int32)), .val (.long (1 : Int64)), .second, .val (.long (own_child p0 (1 : Int32))), .second, .unset, .unset, .unset, .unset]) rfl k_) ?_
    refine own_st (S' := T_7.setTop (mkF m 32 #[.val (.long p0), .second, .val (.int p1), .val (.int (1 : Int32)), .val (.long (1 : Int64)), .second, .val (.long (own_child p0 (1 : Int32))), .second, .unset, .unset, .unset, .unset] [(.long (own_child p0 (1 : Int32)))])) (fun t_ k_ => XS.lload X_7.here hx rfl (hb hby at_30) rfl k_) ?_
    refine own_st (S' := T_7.setTop (mkF m 33 #[.val (.long p0), .second, .val (.int p1), .val (.int (1 : Int32)), .val (.long (1 : Int64)), .second, .val (.long (own_child p0 (1 : Int32))), .second, .unset, .unset, .unset, .unset] [(.long p0), (.long (own_child p0 (1 : Int32)))])) (fun t_ k_ => XS.lloadN X_7.here hx rfl (hb hby at_32) rfl k_) ?_
    refine own_st (S' := T_7.setTop (mkF m 36 #[.val (.long p0), .second, .val (.int p1), .val (.int (1 : Int32)), .val (.long (1 : Int64)), .second, .val (.long (own_child p0 (1 : Int32))), .second, .unset, .unset, .unset, .unset] [(.long (2 : Int64)), (.long p0), (.long (own_child p0 (1 : Int32)))])) (fun t_ k_ => X_7.ldc2J hx hown (mvT hZ (hw _ (List.mem_of_getElem? (i := 4) rfl))) (g := (mkF m 33 #[.val (.long p0), .second, .val (.int p1), .val (.int (1 : Int32)), .val (.long (1 : Int64)), .second, .val (.long (own_child p0 (1 : Int32))), .second, .unset, .unset, .unset, .unset] [(.long p0), (.long (own_child p0 (1 : Int32)))])) rfl (hb hby at_33) k_) ?_
    refine own_st (S' := T_7.setTop (mkF m 37 #[.val (.long p0), .second, .val (.int p1), .val (.int (1 : Int32)), .val (.long (1 : Int64)), .second, .val (.long (own_child p0 (1 : Int32))), .second, .unset, .unset, .unset, .unset] [(.long (p0 * (2 : Int64))), (.long (own_child p0 (1 : Int32)))])) (fun t_ k_ => XS.lmul X_7.here hx rfl (hb hby at_36) rfl k_) ?_
    refine own_st (S' := T_7.setTop (mkF m 39 #[.val (.long p0), .second, .val (.int p1), .val (.int (1 : Int32)), .val (.long (1 : Int64)), .second, .val (.long (own_child p0 (1 : Int32))), .second, .unset, .unset, .unset, .unset] [(.long (1 : Int64)), (.long (p0 * (2 : Int64))), (.long (own_child p0 (1 : Int32)))])) (fun t_ k_ => XS.lload X_7.here hx rfl (hb hby at_37) rfl k_) ?_
    refine own_st (S' := T_7.setTop (mkF m 40 #[.val (.long p0), .second, .val (.int p1), .val (.int (1 : Int32)), .val (.long (1 : Int64)), .second, .val (.long (own_child p0 (1 : Int32))), .second, .unset, .unset, .unset, .unset] [(.long ((p0 * (2 : Int64)) + (1 : Int64))), (.long (own_child p0 (1 : Int32)))])) (fun t_ k_ => XS.ladd X_7.here hx rfl (hb hby at_39) rfl k_) ?_
    refine own_st (S' := T_7.setTop (mkF m 41 #[.val (.long p0), .second, .val (.int p1), .val (.int (1 : Int32)), .val (.long (1 : Int64)), .second, .val (.long (own_child p0 (1 : Int32))), .second, .unset, .unset, .unset, .unset] [(.int (lcmpW (own_child p0 (1 : Int32)) ((p0 * (2 : Int64)) + (1 : Int64))))])) (fun t_ k_ => XS.lcmp X_7.here hx rfl (hb hby at_40) rfl k_) ?_
    by_cases hc41 : (own_child p0 (1 : Int32)) = ((p0 * (2 : Int64)) + (1 : Int64))
    · refine own_st (S' := T_7.setTop (mkF m 46 #[.val (.long p0), .second, .val (.int p1), .val (.int (1 : Int32)), .val (.long (1 : Int64)), .second, .val (.long (own_child p0 (1 : Int32))), .second, .unset, .unset, .unset, .unset] [])) (fun t_ k_ => XS.ifYes X_7.here hx rfl (pc0 := 41) (pc' := 46) rfl (hb hby at_41) rfl ((if0 _ _).trans (teq ((lw_eq _ _).mpr hc41)).1) (by decide) (by decide) k_) ?_
      refine own_st (S' := T_7.setTop (mkF m 47 #[.val (.long p0), .second, .val (.int p1), .val (.int (1 : Int32)), .val (.long (1 : Int64)), .second, .val (.long (own_child p0 (1 : Int32))), .second, .unset, .unset, .unset, .unset] [(.long p0)])) (fun t_ k_ => XS.lloadN X_7.here hx rfl (hb hby at_46) rfl k_) ?_
      refine own_st (S' := T_7.setTop (mkF m 50 #[.val (.long p0), .second, .val (.int p1), .val (.int (1 : Int32)), .val (.long (1 : Int64)), .second, .val (.long (own_child p0 (1 : Int32))), .second, .unset, .unset, .unset, .unset] [(.long (4611686018427387903 : Int64)), (.long p0)])) (fun t_ k_ => X_7.ldc2J hx hown (mvT hZ (hw _ (List.mem_of_getElem? (i := 5) rfl))) (g := (mkF m 47 #[.val (.long p0), .second, .val (.int p1), .val (.int (1 : Int32)), .val (.long (1 : Int64)), .second, .val (.long (own_child p0 (1 : Int32))), .second, .unset, .unset, .unset, .unset] [(.long p0)])) rfl (hb hby at_47) k_) ?_
      refine own_st (S' := T_7.setTop (mkF m 51 #[.val (.long p0), .second, .val (.int p1), .val (.int (1 : Int32)), .val (.long (1 : Int64)), .second, .val (.long (own_child p0 (1 : Int32))), .second, .unset, .unset, .unset, .unset] [(.long (p0 &&& (4611686018427387903 : Int64)))])) (fun t_ k_ => XS.land X_7.here hx rfl (hb hby at_50) rfl k_) ?_
      refine own_st (S' := T_7.setTop (mkF m 53 #[.val (.long p0), .second, .val (.int p1), .val (.int (1 : Int32)), .val (.long (1 : Int64)), .second, .val (.long (own_child p0 (1 : Int32))), .second, .val (.long (p0 &&& (4611686018427387903 : Int64))), .second, .unset, .unset] [])) (fun t_ k_ => XS.lstore X_7.here hx rfl (hb hby at_51) rfl (l' := #[.val (.long p0), .second, .val (.int p1), .val (.int (1 : Int32)), .val (.long (1 : Int64)), .second, .val (.long (own_child p0 (1 : Int32))), .second, .val (.long (p0 &&& (4611686018427387903 : Int64))), .second, .unset, .unset]) rfl k_) ?_
      refine own_st (S' := T_7.setTop (mkF m 55 #[.val (.long p0), .second, .val (.int p1), .val (.int (1 : Int32)), .val (.long (1 : Int64)), .second, .val (.long (own_child p0 (1 : Int32))), .second, .val (.long (p0 &&& (4611686018427387903 : Int64))), .second, .unset, .unset] [(.long (p0 &&& (4611686018427387903 : Int64)))])) (fun t_ k_ => XS.lload X_7.here hx rfl (hb hby at_53) rfl k_) ?_
      refine own_st (S' := T_7.setTop (mkF m 56 #[.val (.long p0), .second, .val (.int p1), .val (.int (1 : Int32)), .val (.long (1 : Int64)), .second, .val (.long (own_child p0 (1 : Int32))), .second, .val (.long (p0 &&& (4611686018427387903 : Int64))), .second, .unset, .unset] [(.long (0 : Int64)), (.long (p0 &&& (4611686018427387903 : Int64)))])) (fun t_ k_ => XS.lconst X_7.here hx rfl (hb hby at_55) k_) ?_
      refine own_st (S' := T_7.setTop (mkF m 57 #[.val (.long p0), .second, .val (.int p1), .val (.int (1 : Int32)), .val (.long (1 : Int64)), .second, .val (.long (own_child p0 (1 : Int32))), .second, .val (.long (p0 &&& (4611686018427387903 : Int64))), .second, .unset, .unset] [(.int (lcmpW (p0 &&& (4611686018427387903 : Int64)) (0 : Int64)))])) (fun t_ k_ => XS.lcmp X_7.here hx rfl (hb hby at_56) rfl k_) ?_
      by_cases hc57 : (p0 &&& (4611686018427387903 : Int64)) = (0 : Int64)
      · refine own_st (S' := T_7.setTop (mkF m 60 #[.val (.long p0), .second, .val (.int p1), .val (.int (1 : Int32)), .val (.long (1 : Int64)), .second, .val (.long (own_child p0 (1 : Int32))), .second, .val (.long (p0 &&& (4611686018427387903 : Int64))), .second, .unset, .unset] [])) (fun t_ k_ => XS.ifNo X_7.here hx rfl (hb hby at_57) rfl ((if0 _ _).trans (teq ((lw_eq _ _).mpr hc57)).2) k_) ?_
        refine own_st (S' := T_7.setTop (mkF m 61 #[.val (.long p0), .second, .val (.int p1), .val (.int (1 : Int32)), .val (.long (1 : Int64)), .second, .val (.long (own_child p0 (1 : Int32))), .second, .val (.long (p0 &&& (4611686018427387903 : Int64))), .second, .unset, .unset] [(.int (1 : Int32))])) (fun t_ k_ => XS.iconst X_7.here hx rfl (hb hby at_60) k_) ?_
        obtain ⟨fs, hr, hrun, hended, hW, hsame⟩ := X_7.leave (v := some (.int (1 : Int32))) (fun h => by rw [Bd.returns] at h; cases h)
        refine ⟨_, _, retN X_7 hx (t := .boolean) Bd.returns (by simp) (hb hby at_61) hr, hrun, hended, _, _, rfl, ?_, ⟨_, rfl⟩, hW, hsame.mono (by decide) (by decide)⟩
        show Q0 Z p0 p1 h0 n0 _ T_7.heap _
        rw [q_7]
        exact ⟨rfl, N_7⟩
      · refine own_st (S' := T_7.setTop (mkF m 62 #[.val (.long p0), .second, .val (.int p1), .val (.int (1 : Int32)), .val (.long (1 : Int64)), .second, .val (.long (own_child p0 (1 : Int32))), .second, .val (.long (p0 &&& (4611686018427387903 : Int64))), .second, .unset, .unset] [])) (fun t_ k_ => XS.ifYes X_7.here hx rfl (pc0 := 57) (pc' := 62) rfl (hb hby at_57) rfl ((if0 _ _).trans (feq (fun q => hc57 ((lw_eq _ _).mp q))).2) (by decide) (by decide) k_) ?_
        refine own_st (S' := T_7.setTop (mkF m 64 #[.val (.long p0), .second, .val (.int p1), .val (.int (1 : Int32)), .val (.long (1 : Int64)), .second, .val (.long (own_child p0 (1 : Int32))), .second, .val (.long (p0 &&& (4611686018427387903 : Int64))), .second, .unset, .unset] [(.long (p0 &&& (4611686018427387903 : Int64)))])) (fun t_ k_ => XS.lload X_7.here hx rfl (hb hby at_62) rfl k_) ?_
        refine own_st (S' := T_7.setTop (mkF m 65 #[.val (.long p0), .second, .val (.int p1), .val (.int (1 : Int32)), .val (.long (1 : Int64)), .second, .val (.long (own_child p0 (1 : Int32))), .second, .val (.long (p0 &&& (4611686018427387903 : Int64))), .second, .unset, .unset] [(.int (1 : Int32)), (.long (p0 &&& (4611686018427387903 : Int64)))])) (fun t_ k_ => XS.iloadN X_7.here hx rfl (hb hby at_64) rfl k_) ?_
        obtain ⟨_, _, ⟨T_8, L_8, k_8, n_8⟩, -, X_8, ⟨Lc_8, hQ_8, l_8, y_8, z_8⟩, st_8⟩ := Jvm.LawKit.callS X_7 hx (y := (⟨"com/example/bloodwood/bloodwood/internal/TreePath", "child", "(JZ)J"⟩ : MethodName)) hown (mvT hZ (hw _ (List.mem_of_getElem? (i := 0) rfl))) (mvT hZ (hw _ (List.mem_of_getElem? (i := 1) rfl))) (mvT hZ (hw _ (List.mem_of_getElem? (i := 2) rfl))) (mvT hZ (hw _ (List.mem_of_getElem? (i := 3) rfl))) (by decide) (backOf (W := 0) (rm1 l Z a0 hw [] (p0 &&& (4611686018427387903 : Int64)) (1 : Int32) h0 n0 Z0 ) hZ (hw _ (List.mem_of_getElem? (i := 3) rfl)) (hw _ (List.mem_of_getElem? (i := 2) rfl)) (by decide) (by decide)) (g := (mkF m 65 #[.val (.long p0), .second, .val (.int p1), .val (.int (1 : Int32)), .val (.long (1 : Int64)), .second, .val (.long (own_child p0 (1 : Int32))), .second, .val (.long (p0 &&& (4611686018427387903 : Int64))), .second, .unset, .unset] [(.int (1 : Int32)), (.long (p0 &&& (4611686018427387903 : Int64)))])) rfl (by rw [hml]; rfl) (argsL := [(.long (p0 &&& (4611686018427387903 : Int64))), (.int (1 : Int32))]) (rest := []) (lenOf pd_2 rfl) rfl (by show 2 * 0 + _ ≤ _; exact Nat.le_of_eq rfl) (hb hby at_65) (fun _ _ => ⟨rfl, q_7, (by decide : 0 + 0 ≤ _), (by decide : 0 + 0 ≤ _)⟩)
        dsimp only [Pt.U, Pt.locs, Pt.cells, Pt.slots] at X_8 l_8 y_8 z_8 st_8 hQ_8
        subst l_8 y_8 z_8
        obtain ⟨rfl, M_8, q_8⟩ := hQ_8
        have N_8 := Fr.app N_7 M_8
        refine own_st (S' := T_8.setTop (mkF m 68 #[.val (.long p0), .second, .val (.int p1), .val (.int (1 : Int32)), .val (.long (1 : Int64)), .second, .val (.long (own_child p0 (1 : Int32))), .second, .val (.long (p0 &&& (4611686018427387903 : Int64))), .second, .unset, .unset] [(.long (own_child (p0 &&& (4611686018427387903 : Int64)) (1 : Int32)))])) st_8 ?_
        refine own_st (S' := T_8.setTop (mkF m 70 #[.val (.long p0), .second, .val (.int p1), .val (.int (1 : Int32)), .val (.long (1 : Int64)), .second, .val (.long (own_child p0 (1 : Int32))), .second, .val (.long (p0 &&& (4611686018427387903 : Int64))), .second, .val (.long (own_child (p0 &&& (4611686018427387903 : Int64)) (1 : Int32))), .second] [])) (fun t_ k_ => XS.lstore X_8.here hx rfl (hb hby at_68) rfl (l' := #[.val (.long p0), .second, .val (.int p1), .val (.int (1 : Int32)), .val (.long (1 : Int64)), .second, .val (.long (own_child p0 (1 : Int32))), .second, .val (.long (p0 &&& (4611686018427387903 : Int64))), .second, .val (.long (own_child (p0 &&& (4611686018427387903 : Int64)) (1 : Int32))), .second]) rfl k_) ?_
        refine own_st (S' := T_8.setTop (mkF m 72 #[.val (.long p0), .second, .val (.int p1), .val (.int (1 : Int32)), .val (.long (1 : Int64)), .second, .val (.long (own_child p0 (1 : Int32))), .second, .val (.long (p0 &&& (4611686018427387903 : Int64))), .second, .val (.long (own_child (p0 &&& (4611686018427387903 : Int64)) (1 : Int32))), .second] [(.long (own_child (p0 &&& (4611686018427387903 : Int64)) (1 : Int32)))])) (fun t_ k_ => XS.lload X_8.here hx rfl (hb hby at_70) rfl k_) ?_
        refine own_st (S' := T_8.setTop (mkF m 73 #[.val (.long p0), .second, .val (.int p1), .val (.int (1 : Int32)), .val (.long (1 : Int64)), .second, .val (.long (own_child p0 (1 : Int32))), .second, .val (.long (p0 &&& (4611686018427387903 : Int64))), .second, .val (.long (own_child (p0 &&& (4611686018427387903 : Int64)) (1 : Int32))), .second] [(.int (1 : Int32)), (.long (own_child (p0 &&& (4611686018427387903 : Int64)) (1 : Int32)))])) (fun t_ k_ => XS.iconst X_8.here hx rfl (hb hby at_72) k_) ?_
        obtain ⟨_, _, ⟨T_9, L_9, k_9, n_9⟩, -, X_9, ⟨Lc_9, hQ_9, l_9, y_9, z_9⟩, st_9⟩ := Jvm.LawKit.callS X_8 hx (y := (⟨"com/example/bloodwood/bloodwood/internal/TreePath", "up", "(JI)J"⟩ : MethodName)) hown (mvT hZ (hw _ (List.mem_of_getElem? (i := 6) rfl))) (mvT hZ (hw _ (List.mem_of_getElem? (i := 7) rfl))) (mvT hZ (hw _ (List.mem_of_getElem? (i := 2) rfl))) (mvT hZ (hw _ (List.mem_of_getElem? (i := 8) rfl))) (by decide) (backOf (W := 0) (rm2 l Z a0 hw [] (own_child (p0 &&& (4611686018427387903 : Int64)) (1 : Int32)) (1 : Int32) h0 n0 Z0 ) hZ (hw _ (List.mem_of_getElem? (i := 8) rfl)) (hw _ (List.mem_of_getElem? (i := 2) rfl)) (by decide) (by decide)) (g := (mkF m 73 #[.val (.long p0), .second, .val (.int p1), .val (.int (1 : Int32)), .val (.long (1 : Int64)), .second, .val (.long (own_child p0 (1 : Int32))), .second, .val (.long (p0 &&& (4611686018427387903 : Int64))), .second, .val (.long (own_child (p0 &&& (4611686018427387903 : Int64)) (1 : Int32))), .second] [(.int (1 : Int32)), (.long (own_child (p0 &&& (4611686018427387903 : Int64)) (1 : Int32)))])) rfl (by rw [hml]; rfl) (argsL := [(.long (own_child (p0 &&& (4611686018427387903 : Int64)) (1 : Int32))), (.int (1 : Int32))]) (rest := []) (lenOf pd_3 rfl) rfl (by show 2 * 0 + _ ≤ _; exact Nat.le_of_eq rfl) (hb hby at_73) (fun _ _ => ⟨rfl, q_8, (by decide : 0 + 0 ≤ _), (by decide : 0 + 0 ≤ _)⟩)
        dsimp only [Pt.U, Pt.locs, Pt.cells, Pt.slots] at X_9 l_9 y_9 z_9 st_9 hQ_9
        subst l_9 y_9 z_9
        obtain ⟨rfl, M_9, q_9⟩ := hQ_9
        have N_9 := Fr.app N_8 M_9
        refine own_st (S' := T_9.setTop (mkF m 76 #[.val (.long p0), .second, .val (.int p1), .val (.int (1 : Int32)), .val (.long (1 : Int64)), .second, .val (.long (own_child p0 (1 : Int32))), .second, .val (.long (p0 &&& (4611686018427387903 : Int64))), .second, .val (.long (own_child (p0 &&& (4611686018427387903 : Int64)) (1 : Int32))), .second] [(.long (own_up (own_child (p0 &&& (4611686018427387903 : Int64)) (1 : Int32)) (1 : Int32)))])) st_9 ?_
        refine own_st (S' := T_9.setTop (mkF m 78 #[.val (.long p0), .second, .val (.int p1), .val (.int (1 : Int32)), .val (.long (1 : Int64)), .second, .val (.long (own_child p0 (1 : Int32))), .second, .val (.long (p0 &&& (4611686018427387903 : Int64))), .second, .val (.long (own_child (p0 &&& (4611686018427387903 : Int64)) (1 : Int32))), .second] [(.long (p0 &&& (4611686018427387903 : Int64))), (.long (own_up (own_child (p0 &&& (4611686018427387903 : Int64)) (1 : Int32)) (1 : Int32)))])) (fun t_ k_ => XS.lload X_9.here hx rfl (hb hby at_76) rfl k_) ?_
        refine own_st (S' := T_9.setTop (mkF m 79 #[.val (.long p0), .second, .val (.int p1), .val (.int (1 : Int32)), .val (.long (1 : Int64)), .second, .val (.long (own_child p0 (1 : Int32))), .second, .val (.long (p0 &&& (4611686018427387903 : Int64))), .second, .val (.long (own_child (p0 &&& (4611686018427387903 : Int64)) (1 : Int32))), .second] [(.int (lcmpW (own_up (own_child (p0 &&& (4611686018427387903 : Int64)) (1 : Int32)) (1 : Int32)) (p0 &&& (4611686018427387903 : Int64))))])) (fun t_ k_ => XS.lcmp X_9.here hx rfl (hb hby at_78) rfl k_) ?_
        by_cases hc79 : (own_up (own_child (p0 &&& (4611686018427387903 : Int64)) (1 : Int32)) (1 : Int32)) = (p0 &&& (4611686018427387903 : Int64))
        · refine own_st (S' := T_9.setTop (mkF m 82 #[.val (.long p0), .second, .val (.int p1), .val (.int (1 : Int32)), .val (.long (1 : Int64)), .second, .val (.long (own_child p0 (1 : Int32))), .second, .val (.long (p0 &&& (4611686018427387903 : Int64))), .second, .val (.long (own_child (p0 &&& (4611686018427387903 : Int64)) (1 : Int32))), .second] [])) (fun t_ k_ => XS.ifNo X_9.here hx rfl (hb hby at_79) rfl ((if0 _ _).trans (teq ((lw_eq _ _).mpr hc79)).2) k_) ?_
          refine own_st (S' := T_9.setTop (mkF m 84 #[.val (.long p0), .second, .val (.int p1), .val (.int (1 : Int32)), .val (.long (1 : Int64)), .second, .val (.long (own_child p0 (1 : Int32))), .second, .val (.long (p0 &&& (4611686018427387903 : Int64))), .second, .val (.long (own_child (p0 &&& (4611686018427387903 : Int64)) (1 : Int32))), .second] [(.long (own_child (p0 &&& (4611686018427387903 : Int64)) (1 : Int32)))])) (fun t_ k_ => XS.lload X_9.here hx rfl (hb hby at_82) rfl k_) ?_
          obtain ⟨_, _, ⟨T_10, L_10, k_10, n_10⟩, -, X_10, ⟨Lc_10, hQ_10, l_10, y_10, z_10⟩, st_10⟩ := Jvm.LawKit.callS X_9 hx (y := (⟨"com/example/bloodwood/bloodwood/internal/TreePath", "endsRight", "(J)Z"⟩ : MethodName)) hown (mvT hZ (hw _ (List.mem_of_getElem? (i := 9) rfl))) (mvT hZ (hw _ (List.mem_of_getElem? (i := 10) rfl))) (mvT hZ (hw _ (List.mem_of_getElem? (i := 2) rfl))) (mvT hZ (hw _ (List.mem_of_getElem? (i := 11) rfl))) (by decide) (backOf (W := 0) (rm3 l Z a0 hw [] (own_child (p0 &&& (4611686018427387903 : Int64)) (1 : Int32)) h0 n0 Z0 ) hZ (hw _ (List.mem_of_getElem? (i := 11) rfl)) (hw _ (List.mem_of_getElem? (i := 2) rfl)) (by decide) (by decide)) (g := (mkF m 84 #[.val (.long p0), .second, .val (.int p1), .val (.int (1 : Int32)), .val (.long (1 : Int64)), .second, .val (.long (own_child p0 (1 : Int32))), .second, .val (.long (p0 &&& (4611686018427387903 : Int64))), .second, .val (.long (own_child (p0 &&& (4611686018427387903 : Int64)) (1 : Int32))), .second] [(.long (own_child (p0 &&& (4611686018427387903 : Int64)) (1 : Int32)))])) rfl (by rw [hml]; rfl) (argsL := [(.long (own_child (p0 &&& (4611686018427387903 : Int64)) (1 : Int32)))]) (rest := []) (lenOf pd_4 rfl) rfl (by show 2 * 0 + _ ≤ _; exact Nat.le_of_eq rfl) (hb hby at_84) (fun _ _ => ⟨rfl, q_9, (by decide : 0 + 0 ≤ _), (by decide : 0 + 0 ≤ _)⟩)
          dsimp only [Pt.U, Pt.locs, Pt.cells, Pt.slots] at X_10 l_10 y_10 z_10 st_10 hQ_10
          subst l_10 y_10 z_10
          obtain ⟨rfl, M_10, q_10⟩ := hQ_10
          have N_10 := Fr.app N_9 M_10
          refine own_st (S' := T_10.setTop (mkF m 87 #[.val (.long p0), .second, .val (.int p1), .val (.int (1 : Int32)), .val (.long (1 : Int64)), .second, .val (.long (own_child p0 (1 : Int32))), .second, .val (.long (p0 &&& (4611686018427387903 : Int64))), .second, .val (.long (own_child (p0 &&& (4611686018427387903 : Int64)) (1 : Int32))), .second] [(.int (own_er (own_child (p0 &&& (4611686018427387903 : Int64)) (1 : Int32))))])) st_10 ?_
          refine own_st (S' := T_10.setTop (mkF m 88 #[.val (.long p0), .second, .val (.int p1), .val (.int (1 : Int32)), .val (.long (1 : Int64)), .second, .val (.long (own_child p0 (1 : Int32))), .second, .val (.long (p0 &&& (4611686018427387903 : Int64))), .second, .val (.long (own_child (p0 &&& (4611686018427387903 : Int64)) (1 : Int32))), .second] [(.int (1 : Int32)), (.int (own_er (own_child (p0 &&& (4611686018427387903 : Int64)) (1 : Int32))))])) (fun t_ k_ => XS.iloadN X_10.here hx rfl (hb hby at_87) rfl k_) ?_
          by_cases hc88 : (own_er (own_child (p0 &&& (4611686018427387903 : Int64)) (1 : Int32))) = (1 : Int32)
          · refine own_st (S' := T_10.setTop (mkF m 91 #[.val (.long p0), .second, .val (.int p1), .val (.int (1 : Int32)), .val (.long (1 : Int64)), .second, .val (.long (own_child p0 (1 : Int32))), .second, .val (.long (p0 &&& (4611686018427387903 : Int64))), .second, .val (.long (own_child (p0 &&& (4611686018427387903 : Int64)) (1 : Int32))), .second] [])) (fun t_ k_ => XS.icmpNo X_10.here hx rfl (hb hby at_88) rfl (teq hc88).2 k_) ?_
            refine own_st (S' := T_10.setTop (mkF m 93 #[.val (.long p0), .second, .val (.int p1), .val (.int (1 : Int32)), .val (.long (1 : Int64)), .second, .val (.long (own_child p0 (1 : Int32))), .second, .val (.long (p0 &&& (4611686018427387903 : Int64))), .second, .val (.long (own_child (p0 &&& (4611686018427387903 : Int64)) (1 : Int32))), .second] [(.long (own_child (p0 &&& (4611686018427387903 : Int64)) (1 : Int32)))])) (fun t_ k_ => XS.lload X_10.here hx rfl (hb hby at_91) rfl k_) ?_
            obtain ⟨_, _, ⟨T_11, L_11, k_11, n_11⟩, -, X_11, ⟨Lc_11, hQ_11, l_11, y_11, z_11⟩, st_11⟩ := Jvm.LawKit.callS X_10 hx (y := (⟨"com/example/bloodwood/bloodwood/internal/TreePath", "depth", "(J)I"⟩ : MethodName)) hown (mvT hZ (hw _ (List.mem_of_getElem? (i := 12) rfl))) (mvT hZ (hw _ (List.mem_of_getElem? (i := 13) rfl))) (mvT hZ (hw _ (List.mem_of_getElem? (i := 2) rfl))) (mvT hZ (hw _ (List.mem_of_getElem? (i := 14) rfl))) (by decide) (backOf (W := 0) (rm6 l Z a0 hw [] (own_child (p0 &&& (4611686018427387903 : Int64)) (1 : Int32)) h0 n0 Z0 ) hZ (hw _ (List.mem_of_getElem? (i := 14) rfl)) (hw _ (List.mem_of_getElem? (i := 2) rfl)) (by decide) (by decide)) (g := (mkF m 93 #[.val (.long p0), .second, .val (.int p1), .val (.int (1 : Int32)), .val (.long (1 : Int64)), .second, .val (.long (own_child p0 (1 : Int32))), .second, .val (.long (p0 &&& (4611686018427387903 : Int64))), .second, .val (.long (own_child (p0 &&& (4611686018427387903 : Int64)) (1 : Int32))), .second] [(.long (own_child (p0 &&& (4611686018427387903 : Int64)) (1 : Int32)))])) rfl (by rw [hml]; rfl) (argsL := [(.long (own_child (p0 &&& (4611686018427387903 : Int64)) (1 : Int32)))]) (rest := []) (lenOf pd_1 rfl) rfl (by show 2 * 0 + _ ≤ _; exact Nat.le_of_eq rfl) (hb hby at_93) (fun _ _ => ⟨rfl, q_10, (by decide : 0 + 0 ≤ _), (by decide : 0 + 0 ≤ _)⟩)
            dsimp only [Pt.U, Pt.locs, Pt.cells, Pt.slots] at X_11 l_11 y_11 z_11 st_11 hQ_11
            subst l_11 y_11 z_11
            obtain ⟨rfl, M_11, q_11⟩ := hQ_11
            have N_11 := Fr.app N_10 M_11
            refine own_st (S' := T_11.setTop (mkF m 96 #[.val (.long p0), .second, .val (.int p1), .val (.int (1 : Int32)), .val (.long (1 : Int64)), .second, .val (.long (own_child p0 (1 : Int32))), .second, .val (.long (p0 &&& (4611686018427387903 : Int64))), .second, .val (.long (own_child (p0 &&& (4611686018427387903 : Int64)) (1 : Int32))), .second] [(.int ((63 : Int32) - (own_nlz64 (own_child (p0 &&& (4611686018427387903 : Int64)) (1 : Int32)))))])) st_11 ?_
            refine own_st (S' := T_11.setTop (mkF m 98 #[.val (.long p0), .second, .val (.int p1), .val (.int (1 : Int32)), .val (.long (1 : Int64)), .second, .val (.long (own_child p0 (1 : Int32))), .second, .val (.long (p0 &&& (4611686018427387903 : Int64))), .second, .val (.long (own_child (p0 &&& (4611686018427387903 : Int64)) (1 : Int32))), .second] [(.long (p0 &&& (4611686018427387903 : Int64))), (.int ((63 : Int32) - (own_nlz64 (own_child (p0 &&& (4611686018427387903 : Int64)) (1 : Int32)))))])) (fun t_ k_ => XS.lload X_11.here hx rfl (hb hby at_96) rfl k_) ?_
            obtain ⟨_, _, ⟨T_12, L_12, k_12, n_12⟩, -, X_12, ⟨Lc_12, hQ_12, l_12, y_12, z_12⟩, st_12⟩ := Jvm.LawKit.callS X_11 hx (y := (⟨"com/example/bloodwood/bloodwood/internal/TreePath", "depth", "(J)I"⟩ : MethodName)) hown (mvT hZ (hw _ (List.mem_of_getElem? (i := 12) rfl))) (mvT hZ (hw _ (List.mem_of_getElem? (i := 13) rfl))) (mvT hZ (hw _ (List.mem_of_getElem? (i := 2) rfl))) (mvT hZ (hw _ (List.mem_of_getElem? (i := 14) rfl))) (by decide) (backOf (W := 1) (rm6 l Z a0 hw [] (p0 &&& (4611686018427387903 : Int64)) h0 n0 Z0 ) hZ (hw _ (List.mem_of_getElem? (i := 14) rfl)) (hw _ (List.mem_of_getElem? (i := 2) rfl)) (by decide) (by decide)) (g := (mkF m 98 #[.val (.long p0), .second, .val (.int p1), .val (.int (1 : Int32)), .val (.long (1 : Int64)), .second, .val (.long (own_child p0 (1 : Int32))), .second, .val (.long (p0 &&& (4611686018427387903 : Int64))), .second, .val (.long (own_child (p0 &&& (4611686018427387903 : Int64)) (1 : Int32))), .second] [(.long (p0 &&& (4611686018427387903 : Int64))), (.int ((63 : Int32) - (own_nlz64 (own_child (p0 &&& (4611686018427387903 : Int64)) (1 : Int32)))))])) rfl (by rw [hml]; rfl) (argsL := [(.long (p0 &&& (4611686018427387903 : Int64)))]) (rest := [(.int ((63 : Int32) - (own_nlz64 (own_child (p0 &&& (4611686018427387903 : Int64)) (1 : Int32)))))]) (lenOf pd_1 rfl) rfl (by show 2 * 0 + _ ≤ _; exact Nat.le_of_eq rfl) (hb hby at_98) (fun _ _ => ⟨rfl, q_11, (by decide : 0 + 0 ≤ _), (by decide : 0 + 0 ≤ _)⟩)
            dsimp only [Pt.U, Pt.locs, Pt.cells, Pt.slots] at X_12 l_12 y_12 z_12 st_12 hQ_12
            subst l_12 y_12 z_12
            obtain ⟨rfl, M_12, q_12⟩ := hQ_12
            have N_12 := Fr.app N_11 M_12
            refine own_st (S' := T_12.setTop (mkF m 101 #[.val (.long p0), .second, .val (.int p1), .val (.int (1 : Int32)), .val (.long (1 : Int64)), .second, .val (.long (own_child p0 (1 : Int32))), .second, .val (.long (p0 &&& (4611686018427387903 : Int64))), .second, .val (.long (own_child (p0 &&& (4611686018427387903 : Int64)) (1 : Int32))), .second] [(.int ((63 : Int32) - (own_nlz64 (p0 &&& (4611686018427387903 : Int64))))), (.int ((63 : Int32) - (own_nlz64 (own_child (p0 &&& (4611686018427387903 : Int64)) (1 : Int32)))))])) st_12 ?_
            refine own_st (S' := T_12.setTop (mkF m 102 #[.val (.long p0), .second, .val (.int p1), .val (.int (1 : Int32)), .val (.long (1 : Int64)), .second, .val (.long (own_child p0 (1 : Int32))), .second, .val (.long (p0 &&& (4611686018427387903 : Int64))), .second, .val (.long (own_child (p0 &&& (4611686018427387903 : Int64)) (1 : Int32))), .second] [(.int (1 : Int32)), (.int ((63 : Int32) - (own_nlz64 (p0 &&& (4611686018427387903 : Int64))))), (.int ((63 : Int32) - (own_nlz64 (own_child (p0 &&& (4611686018427387903 : Int64)) (1 : Int32)))))])) (fun t_ k_ => XS.iconst X_12.here hx rfl (hb hby at_101) k_) ?_
            refine own_st (S' := T_12.setTop (mkF m 103 #[.val (.long p0), .second, .val (.int p1), .val (.int (1 : Int32)), .val (.long (1 : Int64)), .second, .val (.long (own_child p0 (1 : Int32))), .second, .val (.long (p0 &&& (4611686018427387903 : Int64))), .second, .val (.long (own_child (p0 &&& (4611686018427387903 : Int64)) (1 : Int32))), .second] [(.int (((63 : Int32) - (own_nlz64 (p0 &&& (4611686018427387903 : Int64)))) + (1 : Int32))), (.int ((63 : Int32) - (own_nlz64 (own_child (p0 &&& (4611686018427387903 : Int64)) (1 : Int32)))))])) (fun t_ k_ => XS.iadd X_12.here hx rfl (hb hby at_102) rfl k_) ?_
            by_cases hc103 : ((63 : Int32) - (own_nlz64 (own_child (p0 &&& (4611686018427387903 : Int64)) (1 : Int32)))) = (((63 : Int32) - (own_nlz64 (p0 &&& (4611686018427387903 : Int64)))) + (1 : Int32))
            · refine own_st (S' := T_12.setTop (mkF m 106 #[.val (.long p0), .second, .val (.int p1), .val (.int (1 : Int32)), .val (.long (1 : Int64)), .second, .val (.long (own_child p0 (1 : Int32))), .second, .val (.long (p0 &&& (4611686018427387903 : Int64))), .second, .val (.long (own_child (p0 &&& (4611686018427387903 : Int64)) (1 : Int32))), .second] [])) (fun t_ k_ => XS.icmpNo X_12.here hx rfl (hb hby at_103) rfl (teq hc103).2 k_) ?_
              refine own_st (S' := T_12.setTop (mkF m 107 #[.val (.long p0), .second, .val (.int p1), .val (.int (1 : Int32)), .val (.long (1 : Int64)), .second, .val (.long (own_child p0 (1 : Int32))), .second, .val (.long (p0 &&& (4611686018427387903 : Int64))), .second, .val (.long (own_child (p0 &&& (4611686018427387903 : Int64)) (1 : Int32))), .second] [(.int (1 : Int32))])) (fun t_ k_ => XS.iconst X_12.here hx rfl (hb hby at_106) k_) ?_
              refine own_st (S' := T_12.setTop (mkF m 111 #[.val (.long p0), .second, .val (.int p1), .val (.int (1 : Int32)), .val (.long (1 : Int64)), .second, .val (.long (own_child p0 (1 : Int32))), .second, .val (.long (p0 &&& (4611686018427387903 : Int64))), .second, .val (.long (own_child (p0 &&& (4611686018427387903 : Int64)) (1 : Int32))), .second] [(.int (1 : Int32))])) (fun t_ k_ => XS.goto X_12.here hx rfl (pc0 := 107) (pc' := 111) rfl (hb hby at_107) (by decide) (by decide) k_) ?_
              obtain ⟨fs, hr, hrun, hended, hW, hsame⟩ := X_12.leave (v := some (.int (1 : Int32))) (fun h => by rw [Bd.returns] at h; cases h)
              refine ⟨_, _, retN X_12 hx (t := .boolean) Bd.returns (by simp) (hb hby at_111) hr, hrun, hended, _, _, rfl, ?_, ⟨_, rfl⟩, hW, hsame.mono (by decide) (by decide)⟩
              show Q0 Z p0 p1 h0 n0 _ T_12.heap _
              rw [q_12]
              exact ⟨rfl, N_12⟩
            · exact absurd (own_depth (own_p p0 hc57).1 (by rw [(own_d 1 1 (by decide) (by decide) (own_p p0 hc57))]; omega)) hc103
          · exact absurd (own_er1 (own_d 1 1 (by decide) (by decide) (own_p p0 hc57))) hc88
        · exact absurd (own_upd 1 (by decide) (own_p p0 hc57) (own_d 1 1 (by decide) (by decide) (own_p p0 hc57))) hc79
    · exact absurd (own_ch1 p0) hc41
set_option maxRecDepth 65536 in
set_option maxHeartbeats 40000000 in
theorem comes_1 {Post : Tables → Env → Array Value → State → Outcome → State → Prop} (hpost : ∀ tb e args s v u, (limb_1_1.after args s (.returned v) u = true ∧ limb_1_2.after args s (.returned v) u = true ∧ True) → FrameEnd s (.returned v) u (Jvm.fieldLocs frame_1_writes args s ++ Jvm.arrayLocs frame_1_arrays args s ++ Jvm.staticLocs frame_1_statics s) 0 0 → Post tb e args s (.returned v) u) :
    ArmFor flags0 classFile x code maxLocals ret World_1 tables_1 room_1 Calls_1 rest_1 Pre_1 Post := by
  intro l hfl _ _ p e ha hc hk s m args below hf hA hF happ hP
  obtain ⟨hcalls, hrest, hpre⟩ := hP
  obtain ⟨-, -, -, hnamed, -, -, -, hat⟩ := (Spec.applies_iff hf).mp happ
  obtain ⟨hg, hn⟩ := and_e (Cond.before_iff.mp (show (Jvm.Cond.and given_1 narrow_1).before args s = true from hpre))
  obtain ⟨hcount, ht0⟩ := and_e hg
  obtain ⟨ha0, ht1⟩ := and_e ht0
  obtain ⟨w0, w1, rfl⟩ : ∃ w0 w1 : Value, args = #[w0, w1] := by
    have hs : args.size = 2 := by simpa [Cond.value, given_1] using hcount
    obtain ⟨L⟩ := args
    match L, hs with
    | [w0, w1], _ => exact ⟨w0, w1, rfl⟩
  have hw := fun d (hd : d ∈ tables_1) => atoms_spec (ws := Jvm.Cond.code x code maxLocals ret :: tables_1) hat d (List.mem_cons_of_mem _ hd)
  have hfit : Fit s := fun {y c} hc i hi => by
    obtain ⟨ha, rfl⟩ := Array.getElem?_eq_some_iff.mp hc
    have q := List.all_eq_true.mp ((Array.all_eq_true_iff_forall_mem.mp hF) _ (Array.getElem_mem ha)) i (List.mem_range.mpr hi)
    simpa [Array.getElem?_eq_getElem hi] using q
  obtain ⟨i0, ei0⟩ := isL_v ha0
  obtain rfl : w0 = (.long i0) := Option.some.inj ei0
  obtain ⟨i1, ei1⟩ := is_v ht1
  obtain rfl : w1 = (.int i1) := Option.some.inj ei1
  obtain ⟨n, o, h1, h2, h3, _, L, rfl, ⟨rfl, N⟩, hq⟩ := rm0 l s _ hw tables_1 i0 i1 s.heap s.heap.size (Nat.le_refl _)  p e ha hc hk s m _ below hf ((Spec.applies_iff_loose hf).mp happ).1 ⟨rfl, State.Warmed39.refl s, rfl⟩ trivial
  refine ⟨n, _, h1, h2, h3, hpost _ _ _ _ _ _ ⟨Cond.after_iff.mpr rfl, Cond.after_iff.mpr (eq_i res_at (Term.int_eval (1)) rfl), trivial⟩ ⟨hq.1, hq.2.1, (hq.2.2.sift fun y hy => Or.inr (N y hy)).mono (by decide) (by decide)⟩⟩
theorem main_1_1 : Claimed_1_1 := comes_1 fun _ _ _ _ _ _ h hF => ⟨h.1, hF⟩
theorem main_1_2 : Claimed_1_2 := comes_1 fun _ _ _ _ _ _ h hF => ⟨h.2.1, hF⟩
end Jvm.Pilot.@@N@@
namespace Jvm.Pilot.@@N@@
open Jvm Jvm.ClassFile Sem Op Lib Jvm.Free Jvm.Stand Jvm.Pilot.@@N@@.Jvm.D
/-! MADE BY PROGRAM (witnessworld.py) out of the Statement's table words and the real class files: 15 classes; the members and pool entries that the words name. The judged class is class 1, her method 1. -/
namespace start1
open Jvm.ClassFile
def u (s : String) : CpInfo := .utf8 (stringToUtf16 s)
/-- a pool by its gaps: so many unusable entries, then the entry; so many at the end -/
def gap : Nat → List CpInfo → List CpInfo
  | 0, r => r
  | n + 1, r => .unusable :: gap n r
def poolList (es : List (Nat × CpInfo)) (last : Nat) : List CpInfo := es.foldr (fun e r => gap e.1 (e.2 :: r)) (gap last [])
def pool (es : List (Nat × CpInfo)) (last : Nat) : Array CpInfo := ⟨poolList es last⟩
def fileOf (pool : Array CpInfo) (this : Nat) (attrs : Array Attribute := #[]) (ms : Array MethodInfo := #[]) (fl : Nat := 33) (sup : Nat := 0) (ifs : Array Nat := #[]) (fds : Array FieldInfo := #[]) : ClassFile where
  minorVersion := 0
  majorVersion := 65
  constantPool := pool
  accessFlags := fl
  thisClass := this
  superClass := sup
  interfaces := ifs
  fields := fds
  methods := ms
  attributes := attrs
def plain (name : String) (sup : Option ClassId) : Class where
  name := name
  kind := .ordinary
  loader := none
  accessFlags := 33
  super := sup
  interfaces := #[]
  cf := none
  fields := #[]
  methods := #[]
  instanceTypes := #[]
  staticTypes := #[]
  resolved := #[]
  callSites := []
  init := .initialized
  statics := none
  mirror := none

def pool0 : Array CpInfo := pool [(5, u "<init>"), (0, u "()V"), (1, .class_ 10), (1, u "java/lang/Object")] 113

def k0m0 : Method := { name := "<init>", desc := "()V", sig := { parameters := [], returnType := none }, accessFlags := 1, code := none }
/-- java/lang/Object -/
def k0 : Class := { plain "java/lang/Object" none with
  accessFlags := 33
  interfaces := #[]
  cf := some (fileOf pool0 8 #[] #[{ accessFlags := 1, nameIndex := 5, descriptorIndex := 6, attributes := #[] }] 33 0 #[] #[])
  fields := #[]
  methods := #[k0m0]
  instanceTypes := #[]
  staticTypes := #[]
  resolved := Array.replicate 124 none
  statics := none }

def pool1 : Array CpInfo := pool [(2, .class_ 4), (1, u "java/lang/Object"), (0, u "<init>"), (0, u "()V"), (0, .methodref 8 9), (0, .class_ 10), (0, .nameAndType 11 12), (0, u "com/example/bloodwood/bloodwood/internal/TreePath"), (0, u "child"), (0, u "(JZ)J"), (0, .long 2), (1, .long 4611686018427387903), (1, .methodref 8 18), (0, .nameAndType 19 20), (0, u "up"), (0, u "(JI)J"), (0, .methodref 8 22), (0, .nameAndType 23 24), (0, u "endsRight"), (0, u "(J)Z"), (0, .methodref 8 26), (0, .nameAndType 27 28), (0, u "depth"), (0, u "(J)I"), (0, .class_ 30), (0, u "com/example/bloodwood/bloodwood/internal/TreePathChildPinLaw"), (2, u "law"), (0, u "(JI)Z")] 3

def k1m0 : Method := { name := "<init>", desc := "()V", sig := { parameters := [], returnType := none }, accessFlags := 2, code := none }
def k1c1 : Code := { maxStack := 6, maxLocals := 12, code := code, exceptionTable := #[], attributes := #[] }
def k1m1 : Method := { name := "law", desc := "(JI)Z", sig := { parameters := [.long, .int], returnType := some .boolean }, accessFlags := 9, code := some k1c1 }
/-- com/example/bloodwood/bloodwood/internal/TreePathChildPinLaw -/
def k1 : Class := { plain "com/example/bloodwood/bloodwood/internal/TreePathChildPinLaw" (some 0) with
  accessFlags := 49
  interfaces := #[]
  cf := some (fileOf pool1 29 #[] #[{ accessFlags := 2, nameIndex := 5, descriptorIndex := 6, attributes := #[] }, { accessFlags := 9, nameIndex := 33, descriptorIndex := 34, attributes := #[] }] 49 2 #[] #[])
  fields := #[]
  methods := #[k1m0, k1m1]
  instanceTypes := #[]
  staticTypes := #[]
  resolved := Array.replicate 38 none
  statics := none }

def pool2 : Array CpInfo := pool [(2, .class_ 4), (1, u "java/lang/Object"), (0, u "<init>"), (0, u "()V"), (0, .class_ 8), (0, u "java/lang/Long"), (0, .methodref 7 10), (0, .nameAndType 11 12), (0, u "numberOfLeadingZeros"), (0, u "(J)I"), (6, .class_ 21), (1, u "com/example/bloodwood/bloodwood/internal/TreePath"), (0, u "depth"), (4, u "child"), (0, u "(JZ)J"), (0, u "ROOT"), (0, u "J"), (3, u "NONE"), (2, u "DEEPEST"), (0, u "I"), (4, u "endsRight"), (0, u "(J)Z"), (2, u "up"), (0, u "(JI)J")] 5

def k2m0 : Method := { name := "<init>", desc := "()V", sig := { parameters := [], returnType := none }, accessFlags := 2, code := none }
def k2c1 : Code := { maxStack := 3, maxLocals := 2, code := prog_16_method_2_code, exceptionTable := #[], attributes := #[] }
def k2m1 : Method := { name := "depth", desc := "(J)I", sig := { parameters := [.long], returnType := some .int }, accessFlags := 8, code := some k2c1 }
def k2c2 : Code := { maxStack := 4, maxLocals := 3, code := prog_16_method_3_code, exceptionTable := #[], attributes := #[] }
def k2m2 : Method := { name := "child", desc := "(JZ)J", sig := { parameters := [.long, .boolean], returnType := some .long }, accessFlags := 8, code := some k2c2 }
def k2c3 : Code := { maxStack := 4, maxLocals := 2, code := prog_16_method_4_code, exceptionTable := #[], attributes := #[] }
def k2m3 : Method := { name := "endsRight", desc := "(J)Z", sig := { parameters := [.long], returnType := some .boolean }, accessFlags := 8, code := some k2c3 }
def k2c4 : Code := { maxStack := 3, maxLocals := 3, code := prog_16_method_6_code, exceptionTable := #[], attributes := #[] }
def k2m4 : Method := { name := "up", desc := "(JI)J", sig := { parameters := [.long, .int], returnType := some .long }, accessFlags := 8, code := some k2c4 }
/-- com/example/bloodwood/bloodwood/internal/TreePath -/
def k2 : Class := { plain "com/example/bloodwood/bloodwood/internal/TreePath" (some 0) with
  accessFlags := 48
  interfaces := #[]
  cf := some (fileOf pool2 19 #[] #[{ accessFlags := 2, nameIndex := 5, descriptorIndex := 6, attributes := #[] }, { accessFlags := 8, nameIndex := 22, descriptorIndex := 12, attributes := #[] }, { accessFlags := 8, nameIndex := 27, descriptorIndex := 28, attributes := #[] }, { accessFlags := 8, nameIndex := 43, descriptorIndex := 44, attributes := #[] }, { accessFlags := 8, nameIndex := 47, descriptorIndex := 48, attributes := #[] }] 48 2 #[] #[{ accessFlags := 24, nameIndex := 29, descriptorIndex := 30, attributes := #[] }, { accessFlags := 24, nameIndex := 34, descriptorIndex := 30, attributes := #[] }, { accessFlags := 24, nameIndex := 37, descriptorIndex := 38, attributes := #[] }])
  fields := #[{ name := "ROOT", type := .long, accessFlags := 24, slot := 0, constantValue := 0 }, { name := "NONE", type := .long, accessFlags := 24, slot := 1, constantValue := 0 }, { name := "DEEPEST", type := .int, accessFlags := 24, slot := 2, constantValue := 0 }]
  methods := #[k2m0, k2m1, k2m2, k2m3, k2m4]
  instanceTypes := #[]
  staticTypes := #[.long, .long, .int]
  resolved := Array.replicate 54 none
  statics := none }

def pool3 : Array CpInfo := pool [(1, .class_ 2), (0, u "java/io/Serializable"), (0, .class_ 4), (0, u "java/lang/Object")] 2

/-- java/io/Serializable -/
def k3 : Class := { plain "java/io/Serializable" (some 0) with
  accessFlags := 1537
  interfaces := #[]
  cf := some (fileOf pool3 1 #[] #[] 1537 3 #[] #[])
  fields := #[]
  methods := #[]
  instanceTypes := #[]
  staticTypes := #[]
  resolved := Array.replicate 7 none
  statics := none }

def pool4 : Array CpInfo := pool [(2, .class_ 4), (1, u "java/lang/Object"), (0, u "<init>"), (0, u "()V"), (1, .class_ 10), (1, u "java/lang/Number"), (2, .class_ 14), (0, u "java/io/Serializable"), (0, u "serialVersionUID"), (0, u "J")] 20

def k4m0 : Method := { name := "<init>", desc := "()V", sig := { parameters := [], returnType := none }, accessFlags := 1, code := none }
/-- java/lang/Number -/
def k4 : Class := { plain "java/lang/Number" (some 0) with
  accessFlags := 1057
  interfaces := #[3]
  cf := some (fileOf pool4 8 #[] #[{ accessFlags := 1, nameIndex := 5, descriptorIndex := 6, attributes := #[] }] 1057 2 #[13] #[{ accessFlags := 26, nameIndex := 15, descriptorIndex := 16, attributes := #[] }])
  fields := #[{ name := "serialVersionUID", type := .long, accessFlags := 26, slot := 0, constantValue := 0 }]
  methods := #[k4m0]
  instanceTypes := #[]
  staticTypes := #[.long]
  resolved := Array.replicate 37 none
  statics := none }

def pool5 : Array CpInfo := pool [(1, .class_ 2), (0, u "java/lang/Comparable"), (0, .class_ 4), (0, u "java/lang/Object")] 7

/-- java/lang/Comparable -/
def k5 : Class := { plain "java/lang/Comparable" (some 0) with
  accessFlags := 1537
  interfaces := #[]
  cf := some (fileOf pool5 1 #[] #[] 1537 3 #[] #[])
  fields := #[]
  methods := #[]
  instanceTypes := #[]
  staticTypes := #[]
  resolved := Array.replicate 12 none
  statics := none }

def pool6 : Array CpInfo := pool [(1, .class_ 2), (0, u "java/lang/constant/Constable"), (0, .class_ 4), (0, u "java/lang/Object")] 6

/-- java/lang/constant/Constable -/
def k6 : Class := { plain "java/lang/constant/Constable" (some 0) with
  accessFlags := 1537
  interfaces := #[]
  cf := some (fileOf pool6 1 #[] #[] 1537 3 #[] #[])
  fields := #[]
  methods := #[]
  instanceTypes := #[]
  staticTypes := #[]
  resolved := Array.replicate 11 none
  statics := none }

def pool7 : Array CpInfo := pool [(1, .class_ 2), (0, u "java/lang/constant/ConstantDesc"), (0, .class_ 4), (0, u "java/lang/Object")] 32

/-- java/lang/constant/ConstantDesc -/
def k7 : Class := { plain "java/lang/constant/ConstantDesc" (some 0) with
  accessFlags := 1537
  interfaces := #[]
  cf := some (fileOf pool7 1 #[] #[] 1537 3 #[] #[])
  fields := #[]
  methods := #[]
  instanceTypes := #[]
  staticTypes := #[]
  resolved := Array.replicate 37 none
  statics := none }

def pool8 : Array CpInfo := pool [(1, .class_ 2), (0, u "java/lang/Long"), (15, .class_ 20), (1, u "java/lang/Integer"), (79, u "numberOfLeadingZeros"), (0, u "(J)I"), (133, .class_ 237), (1, u "java/lang/Long$LongCache"), (33, .class_ 272), (0, u "java/lang/Number"), (2, u "value"), (0, u "J"), (31, .methodref 18 309), (0, .nameAndType 100 310), (0, u "(I)I"), (50, u "TYPE"), (0, u "Ljava/lang/Class;"), (0, .class_ 364), (0, u "java/lang/Comparable"), (0, .class_ 366), (0, u "java/lang/constant/Constable"), (0, .class_ 368), (0, u "java/lang/constant/ConstantDesc"), (0, u "MIN_VALUE"), (1, u "MAX_VALUE"), (4, u "SIZE"), (0, u "I"), (1, u "BYTES"), (1, u "serialVersionUID")] 142

def k8c0 : Code := { maxStack := 3, maxLocals := 3, code := jdk_35_method_48_code, exceptionTable := #[], attributes := #[] }
def k8m0 : Method := { name := "numberOfLeadingZeros", desc := "(J)I", sig := { parameters := [.long], returnType := some .int }, accessFlags := 9, code := some k8c0 }
/-- java/lang/Long -/
def k8 : Class := { plain "java/lang/Long" (some 4) with
  accessFlags := 49
  interfaces := #[5, 6, 7]
  cf := some (fileOf pool8 1 #[.nestMembers #[235]] #[{ accessFlags := 9, nameIndex := 100, descriptorIndex := 101, attributes := #[] }] 49 271 #[363, 365, 367] #[{ accessFlags := 25, nameIndex := 369, descriptorIndex := 276, attributes := #[] }, { accessFlags := 25, nameIndex := 371, descriptorIndex := 276, attributes := #[] }, { accessFlags := 25, nameIndex := 361, descriptorIndex := 362, attributes := #[] }, { accessFlags := 18, nameIndex := 275, descriptorIndex := 276, attributes := #[] }, { accessFlags := 25, nameIndex := 376, descriptorIndex := 377, attributes := #[] }, { accessFlags := 25, nameIndex := 379, descriptorIndex := 377, attributes := #[] }, { accessFlags := 26, nameIndex := 381, descriptorIndex := 276, attributes := #[] }])
  fields := #[{ name := "MIN_VALUE", type := .long, accessFlags := 25, slot := 0, constantValue := 0 }, { name := "MAX_VALUE", type := .long, accessFlags := 25, slot := 1, constantValue := 0 }, { name := "TYPE", type := (.object "java/lang/Class"), accessFlags := 25, slot := 2, constantValue := 0 }, { name := "value", type := .long, accessFlags := 18, slot := 0, constantValue := 0 }, { name := "SIZE", type := .int, accessFlags := 25, slot := 3, constantValue := 0 }, { name := "BYTES", type := .int, accessFlags := 25, slot := 4, constantValue := 0 }, { name := "serialVersionUID", type := .long, accessFlags := 26, slot := 5, constantValue := 0 }]
  methods := #[k8m0]
  instanceTypes := #[.long]
  staticTypes := #[.long, .long, (.object "java/lang/Class"), .int, .int, .long]
  resolved := Array.replicate 524 none
  statics := none }

def pool9 : Array CpInfo := pool [(1, .class_ 2), (0, u "java/lang/Integer"), (16, u "digits"), (0, u "[C"), (32, u "numberOfLeadingZeros"), (0, u "(I)I"), (30, u "DigitOnes"), (0, u "[B"), (2, u "DigitTens"), (99, .class_ 190), (0, u "java/lang/Integer$IntegerCache"), (3, u "I"), (8, .class_ 204), (0, u "java/lang/Number"), (2, u "value"), (56, .integer 65536), (37, u "TYPE"), (0, u "Ljava/lang/Class;"), (0, .class_ 305), (0, u "java/lang/Comparable"), (0, .class_ 307), (0, u "java/lang/constant/Constable"), (0, .class_ 309), (0, u "java/lang/constant/ConstantDesc"), (0, u "MIN_VALUE"), (1, u "MAX_VALUE"), (3, u "SIZE"), (1, u "BYTES"), (1, u "serialVersionUID"), (0, u "J")] 131

def k9c0 : Code := { maxStack := 3, maxLocals := 2, code := jdk_33_method_47_code, exceptionTable := #[], attributes := #[] }
def k9m0 : Method := { name := "numberOfLeadingZeros", desc := "(I)I", sig := { parameters := [.int], returnType := some .int }, accessFlags := 9, code := some k9c0 }
/-- java/lang/Integer -/
def k9 : Class := { plain "java/lang/Integer" (some 4) with
  accessFlags := 49
  interfaces := #[5, 6, 7]
  cf := some (fileOf pool9 1 #[.nestMembers #[189]] #[{ accessFlags := 9, nameIndex := 53, descriptorIndex := 54, attributes := #[] }] 49 203 #[304, 306, 308] #[{ accessFlags := 25, nameIndex := 310, descriptorIndex := 194, attributes := #[] }, { accessFlags := 25, nameIndex := 312, descriptorIndex := 194, attributes := #[] }, { accessFlags := 25, nameIndex := 302, descriptorIndex := 303, attributes := #[] }, { accessFlags := 24, nameIndex := 19, descriptorIndex := 20, attributes := #[] }, { accessFlags := 24, nameIndex := 89, descriptorIndex := 86, attributes := #[] }, { accessFlags := 24, nameIndex := 85, descriptorIndex := 86, attributes := #[] }, { accessFlags := 18, nameIndex := 207, descriptorIndex := 194, attributes := #[] }, { accessFlags := 25, nameIndex := 316, descriptorIndex := 194, attributes := #[] }, { accessFlags := 25, nameIndex := 318, descriptorIndex := 194, attributes := #[] }, { accessFlags := 26, nameIndex := 320, descriptorIndex := 321, attributes := #[] }])
  fields := #[{ name := "MIN_VALUE", type := .int, accessFlags := 25, slot := 0, constantValue := 0 }, { name := "MAX_VALUE", type := .int, accessFlags := 25, slot := 1, constantValue := 0 }, { name := "TYPE", type := (.object "java/lang/Class"), accessFlags := 25, slot := 2, constantValue := 0 }, { name := "digits", type := (.array .char), accessFlags := 24, slot := 3, constantValue := 0 }, { name := "DigitTens", type := (.array .byte), accessFlags := 24, slot := 4, constantValue := 0 }, { name := "DigitOnes", type := (.array .byte), accessFlags := 24, slot := 5, constantValue := 0 }, { name := "value", type := .int, accessFlags := 18, slot := 0, constantValue := 0 }, { name := "SIZE", type := .int, accessFlags := 25, slot := 6, constantValue := 0 }, { name := "BYTES", type := .int, accessFlags := 25, slot := 7, constantValue := 0 }, { name := "serialVersionUID", type := .long, accessFlags := 26, slot := 8, constantValue := 0 }]
  methods := #[k9m0]
  instanceTypes := #[.int]
  staticTypes := #[.int, .int, (.object "java/lang/Class"), (.array .char), (.array .byte), (.array .byte), .int, .int, .long]
  resolved := Array.replicate 453 none
  statics := none }

def pool10 : Array CpInfo := pool [(1, u "java/lang/Cloneable"), (0, .class_ 1), (0, u "java/lang/Object"), (0, .class_ 3)] 3

/-- java/lang/Cloneable -/
def k10 : Class := { plain "java/lang/Cloneable" (some 0) with
  accessFlags := 1537
  interfaces := #[]
  cf := some (fileOf pool10 2 #[] #[] 1537 4 #[] #[])
  fields := #[]
  methods := #[]
  instanceTypes := #[]
  staticTypes := #[]
  resolved := Array.replicate 8 none
  statics := none }

/-- the primitive byte -/
def k11 : Class := { plain "byte" none with kind := .primitive 'B', accessFlags := 0x411 }
/-- [B -/
def k12 : Class := { plain "[B" (some 0) with kind := .array 11 .byte, interfaces := #[10, 3], accessFlags := 1041 }

/-- the primitive int -/
def k13 : Class := { plain "int" none with kind := .primitive 'I', accessFlags := 0x411 }
/-- [I -/
def k14 : Class := { plain "[I" (some 0) with kind := .array 13 .int, interfaces := #[10, 3], accessFlags := 1041 }

def heap : Heap := #[]
def classes : Array Class := #[k0, k1, k2, k3, k4, k5, k6, k7, k8, k9, k10, k11, k12, k13, k14]
def interned : List (Array UInt16 × Addr) := []
def slotsUsed : Nat := 0
def theMethod : MethodId := ⟨1, 1⟩
def args0 : Array Value := #[.long 5, .int 1]
def aboutOver (below : List Frame) : State where
  vm := { classes := classes, interned := interned.toArray }
  heap := heap
  slotsUsed := slotsUsed
  threads := #[{ frames := .invoking theMethod args0 :: below }]
def below0 : List Frame := [.native { method := ⟨0, 0⟩, args := #[] }]
def about1 : State := aboutOver below0
def p0 : Program := .bare "" "" ""
def e0 : Env := launch0.env 0 0 0
theorem w_frames : about1.frames = Frame.invoking theMethod args0 :: below0 := rfl
set_option maxRecDepth 65536 in
theorem w_args : argsFit about1.vm theMethod args0 = true := by decide +kernel
set_option maxRecDepth 65536 in
theorem w_heap : heapFits about1 = true := by decide +kernel
set_option maxRecDepth 65536 in
theorem w_runnable : about1.curStatus? = some .runnable := by decide +kernel
set_option maxRecDepth 65536 in
theorem w_alone : about1.alone = true := by decide +kernel
set_option maxRecDepth 65536 in
theorem w_named : about1.methodNamed? x = some theMethod := by decide +kernel
set_option maxRecDepth 65536 in
theorem w_hears : about1.hears theMethod below0 = true := by decide +kernel
set_option maxRecDepth 65536 in
theorem w_ripe : about1.ripe theMethod args0 below0 = true := by decide +kernel
theorem w_running : about1.status = .running := rfl
set_option maxRecDepth 65536 in
theorem w_room : about1.hasRoom e0.platform room_1 = true :=
  launch0.hasRoom_least _ room_1 (by decide +kernel) (by decide +kernel) (by decide +kernel) (by decide +kernel) (by decide +kernel) (by decide +kernel)
theorem allAtoms_all (ts : List Jvm.Cond) (a : Array Jvm.Value) (st : Jvm.State) : (allAtoms ts).before a st = ts.all (fun c => c.before a st) := by
  induction ts with
  | nil => rfl
  | cons c t ih =>
    show (Jvm.Cond.and c (allAtoms t)).before a st = _
    rw [Jvm.Cond.before_and, ih, List.all_cons]
def words1 : List Jvm.Cond := Jvm.Cond.code x code maxLocals ret :: tables_1
/-- a 'code' word, met by the world's own term for the bytes: nothing is compared byte by byte -/
theorem code_word {y : MethodName} {bytes : ByteArray} {mx : Nat} {rt : Option FieldType} {a : Array Value} {s : State} {m : MethodId} {meth : Method} {c : Code} (h1 : s.methodNamed? y = some m) (h2 : s.vm.method? m = some meth) (h3 : meth.code = some c) (h4 : c.code = bytes)
    (h5 : (c.maxLocals == mx && c.exceptionTable.isEmpty && decide (c.maxStack ≤ mostOperands) && decide (meth.sig.returnType = rt) && !meth.locks && decide (parseMethodDescriptor y.desc = some meth.sig)) = true) : (Jvm.Cond.code y bytes mx rt).before a s = true := by
  simp only [Bool.and_eq_true, beq_iff_eq, Bool.not_eq_true', decide_eq_true_eq] at h5
  obtain ⟨⟨⟨⟨⟨g1, g2⟩, g3⟩, g4⟩, g5⟩, g6⟩ := h5
  simp [Cond.before, Cond.holds, Cond.value, h1, h2, h3, h4, g1, g2, g3, g4, g5, g6]
def isCode : Jvm.Cond → Bool
  | .code _ _ _ _ => true
  | _ => false
theorem all_split {L : List Jvm.Cond} {P : Jvm.Cond → Bool} (h1 : L.all (fun c => isCode c || P c) = true) (h2 : ∀ c ∈ L.filter isCode, P c = true) : L.all P = true := by
  refine List.all_eq_true.mpr fun c hc => ?_
  have h := List.all_eq_true.mp h1 c hc
  rcases Bool.eq_false_or_eq_true (isCode c) with hi | hi
  · exact h2 c (List.mem_filter.mpr ⟨hc, hi⟩)
  · simpa [hi] using h
set_option maxRecDepth 65536 in
theorem w_c0 : (Jvm.Cond.code x code maxLocals ret).before args0 about1 = true := code_word (m := ⟨1, 1⟩) (meth := k1m1) (c := k1c1) (by decide +kernel) rfl rfl rfl (by decide +kernel)
set_option maxRecDepth 65536 in
theorem w_c1 : (Jvm.Cond.code ({ cls := "com/example/bloodwood/bloodwood/internal/TreePath", name := "child", desc := "(JZ)J" } : Jvm.MethodName) prog_16_method_3_code (3 : Nat) (Option.some Jvm.ClassFile.FieldType.long)).before args0 about1 = true := code_word (m := ⟨2, 2⟩) (meth := k2m2) (c := k2c2) (by decide +kernel) rfl rfl rfl (by decide +kernel)
set_option maxRecDepth 65536 in
theorem w_c2 : (Jvm.Cond.code ({ cls := "com/example/bloodwood/bloodwood/internal/TreePath", name := "up", desc := "(JI)J" } : Jvm.MethodName) prog_16_method_6_code (3 : Nat) (Option.some Jvm.ClassFile.FieldType.long)).before args0 about1 = true := code_word (m := ⟨2, 4⟩) (meth := k2m4) (c := k2c4) (by decide +kernel) rfl rfl rfl (by decide +kernel)
set_option maxRecDepth 65536 in
theorem w_c3 : (Jvm.Cond.code ({ cls := "com/example/bloodwood/bloodwood/internal/TreePath", name := "endsRight", desc := "(J)Z" } : Jvm.MethodName) prog_16_method_4_code (2 : Nat) (Option.some Jvm.ClassFile.FieldType.boolean)).before args0 about1 = true := code_word (m := ⟨2, 3⟩) (meth := k2m3) (c := k2c3) (by decide +kernel) rfl rfl rfl (by decide +kernel)
set_option maxRecDepth 65536 in
theorem w_c4 : (Jvm.Cond.code ({ cls := "com/example/bloodwood/bloodwood/internal/TreePath", name := "depth", desc := "(J)I" } : Jvm.MethodName) prog_16_method_2_code (2 : Nat) (Option.some Jvm.ClassFile.FieldType.int)).before args0 about1 = true := code_word (m := ⟨2, 1⟩) (meth := k2m1) (c := k2c1) (by decide +kernel) rfl rfl rfl (by decide +kernel)
set_option maxRecDepth 65536 in
theorem w_c5 : (Jvm.Cond.code ({ cls := "java/lang/Long", name := "numberOfLeadingZeros", desc := "(J)I" } : Jvm.MethodName) jdk_35_method_48_code (3 : Nat) (Option.some Jvm.ClassFile.FieldType.int)).before args0 about1 = true := code_word (m := ⟨8, 0⟩) (meth := k8m0) (c := k8c0) (by decide +kernel) rfl rfl rfl (by decide +kernel)
set_option maxRecDepth 65536 in
theorem w_c6 : (Jvm.Cond.code ({ cls := "java/lang/Integer", name := "numberOfLeadingZeros", desc := "(I)I" } : Jvm.MethodName) jdk_33_method_47_code (2 : Nat) (Option.some Jvm.ClassFile.FieldType.int)).before args0 about1 = true := code_word (m := ⟨9, 0⟩) (meth := k9m0) (c := k9c0) (by decide +kernel) rfl rfl rfl (by decide +kernel)
def codes1 : List Jvm.Cond := [Jvm.Cond.code x code maxLocals ret, Jvm.Cond.code ({ cls := "com/example/bloodwood/bloodwood/internal/TreePath", name := "child", desc := "(JZ)J" } : Jvm.MethodName) prog_16_method_3_code (3 : Nat) (Option.some Jvm.ClassFile.FieldType.long), Jvm.Cond.code ({ cls := "com/example/bloodwood/bloodwood/internal/TreePath", name := "up", desc := "(JI)J" } : Jvm.MethodName) prog_16_method_6_code (3 : Nat) (Option.some Jvm.ClassFile.FieldType.long), Jvm.Cond.code ({ cls := "com/example/bloodwood/bloodwood/internal/TreePath", name := "endsRight", desc := "(J)Z" } : Jvm.MethodName) prog_16_method_4_code (2 : Nat) (Option.some Jvm.ClassFile.FieldType.boolean), Jvm.Cond.code ({ cls := "com/example/bloodwood/bloodwood/internal/TreePath", name := "depth", desc := "(J)I" } : Jvm.MethodName) prog_16_method_2_code (2 : Nat) (Option.some Jvm.ClassFile.FieldType.int), Jvm.Cond.code ({ cls := "java/lang/Long", name := "numberOfLeadingZeros", desc := "(J)I" } : Jvm.MethodName) jdk_35_method_48_code (3 : Nat) (Option.some Jvm.ClassFile.FieldType.int), Jvm.Cond.code ({ cls := "java/lang/Integer", name := "numberOfLeadingZeros", desc := "(I)I" } : Jvm.MethodName) jdk_33_method_47_code (2 : Nat) (Option.some Jvm.ClassFile.FieldType.int)]
set_option maxRecDepth 65536 in
theorem codes_eq : words1.filter isCode = codes1 := rfl
theorem w_codes : ∀ c ∈ words1.filter isCode, c.before args0 about1 = true := by
  rw [codes_eq]
  intro c hc
  simp only [codes1, List.mem_cons, List.not_mem_nil, or_false] at hc
  rcases hc with rfl | rfl | rfl | rfl | rfl | rfl | rfl
  · exact w_c0
  · exact w_c1
  · exact w_c2
  · exact w_c3
  · exact w_c4
  · exact w_c5
  · exact w_c6
set_option maxRecDepth 65536 in
theorem w_t1 : (words1.take 24).all (fun c => isCode c || c.before args0 about1) = true := by decide +kernel
set_option maxRecDepth 65536 in
theorem w_t2 : (words1.drop 24).all (fun c => isCode c || c.before args0 about1) = true := by decide +kernel
theorem w_tables : (allAtoms (Jvm.Cond.code x code maxLocals ret :: tables_1)).before args0 about1 = true := by
  rw [allAtoms_all]
  show words1.all (fun c => c.before args0 about1) = true
  refine all_split ?_ w_codes
  rw [← List.take_append_drop 24 words1, List.all_append, w_t1, w_t2]
  rfl
set_option maxRecDepth 65536 in
theorem w_case : (Jvm.Cond.and given_1 narrow_1).before args0 about1 = true := by decide +kernel
theorem w_applies : (headSpec (Jvm.Cond.code x code maxLocals ret :: tables_1) room_1).applies x e0.platform about1 = true :=
  (Spec.applies_iff w_frames).mpr ⟨w_running, w_runnable, w_alone, w_named, w_hears, w_ripe, w_room, w_tables⟩
theorem atStart : AtStart classFile x code maxLocals ret World_1 tables_1 room_1 Calls_1 rest_1 Pre_1 launch0 p0 e0 about1 theMethod args0 below0 :=
  ⟨lists_1, trivial, launch0.admits_env _ _ _, launch0.least_env, fairChoices_fair.cas, fairChoices_fair.clock, w_frames, w_args, w_heap, w_applies, trivial, trivial, w_case⟩
end start1
theorem witness_1 : WitnessClaimed_1 := ⟨start1.p0, start1.e0, start1.about1, start1.theMethod, start1.args0, start1.below0, start1.atStart⟩
end Jvm.Pilot.@@N@@
