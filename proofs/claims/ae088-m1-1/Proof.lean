import JvmDerived
import JvmDerived.Pilot.@@N@@Statement
import JvmDerived.Pilot.@@N@@Code
set_option linter.unusedVariables false
set_option linter.unusedSimpArgs false
namespace Jvm.RoadKit
open Sem ClassFile Op Lib Jvm.Stand Jvm.Free Jvm.LawKit
section New
variable {p : Program} {l : Launch} {e : Env} {R : Room} {s : State} {m : MethodId} {args : Array Value} {below : List Frame} {meth : Method} {c : Code} {T : State} {locs : List Loc} {cells slots : Nat}
theorem retI (X : Stand p l e R s m args below meth c T locs cells slots) (hx : p.tables.exec = Jvm.exec) {pc : Nat} {Ls : Array Slot} {z : Int32} {rest : List Value} (hret : meth.sig.returnType = some .int) (hd : decode c.code pc = .ok (.ireturn, 1)) {fs : List Frame}
    (hl : ∀ (f : JFrame) (acts : List Action), f.method = m → f.locked = none → f.entered = [] → (doReturn e (T.setTop f) acts (some (.int z))).1 = T.setFrames fs) : Steps p.tables e below (T.setTop (mkF m pc Ls (.int z :: rest))) (T.setFrames fs) :=
  retOut X hx hret rfl (Or.inl ⟨rfl, Or.inl rfl, _, rfl⟩) hd hl
theorem own_retJ (X : Stand p l e R s m args below meth c T locs cells slots) (hx : p.tables.exec = Jvm.exec) {pc : Nat} {Ls : Array Slot} {z : Int64} {rest : List Value} (hret : meth.sig.returnType = some .long) (hd : decode c.code pc = .ok (.lreturn, 1)) {fs : List Frame}
    (hl : ∀ (f : JFrame) (acts : List Action), f.method = m → f.locked = none → f.entered = [] → (doReturn e (T.setTop f) acts (some (.long z))).1 = T.setFrames fs) : Steps p.tables e below (T.setTop (mkF m pc Ls (.long z :: rest))) (T.setFrames fs) :=
  retOut X hx hret rfl (Or.inr (Or.inl ⟨rfl, rfl, _, rfl⟩)) hd hl
theorem own_retD (X : Stand p l e R s m args below meth c T locs cells slots) (hx : p.tables.exec = Jvm.exec) {pc : Nat} {Ls : Array Slot} {z : UInt64} {rest : List Value} (hret : meth.sig.returnType = some .double) (hd : decode c.code pc = .ok (.dreturn, 1)) {fs : List Frame}
    (hl : ∀ (f : JFrame) (acts : List Action), f.method = m → f.locked = none → f.entered = [] → (doReturn e (T.setTop f) acts (some (.double z))).1 = T.setFrames fs) : Steps p.tables e below (T.setTop (mkF m pc Ls (.double z :: rest))) (T.setFrames fs) :=
  retOut X hx hret rfl (Or.inr (Or.inr (Or.inl ⟨rfl, rfl, _, rfl⟩))) hd hl
theorem own_retR (X : Stand p l e R s m args below meth c T locs cells slots) (hx : p.tables.exec = Jvm.exec) {pc : Nat} {Ls : Array Slot} {w : Value} {t : FieldType} {rest : List Value} (hret : meth.sig.returnType = some t) (ht : t.isReference = true) (hv : w.isRef = true) (hd : decode c.code pc = .ok (.areturn, 1)) {fs : List Frame}
    (hl : ∀ (f : JFrame) (acts : List Action), f.method = m → f.locked = none → f.entered = [] → (doReturn e (T.setTop f) acts (some w)).1 = T.setFrames fs) : Steps p.tables e below (T.setTop (mkF m pc Ls (w :: rest))) (T.setFrames fs) :=
  retOut X hx hret (by rcases ref_cases hv with rfl | ⟨a, rfl⟩ <;> cases t <;> first | rfl | cases ht) (Or.inr (Or.inr (Or.inr (Or.inr ⟨rfl, ht, hv⟩)))) hd hl
end New
section Own
variable {p : Program} {e : Env} {below : List Frame}
/-- the run from S ends as P says -/
def own_Gl (p : Program) (e : Env) (below : List Frame) (P : Outcome → State → Prop) (S : State) : Prop := ∃ s₂ o, Steps p.tables e below S s₂ ∧ s₂.status = .running ∧ Ended s₂ below o ∧ P o s₂
theorem own_gl {P : Outcome → State → Prop} {S : State} (h : own_Gl p e below P S) : ∃ s₂ o, Steps p.tables e below S s₂ ∧ s₂.status = .running ∧ Ended s₂ below o ∧ P o s₂ := h
theorem own_st {P : Outcome → State → Prop} {S S' : State} (h : ∀ t, Steps p.tables e below S' t → Steps p.tables e below S t) (k : own_Gl p e below P S') : own_Gl p e below P S := by
  obtain ⟨s₂, o, h1, h2⟩ := k
  exact ⟨s₂, o, h _ h1, h2⟩
theorem own_cast {P : Outcome → State → Prop} {S S' : State} (h : S' = S) (k : own_Gl p e below P S') : own_Gl p e below P S := h ▸ k
theorem own_join {P : Outcome → State → Prop} {S : State} {α : Type} {F : α → State} {H : α → Prop} (J : ∀ x, H x → own_Gl p e below P (F x)) (k : (∀ x, H x → own_Gl p e below P (F x)) → own_Gl p e below P S) : own_Gl p e below P S := k J
theorem own_selfsel {s : State} {args : Array Value} {y : MethodName} {n : Nat} (wi : (Cond.instantiable y.cls n).before args s = true) (wp : (Cond.privateMethod y).before args s = true) (hinst : (Cond.instanceMethod y).before args s = true) (hy : y.cls ≠ "java/lang/invoke/MethodHandle" ∧ y.cls ≠ "java/lang/invoke/VarHandle") : (Cond.selects y.cls y y).before args s = true := by
  obtain ⟨c, k, h1, h2, -, h3, -⟩ := Cond.instantiable_spec wi
  exact selects_self_of_private h1 h2 (by simp only [Bool.or_eq_false_iff] at h3; exact h3.1) (Cond.privateMethod_at wp) hinst hy
/-- a place of an array is written, whatever it holds -/
theorem own_arv_any {Z : State} {h h' : Heap} {a : Addr} {c : Cell} {k : ClassId} {ty : FieldType} {z j : Int32} {vs : List Value} {dv v : Value} (A : Arr Z h a c ty) (q1 : c.cls = k) (S : c.slots.size = z.toNatClampNeg) (q3 : ¬ z < 0) (H : Has c vs dv) (G : ∀ i, i < c.slots.size → fits ty (vs.getD i dv) = true) (hv : fits ty v = true) (W : Wr h h' a j.toNatClampNeg v) (hj : ¬ (j < 0 ∨ c.slots.size ≤ j.toNatClampNeg)) : ∃ vs', Arv Z h' a k ty z vs' dv := by
  have F : Arv Z h a k ty z (vs ++ List.replicate z.toNatClampNeg dv) dv := Arv.pad ⟨c, A, q1, S, q3, H, G⟩ (pad_rep vs dv _)
  obtain ⟨c', A', r1, r2, r3, r4, r5⟩ := F
  cases A.1.symm.trans A'.1
  exact ⟨_, Arv.set A' r1 r2 r3 r4 r5 hv W j.toNatClampNeg rfl (by
    have q := Nat.lt_of_not_le fun y => hj (Or.inr y)
    rw [S] at q
    simp only [List.length_append, List.length_replicate]
    omega)⟩
end Own
end Jvm.RoadKit

namespace Jvm.Pilot.@@N@@
open Jvm Jvm.ClassFile Sem Op Lib Jvm.Free Jvm.Stand Jvm.LawKit Jvm.RoadKit Bundle Jvm.Pilot.@@N@@.Jvm.D

theorem own_intv {args : Array Value} {s : State} {t : Term} {i : Int32} (h : (Jvm.Cond.eq t (Term.int i)).value args s none s [] = some true) : t.eval args s none [] s = some (.int i) := by
  cases e : t.eval args s none [] s with
  | none => simp [Cond.value, e] at h
  | some v => cases v <;> simp [Cond.value, Term.int_eval, e] at h; rw [h]
theorem own_ord {args : Array Value} {s : State} {tA tB : Term} {a b : Addr} {C n d : String} {i j : Int32} (hA : tA.eval args s none [] s = some (.ref a)) (hB : tB.eval args s none [] s = some (.ref b)) (h1 : (Jvm.Cond.eq (Term.field tA C n d) (Term.int i)).value args s none s [] = some true) (h2 : (Jvm.Cond.eq (Term.field tB C n d) (Term.int j)).value args s none s [] = some true) (hn : i ≠ j) : a ≠ b := fun e => by
  subst e
  have q1 := own_intv h1
  have q2 := own_intv h2
  rw [fld_at hA] at q1
  rw [fld_at hB] at q2
  exact hn (Value.int.inj (Option.some.inj (q1.symm.trans q2)))
/-- what Integer.numberOfLeadingZeros computes, stage by stage -/
def own_n4 (n x : Int32) : Int32 := n - ((x.toUInt32 >>> ((1 : Int32) &&& 31).toUInt32).toInt32)
def own_n3 (n x : Int32) : Int32 := if x < 4 then own_n4 n x else own_n4 (n + (-2 : Int32)) ((x.toUInt32 >>> ((2 : Int32) &&& 31).toUInt32).toInt32)
def own_n2 (n x : Int32) : Int32 := if x < 16 then own_n3 n x else own_n3 (n + (-4 : Int32)) ((x.toUInt32 >>> ((4 : Int32) &&& 31).toUInt32).toInt32)
def own_n1 (n x : Int32) : Int32 := if x < 256 then own_n2 n x else own_n2 (n + (-8 : Int32)) ((x.toUInt32 >>> ((8 : Int32) &&& 31).toUInt32).toInt32)
def own_nlz (x : Int32) : Int32 := if 0 < x then (if x < 65536 then own_n1 31 x else own_n1 (31 + (-16 : Int32)) ((x.toUInt32 >>> ((16 : Int32) &&& 31).toUInt32).toInt32)) else if x = 0 then 32 else 0
/-- y's highest bit is the k-th -/
def own_top (y : Int) (k : Nat) : Prop := (2 ^ k : Nat) ≤ y ∧ y < (2 ^ (k + 1) : Nat)
theorem own_us (x : Int32) (q : Int32) (k : Nat) (hq : q.toBitVec.toNat % 32 = k) (h0 : 0 < k) (hx : 0 ≤ x.toInt) : ((x.toUInt32 >>> (q &&& 31).toUInt32).toInt32).toInt = x.toInt / (2 ^ k : Nat) := by
  rw [c_iushr x q k hq h0, Int.emod_eq_of_lt hx (by have := (rng32 x).2; omega)]
theorem own_sub (n : Int32) (d : Int32) (hn : 0 ≤ n.toInt ∧ n.toInt ≤ 31) (hd : 0 ≤ d.toInt ∧ d.toInt ≤ 31) : (n - d).toInt = n.toInt - d.toInt := by
  have h := c_isub n d
  have r := rng32 (n - d)
  omega
theorem own_addm (n m : Int32) (hn : 0 ≤ n.toInt ∧ n.toInt ≤ 31) (hm : -16 ≤ m.toInt ∧ m.toInt ≤ 0) : (n + m).toInt = n.toInt + m.toInt := by
  have h := c_iadd n m
  have r := rng32 (n + m)
  omega
theorem own_s4 (n x : Int32) (hn : 1 ≤ n.toInt ∧ n.toInt ≤ 31) (h1 : 1 ≤ x.toInt) (h2 : x.toInt < 4) : ∃ k : Nat, k ≤ 1 ∧ own_top x.toInt k ∧ (own_n4 n x).toInt = n.toInt - k := by
  have u := own_us x 1 1 (by decide) (by decide) (by omega)
  have s := own_sub n ((x.toUInt32 >>> ((1 : Int32) &&& 31).toUInt32).toInt32) (by omega) (by rw [u]; omega)
  have e : own_n4 n x = n - ((x.toUInt32 >>> ((1 : Int32) &&& 31).toUInt32).toInt32) := rfl
  rw [e, s, u]
  by_cases h : x.toInt < 2
  · exact ⟨0, by omega, ⟨by omega, by omega⟩, by omega⟩
  · exact ⟨1, by omega, ⟨by omega, by omega⟩, by omega⟩
theorem own_pow {a b : Nat} (h : (2 ^ a : Nat) < 2 ^ b) : a < b := (Nat.pow_lt_pow_iff_right (by decide)).mp h
theorem own_topmul {y : Int} {k j : Nat} (h : own_top (y / (2 ^ j : Nat)) k) : own_top y (k + j) := by
  obtain ⟨h1, h2⟩ := h
  have hp : (0 : Int) < (2 ^ j : Nat) := by have := Nat.two_pow_pos j; omega
  constructor
  · rw [Nat.pow_add, Int.natCast_mul]
    exact (Int.le_ediv_iff_mul_le hp).mp h1
  · have := (Int.ediv_lt_iff_lt_mul hp).mp h2
    rw [show k + j + 1 = (k + 1) + j by omega, Nat.pow_add, Int.natCast_mul]
    exact this
theorem own_lt {x : Int32} {c : Int32} {C : Int} (hc : c.toInt = C) : x < c ↔ x.toInt < C := by rw [Int32.lt_iff_toInt_lt, hc]
theorem own_s3 (n x : Int32) (hn : 3 ≤ n.toInt ∧ n.toInt ≤ 31) (h1 : 1 ≤ x.toInt) (h2 : x.toInt < 16) : ∃ k : Nat, k ≤ 3 ∧ own_top x.toInt k ∧ (own_n3 n x).toInt = n.toInt - k := by
  unfold own_n3
  split
  · rename_i h
    obtain ⟨k, a, b, c⟩ := own_s4 n x (by omega) h1 ((own_lt (C := 4) (by decide)).mp h)
    exact ⟨k, by omega, b, c⟩
  · rename_i h
    rw [own_lt (C := 4) (by decide)] at h
    have u := own_us x 2 2 (by decide) (by decide) (by omega)
    have m := own_addm n (-2) (by omega) (by decide)
    have e : (-2 : Int32).toInt = -2 := by decide
    obtain ⟨k, a, b, c⟩ := own_s4 (n + (-2 : Int32)) _ (by omega) (by rw [u]; omega) (by rw [u]; omega)
    rw [u] at b
    exact ⟨k + 2, by omega, own_topmul b, by rw [c]; omega⟩
theorem own_s2 (n x : Int32) (hn : 7 ≤ n.toInt ∧ n.toInt ≤ 31) (h1 : 1 ≤ x.toInt) (h2 : x.toInt < 256) : ∃ k : Nat, k ≤ 7 ∧ own_top x.toInt k ∧ (own_n2 n x).toInt = n.toInt - k := by
  unfold own_n2
  split
  · rename_i h
    obtain ⟨k, a, b, c⟩ := own_s3 n x (by omega) h1 ((own_lt (C := 16) (by decide)).mp h)
    exact ⟨k, by omega, b, c⟩
  · rename_i h
    rw [own_lt (C := 16) (by decide)] at h
    have u := own_us x 4 4 (by decide) (by decide) (by omega)
    have m := own_addm n (-4) (by omega) (by decide)
    have e : (-4 : Int32).toInt = -4 := by decide
    obtain ⟨k, a, b, c⟩ := own_s3 (n + (-4 : Int32)) _ (by omega) (by rw [u]; omega) (by rw [u]; omega)
    rw [u] at b
    exact ⟨k + 4, by omega, own_topmul b, by rw [c]; omega⟩
theorem own_s1 (n x : Int32) (hn : 15 ≤ n.toInt ∧ n.toInt ≤ 31) (h1 : 1 ≤ x.toInt) (h2 : x.toInt < 65536) : ∃ k : Nat, k ≤ 15 ∧ own_top x.toInt k ∧ (own_n1 n x).toInt = n.toInt - k := by
  unfold own_n1
  split
  · rename_i h
    obtain ⟨k, a, b, c⟩ := own_s2 n x (by omega) h1 ((own_lt (C := 256) (by decide)).mp h)
    exact ⟨k, by omega, b, c⟩
  · rename_i h
    rw [own_lt (C := 256) (by decide)] at h
    have u := own_us x 8 8 (by decide) (by decide) (by omega)
    have m := own_addm n (-8) (by omega) (by decide)
    have e : (-8 : Int32).toInt = -8 := by decide
    obtain ⟨k, a, b, c⟩ := own_s2 (n + (-8 : Int32)) _ (by omega) (by rw [u]; omega) (by rw [u]; omega)
    rw [u] at b
    exact ⟨k + 8, by omega, own_topmul b, by rw [c]; omega⟩
theorem own_s0 (x : Int32) (h1 : 1 ≤ x.toInt) : ∃ k : Nat, k ≤ 30 ∧ own_top x.toInt k ∧ (own_nlz x).toInt = 31 - k := by
  have r := rng32 x
  have e31 : (31 : Int32).toInt = 31 := by decide
  have e15 : (31 + (-16 : Int32)).toInt = 15 := by decide
  unfold own_nlz
  rw [if_pos (by rw [Int32.lt_iff_toInt_lt]; have : (0 : Int32).toInt = 0 := by decide
                 omega)]
  split
  · rename_i h
    obtain ⟨k, a, b, c⟩ := own_s1 31 x (by omega) h1 ((own_lt (C := 65536) (by decide)).mp h)
    exact ⟨k, by omega, b, by omega⟩
  · rename_i h
    rw [own_lt (C := 65536) (by decide)] at h
    have u := own_us x 16 16 (by decide) (by decide) (by omega)
    obtain ⟨k, a, b, c⟩ := own_s1 (31 + (-16 : Int32)) _ (by omega) (by rw [u]; omega) (by rw [u]; omega)
    rw [u] at b
    have tt := own_topmul b
    have lt : (2 ^ (k + 16) : Nat) < 2 ^ 31 := by have := tt.1; omega
    have := own_pow lt
    exact ⟨k + 16, by omega, tt, by rw [c]; omega⟩
def own_good (s h b r : Int32) : Prop := ¬ s < 0 ∧ ¬ h < 0 ∧ ¬ b < 0 ∧ ¬ r < 0 ∧ ¬ s < r ∧ ¬ h < b ∧ ¬ s < h ∧ ¬ h < 32 - own_nlz s
def own_fits (s h b r : Int32) : Int32 := if s < 0 then 0 else if h < 0 then 0 else if b < 0 then 0 else if r < 0 then 0 else if s < r then 0 else if h < b then 0 else if s < h then 0 else if h < 31 then (if s < (1 : Int32) <<< (h &&& 31) then 1 else 0) else 1
def own_eq (s h b r s2 h2 b2 r2 : Int32) : Int32 := if s = s2 then (if h = h2 then (if b = b2 then (if r = r2 then 1 else 0) else 0) else 0) else 0
theorem own_eqc (s h b r s2 h2 b2 r2 : Int32) : own_eq s h b r s2 h2 b2 r2 = own_eq s2 h2 b2 r2 s h b r := by
  unfold own_eq
  simp only [eq_comm (a := s) (b := s2), eq_comm (a := h) (b := h2), eq_comm (a := b) (b := b2), eq_comm (a := r) (b := r2)]
theorem own_shl : ∀ k : Fin 31, ((1 : Int32) <<< (Int32.ofNat k.val &&& 31)).toInt = ((2 ^ k.val : Nat) : Int) ∧ k.val < 2 ^ k.val := by decide +kernel
theorem own_asn {h : Int32} (h0 : 0 ≤ h.toInt) (h1 : h.toInt < 31) : ∃ k : Fin 31, h = Int32.ofNat k.val ∧ h.toInt = k.val := by
  refine ⟨⟨h.toInt.toNat, by omega⟩, ?_, by show h.toInt = ((h.toInt.toNat : Nat) : Int); omega⟩
  apply Int32.toInt_inj.mp
  rw [Int32.toInt_ofNat_of_lt (by show h.toInt.toNat < _; omega)]
  show h.toInt = ((h.toInt.toNat : Nat) : Int)
  omega
theorem own_bits {s h : Int32} (hs : 0 ≤ s.toInt) (hh : 0 ≤ h.toInt) (hf : h.toInt < 31 → s.toInt < ((1 : Int32) <<< (h &&& 31)).toInt) : ¬ h < 32 - own_nlz s := by
  rw [Int32.lt_iff_toInt_lt]
  have a := c_isub 32 (own_nlz s)
  have b := rng32 (32 - own_nlz s)
  have z : (32 : Int32).toInt = 32 := by decide
  by_cases h0 : s.toInt = 0
  · have e : own_nlz s = 32 := by
      have q : s = 0 := Int32.toInt_inj.mp (by rw [h0]; decide)
      rw [q]; decide
    rw [e] at a b ⊢
    omega
  · obtain ⟨k, k1, ⟨k2, k2'⟩, k3⟩ := own_s0 s (by omega)
    by_cases h31 : h.toInt < 31
    · obtain ⟨j, j1, j2⟩ := own_asn hh h31
      have f := hf h31
      have g := (own_shl j).1
      rw [← j1] at g
      have p : (2 ^ k : Nat) < 2 ^ j.val := by omega
      have := own_pow p
      omega
    · omega
theorem own_goodI {s h b r : Int32} (h1 : 0 ≤ b.toInt) (h2 : b.toInt ≤ h.toInt) (h3 : h.toInt ≤ s.toInt) (h4 : 0 ≤ r.toInt) (h5 : r.toInt ≤ s.toInt) (hf : h.toInt < 31 → s.toInt < ((1 : Int32) <<< (h &&& 31)).toInt) : own_good s h b r := by
  have z : (0 : Int32).toInt = 0 := by decide
  refine ⟨?_, ?_, ?_, ?_, ?_, ?_, ?_, own_bits (by omega) (by omega) hf⟩ <;> rw [Int32.lt_iff_toInt_lt] <;> omega
theorem own_fitsG {s h b r : Int32} (q : ¬ own_fits s h b r = 0) : own_good s h b r := by
  have z : (0 : Int32).toInt = 0 := by decide
  unfold own_fits at q
  by_cases a1 : s < 0
  · rw [if_pos a1] at q; exact absurd rfl q
  rw [if_neg a1] at q
  by_cases a2 : h < 0
  · rw [if_pos a2] at q; exact absurd rfl q
  rw [if_neg a2] at q
  by_cases a3 : b < 0
  · rw [if_pos a3] at q; exact absurd rfl q
  rw [if_neg a3] at q
  by_cases a4 : r < 0
  · rw [if_pos a4] at q; exact absurd rfl q
  rw [if_neg a4] at q
  by_cases a5 : s < r
  · rw [if_pos a5] at q; exact absurd rfl q
  rw [if_neg a5] at q
  by_cases a6 : h < b
  · rw [if_pos a6] at q; exact absurd rfl q
  rw [if_neg a6] at q
  by_cases a7 : s < h
  · rw [if_pos a7] at q; exact absurd rfl q
  rw [if_neg a7] at q
  rw [Int32.lt_iff_toInt_lt] at a1 a2 a3 a4 a5 a6 a7
  refine own_goodI (by omega) (by omega) (by omega) (by omega) (by omega) fun h31 => ?_
  rw [if_pos (by rw [Int32.lt_iff_toInt_lt]; exact h31)] at q
  by_cases a8 : s < (1 : Int32) <<< (h &&& 31)
  · rw [Int32.lt_iff_toInt_lt] at a8; exact a8
  · rw [if_neg a8] at q; exact absurd rfl q
theorem own_h {a h : Int32} (e : h = (a &&& 2147483647) % 31) : 0 ≤ h.toInt ∧ h.toInt < 31 := by
  subst e
  have h1 := c_mask a 2147483647 31 (by decide) (by decide)
  have h2 := (c_irem (a &&& 2147483647) 31 31 (by decide)).1 (by omega)
  omega
theorem own_d {h : Int32} (hh : 0 ≤ h.toInt ∧ h.toInt < 31) : ((((1 : Int32) <<< (h &&& 31)) - h)).toInt = ((1 : Int32) <<< (h &&& 31)).toInt - h.toInt ∧ h.toInt < ((1 : Int32) <<< (h &&& 31)).toInt ∧ ((1 : Int32) <<< (h &&& 31)).toInt ≤ 1073741824 := by
  obtain ⟨j, j1, j2⟩ := own_asn hh.1 hh.2
  have g := own_shl j
  rw [← j1] at g
  have a := c_isub ((1 : Int32) <<< (h &&& 31)) h
  have b := rng32 (((1 : Int32) <<< (h &&& 31)) - h)
  have p : (2 ^ j.val : Nat) ≤ 2 ^ 30 := Nat.pow_le_pow_right (by decide) (by omega)
  omega
theorem own_dz {a h : Int32} (e : h = (a &&& 2147483647) % 31) : ¬ (((1 : Int32) <<< (h &&& 31)) - h) = 0 := by
  have q := own_d (own_h e)
  rw [← Int32.toInt_inj]
  have z : (0 : Int32).toInt = 0 := by decide
  omega
theorem own_add1 {h : Int32} (h0 : 0 ≤ h.toInt) (h1 : h.toInt < 2147483647) : (h + 1).toInt = h.toInt + 1 := by
  have a := c_iadd h 1
  have b := rng32 (h + 1)
  have z : (1 : Int32).toInt = 1 := by decide
  omega
theorem own_hz {a h : Int32} (e : h = (a &&& 2147483647) % 31) : ¬ (h + 1) = 0 := by
  have q := own_h e
  have r := own_add1 (h := h) (by omega) (by omega)
  rw [← Int32.toInt_inj]
  have z : (0 : Int32).toInt = 0 := by decide
  omega
theorem own_s {a b h s : Int32} (e : h = (a &&& 2147483647) % 31) (e2 : s = h + (b &&& 2147483647) % (((1 : Int32) <<< (h &&& 31)) - h)) : h.toInt ≤ s.toInt ∧ s.toInt < ((1 : Int32) <<< (h &&& 31)).toInt ∧ s.toInt < 1073741824 := by
  subst e2
  have q := own_h e
  have d := own_d q
  have m := c_mask b 2147483647 31 (by decide) (by decide)
  have v := (c_iremV (b &&& 2147483647) (((1 : Int32) <<< (h &&& 31)) - h)).1 (by omega) (by omega)
  have c := c_iadd h ((b &&& 2147483647) % (((1 : Int32) <<< (h &&& 31)) - h))
  have r := rng32 (h + (b &&& 2147483647) % (((1 : Int32) <<< (h &&& 31)) - h))
  omega
theorem own_sz {a b h s : Int32} (e : h = (a &&& 2147483647) % 31) (e2 : s = h + (b &&& 2147483647) % (((1 : Int32) <<< (h &&& 31)) - h)) : ¬ (s + 1) = 0 := by
  have q := own_s e e2
  have p := own_h e
  have r := own_add1 (h := s) (by omega) (by omega)
  rw [← Int32.toInt_inj]
  have z : (0 : Int32).toInt = 0 := by decide
  omega
theorem own_ok {a b c d h s k r : Int32} (e : h = (a &&& 2147483647) % 31) (e2 : s = h + (b &&& 2147483647) % (((1 : Int32) <<< (h &&& 31)) - h)) (e3 : k = ((c.toUInt32 >>> ((3 : Int32) &&& 31).toUInt32).toInt32) % (h + 1)) (e4 : r = (d &&& 2147483647) % (s + 1)) : own_good s h k r := by
  have q := own_h e
  have p := own_s e e2
  have a1 := own_add1 (h := h) (by omega) (by omega)
  have a2 := own_add1 (h := s) (by omega) (by omega)
  have u := c_iushr c 3 3 (by decide) (by decide)
  have v := (c_iremV ((c.toUInt32 >>> ((3 : Int32) &&& 31).toUInt32).toInt32) (h + 1)).1 (by omega) (by omega)
  have m := c_mask d 2147483647 31 (by decide) (by decide)
  have w := (c_iremV (d &&& 2147483647) (s + 1)).1 (by omega) (by omega)
  rw [← e3] at v
  rw [← e4] at w
  exact own_goodI (by omega) (by omega) (by omega) (by omega) (by omega) fun _ => p.2.1
theorem own_ns_root {Z : State} {a0 : Array Value} {O K : String} {n : Nat} (w : (Cond.noSuperclass O).before a0 Z = true) (wk : (Cond.instantiable K n).before a0 Z = true) (hn : O ≠ K) : NS Z O K := by
  obtain ⟨c, k, h1, h2, h3, -, -⟩ := Cond.noSuperclass_spec w
  obtain ⟨t, _, g1, -⟩ := Cond.instantiable_spec wk
  have ne := ids_ne h1 g1 hn
  refine ⟨c, t, h1, g1, fun fuel => ?_⟩
  rcases fuel with _ | f
  · rfl
  · simp [Vm.isSubclassAux, ne, h2, h3]
theorem own_ns_no {Z : State} {a0 : Array Value} {C S K : String} {n : Nat} (w : (Cond.superclass C S).before a0 Z = true) (wk : (Cond.instantiable K n).before a0 Z = true) (N : NS Z C K) (hn : C ≠ K) : ∃ c t, Z.vm.findClass C = some c ∧ Z.vm.findClass K = some t ∧ Z.vm.assignable c t = false := by
  obtain ⟨c, t, h0, g0, n3⟩ := N
  obtain ⟨p, k, kp, h1, h2, h3, h4, h5, -, h7⟩ := Cond.superclass_spec h0 w
  obtain ⟨t', k', g1, g2, g3, g4, -⟩ := Cond.instantiable_spec wk
  cases g0.symm.trans g1
  have g5 : k'.isInterface = false := by simp only [Bool.or_eq_false_iff] at g4; exact g4.1
  have ne := ids_ne h0 g0 hn
  refine ⟨c, t, h0, g0, ?_⟩
  show Z.vm.assignableAux (255 + 1) c t = false
  simp [Vm.assignableAux, ne, h2, g2, h5, g3, g5, Vm.isSubclass, n3]
theorem own_cin {v : Int32} (h1 : ¬ v < (-128 : Int32)) (h2 : ¬ (127 : Int32) < v) : ¬ (v + (128 : Int32)) < 0 ∧ (v + (128 : Int32)) < (256 : Int32) := by
  rw [Int32.lt_iff_toInt_lt] at h1 h2
  rw [Int32.lt_iff_toInt_lt, Int32.lt_iff_toInt_lt]
  have a := c_iadd v 128
  have b := rng32 (v + 128)
  have z : (128 : Int32).toInt = 128 ∧ (-128 : Int32).toInt = -128 ∧ (127 : Int32).toInt = 127 ∧ (0 : Int32).toInt = 0 ∧ (256 : Int32).toInt = 256 := by decide
  omega
theorem own_m128 {s h b r : Int32} (g : own_good s h b r) : ¬ s < (-128 : Int32) := by
  have q := g.1
  rw [Int32.lt_iff_toInt_lt] at q ⊢
  have z : (0 : Int32).toInt = 0 ∧ (-128 : Int32).toInt = -128 := by decide
  omega
theorem own_box {s : State} {args : Array Value} {C n d : String} {a : Addr} {c : Cell} (A : Arr s s.heap a c (.object "java/lang/Integer")) (et : ∀ idx, (Term.static C n d).eval args s none idx s = some (.ref a)) (hl : (Jvm.Cond.eq (Term.length (Term.static C n d)) (Term.int (256 : Int32))).value args s none s [] = some true)
    (h : (Jvm.Cond.all (Term.static C n d) (.and (.exactly (.elem (Term.static C n d) (.index 0)) "java/lang/Integer") (.eq (.field (.elem (Term.static C n d) (.index 0)) "java/lang/Integer" "value" "I") (Term.sub (.index 0) (Term.int (128 : Int32)))))).value args s none s [] = some true) : Bxs s a c "java/lang/Integer" "I" (256 : Int32) (fun j => .int (j - (128 : Int32))) := by
  have q := own_intv hl
  have ha : s.arrayAt? a = some c := A.fin (Vm.Alike.refl _)
  have q' : (do let c ← s.arrayAt? a; if c.slots.size < 2 ^ 31 then pure (Value.int c.slots.size.toInt32) else none) = some (.int (256 : Int32)) := by
    have e0 := et []
    rw [← q]
    simp [Term.eval] at e0 ⊢
    simp [e0]
  simp only [ha, Option.bind_eq_bind, Option.bind_some] at q'
  split at q'
  · rename_i hb
    have e : c.slots.size.toInt32 = 256 := by simpa using q'
    refine Bxs.start et A hb e (by decide) h fun X j nn hx => eqv_i ?_ hx
    show (Term.sub (.index 0) (Term.int (128 : Int32))).eval args s none [j.toNatClampNeg] s = _
    have e1 : (Term.index 0).eval args s none [j.toNatClampNeg] s = some (.int j) := idx_at nn
    simp [Term.eval, (back32 nn).1]
  · cases q'

theorem d1_0 : decode jdk_18_method_1_code 0 = .ok (.aload_n 0, 1) := by decide +kernel
theorem d1_1 : decode jdk_18_method_1_code 1 = .ok (.invokespecial 1, 3) := by decide +kernel
theorem d1_4 : decode jdk_18_method_1_code 4 = .ok (.return_, 1) := by decide +kernel
theorem pn_0 : plainName "java/lang/Number" = true := by first | (simp [plainName, overriddenIn]; done) | decide +kernel
theorem ef_1 (m : MethodId) (a : Addr) : entryFrame m #[(.ref a)] 1 = mkF m 0 #[.val (.ref a)] [] := by first | (simp [entryFrame, mkF, argsToLocals, Value.category]; done) | rfl
def Q1 (Z : State) (a : Addr) (h0 : Heap) (n0 : Nat) (v_ : Option Value) (h_ : Heap) (L_ : List Loc) : Prop := v_ = none ∧ Fr n0 L_ ∧ h_ = h0
set_option maxRecDepth 65536 in
set_option maxHeartbeats 40000000 in
theorem rm1 (l : Launch) (Z : State) (a0 : Array Value) (hw : ∀ d ∈ tables_1, d.before a0 Z = true) (ws : List Jvm.Cond) (a : Addr) (h0 : Heap) (n0 : Nat) (Z0 : n0 ≤ h0.size)  :
    MetFree l (⟨"java/lang/Number", "<init>", "()V"⟩ : MethodName) (head1 (Jvm.Cond.code (⟨"java/lang/Number", "<init>", "()V"⟩ : MethodName) jdk_18_method_1_code 1 none :: ws) ({ frames := 1, cells := 0, slots := 0, locals := 12 } : Room)) (fun ar_ U_ => ar_ = #[(.ref a)] ∧ Z.Warmed39 U_.vm ∧ U_.heap = h0) (fun _ _ _ _ _ => True) (fun _ U_ o_ U2_ => ∃ v_ L_, o_ = .returned v_ ∧ Q1 Z a h0 n0 v_ U2_.heap L_ ∧ FrameEnd U_ o_ U2_ L_ ({ frames := 1, cells := 0, slots := 0, locals := 12 } : Room).cells ({ frames := 1, cells := 0, slots := 0, locals := 12 } : Room).slots) := by
  refine MetFree.of_bodySF (plainFor_of_name pn_0) hisR ?_
  intro p e s m args below meth c s₁ Bd hml0 hP hK
  obtain ⟨rfl, hZ, hh⟩ := hP
  have hx := Bd.exec
  have hby := Bd.bytes
  have hml : c.maxLocals = 1 := hml0
  have hown : s.vm.findClass "java/lang/Number" = some m.cls := findClass_of_methodNamed Bd.named
  have hnm := (name_of_methodNamed Bd.named Bd.method).1
  have X0 : Stand p l e ({ frames := 1, cells := 0, slots := 0, locals := 12 } : Room) s m #[(.ref a)] below meth c s₁ [] 0 0 := Stand.of_body Bd
  have e0 : s₁.heap = h0 := by rw [← hh, Bd.state]; rfl
  have N0 := Fr.nil n0
  refine own_gl ?_
  refine own_st (S' := s₁.setTop (mkF m 0 #[.val (.ref a)] [])) (fun t_ k_ => castTop (ef_1 m a) k_) ?_
  refine own_st (S' := s₁.setTop (mkF m 1 #[.val (.ref a)] [(.ref a)])) (fun t_ k_ => XS.aloadN X0.here hx rfl (hb hby d1_0) rfl rfl k_) ?_
  obtain ⟨T_1, X_1, e_1, st_1⟩ := initO X0 hx hZ hown (hw _ (List.mem_of_getElem? (i := 54) rfl)) (hw _ (List.mem_of_getElem? (i := 8) rfl)) (hw _ (List.mem_of_getElem? (i := 9) rfl)) e0 (g := (mkF m 1 #[.val (.ref a)] [(.ref a)])) rfl (by rw [hml]; rfl) rfl (hb hby d1_1) (by decide) (W := 0) (by show 2 * 0 + _ ≤ _; exact Nat.le_of_eq rfl) (by decide)
  refine own_st (S' := T_1.setTop (mkF m 4 #[.val (.ref a)] [])) st_1 ?_
  obtain ⟨fs, hr, hrun, hended, hW, hsame⟩ := X_1.leave (v := none) (fun _ => rfl)
  refine ⟨_, _, X_1.returnOut hx Bd.returns (hb hby d1_4) hr, hrun, hended, _, _, rfl, ?_, ⟨_, rfl⟩, hW, hsame.mono (by decide) (by decide)⟩
  show Q1 Z a h0 n0 _ T_1.heap _
  rw [e_1]
  exact ⟨rfl, N0, rfl⟩
theorem d2_0 : decode jdk_33_method_23_code 0 = .ok (.aload_n 0, 1) := by decide +kernel
theorem d2_1 : decode jdk_33_method_23_code 1 = .ok (.invokespecial 202, 3) := by decide +kernel
theorem d2_4 : decode jdk_33_method_23_code 4 = .ok (.aload_n 0, 1) := by decide +kernel
theorem d2_5 : decode jdk_33_method_23_code 5 = .ok (.iload_n 1, 1) := by decide +kernel
theorem d2_6 : decode jdk_33_method_23_code 6 = .ok (.putfield 205, 3) := by decide +kernel
theorem d2_9 : decode jdk_33_method_23_code 9 = .ok (.return_, 1) := by decide +kernel
theorem pn_1 : plainName "java/lang/Integer" = true := by first | (simp [plainName, overriddenIn]; done) | decide +kernel
theorem ef_2 (m : MethodId) (a : Addr) (v : Int32) : entryFrame m #[(.ref a), (.int v)] 2 = mkF m 0 #[.val (.ref a), .val (.int v)] [] := by first | (simp [entryFrame, mkF, argsToLocals, Value.category]; done) | rfl
theorem pd_0 : parseMethodDescriptor "()V" = some ⟨[], none⟩ := by decide +kernel
def Q2 (Z : State) (a : Addr) (v : Int32) (h0 : Heap) (n0 : Nat) (v_ : Option Value) (h_ : Heap) (L_ : List Loc) : Prop := v_ = none ∧ Fr n0 L_ ∧ Keep h0 h_ [a] ∧ Exa Z h_ a "java/lang/Integer"
set_option maxRecDepth 65536 in
set_option maxHeartbeats 40000000 in
theorem rm2 (l : Launch) (Z : State) (a0 : Array Value) (hw : ∀ d ∈ tables_1, d.before a0 Z = true) (ws : List Jvm.Cond) (a : Addr) (v : Int32) (h0 : Heap) (n0 : Nat) (Z0 : n0 ≤ h0.size) (P0 : Exa Z h0 a "java/lang/Integer") (P1 : Fld Z h0 a "java/lang/Integer" "value" "I" (.int (0 : Int32))) (g_a : n0 ≤ a) :
    MetFree l (⟨"java/lang/Integer", "<init>", "(I)V"⟩ : MethodName) (head1 (Jvm.Cond.code (⟨"java/lang/Integer", "<init>", "(I)V"⟩ : MethodName) jdk_33_method_23_code 2 none :: ws) ({ frames := 2, cells := 0, slots := 0, locals := 24 } : Room)) (fun ar_ U_ => ar_ = #[(.ref a), (.int v)] ∧ Z.Warmed39 U_.vm ∧ U_.heap = h0) (fun _ _ _ _ _ => True) (fun _ U_ o_ U2_ => ∃ v_ L_, o_ = .returned v_ ∧ Q2 Z a v h0 n0 v_ U2_.heap L_ ∧ FrameEnd U_ o_ U2_ L_ ({ frames := 2, cells := 0, slots := 0, locals := 24 } : Room).cells ({ frames := 2, cells := 0, slots := 0, locals := 24 } : Room).slots) := by
  refine MetFree.of_bodySF (plainFor_of_name pn_1) hisR ?_
  intro p e s m args below meth c s₁ Bd hml0 hP hK
  obtain ⟨rfl, hZ, hh⟩ := hP
  have hx := Bd.exec
  have hby := Bd.bytes
  have hml : c.maxLocals = 2 := hml0
  have hown : s.vm.findClass "java/lang/Integer" = some m.cls := findClass_of_methodNamed Bd.named
  have hnm := (name_of_methodNamed Bd.named Bd.method).1
  have X0 : Stand p l e ({ frames := 2, cells := 0, slots := 0, locals := 24 } : Room) s m #[(.ref a), (.int v)] below meth c s₁ [] 0 0 := Stand.of_body Bd
  have e0 : s₁.heap = h0 := by rw [← hh, Bd.state]; rfl
  have N0 := Fr.nil n0
  refine own_gl ?_
  refine own_st (S' := s₁.setTop (mkF m 0 #[.val (.ref a), .val (.int v)] [])) (fun t_ k_ => castTop (ef_2 m a v) k_) ?_
  refine own_st (S' := s₁.setTop (mkF m 1 #[.val (.ref a), .val (.int v)] [(.ref a)])) (fun t_ k_ => XS.aloadN X0.here hx rfl (hb hby d2_0) rfl rfl k_) ?_
  obtain ⟨_, _, ⟨T_1, L_1, k_1, n_1⟩, -, X_1, ⟨Lc_1, hQ_1, l_1, y_1, z_1⟩, st_1⟩ := X0.specialBack hx (y := (⟨"java/lang/Number", "<init>", "()V"⟩ : MethodName)) rfl hown (mvT hZ (hw _ (List.mem_of_getElem? (i := 48) rfl))) (mvT hZ (hw _ (List.mem_of_getElem? (i := 49) rfl))) (mvT hZ (hw _ (List.mem_of_getElem? (i := 53) rfl))) (by decide) (backOf (W := 0) (rm1 l Z a0 hw [] a h0 n0 Z0 ) hZ (hw _ (List.mem_of_getElem? (i := 53) rfl)) (hw _ (List.mem_of_getElem? (i := 52) rfl)) (by decide) (by decide)) (g := (mkF m 1 #[.val (.ref a), .val (.int v)] [(.ref a)])) rfl (by rw [hml]; rfl) (Steps.refl _) (a := a) (argsL := []) (rest := []) (lenOf pd_0 rfl) rfl (by show 2 * 0 + _ ≤ _; exact Nat.le_of_eq rfl) (hb hby d2_1) (fun _ _ => ⟨rfl, e0, (by decide : 0 + 0 ≤ _), (by decide : 0 + 0 ≤ _)⟩)
  dsimp only [Pt.U, Pt.locs, Pt.cells, Pt.slots] at X_1 l_1 y_1 z_1 st_1 hQ_1
  subst l_1 y_1 z_1
  obtain ⟨rfl, M_1, q_1⟩ := hQ_1
  have N_1 := Fr.app N0 M_1
  refine own_st (S' := T_1.setTop (mkF m 4 #[.val (.ref a), .val (.int v)] [])) (fun t_ k_ => st_1.trans k_) ?_
  refine own_st (S' := T_1.setTop (mkF m 5 #[.val (.ref a), .val (.int v)] [(.ref a)])) (fun t_ k_ => XS.aloadN X_1.here hx rfl (hb hby d2_4) rfl rfl k_) ?_
  refine own_st (S' := T_1.setTop (mkF m 6 #[.val (.ref a), .val (.int v)] [(.int v), (.ref a)])) (fun t_ k_ => XS.iloadN X_1.here hx rfl (hb hby d2_5) rfl k_) ?_
  obtain ⟨T_2, h_2, X_2, e_2, W_2, st_2⟩ := putF X_1 hx hZ hown (host := "") (Or.inl (hw _ (List.mem_of_getElem? (i := 55) rfl))) Via.refl q_1 P1 P0 (Or.inr ⟨(hw _ (List.mem_of_getElem? (i := 56) rfl)), rfl, hnm⟩) (hw _ (List.mem_of_getElem? (i := 43) rfl)) (ty := .int) (by decide) rfl rfl (g := (mkF m 6 #[.val (.ref a), .val (.int v)] [(.int v), (.ref a)])) rfl rfl (hb hby d2_6)
  have Z_2 : n0 ≤ h_2.size := Nat.le_trans Z0 (Keep.of_wr W_2).1
  have N_2 := Fr.snoc X_2 N_1 g_a
  have K_2 : Keep h0 h_2 [a] := (Keep.refl h0 [a]).wr W_2 (Or.inl (List.mem_of_getElem? (i := 0) rfl))
  have f_2 : Fld Z h_2 a "java/lang/Integer" "value" "I" (.int v) := Fld.same W_2 P1
  refine own_st (S' := T_2.setTop (mkF m 9 #[.val (.ref a), .val (.int v)] [])) st_2 ?_
  obtain ⟨fs, hr, hrun, hended, hW, hsame⟩ := X_2.leave (v := none) (fun _ => rfl)
  have f_3 : Exa Z h_2 a "java/lang/Integer" := (Exa.wr W_2 P0)
  refine ⟨_, _, X_2.returnOut hx Bd.returns (hb hby d2_9) hr, hrun, hended, _, _, rfl, ?_, ⟨_, rfl⟩, hW, hsame.mono (by decide) (by decide)⟩
  show Q2 Z a v h0 n0 _ T_2.heap _
  rw [e_2]
  exact ⟨rfl, N_2, K_2, f_3⟩
theorem d3_0 : decode jdk_33_method_22_code 0 = .ok (.iload_n 0, 1) := by decide +kernel
theorem d3_1 : decode jdk_33_method_22_code 1 = .ok (.bipush (-128), 2) := by decide +kernel
theorem d3_3 : decode jdk_33_method_22_code 3 = .ok (.if_icmp .lt 20, 3) := by decide +kernel
theorem d3_6 : decode jdk_33_method_22_code 6 = .ok (.iload_n 0, 1) := by decide +kernel
theorem d3_7 : decode jdk_33_method_22_code 7 = .ok (.getstatic 191, 3) := by decide +kernel
theorem d3_10 : decode jdk_33_method_22_code 10 = .ok (.if_icmp .gt 13, 3) := by decide +kernel
theorem d3_13 : decode jdk_33_method_22_code 13 = .ok (.getstatic 195, 3) := by decide +kernel
theorem d3_16 : decode jdk_33_method_22_code 16 = .ok (.iload_n 0, 1) := by decide +kernel
theorem d3_17 : decode jdk_33_method_22_code 17 = .ok (.sipush 128, 3) := by decide +kernel
theorem d3_20 : decode jdk_33_method_22_code 20 = .ok (.iadd, 1) := by decide +kernel
theorem d3_21 : decode jdk_33_method_22_code 21 = .ok (.aaload, 1) := by decide +kernel
theorem d3_22 : decode jdk_33_method_22_code 22 = .ok (.areturn, 1) := by decide +kernel
theorem d3_23 : decode jdk_33_method_22_code 23 = .ok (.new 1, 3) := by decide +kernel
theorem d3_26 : decode jdk_33_method_22_code 26 = .ok (.dup, 1) := by decide +kernel
theorem d3_27 : decode jdk_33_method_22_code 27 = .ok (.iload_n 0, 1) := by decide +kernel
theorem d3_28 : decode jdk_33_method_22_code 28 = .ok (.invokespecial 199, 3) := by decide +kernel
theorem d3_31 : decode jdk_33_method_22_code 31 = .ok (.areturn, 1) := by decide +kernel
theorem ef_3 (m : MethodId) (v : Int32) : entryFrame m #[(.int v)] 1 = mkF m 0 #[.val (.int v)] [] := by first | (simp [entryFrame, mkF, argsToLocals, Value.category]; done) | rfl
theorem pd_1 : parseMethodDescriptor "(I)V" = some ⟨[.int], none⟩ := by decide +kernel
def Q3 (Z : State) (v : Int32) (ca : Addr) (cc : Cell) (h0 : Heap) (n0 : Nat) (v_ : Option Value) (h_ : Heap) (L_ : List Loc) : Prop := ∃ y : Addr, v_ = some (.ref y) ∧ Fr n0 L_ ∧ Keep h0 h_ [] ∧ Exa Z h_ y "java/lang/Integer"
set_option maxRecDepth 65536 in
set_option maxHeartbeats 40000000 in
theorem rm3 (l : Launch) (Z : State) (a0 : Array Value) (hw : ∀ d ∈ tables_1, d.before a0 Z = true) (ws : List Jvm.Cond) (v : Int32) (ca : Addr) (cc : Cell) (h0 : Heap) (n0 : Nat) (Z0 : n0 ≤ h0.size) (Y0 : Sta Z Z.heap "java/lang/Integer$IntegerCache" "high" "I" (.int (127 : Int32))) (Y1 : Sta Z Z.heap "java/lang/Integer$IntegerCache" "cache" "[Ljava/lang/Integer;" (.ref ca)) (O0 : Old Z n0 h0) (HB : Bxs Z ca cc "java/lang/Integer" "I" (256 : Int32) (fun j => .int (j - (128 : Int32)))) (hv0 : ¬ (v < (-128 : Int32))) :
    MetFree l (⟨"java/lang/Integer", "valueOf", "(I)Ljava/lang/Integer;"⟩ : MethodName) (head1 (Jvm.Cond.code (⟨"java/lang/Integer", "valueOf", "(I)Ljava/lang/Integer;"⟩ : MethodName) jdk_33_method_22_code 1 (some (.object "java/lang/Integer")) :: ws) ({ frames := 3, cells := 1, slots := 1, locals := 38 } : Room)) (fun ar_ U_ => ar_ = #[(.int v)] ∧ Z.Warmed39 U_.vm ∧ U_.heap = h0) (fun _ _ _ _ _ => True) (fun _ U_ o_ U2_ => ∃ v_ L_, o_ = .returned v_ ∧ Q3 Z v ca cc h0 n0 v_ U2_.heap L_ ∧ FrameEnd U_ o_ U2_ L_ ({ frames := 3, cells := 1, slots := 1, locals := 38 } : Room).cells ({ frames := 3, cells := 1, slots := 1, locals := 38 } : Room).slots) := by
  refine MetFree.of_bodySF (plainFor_of_name pn_1) hisR ?_
  intro p e s m args below meth c s₁ Bd hml0 hP hK
  obtain ⟨rfl, hZ, hh⟩ := hP
  have hx := Bd.exec
  have hby := Bd.bytes
  have hml : c.maxLocals = 1 := hml0
  have hown : s.vm.findClass "java/lang/Integer" = some m.cls := findClass_of_methodNamed Bd.named
  have hnm := (name_of_methodNamed Bd.named Bd.method).1
  have X0 : Stand p l e ({ frames := 3, cells := 1, slots := 1, locals := 38 } : Room) s m #[(.int v)] below meth c s₁ [] 0 0 := Stand.of_body Bd
  have e0 : s₁.heap = h0 := by rw [← hh, Bd.state]; rfl
  have N0 := Fr.nil n0
  refine own_gl ?_
  refine own_st (S' := s₁.setTop (mkF m 0 #[.val (.int v)] [])) (fun t_ k_ => castTop (ef_3 m v) k_) ?_
  refine own_st (S' := s₁.setTop (mkF m 1 #[.val (.int v)] [(.int v)])) (fun t_ k_ => XS.iloadN X0.here hx rfl (hb hby d3_0) rfl k_) ?_
  refine own_st (S' := s₁.setTop (mkF m 3 #[.val (.int v)] [(.int (-128 : Int32)), (.int v)])) (fun t_ k_ => XS.bipush X0.here hx rfl (hb hby d3_1) k_) ?_
  refine own_st (S' := s₁.setTop (mkF m 6 #[.val (.int v)] [])) (fun t_ k_ => XS.icmpNo X0.here hx rfl (hb hby d3_3) rfl (flt hv0).1 k_) ?_
  refine own_st (S' := s₁.setTop (mkF m 7 #[.val (.int v)] [(.int v)])) (fun t_ k_ => XS.iloadN X0.here hx rfl (hb hby d3_6) rfl k_) ?_
  have f_1 : Sta Z h0 "java/lang/Integer$IntegerCache" "high" "I" (.int (127 : Int32)) := Sta.ext O0.2 Y0
  obtain ⟨T_2, X_2, e_2, st_2⟩ := getS2 X0 hx hZ hown (host := "") (Or.inl (hw _ (List.mem_of_getElem? (i := 40) rfl))) Via.refl e0 f_1 (g := (mkF m 7 #[.val (.int v)] [(.int v)])) rfl (hb hby d3_7)
  refine own_st (S' := T_2.setTop (mkF m 10 #[.val (.int v)] [(.int (127 : Int32)), (.int v)])) st_2 ?_
  by_cases hc10 : (127 : Int32) < v
  · refine own_st (S' := T_2.setTop (mkF m 23 #[.val (.int v)] [])) (fun t_ k_ => XS.icmpYes X_2.here hx rfl (pc0 := 10) (pc' := 23) rfl (hb hby d3_10) rfl (tlt hc10).2.2.1 (by decide) (by decide) k_) ?_
    obtain ⟨T_3, h_3, X_3, e_3, E_3, A_3, D_3, -, st_3⟩ := newO X_2 hx hZ hown (hw _ (List.mem_of_getElem? (i := 42) rfl)) (hw _ (List.mem_of_getElem? (i := 43) rfl)) (hw _ (List.mem_of_getElem? (i := 15) rfl)) e_2 (g := (mkF m 23 #[.val (.int v)] [])) rfl (hb hby d3_23) (by decide) (by decide)
    obtain ⟨b_3, gg_3⟩ : ∃ z, z = h0.size := ⟨_, rfl⟩
    rw [← gg_3] at A_3 D_3 st_3
    have g_b_3 : n0 ≤ b_3 := Nat.le_trans Z0 (Nat.le_of_eq gg_3.symm)
    have sz_b_3 : h0.size ≤ b_3 := Nat.le_trans (Keep.refl h0 []).1 (Nat.le_of_eq gg_3.symm)
    have Z_3 : n0 ≤ h_3.size := Nat.le_trans Z0 E_3.1
    have K_3 : Keep h0 h_3 [] := (Keep.refl h0 []).ext E_3
    have F_3_value : Fld Z h_3 b_3 "java/lang/Integer" "value" "I" (.int (0 : Int32)) := D_3 (Or.inr (hw _ (List.mem_of_getElem? (i := 56) rfl))) (ty := .int) (by decide)
    refine own_st (S' := T_3.setTop (mkF m 26 #[.val (.int v)] [(.ref b_3)])) st_3 ?_
    refine own_st (S' := T_3.setTop (mkF m 27 #[.val (.int v)] [(.ref b_3), (.ref b_3)])) (fun t_ k_ => XS.dup X_3.here hx rfl (hb hby d3_26) rfl rfl k_) ?_
    refine own_st (S' := T_3.setTop (mkF m 28 #[.val (.int v)] [(.int v), (.ref b_3), (.ref b_3)])) (fun t_ k_ => XS.iloadN X_3.here hx rfl (hb hby d3_27) rfl k_) ?_
    obtain ⟨_, _, ⟨T_4, L_4, k_4, n_4⟩, -, X_4, ⟨Lc_4, hQ_4, l_4, y_4, z_4⟩, st_4⟩ := X_3.specialBack hx (y := (⟨"java/lang/Integer", "<init>", "(I)V"⟩ : MethodName)) rfl hown (mvT hZ (hw _ (List.mem_of_getElem? (i := 44) rfl))) (mvT hZ (hw _ (List.mem_of_getElem? (i := 45) rfl))) (mvT hZ (hw _ (List.mem_of_getElem? (i := 47) rfl))) (by decide) (backOf (W := 1) (rm2 l Z a0 hw [] b_3 v h_3 n0 Z_3 A_3 F_3_value g_b_3) hZ (hw _ (List.mem_of_getElem? (i := 47) rfl)) (hw _ (List.mem_of_getElem? (i := 15) rfl)) (by decide) (by decide)) (g := (mkF m 28 #[.val (.int v)] [(.int v), (.ref b_3), (.ref b_3)])) rfl (by rw [hml]; rfl) (Steps.refl _) (a := b_3) (argsL := [(.int v)]) (rest := [(.ref b_3)]) (lenOf pd_1 rfl) rfl (by show 2 * 0 + _ ≤ _; exact Nat.le_of_eq rfl) (hb hby d3_28) (fun _ _ => ⟨rfl, e_3, (by decide : 1 + 0 ≤ _), (by decide : 1 + 0 ≤ _)⟩)
    dsimp only [Pt.U, Pt.locs, Pt.cells, Pt.slots] at X_4 l_4 y_4 z_4 st_4 hQ_4
    subst l_4 y_4 z_4
    obtain ⟨rfl, M_4, K_4c, c_4_0⟩ := hQ_4
    have N_4 := Fr.app N0 M_4
    have K_4 : Keep h0 T_4.heap [] := K_3.trans K_4c (allS (Or.inr sz_b_3) all0)
    have Z_4 : n0 ≤ T_4.heap.size := Nat.le_trans Z_3 K_4c.1
    refine own_st (S' := T_4.setTop (mkF m 31 #[.val (.int v)] [(.ref b_3)])) (fun t_ k_ => st_4.trans k_) ?_
    obtain ⟨fs, hr, hrun, hended, hW, hsame⟩ := X_4.leave (v := some (.ref b_3)) (fun h => by rw [Bd.returns] at h; cases h)
    refine ⟨_, _, own_retR X_4 hx Bd.returns rfl rfl (hb hby d3_31) hr, hrun, hended, _, _, rfl, ?_, ⟨_, rfl⟩, hW, hsame.mono (by decide) (by decide)⟩
    show Q3 Z v ca cc h0 n0 _ T_4.heap _
    exact ⟨b_3, rfl, N_4, K_4, c_4_0⟩
  · refine own_st (S' := T_2.setTop (mkF m 13 #[.val (.int v)] [])) (fun t_ k_ => XS.icmpNo X_2.here hx rfl (hb hby d3_10) rfl (flt hc10).2.2.1 k_) ?_
    have f_5 : Sta Z h0 "java/lang/Integer$IntegerCache" "cache" "[Ljava/lang/Integer;" (.ref ca) := Sta.ext O0.2 Y1
    obtain ⟨T_6, X_6, e_6, st_6⟩ := getS2 X_2 hx hZ hown (host := "") (Or.inl (hw _ (List.mem_of_getElem? (i := 60) rfl))) Via.refl e_2 f_5 (g := (mkF m 13 #[.val (.int v)] [])) rfl (hb hby d3_13)
    refine own_st (S' := T_6.setTop (mkF m 16 #[.val (.int v)] [(.ref ca)])) st_6 ?_
    refine own_st (S' := T_6.setTop (mkF m 17 #[.val (.int v)] [(.int v), (.ref ca)])) (fun t_ k_ => XS.iloadN X_6.here hx rfl (hb hby d3_16) rfl k_) ?_
    refine own_st (S' := T_6.setTop (mkF m 20 #[.val (.int v)] [(.int (128 : Int32)), (.int v), (.ref ca)])) (fun t_ k_ => XS.sipush X_6.here hx rfl (hb hby d3_17) k_) ?_
    refine own_st (S' := T_6.setTop (mkF m 21 #[.val (.int v)] [(.int (v + (128 : Int32))), (.ref ca)])) (fun t_ k_ => XS.iadd X_6.here hx rfl (hb hby d3_20) rfl k_) ?_
    have hin_7 : ¬ ((v + (128 : Int32)) < 0 ∨ cc.slots.size ≤ ((v + (128 : Int32))).toNatClampNeg) := inb_of HB.2.1 (own_cin hv0 hc10)
    obtain ⟨y_7, hat_7, Ey_7, -⟩ := HB.2.2.2 _ hin_7
    have Ar_7 := (HB.ext O0.2).1
    refine own_st (S' := T_6.setTop (mkF m 22 #[.val (.int v)] [(.ref y_7)])) (fun t_ k_ => X_6.aaload hx (j := (v + (128 : Int32))) (v := (.ref y_7)) (by rw [e_6]; exact Ar_7.1) (State.isArrayOf_alike hZ.alike Ar_7.2.1) rfl Ar_7.2.2 hin_7 hat_7 (g := (mkF m 21 #[.val (.int v)] [(.int (v + (128 : Int32))), (.ref ca)])) rfl rfl (hb hby d3_21) _ k_) ?_
    obtain ⟨fs, hr, hrun, hended, hW, hsame⟩ := X_6.leave (v := some (.ref y_7)) (fun h => by rw [Bd.returns] at h; cases h)
    have f_8 : Exa Z h0 y_7 "java/lang/Integer" := Ey_7.ext O0.2
    refine ⟨_, _, own_retR X_6 hx Bd.returns rfl rfl (hb hby d3_22) hr, hrun, hended, _, _, rfl, ?_, ⟨_, rfl⟩, hW, hsame.mono (by decide) (by decide)⟩
    show Q3 Z v ca cc h0 n0 _ T_6.heap _
    rw [e_6]
    exact ⟨y_7, rfl, N0, (Keep.refl h0 []), f_8⟩
theorem d4_0 : decode jdk_33_method_47_code 0 = .ok (.iload_n 0, 1) := by decide +kernel
theorem d4_1 : decode jdk_33_method_47_code 1 = .ok (.ifCond .gt 14, 3) := by decide +kernel
theorem d4_4 : decode jdk_33_method_47_code 4 = .ok (.iload_n 0, 1) := by decide +kernel
theorem d4_5 : decode jdk_33_method_47_code 5 = .ok (.ifCond .ne 8, 3) := by decide +kernel
theorem d4_8 : decode jdk_33_method_47_code 8 = .ok (.bipush 32, 2) := by decide +kernel
theorem d4_10 : decode jdk_33_method_47_code 10 = .ok (.goto 4, 3) := by decide +kernel
theorem d4_13 : decode jdk_33_method_47_code 13 = .ok (.iconst 0, 1) := by decide +kernel
theorem d4_14 : decode jdk_33_method_47_code 14 = .ok (.ireturn, 1) := by decide +kernel
theorem d4_15 : decode jdk_33_method_47_code 15 = .ok (.bipush 31, 2) := by decide +kernel
theorem d4_17 : decode jdk_33_method_47_code 17 = .ok (.istore_n 1, 1) := by decide +kernel
theorem d4_18 : decode jdk_33_method_47_code 18 = .ok (.iload_n 0, 1) := by decide +kernel
theorem d4_19 : decode jdk_33_method_47_code 19 = .ok (.ldc_w 264, 3) := by decide +kernel
theorem d4_22 : decode jdk_33_method_47_code 22 = .ok (.if_icmp .lt 11, 3) := by decide +kernel
theorem d4_25 : decode jdk_33_method_47_code 25 = .ok (.iinc 1 (-16), 3) := by decide +kernel
theorem d4_28 : decode jdk_33_method_47_code 28 = .ok (.iload_n 0, 1) := by decide +kernel
theorem d4_29 : decode jdk_33_method_47_code 29 = .ok (.bipush 16, 2) := by decide +kernel
theorem d4_31 : decode jdk_33_method_47_code 31 = .ok (.iushr, 1) := by decide +kernel
theorem d4_32 : decode jdk_33_method_47_code 32 = .ok (.istore_n 0, 1) := by decide +kernel
theorem d4_33 : decode jdk_33_method_47_code 33 = .ok (.iload_n 0, 1) := by decide +kernel
theorem d4_34 : decode jdk_33_method_47_code 34 = .ok (.sipush 256, 3) := by decide +kernel
theorem d4_37 : decode jdk_33_method_47_code 37 = .ok (.if_icmp .lt 11, 3) := by decide +kernel
theorem d4_40 : decode jdk_33_method_47_code 40 = .ok (.iinc 1 (-8), 3) := by decide +kernel
theorem d4_43 : decode jdk_33_method_47_code 43 = .ok (.iload_n 0, 1) := by decide +kernel
theorem d4_44 : decode jdk_33_method_47_code 44 = .ok (.bipush 8, 2) := by decide +kernel
theorem d4_46 : decode jdk_33_method_47_code 46 = .ok (.iushr, 1) := by decide +kernel
theorem d4_47 : decode jdk_33_method_47_code 47 = .ok (.istore_n 0, 1) := by decide +kernel
theorem d4_48 : decode jdk_33_method_47_code 48 = .ok (.iload_n 0, 1) := by decide +kernel
theorem d4_49 : decode jdk_33_method_47_code 49 = .ok (.bipush 16, 2) := by decide +kernel
theorem d4_51 : decode jdk_33_method_47_code 51 = .ok (.if_icmp .lt 10, 3) := by decide +kernel
theorem d4_54 : decode jdk_33_method_47_code 54 = .ok (.iinc 1 (-4), 3) := by decide +kernel
theorem d4_57 : decode jdk_33_method_47_code 57 = .ok (.iload_n 0, 1) := by decide +kernel
theorem d4_58 : decode jdk_33_method_47_code 58 = .ok (.iconst 4, 1) := by decide +kernel
theorem d4_59 : decode jdk_33_method_47_code 59 = .ok (.iushr, 1) := by decide +kernel
theorem d4_60 : decode jdk_33_method_47_code 60 = .ok (.istore_n 0, 1) := by decide +kernel
theorem d4_61 : decode jdk_33_method_47_code 61 = .ok (.iload_n 0, 1) := by decide +kernel
theorem d4_62 : decode jdk_33_method_47_code 62 = .ok (.iconst 4, 1) := by decide +kernel
theorem d4_63 : decode jdk_33_method_47_code 63 = .ok (.if_icmp .lt 10, 3) := by decide +kernel
theorem d4_66 : decode jdk_33_method_47_code 66 = .ok (.iinc 1 (-2), 3) := by decide +kernel
theorem d4_69 : decode jdk_33_method_47_code 69 = .ok (.iload_n 0, 1) := by decide +kernel
theorem d4_70 : decode jdk_33_method_47_code 70 = .ok (.iconst 2, 1) := by decide +kernel
theorem d4_71 : decode jdk_33_method_47_code 71 = .ok (.iushr, 1) := by decide +kernel
theorem d4_72 : decode jdk_33_method_47_code 72 = .ok (.istore_n 0, 1) := by decide +kernel
theorem d4_73 : decode jdk_33_method_47_code 73 = .ok (.iload_n 1, 1) := by decide +kernel
theorem d4_74 : decode jdk_33_method_47_code 74 = .ok (.iload_n 0, 1) := by decide +kernel
theorem d4_75 : decode jdk_33_method_47_code 75 = .ok (.iconst 1, 1) := by decide +kernel
theorem d4_76 : decode jdk_33_method_47_code 76 = .ok (.iushr, 1) := by decide +kernel
theorem d4_77 : decode jdk_33_method_47_code 77 = .ok (.isub, 1) := by decide +kernel
theorem d4_78 : decode jdk_33_method_47_code 78 = .ok (.ireturn, 1) := by decide +kernel
theorem ef_4 (m : MethodId) (x1 : Int32) : entryFrame m #[(.int x1)] 2 = mkF m 0 #[.val (.int x1), .unset] [] := by first | (simp [entryFrame, mkF, argsToLocals, Value.category]; done) | rfl
def Q4 (Z : State) (x1 : Int32) (h0 : Heap) (n0 : Nat) (v_ : Option Value) (h_ : Heap) (L_ : List Loc) : Prop := v_ = some (.int (own_nlz x1)) ∧ Fr n0 L_ ∧ h_ = h0
set_option maxRecDepth 65536 in
set_option maxHeartbeats 40000000 in
theorem rm4 (l : Launch) (Z : State) (a0 : Array Value) (hw : ∀ d ∈ tables_1, d.before a0 Z = true) (ws : List Jvm.Cond) (x1 : Int32) (h0 : Heap) (n0 : Nat) (Z0 : n0 ≤ h0.size)  :
    MetFree l (⟨"java/lang/Integer", "numberOfLeadingZeros", "(I)I"⟩ : MethodName) (head1 (Jvm.Cond.code (⟨"java/lang/Integer", "numberOfLeadingZeros", "(I)I"⟩ : MethodName) jdk_33_method_47_code 2 (some .int) :: ws) ({ frames := 0, cells := 0, slots := 0, locals := 0 } : Room)) (fun ar_ U_ => ar_ = #[(.int x1)] ∧ Z.Warmed39 U_.vm ∧ U_.heap = h0) (fun _ _ _ _ _ => True) (fun _ U_ o_ U2_ => ∃ v_ L_, o_ = .returned v_ ∧ Q4 Z x1 h0 n0 v_ U2_.heap L_ ∧ FrameEnd U_ o_ U2_ L_ ({ frames := 0, cells := 0, slots := 0, locals := 0 } : Room).cells ({ frames := 0, cells := 0, slots := 0, locals := 0 } : Room).slots) := by
  refine MetFree.of_bodySF (plainFor_of_name pn_1) hisR ?_
  intro p e s m args below meth c s₁ Bd hml0 hP hK
  obtain ⟨rfl, hZ, hh⟩ := hP
  have hx := Bd.exec
  have hby := Bd.bytes
  have hml : c.maxLocals = 2 := hml0
  have hown : s.vm.findClass "java/lang/Integer" = some m.cls := findClass_of_methodNamed Bd.named
  have hnm := (name_of_methodNamed Bd.named Bd.method).1
  have X0 : Stand p l e ({ frames := 0, cells := 0, slots := 0, locals := 0 } : Room) s m #[(.int x1)] below meth c s₁ [] 0 0 := Stand.of_body Bd
  have e0 : s₁.heap = h0 := by rw [← hh, Bd.state]; rfl
  have N0 := Fr.nil n0
  refine own_gl ?_
  refine own_st (S' := s₁.setTop (mkF m 0 #[.val (.int x1), .unset] [])) (fun t_ k_ => castTop (ef_4 m x1) k_) ?_
  refine own_st (S' := s₁.setTop (mkF m 1 #[.val (.int x1), .unset] [(.int x1)])) (fun t_ k_ => XS.iloadN X0.here hx rfl (hb hby d4_0) rfl k_) ?_
  by_cases hc1 : (0 : Int32) < x1
  · refine own_st (S' := s₁.setTop (mkF m 15 #[.val (.int x1), .unset] [])) (fun t_ k_ => XS.ifYes X0.here hx rfl (pc0 := 1) (pc' := 15) rfl (hb hby d4_1) rfl ((if0 _ _).trans (tlt hc1).2.2.1) (by decide) (by decide) k_) ?_
    refine own_st (S' := s₁.setTop (mkF m 17 #[.val (.int x1), .unset] [(.int (31 : Int32))])) (fun t_ k_ => XS.bipush X0.here hx rfl (hb hby d4_15) k_) ?_
    refine own_st (S' := s₁.setTop (mkF m 18 #[.val (.int x1), .val (.int (31 : Int32))] [])) (fun t_ k_ => XS.istoreN X0.here hx rfl (hb hby d4_17) rfl (l' := #[.val (.int x1), .val (.int (31 : Int32))]) rfl k_) ?_
    refine own_st (S' := s₁.setTop (mkF m 19 #[.val (.int x1), .val (.int (31 : Int32))] [(.int x1)])) (fun t_ k_ => XS.iloadN X0.here hx rfl (hb hby d4_18) rfl k_) ?_
    refine own_st (S' := s₁.setTop (mkF m 22 #[.val (.int x1), .val (.int (31 : Int32))] [(.int (65536 : Int32)), (.int x1)])) (fun t_ k_ => X0.ldcWI hx hown (mvT hZ (hw _ (List.mem_of_getElem? (i := 32) rfl))) (g := (mkF m 19 #[.val (.int x1), .val (.int (31 : Int32))] [(.int x1)])) rfl (hb hby d4_19) k_) ?_
    by_cases hc22 : x1 < (65536 : Int32)
    · refine own_st (S' := s₁.setTop (mkF m 33 #[.val (.int x1), .val (.int (31 : Int32))] [])) (fun t_ k_ => XS.icmpYes X0.here hx rfl (pc0 := 22) (pc' := 33) rfl (hb hby d4_22) rfl (tlt hc22).1 (by decide) (by decide) k_) ?_
      refine own_st (S' := s₁.setTop (mkF m 34 #[.val (.int x1), .val (.int (31 : Int32))] [(.int x1)])) (fun t_ k_ => XS.iloadN X0.here hx rfl (hb hby d4_33) rfl k_) ?_
      refine own_st (S' := s₁.setTop (mkF m 37 #[.val (.int x1), .val (.int (31 : Int32))] [(.int (256 : Int32)), (.int x1)])) (fun t_ k_ => XS.sipush X0.here hx rfl (hb hby d4_34) k_) ?_
      by_cases hc37 : x1 < (256 : Int32)
      · refine own_st (S' := s₁.setTop (mkF m 48 #[.val (.int x1), .val (.int (31 : Int32))] [])) (fun t_ k_ => XS.icmpYes X0.here hx rfl (pc0 := 37) (pc' := 48) rfl (hb hby d4_37) rfl (tlt hc37).1 (by decide) (by decide) k_) ?_
        refine own_st (S' := s₁.setTop (mkF m 49 #[.val (.int x1), .val (.int (31 : Int32))] [(.int x1)])) (fun t_ k_ => XS.iloadN X0.here hx rfl (hb hby d4_48) rfl k_) ?_
        refine own_st (S' := s₁.setTop (mkF m 51 #[.val (.int x1), .val (.int (31 : Int32))] [(.int (16 : Int32)), (.int x1)])) (fun t_ k_ => XS.bipush X0.here hx rfl (hb hby d4_49) k_) ?_
        by_cases hc51 : x1 < (16 : Int32)
        · refine own_st (S' := s₁.setTop (mkF m 61 #[.val (.int x1), .val (.int (31 : Int32))] [])) (fun t_ k_ => XS.icmpYes X0.here hx rfl (pc0 := 51) (pc' := 61) rfl (hb hby d4_51) rfl (tlt hc51).1 (by decide) (by decide) k_) ?_
          refine own_st (S' := s₁.setTop (mkF m 62 #[.val (.int x1), .val (.int (31 : Int32))] [(.int x1)])) (fun t_ k_ => XS.iloadN X0.here hx rfl (hb hby d4_61) rfl k_) ?_
          refine own_st (S' := s₁.setTop (mkF m 63 #[.val (.int x1), .val (.int (31 : Int32))] [(.int (4 : Int32)), (.int x1)])) (fun t_ k_ => XS.iconst X0.here hx rfl (hb hby d4_62) k_) ?_
          by_cases hc63 : x1 < (4 : Int32)
          · refine own_st (S' := s₁.setTop (mkF m 73 #[.val (.int x1), .val (.int (31 : Int32))] [])) (fun t_ k_ => XS.icmpYes X0.here hx rfl (pc0 := 63) (pc' := 73) rfl (hb hby d4_63) rfl (tlt hc63).1 (by decide) (by decide) k_) ?_
            refine own_st (S' := s₁.setTop (mkF m 74 #[.val (.int x1), .val (.int (31 : Int32))] [(.int (31 : Int32))])) (fun t_ k_ => XS.iloadN X0.here hx rfl (hb hby d4_73) rfl k_) ?_
            refine own_st (S' := s₁.setTop (mkF m 75 #[.val (.int x1), .val (.int (31 : Int32))] [(.int x1), (.int (31 : Int32))])) (fun t_ k_ => XS.iloadN X0.here hx rfl (hb hby d4_74) rfl k_) ?_
            refine own_st (S' := s₁.setTop (mkF m 76 #[.val (.int x1), .val (.int (31 : Int32))] [(.int (1 : Int32)), (.int x1), (.int (31 : Int32))])) (fun t_ k_ => XS.iconst X0.here hx rfl (hb hby d4_75) k_) ?_
            refine own_st (S' := s₁.setTop (mkF m 77 #[.val (.int x1), .val (.int (31 : Int32))] [(.int ((x1.toUInt32 >>> ((1 : Int32) &&& 31).toUInt32).toInt32)), (.int (31 : Int32))])) (fun t_ k_ => XS.iushr X0.here hx rfl (hb hby d4_76) rfl k_) ?_
            refine own_st (S' := s₁.setTop (mkF m 78 #[.val (.int x1), .val (.int (31 : Int32))] [(.int ((31 : Int32) - ((x1.toUInt32 >>> ((1 : Int32) &&& 31).toUInt32).toInt32)))])) (fun t_ k_ => XS.isub X0.here hx rfl (hb hby d4_77) rfl k_) ?_
            obtain ⟨fs, hr, hrun, hended, hW, hsame⟩ := X0.leave (v := some (.int ((31 : Int32) - ((x1.toUInt32 >>> ((1 : Int32) &&& 31).toUInt32).toInt32)))) (fun h => by rw [Bd.returns] at h; cases h)
            refine ⟨_, _, retI X0 hx Bd.returns (hb hby d4_78) hr, hrun, hended, _, _, rfl, ?_, ⟨_, rfl⟩, hW, hsame.mono (by decide) (by decide)⟩
            show Q4 Z x1 h0 n0 _ s₁.heap _
            rw [e0]
            exact ⟨(congrArg (fun z => some (Value.int z)) (show ((31 : Int32) - ((x1.toUInt32 >>> ((1 : Int32) &&& 31).toUInt32).toInt32)) = (own_nlz x1) from by simp only [own_nlz, own_n1, own_n2, own_n3, own_n4, hc1, hc22, hc37, hc51, hc63, if_true, if_false])), N0, rfl⟩
          · refine own_st (S' := s₁.setTop (mkF m 66 #[.val (.int x1), .val (.int (31 : Int32))] [])) (fun t_ k_ => XS.icmpNo X0.here hx rfl (hb hby d4_63) rfl (flt hc63).1 k_) ?_
            refine own_st (S' := s₁.setTop (mkF m 69 #[.val (.int x1), .val (.int ((31 : Int32) + (-2 : Int32)))] [])) (fun t_ k_ => XS.iinc X0.here hx rfl (hb hby d4_66) rfl (l' := #[.val (.int x1), .val (.int ((31 : Int32) + (-2 : Int32)))]) rfl k_) ?_
            refine own_st (S' := s₁.setTop (mkF m 70 #[.val (.int x1), .val (.int ((31 : Int32) + (-2 : Int32)))] [(.int x1)])) (fun t_ k_ => XS.iloadN X0.here hx rfl (hb hby d4_69) rfl k_) ?_
            refine own_st (S' := s₁.setTop (mkF m 71 #[.val (.int x1), .val (.int ((31 : Int32) + (-2 : Int32)))] [(.int (2 : Int32)), (.int x1)])) (fun t_ k_ => XS.iconst X0.here hx rfl (hb hby d4_70) k_) ?_
            refine own_st (S' := s₁.setTop (mkF m 72 #[.val (.int x1), .val (.int ((31 : Int32) + (-2 : Int32)))] [(.int ((x1.toUInt32 >>> ((2 : Int32) &&& 31).toUInt32).toInt32))])) (fun t_ k_ => XS.iushr X0.here hx rfl (hb hby d4_71) rfl k_) ?_
            refine own_st (S' := s₁.setTop (mkF m 73 #[.val (.int ((x1.toUInt32 >>> ((2 : Int32) &&& 31).toUInt32).toInt32)), .val (.int ((31 : Int32) + (-2 : Int32)))] [])) (fun t_ k_ => XS.istoreN X0.here hx rfl (hb hby d4_72) rfl (l' := #[.val (.int ((x1.toUInt32 >>> ((2 : Int32) &&& 31).toUInt32).toInt32)), .val (.int ((31 : Int32) + (-2 : Int32)))]) rfl k_) ?_
            refine own_st (S' := s₁.setTop (mkF m 74 #[.val (.int ((x1.toUInt32 >>> ((2 : Int32) &&& 31).toUInt32).toInt32)), .val (.int ((31 : Int32) + (-2 : Int32)))] [(.int ((31 : Int32) + (-2 : Int32)))])) (fun t_ k_ => XS.iloadN X0.here hx rfl (hb hby d4_73) rfl k_) ?_
            refine own_st (S' := s₁.setTop (mkF m 75 #[.val (.int ((x1.toUInt32 >>> ((2 : Int32) &&& 31).toUInt32).toInt32)), .val (.int ((31 : Int32) + (-2 : Int32)))] [(.int ((x1.toUInt32 >>> ((2 : Int32) &&& 31).toUInt32).toInt32)), (.int ((31 : Int32) + (-2 : Int32)))])) (fun t_ k_ => XS.iloadN X0.here hx rfl (hb hby d4_74) rfl k_) ?_
            refine own_st (S' := s₁.setTop (mkF m 76 #[.val (.int ((x1.toUInt32 >>> ((2 : Int32) &&& 31).toUInt32).toInt32)), .val (.int ((31 : Int32) + (-2 : Int32)))] [(.int (1 : Int32)), (.int ((x1.toUInt32 >>> ((2 : Int32) &&& 31).toUInt32).toInt32)), (.int ((31 : Int32) + (-2 : Int32)))])) (fun t_ k_ => XS.iconst X0.here hx rfl (hb hby d4_75) k_) ?_
            refine own_st (S' := s₁.setTop (mkF m 77 #[.val (.int ((x1.toUInt32 >>> ((2 : Int32) &&& 31).toUInt32).toInt32)), .val (.int ((31 : Int32) + (-2 : Int32)))] [(.int ((((x1.toUInt32 >>> ((2 : Int32) &&& 31).toUInt32).toInt32).toUInt32 >>> ((1 : Int32) &&& 31).toUInt32).toInt32)), (.int ((31 : Int32) + (-2 : Int32)))])) (fun t_ k_ => XS.iushr X0.here hx rfl (hb hby d4_76) rfl k_) ?_
            refine own_st (S' := s₁.setTop (mkF m 78 #[.val (.int ((x1.toUInt32 >>> ((2 : Int32) &&& 31).toUInt32).toInt32)), .val (.int ((31 : Int32) + (-2 : Int32)))] [(.int (((31 : Int32) + (-2 : Int32)) - ((((x1.toUInt32 >>> ((2 : Int32) &&& 31).toUInt32).toInt32).toUInt32 >>> ((1 : Int32) &&& 31).toUInt32).toInt32)))])) (fun t_ k_ => XS.isub X0.here hx rfl (hb hby d4_77) rfl k_) ?_
            obtain ⟨fs, hr, hrun, hended, hW, hsame⟩ := X0.leave (v := some (.int (((31 : Int32) + (-2 : Int32)) - ((((x1.toUInt32 >>> ((2 : Int32) &&& 31).toUInt32).toInt32).toUInt32 >>> ((1 : Int32) &&& 31).toUInt32).toInt32)))) (fun h => by rw [Bd.returns] at h; cases h)
            refine ⟨_, _, retI X0 hx Bd.returns (hb hby d4_78) hr, hrun, hended, _, _, rfl, ?_, ⟨_, rfl⟩, hW, hsame.mono (by decide) (by decide)⟩
            show Q4 Z x1 h0 n0 _ s₁.heap _
            rw [e0]
            exact ⟨(congrArg (fun z => some (Value.int z)) (show (((31 : Int32) + (-2 : Int32)) - ((((x1.toUInt32 >>> ((2 : Int32) &&& 31).toUInt32).toInt32).toUInt32 >>> ((1 : Int32) &&& 31).toUInt32).toInt32)) = (own_nlz x1) from by simp only [own_nlz, own_n1, own_n2, own_n3, own_n4, hc1, hc22, hc37, hc51, hc63, if_true, if_false])), N0, rfl⟩
        · refine own_st (S' := s₁.setTop (mkF m 54 #[.val (.int x1), .val (.int (31 : Int32))] [])) (fun t_ k_ => XS.icmpNo X0.here hx rfl (hb hby d4_51) rfl (flt hc51).1 k_) ?_
          refine own_st (S' := s₁.setTop (mkF m 57 #[.val (.int x1), .val (.int ((31 : Int32) + (-4 : Int32)))] [])) (fun t_ k_ => XS.iinc X0.here hx rfl (hb hby d4_54) rfl (l' := #[.val (.int x1), .val (.int ((31 : Int32) + (-4 : Int32)))]) rfl k_) ?_
          refine own_st (S' := s₁.setTop (mkF m 58 #[.val (.int x1), .val (.int ((31 : Int32) + (-4 : Int32)))] [(.int x1)])) (fun t_ k_ => XS.iloadN X0.here hx rfl (hb hby d4_57) rfl k_) ?_
          refine own_st (S' := s₁.setTop (mkF m 59 #[.val (.int x1), .val (.int ((31 : Int32) + (-4 : Int32)))] [(.int (4 : Int32)), (.int x1)])) (fun t_ k_ => XS.iconst X0.here hx rfl (hb hby d4_58) k_) ?_
          refine own_st (S' := s₁.setTop (mkF m 60 #[.val (.int x1), .val (.int ((31 : Int32) + (-4 : Int32)))] [(.int ((x1.toUInt32 >>> ((4 : Int32) &&& 31).toUInt32).toInt32))])) (fun t_ k_ => XS.iushr X0.here hx rfl (hb hby d4_59) rfl k_) ?_
          refine own_st (S' := s₁.setTop (mkF m 61 #[.val (.int ((x1.toUInt32 >>> ((4 : Int32) &&& 31).toUInt32).toInt32)), .val (.int ((31 : Int32) + (-4 : Int32)))] [])) (fun t_ k_ => XS.istoreN X0.here hx rfl (hb hby d4_60) rfl (l' := #[.val (.int ((x1.toUInt32 >>> ((4 : Int32) &&& 31).toUInt32).toInt32)), .val (.int ((31 : Int32) + (-4 : Int32)))]) rfl k_) ?_
          refine own_st (S' := s₁.setTop (mkF m 62 #[.val (.int ((x1.toUInt32 >>> ((4 : Int32) &&& 31).toUInt32).toInt32)), .val (.int ((31 : Int32) + (-4 : Int32)))] [(.int ((x1.toUInt32 >>> ((4 : Int32) &&& 31).toUInt32).toInt32))])) (fun t_ k_ => XS.iloadN X0.here hx rfl (hb hby d4_61) rfl k_) ?_
          refine own_st (S' := s₁.setTop (mkF m 63 #[.val (.int ((x1.toUInt32 >>> ((4 : Int32) &&& 31).toUInt32).toInt32)), .val (.int ((31 : Int32) + (-4 : Int32)))] [(.int (4 : Int32)), (.int ((x1.toUInt32 >>> ((4 : Int32) &&& 31).toUInt32).toInt32))])) (fun t_ k_ => XS.iconst X0.here hx rfl (hb hby d4_62) k_) ?_
          by_cases hc63 : ((x1.toUInt32 >>> ((4 : Int32) &&& 31).toUInt32).toInt32) < (4 : Int32)
          · refine own_st (S' := s₁.setTop (mkF m 73 #[.val (.int ((x1.toUInt32 >>> ((4 : Int32) &&& 31).toUInt32).toInt32)), .val (.int ((31 : Int32) + (-4 : Int32)))] [])) (fun t_ k_ => XS.icmpYes X0.here hx rfl (pc0 := 63) (pc' := 73) rfl (hb hby d4_63) rfl (tlt hc63).1 (by decide) (by decide) k_) ?_
            refine own_st (S' := s₁.setTop (mkF m 74 #[.val (.int ((x1.toUInt32 >>> ((4 : Int32) &&& 31).toUInt32).toInt32)), .val (.int ((31 : Int32) + (-4 : Int32)))] [(.int ((31 : Int32) + (-4 : Int32)))])) (fun t_ k_ => XS.iloadN X0.here hx rfl (hb hby d4_73) rfl k_) ?_
            refine own_st (S' := s₁.setTop (mkF m 75 #[.val (.int ((x1.toUInt32 >>> ((4 : Int32) &&& 31).toUInt32).toInt32)), .val (.int ((31 : Int32) + (-4 : Int32)))] [(.int ((x1.toUInt32 >>> ((4 : Int32) &&& 31).toUInt32).toInt32)), (.int ((31 : Int32) + (-4 : Int32)))])) (fun t_ k_ => XS.iloadN X0.here hx rfl (hb hby d4_74) rfl k_) ?_
            refine own_st (S' := s₁.setTop (mkF m 76 #[.val (.int ((x1.toUInt32 >>> ((4 : Int32) &&& 31).toUInt32).toInt32)), .val (.int ((31 : Int32) + (-4 : Int32)))] [(.int (1 : Int32)), (.int ((x1.toUInt32 >>> ((4 : Int32) &&& 31).toUInt32).toInt32)), (.int ((31 : Int32) + (-4 : Int32)))])) (fun t_ k_ => XS.iconst X0.here hx rfl (hb hby d4_75) k_) ?_
            refine own_st (S' := s₁.setTop (mkF m 77 #[.val (.int ((x1.toUInt32 >>> ((4 : Int32) &&& 31).toUInt32).toInt32)), .val (.int ((31 : Int32) + (-4 : Int32)))] [(.int ((((x1.toUInt32 >>> ((4 : Int32) &&& 31).toUInt32).toInt32).toUInt32 >>> ((1 : Int32) &&& 31).toUInt32).toInt32)), (.int ((31 : Int32) + (-4 : Int32)))])) (fun t_ k_ => XS.iushr X0.here hx rfl (hb hby d4_76) rfl k_) ?_
            refine own_st (S' := s₁.setTop (mkF m 78 #[.val (.int ((x1.toUInt32 >>> ((4 : Int32) &&& 31).toUInt32).toInt32)), .val (.int ((31 : Int32) + (-4 : Int32)))] [(.int (((31 : Int32) + (-4 : Int32)) - ((((x1.toUInt32 >>> ((4 : Int32) &&& 31).toUInt32).toInt32).toUInt32 >>> ((1 : Int32) &&& 31).toUInt32).toInt32)))])) (fun t_ k_ => XS.isub X0.here hx rfl (hb hby d4_77) rfl k_) ?_
            obtain ⟨fs, hr, hrun, hended, hW, hsame⟩ := X0.leave (v := some (.int (((31 : Int32) + (-4 : Int32)) - ((((x1.toUInt32 >>> ((4 : Int32) &&& 31).toUInt32).toInt32).toUInt32 >>> ((1 : Int32) &&& 31).toUInt32).toInt32)))) (fun h => by rw [Bd.returns] at h; cases h)
            refine ⟨_, _, retI X0 hx Bd.returns (hb hby d4_78) hr, hrun, hended, _, _, rfl, ?_, ⟨_, rfl⟩, hW, hsame.mono (by decide) (by decide)⟩
            show Q4 Z x1 h0 n0 _ s₁.heap _
            rw [e0]
            exact ⟨(congrArg (fun z => some (Value.int z)) (show (((31 : Int32) + (-4 : Int32)) - ((((x1.toUInt32 >>> ((4 : Int32) &&& 31).toUInt32).toInt32).toUInt32 >>> ((1 : Int32) &&& 31).toUInt32).toInt32)) = (own_nlz x1) from by simp only [own_nlz, own_n1, own_n2, own_n3, own_n4, hc1, hc22, hc37, hc51, hc63, if_true, if_false])), N0, rfl⟩
          · refine own_st (S' := s₁.setTop (mkF m 66 #[.val (.int ((x1.toUInt32 >>> ((4 : Int32) &&& 31).toUInt32).toInt32)), .val (.int ((31 : Int32) + (-4 : Int32)))] [])) (fun t_ k_ => XS.icmpNo X0.here hx rfl (hb hby d4_63) rfl (flt hc63).1 k_) ?_
            refine own_st (S' := s₁.setTop (mkF m 69 #[.val (.int ((x1.toUInt32 >>> ((4 : Int32) &&& 31).toUInt32).toInt32)), .val (.int (((31 : Int32) + (-4 : Int32)) + (-2 : Int32)))] [])) (fun t_ k_ => XS.iinc X0.here hx rfl (hb hby d4_66) rfl (l' := #[.val (.int ((x1.toUInt32 >>> ((4 : Int32) &&& 31).toUInt32).toInt32)), .val (.int (((31 : Int32) + (-4 : Int32)) + (-2 : Int32)))]) rfl k_) ?_
            refine own_st (S' := s₁.setTop (mkF m 70 #[.val (.int ((x1.toUInt32 >>> ((4 : Int32) &&& 31).toUInt32).toInt32)), .val (.int (((31 : Int32) + (-4 : Int32)) + (-2 : Int32)))] [(.int ((x1.toUInt32 >>> ((4 : Int32) &&& 31).toUInt32).toInt32))])) (fun t_ k_ => XS.iloadN X0.here hx rfl (hb hby d4_69) rfl k_) ?_
            refine own_st (S' := s₁.setTop (mkF m 71 #[.val (.int ((x1.toUInt32 >>> ((4 : Int32) &&& 31).toUInt32).toInt32)), .val (.int (((31 : Int32) + (-4 : Int32)) + (-2 : Int32)))] [(.int (2 : Int32)), (.int ((x1.toUInt32 >>> ((4 : Int32) &&& 31).toUInt32).toInt32))])) (fun t_ k_ => XS.iconst X0.here hx rfl (hb hby d4_70) k_) ?_
            refine own_st (S' := s₁.setTop (mkF m 72 #[.val (.int ((x1.toUInt32 >>> ((4 : Int32) &&& 31).toUInt32).toInt32)), .val (.int (((31 : Int32) + (-4 : Int32)) + (-2 : Int32)))] [(.int ((((x1.toUInt32 >>> ((4 : Int32) &&& 31).toUInt32).toInt32).toUInt32 >>> ((2 : Int32) &&& 31).toUInt32).toInt32))])) (fun t_ k_ => XS.iushr X0.here hx rfl (hb hby d4_71) rfl k_) ?_
            refine own_st (S' := s₁.setTop (mkF m 73 #[.val (.int ((((x1.toUInt32 >>> ((4 : Int32) &&& 31).toUInt32).toInt32).toUInt32 >>> ((2 : Int32) &&& 31).toUInt32).toInt32)), .val (.int (((31 : Int32) + (-4 : Int32)) + (-2 : Int32)))] [])) (fun t_ k_ => XS.istoreN X0.here hx rfl (hb hby d4_72) rfl (l' := #[.val (.int ((((x1.toUInt32 >>> ((4 : Int32) &&& 31).toUInt32).toInt32).toUInt32 >>> ((2 : Int32) &&& 31).toUInt32).toInt32)), .val (.int (((31 : Int32) + (-4 : Int32)) + (-2 : Int32)))]) rfl k_) ?_
            refine own_st (S' := s₁.setTop (mkF m 74 #[.val (.int ((((x1.toUInt32 >>> ((4 : Int32) &&& 31).toUInt32).toInt32).toUInt32 >>> ((2 : Int32) &&& 31).toUInt32).toInt32)), .val (.int (((31 : Int32) + (-4 : Int32)) + (-2 : Int32)))] [(.int (((31 : Int32) + (-4 : Int32)) + (-2 : Int32)))])) (fun t_ k_ => XS.iloadN X0.here hx rfl (hb hby d4_73) rfl k_) ?_
            refine own_st (S' := s₁.setTop (mkF m 75 #[.val (.int ((((x1.toUInt32 >>> ((4 : Int32) &&& 31).toUInt32).toInt32).toUInt32 >>> ((2 : Int32) &&& 31).toUInt32).toInt32)), .val (.int (((31 : Int32) + (-4 : Int32)) + (-2 : Int32)))] [(.int ((((x1.toUInt32 >>> ((4 : Int32) &&& 31).toUInt32).toInt32).toUInt32 >>> ((2 : Int32) &&& 31).toUInt32).toInt32)), (.int (((31 : Int32) + (-4 : Int32)) + (-2 : Int32)))])) (fun t_ k_ => XS.iloadN X0.here hx rfl (hb hby d4_74) rfl k_) ?_
            refine own_st (S' := s₁.setTop (mkF m 76 #[.val (.int ((((x1.toUInt32 >>> ((4 : Int32) &&& 31).toUInt32).toInt32).toUInt32 >>> ((2 : Int32) &&& 31).toUInt32).toInt32)), .val (.int (((31 : Int32) + (-4 : Int32)) + (-2 : Int32)))] [(.int (1 : Int32)), (.int ((((x1.toUInt32 >>> ((4 : Int32) &&& 31).toUInt32).toInt32).toUInt32 >>> ((2 : Int32) &&& 31).toUInt32).toInt32)), (.int (((31 : Int32) + (-4 : Int32)) + (-2 : Int32)))])) (fun t_ k_ => XS.iconst X0.here hx rfl (hb hby d4_75) k_) ?_
            refine own_st (S' := s₁.setTop (mkF m 77 #[.val (.int ((((x1.toUInt32 >>> ((4 : Int32) &&& 31).toUInt32).toInt32).toUInt32 >>> ((2 : Int32) &&& 31).toUInt32).toInt32)), .val (.int (((31 : Int32) + (-4 : Int32)) + (-2 : Int32)))] [(.int ((((((x1.toUInt32 >>> ((4 : Int32) &&& 31).toUInt32).toInt32).toUInt32 >>> ((2 : Int32) &&& 31).toUInt32).toInt32).toUInt32 >>> ((1 : Int32) &&& 31).toUInt32).toInt32)), (.int (((31 : Int32) + (-4 : Int32)) + (-2 : Int32)))])) (fun t_ k_ => XS.iushr X0.here hx rfl (hb hby d4_76) rfl k_) ?_
            refine own_st (S' := s₁.setTop (mkF m 78 #[.val (.int ((((x1.toUInt32 >>> ((4 : Int32) &&& 31).toUInt32).toInt32).toUInt32 >>> ((2 : Int32) &&& 31).toUInt32).toInt32)), .val (.int (((31 : Int32) + (-4 : Int32)) + (-2 : Int32)))] [(.int ((((31 : Int32) + (-4 : Int32)) + (-2 : Int32)) - ((((((x1.toUInt32 >>> ((4 : Int32) &&& 31).toUInt32).toInt32).toUInt32 >>> ((2 : Int32) &&& 31).toUInt32).toInt32).toUInt32 >>> ((1 : Int32) &&& 31).toUInt32).toInt32)))])) (fun t_ k_ => XS.isub X0.here hx rfl (hb hby d4_77) rfl k_) ?_
            obtain ⟨fs, hr, hrun, hended, hW, hsame⟩ := X0.leave (v := some (.int ((((31 : Int32) + (-4 : Int32)) + (-2 : Int32)) - ((((((x1.toUInt32 >>> ((4 : Int32) &&& 31).toUInt32).toInt32).toUInt32 >>> ((2 : Int32) &&& 31).toUInt32).toInt32).toUInt32 >>> ((1 : Int32) &&& 31).toUInt32).toInt32)))) (fun h => by rw [Bd.returns] at h; cases h)
            refine ⟨_, _, retI X0 hx Bd.returns (hb hby d4_78) hr, hrun, hended, _, _, rfl, ?_, ⟨_, rfl⟩, hW, hsame.mono (by decide) (by decide)⟩
            show Q4 Z x1 h0 n0 _ s₁.heap _
            rw [e0]
            exact ⟨(congrArg (fun z => some (Value.int z)) (show ((((31 : Int32) + (-4 : Int32)) + (-2 : Int32)) - ((((((x1.toUInt32 >>> ((4 : Int32) &&& 31).toUInt32).toInt32).toUInt32 >>> ((2 : Int32) &&& 31).toUInt32).toInt32).toUInt32 >>> ((1 : Int32) &&& 31).toUInt32).toInt32)) = (own_nlz x1) from by simp only [own_nlz, own_n1, own_n2, own_n3, own_n4, hc1, hc22, hc37, hc51, hc63, if_true, if_false])), N0, rfl⟩
      · refine own_st (S' := s₁.setTop (mkF m 40 #[.val (.int x1), .val (.int (31 : Int32))] [])) (fun t_ k_ => XS.icmpNo X0.here hx rfl (hb hby d4_37) rfl (flt hc37).1 k_) ?_
        refine own_st (S' := s₁.setTop (mkF m 43 #[.val (.int x1), .val (.int ((31 : Int32) + (-8 : Int32)))] [])) (fun t_ k_ => XS.iinc X0.here hx rfl (hb hby d4_40) rfl (l' := #[.val (.int x1), .val (.int ((31 : Int32) + (-8 : Int32)))]) rfl k_) ?_
        refine own_st (S' := s₁.setTop (mkF m 44 #[.val (.int x1), .val (.int ((31 : Int32) + (-8 : Int32)))] [(.int x1)])) (fun t_ k_ => XS.iloadN X0.here hx rfl (hb hby d4_43) rfl k_) ?_
        refine own_st (S' := s₁.setTop (mkF m 46 #[.val (.int x1), .val (.int ((31 : Int32) + (-8 : Int32)))] [(.int (8 : Int32)), (.int x1)])) (fun t_ k_ => XS.bipush X0.here hx rfl (hb hby d4_44) k_) ?_
        refine own_st (S' := s₁.setTop (mkF m 47 #[.val (.int x1), .val (.int ((31 : Int32) + (-8 : Int32)))] [(.int ((x1.toUInt32 >>> ((8 : Int32) &&& 31).toUInt32).toInt32))])) (fun t_ k_ => XS.iushr X0.here hx rfl (hb hby d4_46) rfl k_) ?_
        refine own_st (S' := s₁.setTop (mkF m 48 #[.val (.int ((x1.toUInt32 >>> ((8 : Int32) &&& 31).toUInt32).toInt32)), .val (.int ((31 : Int32) + (-8 : Int32)))] [])) (fun t_ k_ => XS.istoreN X0.here hx rfl (hb hby d4_47) rfl (l' := #[.val (.int ((x1.toUInt32 >>> ((8 : Int32) &&& 31).toUInt32).toInt32)), .val (.int ((31 : Int32) + (-8 : Int32)))]) rfl k_) ?_
        refine own_st (S' := s₁.setTop (mkF m 49 #[.val (.int ((x1.toUInt32 >>> ((8 : Int32) &&& 31).toUInt32).toInt32)), .val (.int ((31 : Int32) + (-8 : Int32)))] [(.int ((x1.toUInt32 >>> ((8 : Int32) &&& 31).toUInt32).toInt32))])) (fun t_ k_ => XS.iloadN X0.here hx rfl (hb hby d4_48) rfl k_) ?_
        refine own_st (S' := s₁.setTop (mkF m 51 #[.val (.int ((x1.toUInt32 >>> ((8 : Int32) &&& 31).toUInt32).toInt32)), .val (.int ((31 : Int32) + (-8 : Int32)))] [(.int (16 : Int32)), (.int ((x1.toUInt32 >>> ((8 : Int32) &&& 31).toUInt32).toInt32))])) (fun t_ k_ => XS.bipush X0.here hx rfl (hb hby d4_49) k_) ?_
        by_cases hc51 : ((x1.toUInt32 >>> ((8 : Int32) &&& 31).toUInt32).toInt32) < (16 : Int32)
        · refine own_st (S' := s₁.setTop (mkF m 61 #[.val (.int ((x1.toUInt32 >>> ((8 : Int32) &&& 31).toUInt32).toInt32)), .val (.int ((31 : Int32) + (-8 : Int32)))] [])) (fun t_ k_ => XS.icmpYes X0.here hx rfl (pc0 := 51) (pc' := 61) rfl (hb hby d4_51) rfl (tlt hc51).1 (by decide) (by decide) k_) ?_
          refine own_st (S' := s₁.setTop (mkF m 62 #[.val (.int ((x1.toUInt32 >>> ((8 : Int32) &&& 31).toUInt32).toInt32)), .val (.int ((31 : Int32) + (-8 : Int32)))] [(.int ((x1.toUInt32 >>> ((8 : Int32) &&& 31).toUInt32).toInt32))])) (fun t_ k_ => XS.iloadN X0.here hx rfl (hb hby d4_61) rfl k_) ?_
          refine own_st (S' := s₁.setTop (mkF m 63 #[.val (.int ((x1.toUInt32 >>> ((8 : Int32) &&& 31).toUInt32).toInt32)), .val (.int ((31 : Int32) + (-8 : Int32)))] [(.int (4 : Int32)), (.int ((x1.toUInt32 >>> ((8 : Int32) &&& 31).toUInt32).toInt32))])) (fun t_ k_ => XS.iconst X0.here hx rfl (hb hby d4_62) k_) ?_
          by_cases hc63 : ((x1.toUInt32 >>> ((8 : Int32) &&& 31).toUInt32).toInt32) < (4 : Int32)
          · refine own_st (S' := s₁.setTop (mkF m 73 #[.val (.int ((x1.toUInt32 >>> ((8 : Int32) &&& 31).toUInt32).toInt32)), .val (.int ((31 : Int32) + (-8 : Int32)))] [])) (fun t_ k_ => XS.icmpYes X0.here hx rfl (pc0 := 63) (pc' := 73) rfl (hb hby d4_63) rfl (tlt hc63).1 (by decide) (by decide) k_) ?_
            refine own_st (S' := s₁.setTop (mkF m 74 #[.val (.int ((x1.toUInt32 >>> ((8 : Int32) &&& 31).toUInt32).toInt32)), .val (.int ((31 : Int32) + (-8 : Int32)))] [(.int ((31 : Int32) + (-8 : Int32)))])) (fun t_ k_ => XS.iloadN X0.here hx rfl (hb hby d4_73) rfl k_) ?_
            refine own_st (S' := s₁.setTop (mkF m 75 #[.val (.int ((x1.toUInt32 >>> ((8 : Int32) &&& 31).toUInt32).toInt32)), .val (.int ((31 : Int32) + (-8 : Int32)))] [(.int ((x1.toUInt32 >>> ((8 : Int32) &&& 31).toUInt32).toInt32)), (.int ((31 : Int32) + (-8 : Int32)))])) (fun t_ k_ => XS.iloadN X0.here hx rfl (hb hby d4_74) rfl k_) ?_
            refine own_st (S' := s₁.setTop (mkF m 76 #[.val (.int ((x1.toUInt32 >>> ((8 : Int32) &&& 31).toUInt32).toInt32)), .val (.int ((31 : Int32) + (-8 : Int32)))] [(.int (1 : Int32)), (.int ((x1.toUInt32 >>> ((8 : Int32) &&& 31).toUInt32).toInt32)), (.int ((31 : Int32) + (-8 : Int32)))])) (fun t_ k_ => XS.iconst X0.here hx rfl (hb hby d4_75) k_) ?_
            refine own_st (S' := s₁.setTop (mkF m 77 #[.val (.int ((x1.toUInt32 >>> ((8 : Int32) &&& 31).toUInt32).toInt32)), .val (.int ((31 : Int32) + (-8 : Int32)))] [(.int ((((x1.toUInt32 >>> ((8 : Int32) &&& 31).toUInt32).toInt32).toUInt32 >>> ((1 : Int32) &&& 31).toUInt32).toInt32)), (.int ((31 : Int32) + (-8 : Int32)))])) (fun t_ k_ => XS.iushr X0.here hx rfl (hb hby d4_76) rfl k_) ?_
            refine own_st (S' := s₁.setTop (mkF m 78 #[.val (.int ((x1.toUInt32 >>> ((8 : Int32) &&& 31).toUInt32).toInt32)), .val (.int ((31 : Int32) + (-8 : Int32)))] [(.int (((31 : Int32) + (-8 : Int32)) - ((((x1.toUInt32 >>> ((8 : Int32) &&& 31).toUInt32).toInt32).toUInt32 >>> ((1 : Int32) &&& 31).toUInt32).toInt32)))])) (fun t_ k_ => XS.isub X0.here hx rfl (hb hby d4_77) rfl k_) ?_
            obtain ⟨fs, hr, hrun, hended, hW, hsame⟩ := X0.leave (v := some (.int (((31 : Int32) + (-8 : Int32)) - ((((x1.toUInt32 >>> ((8 : Int32) &&& 31).toUInt32).toInt32).toUInt32 >>> ((1 : Int32) &&& 31).toUInt32).toInt32)))) (fun h => by rw [Bd.returns] at h; cases h)
            refine ⟨_, _, retI X0 hx Bd.returns (hb hby d4_78) hr, hrun, hended, _, _, rfl, ?_, ⟨_, rfl⟩, hW, hsame.mono (by decide) (by decide)⟩
            show Q4 Z x1 h0 n0 _ s₁.heap _
            rw [e0]
            exact ⟨(congrArg (fun z => some (Value.int z)) (show (((31 : Int32) + (-8 : Int32)) - ((((x1.toUInt32 >>> ((8 : Int32) &&& 31).toUInt32).toInt32).toUInt32 >>> ((1 : Int32) &&& 31).toUInt32).toInt32)) = (own_nlz x1) from by simp only [own_nlz, own_n1, own_n2, own_n3, own_n4, hc1, hc22, hc37, hc51, hc63, if_true, if_false])), N0, rfl⟩
          · refine own_st (S' := s₁.setTop (mkF m 66 #[.val (.int ((x1.toUInt32 >>> ((8 : Int32) &&& 31).toUInt32).toInt32)), .val (.int ((31 : Int32) + (-8 : Int32)))] [])) (fun t_ k_ => XS.icmpNo X0.here hx rfl (hb hby d4_63) rfl (flt hc63).1 k_) ?_
            refine own_st (S' := s₁.setTop (mkF m 69 #[.val (.int ((x1.toUInt32 >>> ((8 : Int32) &&& 31).toUInt32).toInt32)), .val (.int (((31 : Int32) + (-8 : Int32)) + (-2 : Int32)))] [])) (fun t_ k_ => XS.iinc X0.here hx rfl (hb hby d4_66) rfl (l' := #[.val (.int ((x1.toUInt32 >>> ((8 : Int32) &&& 31).toUInt32).toInt32)), .val (.int (((31 : Int32) + (-8 : Int32)) + (-2 : Int32)))]) rfl k_) ?_
            refine own_st (S' := s₁.setTop (mkF m 70 #[.val (.int ((x1.toUInt32 >>> ((8 : Int32) &&& 31).toUInt32).toInt32)), .val (.int (((31 : Int32) + (-8 : Int32)) + (-2 : Int32)))] [(.int ((x1.toUInt32 >>> ((8 : Int32) &&& 31).toUInt32).toInt32))])) (fun t_ k_ => XS.iloadN X0.here hx rfl (hb hby d4_69) rfl k_) ?_
            refine own_st (S' := s₁.setTop (mkF m 71 #[.val (.int ((x1.toUInt32 >>> ((8 : Int32) &&& 31).toUInt32).toInt32)), .val (.int (((31 : Int32) + (-8 : Int32)) + (-2 : Int32)))] [(.int (2 : Int32)), (.int ((x1.toUInt32 >>> ((8 : Int32) &&& 31).toUInt32).toInt32))])) (fun t_ k_ => XS.iconst X0.here hx rfl (hb hby d4_70) k_) ?_
            refine own_st (S' := s₁.setTop (mkF m 72 #[.val (.int ((x1.toUInt32 >>> ((8 : Int32) &&& 31).toUInt32).toInt32)), .val (.int (((31 : Int32) + (-8 : Int32)) + (-2 : Int32)))] [(.int ((((x1.toUInt32 >>> ((8 : Int32) &&& 31).toUInt32).toInt32).toUInt32 >>> ((2 : Int32) &&& 31).toUInt32).toInt32))])) (fun t_ k_ => XS.iushr X0.here hx rfl (hb hby d4_71) rfl k_) ?_
            refine own_st (S' := s₁.setTop (mkF m 73 #[.val (.int ((((x1.toUInt32 >>> ((8 : Int32) &&& 31).toUInt32).toInt32).toUInt32 >>> ((2 : Int32) &&& 31).toUInt32).toInt32)), .val (.int (((31 : Int32) + (-8 : Int32)) + (-2 : Int32)))] [])) (fun t_ k_ => XS.istoreN X0.here hx rfl (hb hby d4_72) rfl (l' := #[.val (.int ((((x1.toUInt32 >>> ((8 : Int32) &&& 31).toUInt32).toInt32).toUInt32 >>> ((2 : Int32) &&& 31).toUInt32).toInt32)), .val (.int (((31 : Int32) + (-8 : Int32)) + (-2 : Int32)))]) rfl k_) ?_
            refine own_st (S' := s₁.setTop (mkF m 74 #[.val (.int ((((x1.toUInt32 >>> ((8 : Int32) &&& 31).toUInt32).toInt32).toUInt32 >>> ((2 : Int32) &&& 31).toUInt32).toInt32)), .val (.int (((31 : Int32) + (-8 : Int32)) + (-2 : Int32)))] [(.int (((31 : Int32) + (-8 : Int32)) + (-2 : Int32)))])) (fun t_ k_ => XS.iloadN X0.here hx rfl (hb hby d4_73) rfl k_) ?_
            refine own_st (S' := s₁.setTop (mkF m 75 #[.val (.int ((((x1.toUInt32 >>> ((8 : Int32) &&& 31).toUInt32).toInt32).toUInt32 >>> ((2 : Int32) &&& 31).toUInt32).toInt32)), .val (.int (((31 : Int32) + (-8 : Int32)) + (-2 : Int32)))] [(.int ((((x1.toUInt32 >>> ((8 : Int32) &&& 31).toUInt32).toInt32).toUInt32 >>> ((2 : Int32) &&& 31).toUInt32).toInt32)), (.int (((31 : Int32) + (-8 : Int32)) + (-2 : Int32)))])) (fun t_ k_ => XS.iloadN X0.here hx rfl (hb hby d4_74) rfl k_) ?_
            refine own_st (S' := s₁.setTop (mkF m 76 #[.val (.int ((((x1.toUInt32 >>> ((8 : Int32) &&& 31).toUInt32).toInt32).toUInt32 >>> ((2 : Int32) &&& 31).toUInt32).toInt32)), .val (.int (((31 : Int32) + (-8 : Int32)) + (-2 : Int32)))] [(.int (1 : Int32)), (.int ((((x1.toUInt32 >>> ((8 : Int32) &&& 31).toUInt32).toInt32).toUInt32 >>> ((2 : Int32) &&& 31).toUInt32).toInt32)), (.int (((31 : Int32) + (-8 : Int32)) + (-2 : Int32)))])) (fun t_ k_ => XS.iconst X0.here hx rfl (hb hby d4_75) k_) ?_
            refine own_st (S' := s₁.setTop (mkF m 77 #[.val (.int ((((x1.toUInt32 >>> ((8 : Int32) &&& 31).toUInt32).toInt32).toUInt32 >>> ((2 : Int32) &&& 31).toUInt32).toInt32)), .val (.int (((31 : Int32) + (-8 : Int32)) + (-2 : Int32)))] [(.int ((((((x1.toUInt32 >>> ((8 : Int32) &&& 31).toUInt32).toInt32).toUInt32 >>> ((2 : Int32) &&& 31).toUInt32).toInt32).toUInt32 >>> ((1 : Int32) &&& 31).toUInt32).toInt32)), (.int (((31 : Int32) + (-8 : Int32)) + (-2 : Int32)))])) (fun t_ k_ => XS.iushr X0.here hx rfl (hb hby d4_76) rfl k_) ?_
            refine own_st (S' := s₁.setTop (mkF m 78 #[.val (.int ((((x1.toUInt32 >>> ((8 : Int32) &&& 31).toUInt32).toInt32).toUInt32 >>> ((2 : Int32) &&& 31).toUInt32).toInt32)), .val (.int (((31 : Int32) + (-8 : Int32)) + (-2 : Int32)))] [(.int ((((31 : Int32) + (-8 : Int32)) + (-2 : Int32)) - ((((((x1.toUInt32 >>> ((8 : Int32) &&& 31).toUInt32).toInt32).toUInt32 >>> ((2 : Int32) &&& 31).toUInt32).toInt32).toUInt32 >>> ((1 : Int32) &&& 31).toUInt32).toInt32)))])) (fun t_ k_ => XS.isub X0.here hx rfl (hb hby d4_77) rfl k_) ?_
            obtain ⟨fs, hr, hrun, hended, hW, hsame⟩ := X0.leave (v := some (.int ((((31 : Int32) + (-8 : Int32)) + (-2 : Int32)) - ((((((x1.toUInt32 >>> ((8 : Int32) &&& 31).toUInt32).toInt32).toUInt32 >>> ((2 : Int32) &&& 31).toUInt32).toInt32).toUInt32 >>> ((1 : Int32) &&& 31).toUInt32).toInt32)))) (fun h => by rw [Bd.returns] at h; cases h)
            refine ⟨_, _, retI X0 hx Bd.returns (hb hby d4_78) hr, hrun, hended, _, _, rfl, ?_, ⟨_, rfl⟩, hW, hsame.mono (by decide) (by decide)⟩
            show Q4 Z x1 h0 n0 _ s₁.heap _
            rw [e0]
            exact ⟨(congrArg (fun z => some (Value.int z)) (show ((((31 : Int32) + (-8 : Int32)) + (-2 : Int32)) - ((((((x1.toUInt32 >>> ((8 : Int32) &&& 31).toUInt32).toInt32).toUInt32 >>> ((2 : Int32) &&& 31).toUInt32).toInt32).toUInt32 >>> ((1 : Int32) &&& 31).toUInt32).toInt32)) = (own_nlz x1) from by simp only [own_nlz, own_n1, own_n2, own_n3, own_n4, hc1, hc22, hc37, hc51, hc63, if_true, if_false])), N0, rfl⟩
        · refine own_st (S' := s₁.setTop (mkF m 54 #[.val (.int ((x1.toUInt32 >>> ((8 : Int32) &&& 31).toUInt32).toInt32)), .val (.int ((31 : Int32) + (-8 : Int32)))] [])) (fun t_ k_ => XS.icmpNo X0.here hx rfl (hb hby d4_51) rfl (flt hc51).1 k_) ?_
          refine own_st (S' := s₁.setTop (mkF m 57 #[.val (.int ((x1.toUInt32 >>> ((8 : Int32) &&& 31).toUInt32).toInt32)), .val (.int (((31 : Int32) + (-8 : Int32)) + (-4 : Int32)))] [])) (fun t_ k_ => XS.iinc X0.here hx rfl (hb hby d4_54) rfl (l' := #[.val (.int ((x1.toUInt32 >>> ((8 : Int32) &&& 31).toUInt32).toInt32)), .val (.int (((31 : Int32) + (-8 : Int32)) + (-4 : Int32)))]) rfl k_) ?_
          refine own_st (S' := s₁.setTop (mkF m 58 #[.val (.int ((x1.toUInt32 >>> ((8 : Int32) &&& 31).toUInt32).toInt32)), .val (.int (((31 : Int32) + (-8 : Int32)) + (-4 : Int32)))] [(.int ((x1.toUInt32 >>> ((8 : Int32) &&& 31).toUInt32).toInt32))])) (fun t_ k_ => XS.iloadN X0.here hx rfl (hb hby d4_57) rfl k_) ?_
          refine own_st (S' := s₁.setTop (mkF m 59 #[.val (.int ((x1.toUInt32 >>> ((8 : Int32) &&& 31).toUInt32).toInt32)), .val (.int (((31 : Int32) + (-8 : Int32)) + (-4 : Int32)))] [(.int (4 : Int32)), (.int ((x1.toUInt32 >>> ((8 : Int32) &&& 31).toUInt32).toInt32))])) (fun t_ k_ => XS.iconst X0.here hx rfl (hb hby d4_58) k_) ?_
          refine own_st (S' := s₁.setTop (mkF m 60 #[.val (.int ((x1.toUInt32 >>> ((8 : Int32) &&& 31).toUInt32).toInt32)), .val (.int (((31 : Int32) + (-8 : Int32)) + (-4 : Int32)))] [(.int ((((x1.toUInt32 >>> ((8 : Int32) &&& 31).toUInt32).toInt32).toUInt32 >>> ((4 : Int32) &&& 31).toUInt32).toInt32))])) (fun t_ k_ => XS.iushr X0.here hx rfl (hb hby d4_59) rfl k_) ?_
          refine own_st (S' := s₁.setTop (mkF m 61 #[.val (.int ((((x1.toUInt32 >>> ((8 : Int32) &&& 31).toUInt32).toInt32).toUInt32 >>> ((4 : Int32) &&& 31).toUInt32).toInt32)), .val (.int (((31 : Int32) + (-8 : Int32)) + (-4 : Int32)))] [])) (fun t_ k_ => XS.istoreN X0.here hx rfl (hb hby d4_60) rfl (l' := #[.val (.int ((((x1.toUInt32 >>> ((8 : Int32) &&& 31).toUInt32).toInt32).toUInt32 >>> ((4 : Int32) &&& 31).toUInt32).toInt32)), .val (.int (((31 : Int32) + (-8 : Int32)) + (-4 : Int32)))]) rfl k_) ?_
          refine own_st (S' := s₁.setTop (mkF m 62 #[.val (.int ((((x1.toUInt32 >>> ((8 : Int32) &&& 31).toUInt32).toInt32).toUInt32 >>> ((4 : Int32) &&& 31).toUInt32).toInt32)), .val (.int (((31 : Int32) + (-8 : Int32)) + (-4 : Int32)))] [(.int ((((x1.toUInt32 >>> ((8 : Int32) &&& 31).toUInt32).toInt32).toUInt32 >>> ((4 : Int32) &&& 31).toUInt32).toInt32))])) (fun t_ k_ => XS.iloadN X0.here hx rfl (hb hby d4_61) rfl k_) ?_
          refine own_st (S' := s₁.setTop (mkF m 63 #[.val (.int ((((x1.toUInt32 >>> ((8 : Int32) &&& 31).toUInt32).toInt32).toUInt32 >>> ((4 : Int32) &&& 31).toUInt32).toInt32)), .val (.int (((31 : Int32) + (-8 : Int32)) + (-4 : Int32)))] [(.int (4 : Int32)), (.int ((((x1.toUInt32 >>> ((8 : Int32) &&& 31).toUInt32).toInt32).toUInt32 >>> ((4 : Int32) &&& 31).toUInt32).toInt32))])) (fun t_ k_ => XS.iconst X0.here hx rfl (hb hby d4_62) k_) ?_
          by_cases hc63 : ((((x1.toUInt32 >>> ((8 : Int32) &&& 31).toUInt32).toInt32).toUInt32 >>> ((4 : Int32) &&& 31).toUInt32).toInt32) < (4 : Int32)
          · refine own_st (S' := s₁.setTop (mkF m 73 #[.val (.int ((((x1.toUInt32 >>> ((8 : Int32) &&& 31).toUInt32).toInt32).toUInt32 >>> ((4 : Int32) &&& 31).toUInt32).toInt32)), .val (.int (((31 : Int32) + (-8 : Int32)) + (-4 : Int32)))] [])) (fun t_ k_ => XS.icmpYes X0.here hx rfl (pc0 := 63) (pc' := 73) rfl (hb hby d4_63) rfl (tlt hc63).1 (by decide) (by decide) k_) ?_
            refine own_st (S' := s₁.setTop (mkF m 74 #[.val (.int ((((x1.toUInt32 >>> ((8 : Int32) &&& 31).toUInt32).toInt32).toUInt32 >>> ((4 : Int32) &&& 31).toUInt32).toInt32)), .val (.int (((31 : Int32) + (-8 : Int32)) + (-4 : Int32)))] [(.int (((31 : Int32) + (-8 : Int32)) + (-4 : Int32)))])) (fun t_ k_ => XS.iloadN X0.here hx rfl (hb hby d4_73) rfl k_) ?_
            refine own_st (S' := s₁.setTop (mkF m 75 #[.val (.int ((((x1.toUInt32 >>> ((8 : Int32) &&& 31).toUInt32).toInt32).toUInt32 >>> ((4 : Int32) &&& 31).toUInt32).toInt32)), .val (.int (((31 : Int32) + (-8 : Int32)) + (-4 : Int32)))] [(.int ((((x1.toUInt32 >>> ((8 : Int32) &&& 31).toUInt32).toInt32).toUInt32 >>> ((4 : Int32) &&& 31).toUInt32).toInt32)), (.int (((31 : Int32) + (-8 : Int32)) + (-4 : Int32)))])) (fun t_ k_ => XS.iloadN X0.here hx rfl (hb hby d4_74) rfl k_) ?_
            refine own_st (S' := s₁.setTop (mkF m 76 #[.val (.int ((((x1.toUInt32 >>> ((8 : Int32) &&& 31).toUInt32).toInt32).toUInt32 >>> ((4 : Int32) &&& 31).toUInt32).toInt32)), .val (.int (((31 : Int32) + (-8 : Int32)) + (-4 : Int32)))] [(.int (1 : Int32)), (.int ((((x1.toUInt32 >>> ((8 : Int32) &&& 31).toUInt32).toInt32).toUInt32 >>> ((4 : Int32) &&& 31).toUInt32).toInt32)), (.int (((31 : Int32) + (-8 : Int32)) + (-4 : Int32)))])) (fun t_ k_ => XS.iconst X0.here hx rfl (hb hby d4_75) k_) ?_
            refine own_st (S' := s₁.setTop (mkF m 77 #[.val (.int ((((x1.toUInt32 >>> ((8 : Int32) &&& 31).toUInt32).toInt32).toUInt32 >>> ((4 : Int32) &&& 31).toUInt32).toInt32)), .val (.int (((31 : Int32) + (-8 : Int32)) + (-4 : Int32)))] [(.int ((((((x1.toUInt32 >>> ((8 : Int32) &&& 31).toUInt32).toInt32).toUInt32 >>> ((4 : Int32) &&& 31).toUInt32).toInt32).toUInt32 >>> ((1 : Int32) &&& 31).toUInt32).toInt32)), (.int (((31 : Int32) + (-8 : Int32)) + (-4 : Int32)))])) (fun t_ k_ => XS.iushr X0.here hx rfl (hb hby d4_76) rfl k_) ?_
            refine own_st (S' := s₁.setTop (mkF m 78 #[.val (.int ((((x1.toUInt32 >>> ((8 : Int32) &&& 31).toUInt32).toInt32).toUInt32 >>> ((4 : Int32) &&& 31).toUInt32).toInt32)), .val (.int (((31 : Int32) + (-8 : Int32)) + (-4 : Int32)))] [(.int ((((31 : Int32) + (-8 : Int32)) + (-4 : Int32)) - ((((((x1.toUInt32 >>> ((8 : Int32) &&& 31).toUInt32).toInt32).toUInt32 >>> ((4 : Int32) &&& 31).toUInt32).toInt32).toUInt32 >>> ((1 : Int32) &&& 31).toUInt32).toInt32)))])) (fun t_ k_ => XS.isub X0.here hx rfl (hb hby d4_77) rfl k_) ?_
            obtain ⟨fs, hr, hrun, hended, hW, hsame⟩ := X0.leave (v := some (.int ((((31 : Int32) + (-8 : Int32)) + (-4 : Int32)) - ((((((x1.toUInt32 >>> ((8 : Int32) &&& 31).toUInt32).toInt32).toUInt32 >>> ((4 : Int32) &&& 31).toUInt32).toInt32).toUInt32 >>> ((1 : Int32) &&& 31).toUInt32).toInt32)))) (fun h => by rw [Bd.returns] at h; cases h)
            refine ⟨_, _, retI X0 hx Bd.returns (hb hby d4_78) hr, hrun, hended, _, _, rfl, ?_, ⟨_, rfl⟩, hW, hsame.mono (by decide) (by decide)⟩
            show Q4 Z x1 h0 n0 _ s₁.heap _
            rw [e0]
            exact ⟨(congrArg (fun z => some (Value.int z)) (show ((((31 : Int32) + (-8 : Int32)) + (-4 : Int32)) - ((((((x1.toUInt32 >>> ((8 : Int32) &&& 31).toUInt32).toInt32).toUInt32 >>> ((4 : Int32) &&& 31).toUInt32).toInt32).toUInt32 >>> ((1 : Int32) &&& 31).toUInt32).toInt32)) = (own_nlz x1) from by simp only [own_nlz, own_n1, own_n2, own_n3, own_n4, hc1, hc22, hc37, hc51, hc63, if_true, if_false])), N0, rfl⟩
          · refine own_st (S' := s₁.setTop (mkF m 66 #[.val (.int ((((x1.toUInt32 >>> ((8 : Int32) &&& 31).toUInt32).toInt32).toUInt32 >>> ((4 : Int32) &&& 31).toUInt32).toInt32)), .val (.int (((31 : Int32) + (-8 : Int32)) + (-4 : Int32)))] [])) (fun t_ k_ => XS.icmpNo X0.here hx rfl (hb hby d4_63) rfl (flt hc63).1 k_) ?_
            refine own_st (S' := s₁.setTop (mkF m 69 #[.val (.int ((((x1.toUInt32 >>> ((8 : Int32) &&& 31).toUInt32).toInt32).toUInt32 >>> ((4 : Int32) &&& 31).toUInt32).toInt32)), .val (.int ((((31 : Int32) + (-8 : Int32)) + (-4 : Int32)) + (-2 : Int32)))] [])) (fun t_ k_ => XS.iinc X0.here hx rfl (hb hby d4_66) rfl (l' := #[.val (.int ((((x1.toUInt32 >>> ((8 : Int32) &&& 31).toUInt32).toInt32).toUInt32 >>> ((4 : Int32) &&& 31).toUInt32).toInt32)), .val (.int ((((31 : Int32) + (-8 : Int32)) + (-4 : Int32)) + (-2 : Int32)))]) rfl k_) ?_
            refine own_st (S' := s₁.setTop (mkF m 70 #[.val (.int ((((x1.toUInt32 >>> ((8 : Int32) &&& 31).toUInt32).toInt32).toUInt32 >>> ((4 : Int32) &&& 31).toUInt32).toInt32)), .val (.int ((((31 : Int32) + (-8 : Int32)) + (-4 : Int32)) + (-2 : Int32)))] [(.int ((((x1.toUInt32 >>> ((8 : Int32) &&& 31).toUInt32).toInt32).toUInt32 >>> ((4 : Int32) &&& 31).toUInt32).toInt32))])) (fun t_ k_ => XS.iloadN X0.here hx rfl (hb hby d4_69) rfl k_) ?_
            refine own_st (S' := s₁.setTop (mkF m 71 #[.val (.int ((((x1.toUInt32 >>> ((8 : Int32) &&& 31).toUInt32).toInt32).toUInt32 >>> ((4 : Int32) &&& 31).toUInt32).toInt32)), .val (.int ((((31 : Int32) + (-8 : Int32)) + (-4 : Int32)) + (-2 : Int32)))] [(.int (2 : Int32)), (.int ((((x1.toUInt32 >>> ((8 : Int32) &&& 31).toUInt32).toInt32).toUInt32 >>> ((4 : Int32) &&& 31).toUInt32).toInt32))])) (fun t_ k_ => XS.iconst X0.here hx rfl (hb hby d4_70) k_) ?_
            refine own_st (S' := s₁.setTop (mkF m 72 #[.val (.int ((((x1.toUInt32 >>> ((8 : Int32) &&& 31).toUInt32).toInt32).toUInt32 >>> ((4 : Int32) &&& 31).toUInt32).toInt32)), .val (.int ((((31 : Int32) + (-8 : Int32)) + (-4 : Int32)) + (-2 : Int32)))] [(.int ((((((x1.toUInt32 >>> ((8 : Int32) &&& 31).toUInt32).toInt32).toUInt32 >>> ((4 : Int32) &&& 31).toUInt32).toInt32).toUInt32 >>> ((2 : Int32) &&& 31).toUInt32).toInt32))])) (fun t_ k_ => XS.iushr X0.here hx rfl (hb hby d4_71) rfl k_) ?_
            refine own_st (S' := s₁.setTop (mkF m 73 #[.val (.int ((((((x1.toUInt32 >>> ((8 : Int32) &&& 31).toUInt32).toInt32).toUInt32 >>> ((4 : Int32) &&& 31).toUInt32).toInt32).toUInt32 >>> ((2 : Int32) &&& 31).toUInt32).toInt32)), .val (.int ((((31 : Int32) + (-8 : Int32)) + (-4 : Int32)) + (-2 : Int32)))] [])) (fun t_ k_ => XS.istoreN X0.here hx rfl (hb hby d4_72) rfl (l' := #[.val (.int ((((((x1.toUInt32 >>> ((8 : Int32) &&& 31).toUInt32).toInt32).toUInt32 >>> ((4 : Int32) &&& 31).toUInt32).toInt32).toUInt32 >>> ((2 : Int32) &&& 31).toUInt32).toInt32)), .val (.int ((((31 : Int32) + (-8 : Int32)) + (-4 : Int32)) + (-2 : Int32)))]) rfl k_) ?_
            refine own_st (S' := s₁.setTop (mkF m 74 #[.val (.int ((((((x1.toUInt32 >>> ((8 : Int32) &&& 31).toUInt32).toInt32).toUInt32 >>> ((4 : Int32) &&& 31).toUInt32).toInt32).toUInt32 >>> ((2 : Int32) &&& 31).toUInt32).toInt32)), .val (.int ((((31 : Int32) + (-8 : Int32)) + (-4 : Int32)) + (-2 : Int32)))] [(.int ((((31 : Int32) + (-8 : Int32)) + (-4 : Int32)) + (-2 : Int32)))])) (fun t_ k_ => XS.iloadN X0.here hx rfl (hb hby d4_73) rfl k_) ?_
            refine own_st (S' := s₁.setTop (mkF m 75 #[.val (.int ((((((x1.toUInt32 >>> ((8 : Int32) &&& 31).toUInt32).toInt32).toUInt32 >>> ((4 : Int32) &&& 31).toUInt32).toInt32).toUInt32 >>> ((2 : Int32) &&& 31).toUInt32).toInt32)), .val (.int ((((31 : Int32) + (-8 : Int32)) + (-4 : Int32)) + (-2 : Int32)))] [(.int ((((((x1.toUInt32 >>> ((8 : Int32) &&& 31).toUInt32).toInt32).toUInt32 >>> ((4 : Int32) &&& 31).toUInt32).toInt32).toUInt32 >>> ((2 : Int32) &&& 31).toUInt32).toInt32)), (.int ((((31 : Int32) + (-8 : Int32)) + (-4 : Int32)) + (-2 : Int32)))])) (fun t_ k_ => XS.iloadN X0.here hx rfl (hb hby d4_74) rfl k_) ?_
            refine own_st (S' := s₁.setTop (mkF m 76 #[.val (.int ((((((x1.toUInt32 >>> ((8 : Int32) &&& 31).toUInt32).toInt32).toUInt32 >>> ((4 : Int32) &&& 31).toUInt32).toInt32).toUInt32 >>> ((2 : Int32) &&& 31).toUInt32).toInt32)), .val (.int ((((31 : Int32) + (-8 : Int32)) + (-4 : Int32)) + (-2 : Int32)))] [(.int (1 : Int32)), (.int ((((((x1.toUInt32 >>> ((8 : Int32) &&& 31).toUInt32).toInt32).toUInt32 >>> ((4 : Int32) &&& 31).toUInt32).toInt32).toUInt32 >>> ((2 : Int32) &&& 31).toUInt32).toInt32)), (.int ((((31 : Int32) + (-8 : Int32)) + (-4 : Int32)) + (-2 : Int32)))])) (fun t_ k_ => XS.iconst X0.here hx rfl (hb hby d4_75) k_) ?_
            refine own_st (S' := s₁.setTop (mkF m 77 #[.val (.int ((((((x1.toUInt32 >>> ((8 : Int32) &&& 31).toUInt32).toInt32).toUInt32 >>> ((4 : Int32) &&& 31).toUInt32).toInt32).toUInt32 >>> ((2 : Int32) &&& 31).toUInt32).toInt32)), .val (.int ((((31 : Int32) + (-8 : Int32)) + (-4 : Int32)) + (-2 : Int32)))] [(.int ((((((((x1.toUInt32 >>> ((8 : Int32) &&& 31).toUInt32).toInt32).toUInt32 >>> ((4 : Int32) &&& 31).toUInt32).toInt32).toUInt32 >>> ((2 : Int32) &&& 31).toUInt32).toInt32).toUInt32 >>> ((1 : Int32) &&& 31).toUInt32).toInt32)), (.int ((((31 : Int32) + (-8 : Int32)) + (-4 : Int32)) + (-2 : Int32)))])) (fun t_ k_ => XS.iushr X0.here hx rfl (hb hby d4_76) rfl k_) ?_
            refine own_st (S' := s₁.setTop (mkF m 78 #[.val (.int ((((((x1.toUInt32 >>> ((8 : Int32) &&& 31).toUInt32).toInt32).toUInt32 >>> ((4 : Int32) &&& 31).toUInt32).toInt32).toUInt32 >>> ((2 : Int32) &&& 31).toUInt32).toInt32)), .val (.int ((((31 : Int32) + (-8 : Int32)) + (-4 : Int32)) + (-2 : Int32)))] [(.int (((((31 : Int32) + (-8 : Int32)) + (-4 : Int32)) + (-2 : Int32)) - ((((((((x1.toUInt32 >>> ((8 : Int32) &&& 31).toUInt32).toInt32).toUInt32 >>> ((4 : Int32) &&& 31).toUInt32).toInt32).toUInt32 >>> ((2 : Int32) &&& 31).toUInt32).toInt32).toUInt32 >>> ((1 : Int32) &&& 31).toUInt32).toInt32)))])) (fun t_ k_ => XS.isub X0.here hx rfl (hb hby d4_77) rfl k_) ?_
            obtain ⟨fs, hr, hrun, hended, hW, hsame⟩ := X0.leave (v := some (.int (((((31 : Int32) + (-8 : Int32)) + (-4 : Int32)) + (-2 : Int32)) - ((((((((x1.toUInt32 >>> ((8 : Int32) &&& 31).toUInt32).toInt32).toUInt32 >>> ((4 : Int32) &&& 31).toUInt32).toInt32).toUInt32 >>> ((2 : Int32) &&& 31).toUInt32).toInt32).toUInt32 >>> ((1 : Int32) &&& 31).toUInt32).toInt32)))) (fun h => by rw [Bd.returns] at h; cases h)
            refine ⟨_, _, retI X0 hx Bd.returns (hb hby d4_78) hr, hrun, hended, _, _, rfl, ?_, ⟨_, rfl⟩, hW, hsame.mono (by decide) (by decide)⟩
            show Q4 Z x1 h0 n0 _ s₁.heap _
            rw [e0]
            exact ⟨(congrArg (fun z => some (Value.int z)) (show (((((31 : Int32) + (-8 : Int32)) + (-4 : Int32)) + (-2 : Int32)) - ((((((((x1.toUInt32 >>> ((8 : Int32) &&& 31).toUInt32).toInt32).toUInt32 >>> ((4 : Int32) &&& 31).toUInt32).toInt32).toUInt32 >>> ((2 : Int32) &&& 31).toUInt32).toInt32).toUInt32 >>> ((1 : Int32) &&& 31).toUInt32).toInt32)) = (own_nlz x1) from by simp only [own_nlz, own_n1, own_n2, own_n3, own_n4, hc1, hc22, hc37, hc51, hc63, if_true, if_false])), N0, rfl⟩
    · refine own_st (S' := s₁.setTop (mkF m 25 #[.val (.int x1), .val (.int (31 : Int32))] [])) (fun t_ k_ => XS.icmpNo X0.here hx rfl (hb hby d4_22) rfl (flt hc22).1 k_) ?_
      refine own_st (S' := s₁.setTop (mkF m 28 #[.val (.int x1), .val (.int ((31 : Int32) + (-16 : Int32)))] [])) (fun t_ k_ => XS.iinc X0.here hx rfl (hb hby d4_25) rfl (l' := #[.val (.int x1), .val (.int ((31 : Int32) + (-16 : Int32)))]) rfl k_) ?_
      refine own_st (S' := s₁.setTop (mkF m 29 #[.val (.int x1), .val (.int ((31 : Int32) + (-16 : Int32)))] [(.int x1)])) (fun t_ k_ => XS.iloadN X0.here hx rfl (hb hby d4_28) rfl k_) ?_
      refine own_st (S' := s₁.setTop (mkF m 31 #[.val (.int x1), .val (.int ((31 : Int32) + (-16 : Int32)))] [(.int (16 : Int32)), (.int x1)])) (fun t_ k_ => XS.bipush X0.here hx rfl (hb hby d4_29) k_) ?_
      refine own_st (S' := s₁.setTop (mkF m 32 #[.val (.int x1), .val (.int ((31 : Int32) + (-16 : Int32)))] [(.int ((x1.toUInt32 >>> ((16 : Int32) &&& 31).toUInt32).toInt32))])) (fun t_ k_ => XS.iushr X0.here hx rfl (hb hby d4_31) rfl k_) ?_
      refine own_st (S' := s₁.setTop (mkF m 33 #[.val (.int ((x1.toUInt32 >>> ((16 : Int32) &&& 31).toUInt32).toInt32)), .val (.int ((31 : Int32) + (-16 : Int32)))] [])) (fun t_ k_ => XS.istoreN X0.here hx rfl (hb hby d4_32) rfl (l' := #[.val (.int ((x1.toUInt32 >>> ((16 : Int32) &&& 31).toUInt32).toInt32)), .val (.int ((31 : Int32) + (-16 : Int32)))]) rfl k_) ?_
      refine own_st (S' := s₁.setTop (mkF m 34 #[.val (.int ((x1.toUInt32 >>> ((16 : Int32) &&& 31).toUInt32).toInt32)), .val (.int ((31 : Int32) + (-16 : Int32)))] [(.int ((x1.toUInt32 >>> ((16 : Int32) &&& 31).toUInt32).toInt32))])) (fun t_ k_ => XS.iloadN X0.here hx rfl (hb hby d4_33) rfl k_) ?_
      refine own_st (S' := s₁.setTop (mkF m 37 #[.val (.int ((x1.toUInt32 >>> ((16 : Int32) &&& 31).toUInt32).toInt32)), .val (.int ((31 : Int32) + (-16 : Int32)))] [(.int (256 : Int32)), (.int ((x1.toUInt32 >>> ((16 : Int32) &&& 31).toUInt32).toInt32))])) (fun t_ k_ => XS.sipush X0.here hx rfl (hb hby d4_34) k_) ?_
      by_cases hc37 : ((x1.toUInt32 >>> ((16 : Int32) &&& 31).toUInt32).toInt32) < (256 : Int32)
      · refine own_st (S' := s₁.setTop (mkF m 48 #[.val (.int ((x1.toUInt32 >>> ((16 : Int32) &&& 31).toUInt32).toInt32)), .val (.int ((31 : Int32) + (-16 : Int32)))] [])) (fun t_ k_ => XS.icmpYes X0.here hx rfl (pc0 := 37) (pc' := 48) rfl (hb hby d4_37) rfl (tlt hc37).1 (by decide) (by decide) k_) ?_
        refine own_st (S' := s₁.setTop (mkF m 49 #[.val (.int ((x1.toUInt32 >>> ((16 : Int32) &&& 31).toUInt32).toInt32)), .val (.int ((31 : Int32) + (-16 : Int32)))] [(.int ((x1.toUInt32 >>> ((16 : Int32) &&& 31).toUInt32).toInt32))])) (fun t_ k_ => XS.iloadN X0.here hx rfl (hb hby d4_48) rfl k_) ?_
        refine own_st (S' := s₁.setTop (mkF m 51 #[.val (.int ((x1.toUInt32 >>> ((16 : Int32) &&& 31).toUInt32).toInt32)), .val (.int ((31 : Int32) + (-16 : Int32)))] [(.int (16 : Int32)), (.int ((x1.toUInt32 >>> ((16 : Int32) &&& 31).toUInt32).toInt32))])) (fun t_ k_ => XS.bipush X0.here hx rfl (hb hby d4_49) k_) ?_
        by_cases hc51 : ((x1.toUInt32 >>> ((16 : Int32) &&& 31).toUInt32).toInt32) < (16 : Int32)
        · refine own_st (S' := s₁.setTop (mkF m 61 #[.val (.int ((x1.toUInt32 >>> ((16 : Int32) &&& 31).toUInt32).toInt32)), .val (.int ((31 : Int32) + (-16 : Int32)))] [])) (fun t_ k_ => XS.icmpYes X0.here hx rfl (pc0 := 51) (pc' := 61) rfl (hb hby d4_51) rfl (tlt hc51).1 (by decide) (by decide) k_) ?_
          refine own_st (S' := s₁.setTop (mkF m 62 #[.val (.int ((x1.toUInt32 >>> ((16 : Int32) &&& 31).toUInt32).toInt32)), .val (.int ((31 : Int32) + (-16 : Int32)))] [(.int ((x1.toUInt32 >>> ((16 : Int32) &&& 31).toUInt32).toInt32))])) (fun t_ k_ => XS.iloadN X0.here hx rfl (hb hby d4_61) rfl k_) ?_
          refine own_st (S' := s₁.setTop (mkF m 63 #[.val (.int ((x1.toUInt32 >>> ((16 : Int32) &&& 31).toUInt32).toInt32)), .val (.int ((31 : Int32) + (-16 : Int32)))] [(.int (4 : Int32)), (.int ((x1.toUInt32 >>> ((16 : Int32) &&& 31).toUInt32).toInt32))])) (fun t_ k_ => XS.iconst X0.here hx rfl (hb hby d4_62) k_) ?_
          by_cases hc63 : ((x1.toUInt32 >>> ((16 : Int32) &&& 31).toUInt32).toInt32) < (4 : Int32)
          · refine own_st (S' := s₁.setTop (mkF m 73 #[.val (.int ((x1.toUInt32 >>> ((16 : Int32) &&& 31).toUInt32).toInt32)), .val (.int ((31 : Int32) + (-16 : Int32)))] [])) (fun t_ k_ => XS.icmpYes X0.here hx rfl (pc0 := 63) (pc' := 73) rfl (hb hby d4_63) rfl (tlt hc63).1 (by decide) (by decide) k_) ?_
            refine own_st (S' := s₁.setTop (mkF m 74 #[.val (.int ((x1.toUInt32 >>> ((16 : Int32) &&& 31).toUInt32).toInt32)), .val (.int ((31 : Int32) + (-16 : Int32)))] [(.int ((31 : Int32) + (-16 : Int32)))])) (fun t_ k_ => XS.iloadN X0.here hx rfl (hb hby d4_73) rfl k_) ?_
            refine own_st (S' := s₁.setTop (mkF m 75 #[.val (.int ((x1.toUInt32 >>> ((16 : Int32) &&& 31).toUInt32).toInt32)), .val (.int ((31 : Int32) + (-16 : Int32)))] [(.int ((x1.toUInt32 >>> ((16 : Int32) &&& 31).toUInt32).toInt32)), (.int ((31 : Int32) + (-16 : Int32)))])) (fun t_ k_ => XS.iloadN X0.here hx rfl (hb hby d4_74) rfl k_) ?_
            refine own_st (S' := s₁.setTop (mkF m 76 #[.val (.int ((x1.toUInt32 >>> ((16 : Int32) &&& 31).toUInt32).toInt32)), .val (.int ((31 : Int32) + (-16 : Int32)))] [(.int (1 : Int32)), (.int ((x1.toUInt32 >>> ((16 : Int32) &&& 31).toUInt32).toInt32)), (.int ((31 : Int32) + (-16 : Int32)))])) (fun t_ k_ => XS.iconst X0.here hx rfl (hb hby d4_75) k_) ?_
            refine own_st (S' := s₁.setTop (mkF m 77 #[.val (.int ((x1.toUInt32 >>> ((16 : Int32) &&& 31).toUInt32).toInt32)), .val (.int ((31 : Int32) + (-16 : Int32)))] [(.int ((((x1.toUInt32 >>> ((16 : Int32) &&& 31).toUInt32).toInt32).toUInt32 >>> ((1 : Int32) &&& 31).toUInt32).toInt32)), (.int ((31 : Int32) + (-16 : Int32)))])) (fun t_ k_ => XS.iushr X0.here hx rfl (hb hby d4_76) rfl k_) ?_
            refine own_st (S' := s₁.setTop (mkF m 78 #[.val (.int ((x1.toUInt32 >>> ((16 : Int32) &&& 31).toUInt32).toInt32)), .val (.int ((31 : Int32) + (-16 : Int32)))] [(.int (((31 : Int32) + (-16 : Int32)) - ((((x1.toUInt32 >>> ((16 : Int32) &&& 31).toUInt32).toInt32).toUInt32 >>> ((1 : Int32) &&& 31).toUInt32).toInt32)))])) (fun t_ k_ => XS.isub X0.here hx rfl (hb hby d4_77) rfl k_) ?_
            obtain ⟨fs, hr, hrun, hended, hW, hsame⟩ := X0.leave (v := some (.int (((31 : Int32) + (-16 : Int32)) - ((((x1.toUInt32 >>> ((16 : Int32) &&& 31).toUInt32).toInt32).toUInt32 >>> ((1 : Int32) &&& 31).toUInt32).toInt32)))) (fun h => by rw [Bd.returns] at h; cases h)
            refine ⟨_, _, retI X0 hx Bd.returns (hb hby d4_78) hr, hrun, hended, _, _, rfl, ?_, ⟨_, rfl⟩, hW, hsame.mono (by decide) (by decide)⟩
            show Q4 Z x1 h0 n0 _ s₁.heap _
            rw [e0]
            exact ⟨(congrArg (fun z => some (Value.int z)) (show (((31 : Int32) + (-16 : Int32)) - ((((x1.toUInt32 >>> ((16 : Int32) &&& 31).toUInt32).toInt32).toUInt32 >>> ((1 : Int32) &&& 31).toUInt32).toInt32)) = (own_nlz x1) from by simp only [own_nlz, own_n1, own_n2, own_n3, own_n4, hc1, hc22, hc37, hc51, hc63, if_true, if_false])), N0, rfl⟩
          · refine own_st (S' := s₁.setTop (mkF m 66 #[.val (.int ((x1.toUInt32 >>> ((16 : Int32) &&& 31).toUInt32).toInt32)), .val (.int ((31 : Int32) + (-16 : Int32)))] [])) (fun t_ k_ => XS.icmpNo X0.here hx rfl (hb hby d4_63) rfl (flt hc63).1 k_) ?_
            refine own_st (S' := s₁.setTop (mkF m 69 #[.val (.int ((x1.toUInt32 >>> ((16 : Int32) &&& 31).toUInt32).toInt32)), .val (.int (((31 : Int32) + (-16 : Int32)) + (-2 : Int32)))] [])) (fun t_ k_ => XS.iinc X0.here hx rfl (hb hby d4_66) rfl (l' := #[.val (.int ((x1.toUInt32 >>> ((16 : Int32) &&& 31).toUInt32).toInt32)), .val (.int (((31 : Int32) + (-16 : Int32)) + (-2 : Int32)))]) rfl k_) ?_
            refine own_st (S' := s₁.setTop (mkF m 70 #[.val (.int ((x1.toUInt32 >>> ((16 : Int32) &&& 31).toUInt32).toInt32)), .val (.int (((31 : Int32) + (-16 : Int32)) + (-2 : Int32)))] [(.int ((x1.toUInt32 >>> ((16 : Int32) &&& 31).toUInt32).toInt32))])) (fun t_ k_ => XS.iloadN X0.here hx rfl (hb hby d4_69) rfl k_) ?_
            refine own_st (S' := s₁.setTop (mkF m 71 #[.val (.int ((x1.toUInt32 >>> ((16 : Int32) &&& 31).toUInt32).toInt32)), .val (.int (((31 : Int32) + (-16 : Int32)) + (-2 : Int32)))] [(.int (2 : Int32)), (.int ((x1.toUInt32 >>> ((16 : Int32) &&& 31).toUInt32).toInt32))])) (fun t_ k_ => XS.iconst X0.here hx rfl (hb hby d4_70) k_) ?_
            refine own_st (S' := s₁.setTop (mkF m 72 #[.val (.int ((x1.toUInt32 >>> ((16 : Int32) &&& 31).toUInt32).toInt32)), .val (.int (((31 : Int32) + (-16 : Int32)) + (-2 : Int32)))] [(.int ((((x1.toUInt32 >>> ((16 : Int32) &&& 31).toUInt32).toInt32).toUInt32 >>> ((2 : Int32) &&& 31).toUInt32).toInt32))])) (fun t_ k_ => XS.iushr X0.here hx rfl (hb hby d4_71) rfl k_) ?_
            refine own_st (S' := s₁.setTop (mkF m 73 #[.val (.int ((((x1.toUInt32 >>> ((16 : Int32) &&& 31).toUInt32).toInt32).toUInt32 >>> ((2 : Int32) &&& 31).toUInt32).toInt32)), .val (.int (((31 : Int32) + (-16 : Int32)) + (-2 : Int32)))] [])) (fun t_ k_ => XS.istoreN X0.here hx rfl (hb hby d4_72) rfl (l' := #[.val (.int ((((x1.toUInt32 >>> ((16 : Int32) &&& 31).toUInt32).toInt32).toUInt32 >>> ((2 : Int32) &&& 31).toUInt32).toInt32)), .val (.int (((31 : Int32) + (-16 : Int32)) + (-2 : Int32)))]) rfl k_) ?_
            refine own_st (S' := s₁.setTop (mkF m 74 #[.val (.int ((((x1.toUInt32 >>> ((16 : Int32) &&& 31).toUInt32).toInt32).toUInt32 >>> ((2 : Int32) &&& 31).toUInt32).toInt32)), .val (.int (((31 : Int32) + (-16 : Int32)) + (-2 : Int32)))] [(.int (((31 : Int32) + (-16 : Int32)) + (-2 : Int32)))])) (fun t_ k_ => XS.iloadN X0.here hx rfl (hb hby d4_73) rfl k_) ?_
            refine own_st (S' := s₁.setTop (mkF m 75 #[.val (.int ((((x1.toUInt32 >>> ((16 : Int32) &&& 31).toUInt32).toInt32).toUInt32 >>> ((2 : Int32) &&& 31).toUInt32).toInt32)), .val (.int (((31 : Int32) + (-16 : Int32)) + (-2 : Int32)))] [(.int ((((x1.toUInt32 >>> ((16 : Int32) &&& 31).toUInt32).toInt32).toUInt32 >>> ((2 : Int32) &&& 31).toUInt32).toInt32)), (.int (((31 : Int32) + (-16 : Int32)) + (-2 : Int32)))])) (fun t_ k_ => XS.iloadN X0.here hx rfl (hb hby d4_74) rfl k_) ?_
            refine own_st (S' := s₁.setTop (mkF m 76 #[.val (.int ((((x1.toUInt32 >>> ((16 : Int32) &&& 31).toUInt32).toInt32).toUInt32 >>> ((2 : Int32) &&& 31).toUInt32).toInt32)), .val (.int (((31 : Int32) + (-16 : Int32)) + (-2 : Int32)))] [(.int (1 : Int32)), (.int ((((x1.toUInt32 >>> ((16 : Int32) &&& 31).toUInt32).toInt32).toUInt32 >>> ((2 : Int32) &&& 31).toUInt32).toInt32)), (.int (((31 : Int32) + (-16 : Int32)) + (-2 : Int32)))])) (fun t_ k_ => XS.iconst X0.here hx rfl (hb hby d4_75) k_) ?_
            refine own_st (S' := s₁.setTop (mkF m 77 #[.val (.int ((((x1.toUInt32 >>> ((16 : Int32) &&& 31).toUInt32).toInt32).toUInt32 >>> ((2 : Int32) &&& 31).toUInt32).toInt32)), .val (.int (((31 : Int32) + (-16 : Int32)) + (-2 : Int32)))] [(.int ((((((x1.toUInt32 >>> ((16 : Int32) &&& 31).toUInt32).toInt32).toUInt32 >>> ((2 : Int32) &&& 31).toUInt32).toInt32).toUInt32 >>> ((1 : Int32) &&& 31).toUInt32).toInt32)), (.int (((31 : Int32) + (-16 : Int32)) + (-2 : Int32)))])) (fun t_ k_ => XS.iushr X0.here hx rfl (hb hby d4_76) rfl k_) ?_
            refine own_st (S' := s₁.setTop (mkF m 78 #[.val (.int ((((x1.toUInt32 >>> ((16 : Int32) &&& 31).toUInt32).toInt32).toUInt32 >>> ((2 : Int32) &&& 31).toUInt32).toInt32)), .val (.int (((31 : Int32) + (-16 : Int32)) + (-2 : Int32)))] [(.int ((((31 : Int32) + (-16 : Int32)) + (-2 : Int32)) - ((((((x1.toUInt32 >>> ((16 : Int32) &&& 31).toUInt32).toInt32).toUInt32 >>> ((2 : Int32) &&& 31).toUInt32).toInt32).toUInt32 >>> ((1 : Int32) &&& 31).toUInt32).toInt32)))])) (fun t_ k_ => XS.isub X0.here hx rfl (hb hby d4_77) rfl k_) ?_
            obtain ⟨fs, hr, hrun, hended, hW, hsame⟩ := X0.leave (v := some (.int ((((31 : Int32) + (-16 : Int32)) + (-2 : Int32)) - ((((((x1.toUInt32 >>> ((16 : Int32) &&& 31).toUInt32).toInt32).toUInt32 >>> ((2 : Int32) &&& 31).toUInt32).toInt32).toUInt32 >>> ((1 : Int32) &&& 31).toUInt32).toInt32)))) (fun h => by rw [Bd.returns] at h; cases h)
            refine ⟨_, _, retI X0 hx Bd.returns (hb hby d4_78) hr, hrun, hended, _, _, rfl, ?_, ⟨_, rfl⟩, hW, hsame.mono (by decide) (by decide)⟩
            show Q4 Z x1 h0 n0 _ s₁.heap _
            rw [e0]
            exact ⟨(congrArg (fun z => some (Value.int z)) (show ((((31 : Int32) + (-16 : Int32)) + (-2 : Int32)) - ((((((x1.toUInt32 >>> ((16 : Int32) &&& 31).toUInt32).toInt32).toUInt32 >>> ((2 : Int32) &&& 31).toUInt32).toInt32).toUInt32 >>> ((1 : Int32) &&& 31).toUInt32).toInt32)) = (own_nlz x1) from by simp only [own_nlz, own_n1, own_n2, own_n3, own_n4, hc1, hc22, hc37, hc51, hc63, if_true, if_false])), N0, rfl⟩
        · refine own_st (S' := s₁.setTop (mkF m 54 #[.val (.int ((x1.toUInt32 >>> ((16 : Int32) &&& 31).toUInt32).toInt32)), .val (.int ((31 : Int32) + (-16 : Int32)))] [])) (fun t_ k_ => XS.icmpNo X0.here hx rfl (hb hby d4_51) rfl (flt hc51).1 k_) ?_
          refine own_st (S' := s₁.setTop (mkF m 57 #[.val (.int ((x1.toUInt32 >>> ((16 : Int32) &&& 31).toUInt32).toInt32)), .val (.int (((31 : Int32) + (-16 : Int32)) + (-4 : Int32)))] [])) (fun t_ k_ => XS.iinc X0.here hx rfl (hb hby d4_54) rfl (l' := #[.val (.int ((x1.toUInt32 >>> ((16 : Int32) &&& 31).toUInt32).toInt32)), .val (.int (((31 : Int32) + (-16 : Int32)) + (-4 : Int32)))]) rfl k_) ?_
          refine own_st (S' := s₁.setTop (mkF m 58 #[.val (.int ((x1.toUInt32 >>> ((16 : Int32) &&& 31).toUInt32).toInt32)), .val (.int (((31 : Int32) + (-16 : Int32)) + (-4 : Int32)))] [(.int ((x1.toUInt32 >>> ((16 : Int32) &&& 31).toUInt32).toInt32))])) (fun t_ k_ => XS.iloadN X0.here hx rfl (hb hby d4_57) rfl k_) ?_
          refine own_st (S' := s₁.setTop (mkF m 59 #[.val (.int ((x1.toUInt32 >>> ((16 : Int32) &&& 31).toUInt32).toInt32)), .val (.int (((31 : Int32) + (-16 : Int32)) + (-4 : Int32)))] [(.int (4 : Int32)), (.int ((x1.toUInt32 >>> ((16 : Int32) &&& 31).toUInt32).toInt32))])) (fun t_ k_ => XS.iconst X0.here hx rfl (hb hby d4_58) k_) ?_
          refine own_st (S' := s₁.setTop (mkF m 60 #[.val (.int ((x1.toUInt32 >>> ((16 : Int32) &&& 31).toUInt32).toInt32)), .val (.int (((31 : Int32) + (-16 : Int32)) + (-4 : Int32)))] [(.int ((((x1.toUInt32 >>> ((16 : Int32) &&& 31).toUInt32).toInt32).toUInt32 >>> ((4 : Int32) &&& 31).toUInt32).toInt32))])) (fun t_ k_ => XS.iushr X0.here hx rfl (hb hby d4_59) rfl k_) ?_
          refine own_st (S' := s₁.setTop (mkF m 61 #[.val (.int ((((x1.toUInt32 >>> ((16 : Int32) &&& 31).toUInt32).toInt32).toUInt32 >>> ((4 : Int32) &&& 31).toUInt32).toInt32)), .val (.int (((31 : Int32) + (-16 : Int32)) + (-4 : Int32)))] [])) (fun t_ k_ => XS.istoreN X0.here hx rfl (hb hby d4_60) rfl (l' := #[.val (.int ((((x1.toUInt32 >>> ((16 : Int32) &&& 31).toUInt32).toInt32).toUInt32 >>> ((4 : Int32) &&& 31).toUInt32).toInt32)), .val (.int (((31 : Int32) + (-16 : Int32)) + (-4 : Int32)))]) rfl k_) ?_
          refine own_st (S' := s₁.setTop (mkF m 62 #[.val (.int ((((x1.toUInt32 >>> ((16 : Int32) &&& 31).toUInt32).toInt32).toUInt32 >>> ((4 : Int32) &&& 31).toUInt32).toInt32)), .val (.int (((31 : Int32) + (-16 : Int32)) + (-4 : Int32)))] [(.int ((((x1.toUInt32 >>> ((16 : Int32) &&& 31).toUInt32).toInt32).toUInt32 >>> ((4 : Int32) &&& 31).toUInt32).toInt32))])) (fun t_ k_ => XS.iloadN X0.here hx rfl (hb hby d4_61) rfl k_) ?_
          refine own_st (S' := s₁.setTop (mkF m 63 #[.val (.int ((((x1.toUInt32 >>> ((16 : Int32) &&& 31).toUInt32).toInt32).toUInt32 >>> ((4 : Int32) &&& 31).toUInt32).toInt32)), .val (.int (((31 : Int32) + (-16 : Int32)) + (-4 : Int32)))] [(.int (4 : Int32)), (.int ((((x1.toUInt32 >>> ((16 : Int32) &&& 31).toUInt32).toInt32).toUInt32 >>> ((4 : Int32) &&& 31).toUInt32).toInt32))])) (fun t_ k_ => XS.iconst X0.here hx rfl (hb hby d4_62) k_) ?_
          by_cases hc63 : ((((x1.toUInt32 >>> ((16 : Int32) &&& 31).toUInt32).toInt32).toUInt32 >>> ((4 : Int32) &&& 31).toUInt32).toInt32) < (4 : Int32)
          · refine own_st (S' := s₁.setTop (mkF m 73 #[.val (.int ((((x1.toUInt32 >>> ((16 : Int32) &&& 31).toUInt32).toInt32).toUInt32 >>> ((4 : Int32) &&& 31).toUInt32).toInt32)), .val (.int (((31 : Int32) + (-16 : Int32)) + (-4 : Int32)))] [])) (fun t_ k_ => XS.icmpYes X0.here hx rfl (pc0 := 63) (pc' := 73) rfl (hb hby d4_63) rfl (tlt hc63).1 (by decide) (by decide) k_) ?_
            refine own_st (S' := s₁.setTop (mkF m 74 #[.val (.int ((((x1.toUInt32 >>> ((16 : Int32) &&& 31).toUInt32).toInt32).toUInt32 >>> ((4 : Int32) &&& 31).toUInt32).toInt32)), .val (.int (((31 : Int32) + (-16 : Int32)) + (-4 : Int32)))] [(.int (((31 : Int32) + (-16 : Int32)) + (-4 : Int32)))])) (fun t_ k_ => XS.iloadN X0.here hx rfl (hb hby d4_73) rfl k_) ?_
            refine own_st (S' := s₁.setTop (mkF m 75 #[.val (.int ((((x1.toUInt32 >>> ((16 : Int32) &&& 31).toUInt32).toInt32).toUInt32 >>> ((4 : Int32) &&& 31).toUInt32).toInt32)), .val (.int (((31 : Int32) + (-16 : Int32)) + (-4 : Int32)))] [(.int ((((x1.toUInt32 >>> ((16 : Int32) &&& 31).toUInt32).toInt32).toUInt32 >>> ((4 : Int32) &&& 31).toUInt32).toInt32)), (.int (((31 : Int32) + (-16 : Int32)) + (-4 : Int32)))])) (fun t_ k_ => XS.iloadN X0.here hx rfl (hb hby d4_74) rfl k_) ?_
            refine own_st (S' := s₁.setTop (mkF m 76 #[.val (.int ((((x1.toUInt32 >>> ((16 : Int32) &&& 31).toUInt32).toInt32).toUInt32 >>> ((4 : Int32) &&& 31).toUInt32).toInt32)), .val (.int (((31 : Int32) + (-16 : Int32)) + (-4 : Int32)))] [(.int (1 : Int32)), (.int ((((x1.toUInt32 >>> ((16 : Int32) &&& 31).toUInt32).toInt32).toUInt32 >>> ((4 : Int32) &&& 31).toUInt32).toInt32)), (.int (((31 : Int32) + (-16 : Int32)) + (-4 : Int32)))])) (fun t_ k_ => XS.iconst X0.here hx rfl (hb hby d4_75) k_) ?_
            refine own_st (S' := s₁.setTop (mkF m 77 #[.val (.int ((((x1.toUInt32 >>> ((16 : Int32) &&& 31).toUInt32).toInt32).toUInt32 >>> ((4 : Int32) &&& 31).toUInt32).toInt32)), .val (.int (((31 : Int32) + (-16 : Int32)) + (-4 : Int32)))] [(.int ((((((x1.toUInt32 >>> ((16 : Int32) &&& 31).toUInt32).toInt32).toUInt32 >>> ((4 : Int32) &&& 31).toUInt32).toInt32).toUInt32 >>> ((1 : Int32) &&& 31).toUInt32).toInt32)), (.int (((31 : Int32) + (-16 : Int32)) + (-4 : Int32)))])) (fun t_ k_ => XS.iushr X0.here hx rfl (hb hby d4_76) rfl k_) ?_
            refine own_st (S' := s₁.setTop (mkF m 78 #[.val (.int ((((x1.toUInt32 >>> ((16 : Int32) &&& 31).toUInt32).toInt32).toUInt32 >>> ((4 : Int32) &&& 31).toUInt32).toInt32)), .val (.int (((31 : Int32) + (-16 : Int32)) + (-4 : Int32)))] [(.int ((((31 : Int32) + (-16 : Int32)) + (-4 : Int32)) - ((((((x1.toUInt32 >>> ((16 : Int32) &&& 31).toUInt32).toInt32).toUInt32 >>> ((4 : Int32) &&& 31).toUInt32).toInt32).toUInt32 >>> ((1 : Int32) &&& 31).toUInt32).toInt32)))])) (fun t_ k_ => XS.isub X0.here hx rfl (hb hby d4_77) rfl k_) ?_
            obtain ⟨fs, hr, hrun, hended, hW, hsame⟩ := X0.leave (v := some (.int ((((31 : Int32) + (-16 : Int32)) + (-4 : Int32)) - ((((((x1.toUInt32 >>> ((16 : Int32) &&& 31).toUInt32).toInt32).toUInt32 >>> ((4 : Int32) &&& 31).toUInt32).toInt32).toUInt32 >>> ((1 : Int32) &&& 31).toUInt32).toInt32)))) (fun h => by rw [Bd.returns] at h; cases h)
            refine ⟨_, _, retI X0 hx Bd.returns (hb hby d4_78) hr, hrun, hended, _, _, rfl, ?_, ⟨_, rfl⟩, hW, hsame.mono (by decide) (by decide)⟩
            show Q4 Z x1 h0 n0 _ s₁.heap _
            rw [e0]
            exact ⟨(congrArg (fun z => some (Value.int z)) (show ((((31 : Int32) + (-16 : Int32)) + (-4 : Int32)) - ((((((x1.toUInt32 >>> ((16 : Int32) &&& 31).toUInt32).toInt32).toUInt32 >>> ((4 : Int32) &&& 31).toUInt32).toInt32).toUInt32 >>> ((1 : Int32) &&& 31).toUInt32).toInt32)) = (own_nlz x1) from by simp only [own_nlz, own_n1, own_n2, own_n3, own_n4, hc1, hc22, hc37, hc51, hc63, if_true, if_false])), N0, rfl⟩
          · refine own_st (S' := s₁.setTop (mkF m 66 #[.val (.int ((((x1.toUInt32 >>> ((16 : Int32) &&& 31).toUInt32).toInt32).toUInt32 >>> ((4 : Int32) &&& 31).toUInt32).toInt32)), .val (.int (((31 : Int32) + (-16 : Int32)) + (-4 : Int32)))] [])) (fun t_ k_ => XS.icmpNo X0.here hx rfl (hb hby d4_63) rfl (flt hc63).1 k_) ?_
            refine own_st (S' := s₁.setTop (mkF m 69 #[.val (.int ((((x1.toUInt32 >>> ((16 : Int32) &&& 31).toUInt32).toInt32).toUInt32 >>> ((4 : Int32) &&& 31).toUInt32).toInt32)), .val (.int ((((31 : Int32) + (-16 : Int32)) + (-4 : Int32)) + (-2 : Int32)))] [])) (fun t_ k_ => XS.iinc X0.here hx rfl (hb hby d4_66) rfl (l' := #[.val (.int ((((x1.toUInt32 >>> ((16 : Int32) &&& 31).toUInt32).toInt32).toUInt32 >>> ((4 : Int32) &&& 31).toUInt32).toInt32)), .val (.int ((((31 : Int32) + (-16 : Int32)) + (-4 : Int32)) + (-2 : Int32)))]) rfl k_) ?_
            refine own_st (S' := s₁.setTop (mkF m 70 #[.val (.int ((((x1.toUInt32 >>> ((16 : Int32) &&& 31).toUInt32).toInt32).toUInt32 >>> ((4 : Int32) &&& 31).toUInt32).toInt32)), .val (.int ((((31 : Int32) + (-16 : Int32)) + (-4 : Int32)) + (-2 : Int32)))] [(.int ((((x1.toUInt32 >>> ((16 : Int32) &&& 31).toUInt32).toInt32).toUInt32 >>> ((4 : Int32) &&& 31).toUInt32).toInt32))])) (fun t_ k_ => XS.iloadN X0.here hx rfl (hb hby d4_69) rfl k_) ?_
            refine own_st (S' := s₁.setTop (mkF m 71 #[.val (.int ((((x1.toUInt32 >>> ((16 : Int32) &&& 31).toUInt32).toInt32).toUInt32 >>> ((4 : Int32) &&& 31).toUInt32).toInt32)), .val (.int ((((31 : Int32) + (-16 : Int32)) + (-4 : Int32)) + (-2 : Int32)))] [(.int (2 : Int32)), (.int ((((x1.toUInt32 >>> ((16 : Int32) &&& 31).toUInt32).toInt32).toUInt32 >>> ((4 : Int32) &&& 31).toUInt32).toInt32))])) (fun t_ k_ => XS.iconst X0.here hx rfl (hb hby d4_70) k_) ?_
            refine own_st (S' := s₁.setTop (mkF m 72 #[.val (.int ((((x1.toUInt32 >>> ((16 : Int32) &&& 31).toUInt32).toInt32).toUInt32 >>> ((4 : Int32) &&& 31).toUInt32).toInt32)), .val (.int ((((31 : Int32) + (-16 : Int32)) + (-4 : Int32)) + (-2 : Int32)))] [(.int ((((((x1.toUInt32 >>> ((16 : Int32) &&& 31).toUInt32).toInt32).toUInt32 >>> ((4 : Int32) &&& 31).toUInt32).toInt32).toUInt32 >>> ((2 : Int32) &&& 31).toUInt32).toInt32))])) (fun t_ k_ => XS.iushr X0.here hx rfl (hb hby d4_71) rfl k_) ?_
            refine own_st (S' := s₁.setTop (mkF m 73 #[.val (.int ((((((x1.toUInt32 >>> ((16 : Int32) &&& 31).toUInt32).toInt32).toUInt32 >>> ((4 : Int32) &&& 31).toUInt32).toInt32).toUInt32 >>> ((2 : Int32) &&& 31).toUInt32).toInt32)), .val (.int ((((31 : Int32) + (-16 : Int32)) + (-4 : Int32)) + (-2 : Int32)))] [])) (fun t_ k_ => XS.istoreN X0.here hx rfl (hb hby d4_72) rfl (l' := #[.val (.int ((((((x1.toUInt32 >>> ((16 : Int32) &&& 31).toUInt32).toInt32).toUInt32 >>> ((4 : Int32) &&& 31).toUInt32).toInt32).toUInt32 >>> ((2 : Int32) &&& 31).toUInt32).toInt32)), .val (.int ((((31 : Int32) + (-16 : Int32)) + (-4 : Int32)) + (-2 : Int32)))]) rfl k_) ?_
            refine own_st (S' := s₁.setTop (mkF m 74 #[.val (.int ((((((x1.toUInt32 >>> ((16 : Int32) &&& 31).toUInt32).toInt32).toUInt32 >>> ((4 : Int32) &&& 31).toUInt32).toInt32).toUInt32 >>> ((2 : Int32) &&& 31).toUInt32).toInt32)), .val (.int ((((31 : Int32) + (-16 : Int32)) + (-4 : Int32)) + (-2 : Int32)))] [(.int ((((31 : Int32) + (-16 : Int32)) + (-4 : Int32)) + (-2 : Int32)))])) (fun t_ k_ => XS.iloadN X0.here hx rfl (hb hby d4_73) rfl k_) ?_
            refine own_st (S' := s₁.setTop (mkF m 75 #[.val (.int ((((((x1.toUInt32 >>> ((16 : Int32) &&& 31).toUInt32).toInt32).toUInt32 >>> ((4 : Int32) &&& 31).toUInt32).toInt32).toUInt32 >>> ((2 : Int32) &&& 31).toUInt32).toInt32)), .val (.int ((((31 : Int32) + (-16 : Int32)) + (-4 : Int32)) + (-2 : Int32)))] [(.int ((((((x1.toUInt32 >>> ((16 : Int32) &&& 31).toUInt32).toInt32).toUInt32 >>> ((4 : Int32) &&& 31).toUInt32).toInt32).toUInt32 >>> ((2 : Int32) &&& 31).toUInt32).toInt32)), (.int ((((31 : Int32) + (-16 : Int32)) + (-4 : Int32)) + (-2 : Int32)))])) (fun t_ k_ => XS.iloadN X0.here hx rfl (hb hby d4_74) rfl k_) ?_
            refine own_st (S' := s₁.setTop (mkF m 76 #[.val (.int ((((((x1.toUInt32 >>> ((16 : Int32) &&& 31).toUInt32).toInt32).toUInt32 >>> ((4 : Int32) &&& 31).toUInt32).toInt32).toUInt32 >>> ((2 : Int32) &&& 31).toUInt32).toInt32)), .val (.int ((((31 : Int32) + (-16 : Int32)) + (-4 : Int32)) + (-2 : Int32)))] [(.int (1 : Int32)), (.int ((((((x1.toUInt32 >>> ((16 : Int32) &&& 31).toUInt32).toInt32).toUInt32 >>> ((4 : Int32) &&& 31).toUInt32).toInt32).toUInt32 >>> ((2 : Int32) &&& 31).toUInt32).toInt32)), (.int ((((31 : Int32) + (-16 : Int32)) + (-4 : Int32)) + (-2 : Int32)))])) (fun t_ k_ => XS.iconst X0.here hx rfl (hb hby d4_75) k_) ?_
            refine own_st (S' := s₁.setTop (mkF m 77 #[.val (.int ((((((x1.toUInt32 >>> ((16 : Int32) &&& 31).toUInt32).toInt32).toUInt32 >>> ((4 : Int32) &&& 31).toUInt32).toInt32).toUInt32 >>> ((2 : Int32) &&& 31).toUInt32).toInt32)), .val (.int ((((31 : Int32) + (-16 : Int32)) + (-4 : Int32)) + (-2 : Int32)))] [(.int ((((((((x1.toUInt32 >>> ((16 : Int32) &&& 31).toUInt32).toInt32).toUInt32 >>> ((4 : Int32) &&& 31).toUInt32).toInt32).toUInt32 >>> ((2 : Int32) &&& 31).toUInt32).toInt32).toUInt32 >>> ((1 : Int32) &&& 31).toUInt32).toInt32)), (.int ((((31 : Int32) + (-16 : Int32)) + (-4 : Int32)) + (-2 : Int32)))])) (fun t_ k_ => XS.iushr X0.here hx rfl (hb hby d4_76) rfl k_) ?_
            refine own_st (S' := s₁.setTop (mkF m 78 #[.val (.int ((((((x1.toUInt32 >>> ((16 : Int32) &&& 31).toUInt32).toInt32).toUInt32 >>> ((4 : Int32) &&& 31).toUInt32).toInt32).toUInt32 >>> ((2 : Int32) &&& 31).toUInt32).toInt32)), .val (.int ((((31 : Int32) + (-16 : Int32)) + (-4 : Int32)) + (-2 : Int32)))] [(.int (((((31 : Int32) + (-16 : Int32)) + (-4 : Int32)) + (-2 : Int32)) - ((((((((x1.toUInt32 >>> ((16 : Int32) &&& 31).toUInt32).toInt32).toUInt32 >>> ((4 : Int32) &&& 31).toUInt32).toInt32).toUInt32 >>> ((2 : Int32) &&& 31).toUInt32).toInt32).toUInt32 >>> ((1 : Int32) &&& 31).toUInt32).toInt32)))])) (fun t_ k_ => XS.isub X0.here hx rfl (hb hby d4_77) rfl k_) ?_
            obtain ⟨fs, hr, hrun, hended, hW, hsame⟩ := X0.leave (v := some (.int (((((31 : Int32) + (-16 : Int32)) + (-4 : Int32)) + (-2 : Int32)) - ((((((((x1.toUInt32 >>> ((16 : Int32) &&& 31).toUInt32).toInt32).toUInt32 >>> ((4 : Int32) &&& 31).toUInt32).toInt32).toUInt32 >>> ((2 : Int32) &&& 31).toUInt32).toInt32).toUInt32 >>> ((1 : Int32) &&& 31).toUInt32).toInt32)))) (fun h => by rw [Bd.returns] at h; cases h)
            refine ⟨_, _, retI X0 hx Bd.returns (hb hby d4_78) hr, hrun, hended, _, _, rfl, ?_, ⟨_, rfl⟩, hW, hsame.mono (by decide) (by decide)⟩
            show Q4 Z x1 h0 n0 _ s₁.heap _
            rw [e0]
            exact ⟨(congrArg (fun z => some (Value.int z)) (show (((((31 : Int32) + (-16 : Int32)) + (-4 : Int32)) + (-2 : Int32)) - ((((((((x1.toUInt32 >>> ((16 : Int32) &&& 31).toUInt32).toInt32).toUInt32 >>> ((4 : Int32) &&& 31).toUInt32).toInt32).toUInt32 >>> ((2 : Int32) &&& 31).toUInt32).toInt32).toUInt32 >>> ((1 : Int32) &&& 31).toUInt32).toInt32)) = (own_nlz x1) from by simp only [own_nlz, own_n1, own_n2, own_n3, own_n4, hc1, hc22, hc37, hc51, hc63, if_true, if_false])), N0, rfl⟩
      · refine own_st (S' := s₁.setTop (mkF m 40 #[.val (.int ((x1.toUInt32 >>> ((16 : Int32) &&& 31).toUInt32).toInt32)), .val (.int ((31 : Int32) + (-16 : Int32)))] [])) (fun t_ k_ => XS.icmpNo X0.here hx rfl (hb hby d4_37) rfl (flt hc37).1 k_) ?_
        refine own_st (S' := s₁.setTop (mkF m 43 #[.val (.int ((x1.toUInt32 >>> ((16 : Int32) &&& 31).toUInt32).toInt32)), .val (.int (((31 : Int32) + (-16 : Int32)) + (-8 : Int32)))] [])) (fun t_ k_ => XS.iinc X0.here hx rfl (hb hby d4_40) rfl (l' := #[.val (.int ((x1.toUInt32 >>> ((16 : Int32) &&& 31).toUInt32).toInt32)), .val (.int (((31 : Int32) + (-16 : Int32)) + (-8 : Int32)))]) rfl k_) ?_
        refine own_st (S' := s₁.setTop (mkF m 44 #[.val (.int ((x1.toUInt32 >>> ((16 : Int32) &&& 31).toUInt32).toInt32)), .val (.int (((31 : Int32) + (-16 : Int32)) + (-8 : Int32)))] [(.int ((x1.toUInt32 >>> ((16 : Int32) &&& 31).toUInt32).toInt32))])) (fun t_ k_ => XS.iloadN X0.here hx rfl (hb hby d4_43) rfl k_) ?_
        refine own_st (S' := s₁.setTop (mkF m 46 #[.val (.int ((x1.toUInt32 >>> ((16 : Int32) &&& 31).toUInt32).toInt32)), .val (.int (((31 : Int32) + (-16 : Int32)) + (-8 : Int32)))] [(.int (8 : Int32)), (.int ((x1.toUInt32 >>> ((16 : Int32) &&& 31).toUInt32).toInt32))])) (fun t_ k_ => XS.bipush X0.here hx rfl (hb hby d4_44) k_) ?_
        refine own_st (S' := s₁.setTop (mkF m 47 #[.val (.int ((x1.toUInt32 >>> ((16 : Int32) &&& 31).toUInt32).toInt32)), .val (.int (((31 : Int32) + (-16 : Int32)) + (-8 : Int32)))] [(.int ((((x1.toUInt32 >>> ((16 : Int32) &&& 31).toUInt32).toInt32).toUInt32 >>> ((8 : Int32) &&& 31).toUInt32).toInt32))])) (fun t_ k_ => XS.iushr X0.here hx rfl (hb hby d4_46) rfl k_) ?_
        refine own_st (S' := s₁.setTop (mkF m 48 #[.val (.int ((((x1.toUInt32 >>> ((16 : Int32) &&& 31).toUInt32).toInt32).toUInt32 >>> ((8 : Int32) &&& 31).toUInt32).toInt32)), .val (.int (((31 : Int32) + (-16 : Int32)) + (-8 : Int32)))] [])) (fun t_ k_ => XS.istoreN X0.here hx rfl (hb hby d4_47) rfl (l' := #[.val (.int ((((x1.toUInt32 >>> ((16 : Int32) &&& 31).toUInt32).toInt32).toUInt32 >>> ((8 : Int32) &&& 31).toUInt32).toInt32)), .val (.int (((31 : Int32) + (-16 : Int32)) + (-8 : Int32)))]) rfl k_) ?_
        refine own_st (S' := s₁.setTop (mkF m 49 #[.val (.int ((((x1.toUInt32 >>> ((16 : Int32) &&& 31).toUInt32).toInt32).toUInt32 >>> ((8 : Int32) &&& 31).toUInt32).toInt32)), .val (.int (((31 : Int32) + (-16 : Int32)) + (-8 : Int32)))] [(.int ((((x1.toUInt32 >>> ((16 : Int32) &&& 31).toUInt32).toInt32).toUInt32 >>> ((8 : Int32) &&& 31).toUInt32).toInt32))])) (fun t_ k_ => XS.iloadN X0.here hx rfl (hb hby d4_48) rfl k_) ?_
        refine own_st (S' := s₁.setTop (mkF m 51 #[.val (.int ((((x1.toUInt32 >>> ((16 : Int32) &&& 31).toUInt32).toInt32).toUInt32 >>> ((8 : Int32) &&& 31).toUInt32).toInt32)), .val (.int (((31 : Int32) + (-16 : Int32)) + (-8 : Int32)))] [(.int (16 : Int32)), (.int ((((x1.toUInt32 >>> ((16 : Int32) &&& 31).toUInt32).toInt32).toUInt32 >>> ((8 : Int32) &&& 31).toUInt32).toInt32))])) (fun t_ k_ => XS.bipush X0.here hx rfl (hb hby d4_49) k_) ?_
        by_cases hc51 : ((((x1.toUInt32 >>> ((16 : Int32) &&& 31).toUInt32).toInt32).toUInt32 >>> ((8 : Int32) &&& 31).toUInt32).toInt32) < (16 : Int32)
        · refine own_st (S' := s₁.setTop (mkF m 61 #[.val (.int ((((x1.toUInt32 >>> ((16 : Int32) &&& 31).toUInt32).toInt32).toUInt32 >>> ((8 : Int32) &&& 31).toUInt32).toInt32)), .val (.int (((31 : Int32) + (-16 : Int32)) + (-8 : Int32)))] [])) (fun t_ k_ => XS.icmpYes X0.here hx rfl (pc0 := 51) (pc' := 61) rfl (hb hby d4_51) rfl (tlt hc51).1 (by decide) (by decide) k_) ?_
          refine own_st (S' := s₁.setTop (mkF m 62 #[.val (.int ((((x1.toUInt32 >>> ((16 : Int32) &&& 31).toUInt32).toInt32).toUInt32 >>> ((8 : Int32) &&& 31).toUInt32).toInt32)), .val (.int (((31 : Int32) + (-16 : Int32)) + (-8 : Int32)))] [(.int ((((x1.toUInt32 >>> ((16 : Int32) &&& 31).toUInt32).toInt32).toUInt32 >>> ((8 : Int32) &&& 31).toUInt32).toInt32))])) (fun t_ k_ => XS.iloadN X0.here hx rfl (hb hby d4_61) rfl k_) ?_
          refine own_st (S' := s₁.setTop (mkF m 63 #[.val (.int ((((x1.toUInt32 >>> ((16 : Int32) &&& 31).toUInt32).toInt32).toUInt32 >>> ((8 : Int32) &&& 31).toUInt32).toInt32)), .val (.int (((31 : Int32) + (-16 : Int32)) + (-8 : Int32)))] [(.int (4 : Int32)), (.int ((((x1.toUInt32 >>> ((16 : Int32) &&& 31).toUInt32).toInt32).toUInt32 >>> ((8 : Int32) &&& 31).toUInt32).toInt32))])) (fun t_ k_ => XS.iconst X0.here hx rfl (hb hby d4_62) k_) ?_
          by_cases hc63 : ((((x1.toUInt32 >>> ((16 : Int32) &&& 31).toUInt32).toInt32).toUInt32 >>> ((8 : Int32) &&& 31).toUInt32).toInt32) < (4 : Int32)
          · refine own_st (S' := s₁.setTop (mkF m 73 #[.val (.int ((((x1.toUInt32 >>> ((16 : Int32) &&& 31).toUInt32).toInt32).toUInt32 >>> ((8 : Int32) &&& 31).toUInt32).toInt32)), .val (.int (((31 : Int32) + (-16 : Int32)) + (-8 : Int32)))] [])) (fun t_ k_ => XS.icmpYes X0.here hx rfl (pc0 := 63) (pc' := 73) rfl (hb hby d4_63) rfl (tlt hc63).1 (by decide) (by decide) k_) ?_
            refine own_st (S' := s₁.setTop (mkF m 74 #[.val (.int ((((x1.toUInt32 >>> ((16 : Int32) &&& 31).toUInt32).toInt32).toUInt32 >>> ((8 : Int32) &&& 31).toUInt32).toInt32)), .val (.int (((31 : Int32) + (-16 : Int32)) + (-8 : Int32)))] [(.int (((31 : Int32) + (-16 : Int32)) + (-8 : Int32)))])) (fun t_ k_ => XS.iloadN X0.here hx rfl (hb hby d4_73) rfl k_) ?_
            refine own_st (S' := s₁.setTop (mkF m 75 #[.val (.int ((((x1.toUInt32 >>> ((16 : Int32) &&& 31).toUInt32).toInt32).toUInt32 >>> ((8 : Int32) &&& 31).toUInt32).toInt32)), .val (.int (((31 : Int32) + (-16 : Int32)) + (-8 : Int32)))] [(.int ((((x1.toUInt32 >>> ((16 : Int32) &&& 31).toUInt32).toInt32).toUInt32 >>> ((8 : Int32) &&& 31).toUInt32).toInt32)), (.int (((31 : Int32) + (-16 : Int32)) + (-8 : Int32)))])) (fun t_ k_ => XS.iloadN X0.here hx rfl (hb hby d4_74) rfl k_) ?_
            refine own_st (S' := s₁.setTop (mkF m 76 #[.val (.int ((((x1.toUInt32 >>> ((16 : Int32) &&& 31).toUInt32).toInt32).toUInt32 >>> ((8 : Int32) &&& 31).toUInt32).toInt32)), .val (.int (((31 : Int32) + (-16 : Int32)) + (-8 : Int32)))] [(.int (1 : Int32)), (.int ((((x1.toUInt32 >>> ((16 : Int32) &&& 31).toUInt32).toInt32).toUInt32 >>> ((8 : Int32) &&& 31).toUInt32).toInt32)), (.int (((31 : Int32) + (-16 : Int32)) + (-8 : Int32)))])) (fun t_ k_ => XS.iconst X0.here hx rfl (hb hby d4_75) k_) ?_
            refine own_st (S' := s₁.setTop (mkF m 77 #[.val (.int ((((x1.toUInt32 >>> ((16 : Int32) &&& 31).toUInt32).toInt32).toUInt32 >>> ((8 : Int32) &&& 31).toUInt32).toInt32)), .val (.int (((31 : Int32) + (-16 : Int32)) + (-8 : Int32)))] [(.int ((((((x1.toUInt32 >>> ((16 : Int32) &&& 31).toUInt32).toInt32).toUInt32 >>> ((8 : Int32) &&& 31).toUInt32).toInt32).toUInt32 >>> ((1 : Int32) &&& 31).toUInt32).toInt32)), (.int (((31 : Int32) + (-16 : Int32)) + (-8 : Int32)))])) (fun t_ k_ => XS.iushr X0.here hx rfl (hb hby d4_76) rfl k_) ?_
            refine own_st (S' := s₁.setTop (mkF m 78 #[.val (.int ((((x1.toUInt32 >>> ((16 : Int32) &&& 31).toUInt32).toInt32).toUInt32 >>> ((8 : Int32) &&& 31).toUInt32).toInt32)), .val (.int (((31 : Int32) + (-16 : Int32)) + (-8 : Int32)))] [(.int ((((31 : Int32) + (-16 : Int32)) + (-8 : Int32)) - ((((((x1.toUInt32 >>> ((16 : Int32) &&& 31).toUInt32).toInt32).toUInt32 >>> ((8 : Int32) &&& 31).toUInt32).toInt32).toUInt32 >>> ((1 : Int32) &&& 31).toUInt32).toInt32)))])) (fun t_ k_ => XS.isub X0.here hx rfl (hb hby d4_77) rfl k_) ?_
            obtain ⟨fs, hr, hrun, hended, hW, hsame⟩ := X0.leave (v := some (.int ((((31 : Int32) + (-16 : Int32)) + (-8 : Int32)) - ((((((x1.toUInt32 >>> ((16 : Int32) &&& 31).toUInt32).toInt32).toUInt32 >>> ((8 : Int32) &&& 31).toUInt32).toInt32).toUInt32 >>> ((1 : Int32) &&& 31).toUInt32).toInt32)))) (fun h => by rw [Bd.returns] at h; cases h)
            refine ⟨_, _, retI X0 hx Bd.returns (hb hby d4_78) hr, hrun, hended, _, _, rfl, ?_, ⟨_, rfl⟩, hW, hsame.mono (by decide) (by decide)⟩
            show Q4 Z x1 h0 n0 _ s₁.heap _
            rw [e0]
            exact ⟨(congrArg (fun z => some (Value.int z)) (show ((((31 : Int32) + (-16 : Int32)) + (-8 : Int32)) - ((((((x1.toUInt32 >>> ((16 : Int32) &&& 31).toUInt32).toInt32).toUInt32 >>> ((8 : Int32) &&& 31).toUInt32).toInt32).toUInt32 >>> ((1 : Int32) &&& 31).toUInt32).toInt32)) = (own_nlz x1) from by simp only [own_nlz, own_n1, own_n2, own_n3, own_n4, hc1, hc22, hc37, hc51, hc63, if_true, if_false])), N0, rfl⟩
          · refine own_st (S' := s₁.setTop (mkF m 66 #[.val (.int ((((x1.toUInt32 >>> ((16 : Int32) &&& 31).toUInt32).toInt32).toUInt32 >>> ((8 : Int32) &&& 31).toUInt32).toInt32)), .val (.int (((31 : Int32) + (-16 : Int32)) + (-8 : Int32)))] [])) (fun t_ k_ => XS.icmpNo X0.here hx rfl (hb hby d4_63) rfl (flt hc63).1 k_) ?_
            refine own_st (S' := s₁.setTop (mkF m 69 #[.val (.int ((((x1.toUInt32 >>> ((16 : Int32) &&& 31).toUInt32).toInt32).toUInt32 >>> ((8 : Int32) &&& 31).toUInt32).toInt32)), .val (.int ((((31 : Int32) + (-16 : Int32)) + (-8 : Int32)) + (-2 : Int32)))] [])) (fun t_ k_ => XS.iinc X0.here hx rfl (hb hby d4_66) rfl (l' := #[.val (.int ((((x1.toUInt32 >>> ((16 : Int32) &&& 31).toUInt32).toInt32).toUInt32 >>> ((8 : Int32) &&& 31).toUInt32).toInt32)), .val (.int ((((31 : Int32) + (-16 : Int32)) + (-8 : Int32)) + (-2 : Int32)))]) rfl k_) ?_
            refine own_st (S' := s₁.setTop (mkF m 70 #[.val (.int ((((x1.toUInt32 >>> ((16 : Int32) &&& 31).toUInt32).toInt32).toUInt32 >>> ((8 : Int32) &&& 31).toUInt32).toInt32)), .val (.int ((((31 : Int32) + (-16 : Int32)) + (-8 : Int32)) + (-2 : Int32)))] [(.int ((((x1.toUInt32 >>> ((16 : Int32) &&& 31).toUInt32).toInt32).toUInt32 >>> ((8 : Int32) &&& 31).toUInt32).toInt32))])) (fun t_ k_ => XS.iloadN X0.here hx rfl (hb hby d4_69) rfl k_) ?_
            refine own_st (S' := s₁.setTop (mkF m 71 #[.val (.int ((((x1.toUInt32 >>> ((16 : Int32) &&& 31).toUInt32).toInt32).toUInt32 >>> ((8 : Int32) &&& 31).toUInt32).toInt32)), .val (.int ((((31 : Int32) + (-16 : Int32)) + (-8 : Int32)) + (-2 : Int32)))] [(.int (2 : Int32)), (.int ((((x1.toUInt32 >>> ((16 : Int32) &&& 31).toUInt32).toInt32).toUInt32 >>> ((8 : Int32) &&& 31).toUInt32).toInt32))])) (fun t_ k_ => XS.iconst X0.here hx rfl (hb hby d4_70) k_) ?_
            refine own_st (S' := s₁.setTop (mkF m 72 #[.val (.int ((((x1.toUInt32 >>> ((16 : Int32) &&& 31).toUInt32).toInt32).toUInt32 >>> ((8 : Int32) &&& 31).toUInt32).toInt32)), .val (.int ((((31 : Int32) + (-16 : Int32)) + (-8 : Int32)) + (-2 : Int32)))] [(.int ((((((x1.toUInt32 >>> ((16 : Int32) &&& 31).toUInt32).toInt32).toUInt32 >>> ((8 : Int32) &&& 31).toUInt32).toInt32).toUInt32 >>> ((2 : Int32) &&& 31).toUInt32).toInt32))])) (fun t_ k_ => XS.iushr X0.here hx rfl (hb hby d4_71) rfl k_) ?_
            refine own_st (S' := s₁.setTop (mkF m 73 #[.val (.int ((((((x1.toUInt32 >>> ((16 : Int32) &&& 31).toUInt32).toInt32).toUInt32 >>> ((8 : Int32) &&& 31).toUInt32).toInt32).toUInt32 >>> ((2 : Int32) &&& 31).toUInt32).toInt32)), .val (.int ((((31 : Int32) + (-16 : Int32)) + (-8 : Int32)) + (-2 : Int32)))] [])) (fun t_ k_ => XS.istoreN X0.here hx rfl (hb hby d4_72) rfl (l' := #[.val (.int ((((((x1.toUInt32 >>> ((16 : Int32) &&& 31).toUInt32).toInt32).toUInt32 >>> ((8 : Int32) &&& 31).toUInt32).toInt32).toUInt32 >>> ((2 : Int32) &&& 31).toUInt32).toInt32)), .val (.int ((((31 : Int32) + (-16 : Int32)) + (-8 : Int32)) + (-2 : Int32)))]) rfl k_) ?_
            refine own_st (S' := s₁.setTop (mkF m 74 #[.val (.int ((((((x1.toUInt32 >>> ((16 : Int32) &&& 31).toUInt32).toInt32).toUInt32 >>> ((8 : Int32) &&& 31).toUInt32).toInt32).toUInt32 >>> ((2 : Int32) &&& 31).toUInt32).toInt32)), .val (.int ((((31 : Int32) + (-16 : Int32)) + (-8 : Int32)) + (-2 : Int32)))] [(.int ((((31 : Int32) + (-16 : Int32)) + (-8 : Int32)) + (-2 : Int32)))])) (fun t_ k_ => XS.iloadN X0.here hx rfl (hb hby d4_73) rfl k_) ?_
            refine own_st (S' := s₁.setTop (mkF m 75 #[.val (.int ((((((x1.toUInt32 >>> ((16 : Int32) &&& 31).toUInt32).toInt32).toUInt32 >>> ((8 : Int32) &&& 31).toUInt32).toInt32).toUInt32 >>> ((2 : Int32) &&& 31).toUInt32).toInt32)), .val (.int ((((31 : Int32) + (-16 : Int32)) + (-8 : Int32)) + (-2 : Int32)))] [(.int ((((((x1.toUInt32 >>> ((16 : Int32) &&& 31).toUInt32).toInt32).toUInt32 >>> ((8 : Int32) &&& 31).toUInt32).toInt32).toUInt32 >>> ((2 : Int32) &&& 31).toUInt32).toInt32)), (.int ((((31 : Int32) + (-16 : Int32)) + (-8 : Int32)) + (-2 : Int32)))])) (fun t_ k_ => XS.iloadN X0.here hx rfl (hb hby d4_74) rfl k_) ?_
            refine own_st (S' := s₁.setTop (mkF m 76 #[.val (.int ((((((x1.toUInt32 >>> ((16 : Int32) &&& 31).toUInt32).toInt32).toUInt32 >>> ((8 : Int32) &&& 31).toUInt32).toInt32).toUInt32 >>> ((2 : Int32) &&& 31).toUInt32).toInt32)), .val (.int ((((31 : Int32) + (-16 : Int32)) + (-8 : Int32)) + (-2 : Int32)))] [(.int (1 : Int32)), (.int ((((((x1.toUInt32 >>> ((16 : Int32) &&& 31).toUInt32).toInt32).toUInt32 >>> ((8 : Int32) &&& 31).toUInt32).toInt32).toUInt32 >>> ((2 : Int32) &&& 31).toUInt32).toInt32)), (.int ((((31 : Int32) + (-16 : Int32)) + (-8 : Int32)) + (-2 : Int32)))])) (fun t_ k_ => XS.iconst X0.here hx rfl (hb hby d4_75) k_) ?_
            refine own_st (S' := s₁.setTop (mkF m 77 #[.val (.int ((((((x1.toUInt32 >>> ((16 : Int32) &&& 31).toUInt32).toInt32).toUInt32 >>> ((8 : Int32) &&& 31).toUInt32).toInt32).toUInt32 >>> ((2 : Int32) &&& 31).toUInt32).toInt32)), .val (.int ((((31 : Int32) + (-16 : Int32)) + (-8 : Int32)) + (-2 : Int32)))] [(.int ((((((((x1.toUInt32 >>> ((16 : Int32) &&& 31).toUInt32).toInt32).toUInt32 >>> ((8 : Int32) &&& 31).toUInt32).toInt32).toUInt32 >>> ((2 : Int32) &&& 31).toUInt32).toInt32).toUInt32 >>> ((1 : Int32) &&& 31).toUInt32).toInt32)), (.int ((((31 : Int32) + (-16 : Int32)) + (-8 : Int32)) + (-2 : Int32)))])) (fun t_ k_ => XS.iushr X0.here hx rfl (hb hby d4_76) rfl k_) ?_
            refine own_st (S' := s₁.setTop (mkF m 78 #[.val (.int ((((((x1.toUInt32 >>> ((16 : Int32) &&& 31).toUInt32).toInt32).toUInt32 >>> ((8 : Int32) &&& 31).toUInt32).toInt32).toUInt32 >>> ((2 : Int32) &&& 31).toUInt32).toInt32)), .val (.int ((((31 : Int32) + (-16 : Int32)) + (-8 : Int32)) + (-2 : Int32)))] [(.int (((((31 : Int32) + (-16 : Int32)) + (-8 : Int32)) + (-2 : Int32)) - ((((((((x1.toUInt32 >>> ((16 : Int32) &&& 31).toUInt32).toInt32).toUInt32 >>> ((8 : Int32) &&& 31).toUInt32).toInt32).toUInt32 >>> ((2 : Int32) &&& 31).toUInt32).toInt32).toUInt32 >>> ((1 : Int32) &&& 31).toUInt32).toInt32)))])) (fun t_ k_ => XS.isub X0.here hx rfl (hb hby d4_77) rfl k_) ?_
            obtain ⟨fs, hr, hrun, hended, hW, hsame⟩ := X0.leave (v := some (.int (((((31 : Int32) + (-16 : Int32)) + (-8 : Int32)) + (-2 : Int32)) - ((((((((x1.toUInt32 >>> ((16 : Int32) &&& 31).toUInt32).toInt32).toUInt32 >>> ((8 : Int32) &&& 31).toUInt32).toInt32).toUInt32 >>> ((2 : Int32) &&& 31).toUInt32).toInt32).toUInt32 >>> ((1 : Int32) &&& 31).toUInt32).toInt32)))) (fun h => by rw [Bd.returns] at h; cases h)
            refine ⟨_, _, retI X0 hx Bd.returns (hb hby d4_78) hr, hrun, hended, _, _, rfl, ?_, ⟨_, rfl⟩, hW, hsame.mono (by decide) (by decide)⟩
            show Q4 Z x1 h0 n0 _ s₁.heap _
            rw [e0]
            exact ⟨(congrArg (fun z => some (Value.int z)) (show (((((31 : Int32) + (-16 : Int32)) + (-8 : Int32)) + (-2 : Int32)) - ((((((((x1.toUInt32 >>> ((16 : Int32) &&& 31).toUInt32).toInt32).toUInt32 >>> ((8 : Int32) &&& 31).toUInt32).toInt32).toUInt32 >>> ((2 : Int32) &&& 31).toUInt32).toInt32).toUInt32 >>> ((1 : Int32) &&& 31).toUInt32).toInt32)) = (own_nlz x1) from by simp only [own_nlz, own_n1, own_n2, own_n3, own_n4, hc1, hc22, hc37, hc51, hc63, if_true, if_false])), N0, rfl⟩
        · refine own_st (S' := s₁.setTop (mkF m 54 #[.val (.int ((((x1.toUInt32 >>> ((16 : Int32) &&& 31).toUInt32).toInt32).toUInt32 >>> ((8 : Int32) &&& 31).toUInt32).toInt32)), .val (.int (((31 : Int32) + (-16 : Int32)) + (-8 : Int32)))] [])) (fun t_ k_ => XS.icmpNo X0.here hx rfl (hb hby d4_51) rfl (flt hc51).1 k_) ?_
          refine own_st (S' := s₁.setTop (mkF m 57 #[.val (.int ((((x1.toUInt32 >>> ((16 : Int32) &&& 31).toUInt32).toInt32).toUInt32 >>> ((8 : Int32) &&& 31).toUInt32).toInt32)), .val (.int ((((31 : Int32) + (-16 : Int32)) + (-8 : Int32)) + (-4 : Int32)))] [])) (fun t_ k_ => XS.iinc X0.here hx rfl (hb hby d4_54) rfl (l' := #[.val (.int ((((x1.toUInt32 >>> ((16 : Int32) &&& 31).toUInt32).toInt32).toUInt32 >>> ((8 : Int32) &&& 31).toUInt32).toInt32)), .val (.int ((((31 : Int32) + (-16 : Int32)) + (-8 : Int32)) + (-4 : Int32)))]) rfl k_) ?_
          refine own_st (S' := s₁.setTop (mkF m 58 #[.val (.int ((((x1.toUInt32 >>> ((16 : Int32) &&& 31).toUInt32).toInt32).toUInt32 >>> ((8 : Int32) &&& 31).toUInt32).toInt32)), .val (.int ((((31 : Int32) + (-16 : Int32)) + (-8 : Int32)) + (-4 : Int32)))] [(.int ((((x1.toUInt32 >>> ((16 : Int32) &&& 31).toUInt32).toInt32).toUInt32 >>> ((8 : Int32) &&& 31).toUInt32).toInt32))])) (fun t_ k_ => XS.iloadN X0.here hx rfl (hb hby d4_57) rfl k_) ?_
          refine own_st (S' := s₁.setTop (mkF m 59 #[.val (.int ((((x1.toUInt32 >>> ((16 : Int32) &&& 31).toUInt32).toInt32).toUInt32 >>> ((8 : Int32) &&& 31).toUInt32).toInt32)), .val (.int ((((31 : Int32) + (-16 : Int32)) + (-8 : Int32)) + (-4 : Int32)))] [(.int (4 : Int32)), (.int ((((x1.toUInt32 >>> ((16 : Int32) &&& 31).toUInt32).toInt32).toUInt32 >>> ((8 : Int32) &&& 31).toUInt32).toInt32))])) (fun t_ k_ => XS.iconst X0.here hx rfl (hb hby d4_58) k_) ?_
          refine own_st (S' := s₁.setTop (mkF m 60 #[.val (.int ((((x1.toUInt32 >>> ((16 : Int32) &&& 31).toUInt32).toInt32).toUInt32 >>> ((8 : Int32) &&& 31).toUInt32).toInt32)), .val (.int ((((31 : Int32) + (-16 : Int32)) + (-8 : Int32)) + (-4 : Int32)))] [(.int ((((((x1.toUInt32 >>> ((16 : Int32) &&& 31).toUInt32).toInt32).toUInt32 >>> ((8 : Int32) &&& 31).toUInt32).toInt32).toUInt32 >>> ((4 : Int32) &&& 31).toUInt32).toInt32))])) (fun t_ k_ => XS.iushr X0.here hx rfl (hb hby d4_59) rfl k_) ?_
          refine own_st (S' := s₁.setTop (mkF m 61 #[.val (.int ((((((x1.toUInt32 >>> ((16 : Int32) &&& 31).toUInt32).toInt32).toUInt32 >>> ((8 : Int32) &&& 31).toUInt32).toInt32).toUInt32 >>> ((4 : Int32) &&& 31).toUInt32).toInt32)), .val (.int ((((31 : Int32) + (-16 : Int32)) + (-8 : Int32)) + (-4 : Int32)))] [])) (fun t_ k_ => XS.istoreN X0.here hx rfl (hb hby d4_60) rfl (l' := #[.val (.int ((((((x1.toUInt32 >>> ((16 : Int32) &&& 31).toUInt32).toInt32).toUInt32 >>> ((8 : Int32) &&& 31).toUInt32).toInt32).toUInt32 >>> ((4 : Int32) &&& 31).toUInt32).toInt32)), .val (.int ((((31 : Int32) + (-16 : Int32)) + (-8 : Int32)) + (-4 : Int32)))]) rfl k_) ?_
          refine own_st (S' := s₁.setTop (mkF m 62 #[.val (.int ((((((x1.toUInt32 >>> ((16 : Int32) &&& 31).toUInt32).toInt32).toUInt32 >>> ((8 : Int32) &&& 31).toUInt32).toInt32).toUInt32 >>> ((4 : Int32) &&& 31).toUInt32).toInt32)), .val (.int ((((31 : Int32) + (-16 : Int32)) + (-8 : Int32)) + (-4 : Int32)))] [(.int ((((((x1.toUInt32 >>> ((16 : Int32) &&& 31).toUInt32).toInt32).toUInt32 >>> ((8 : Int32) &&& 31).toUInt32).toInt32).toUInt32 >>> ((4 : Int32) &&& 31).toUInt32).toInt32))])) (fun t_ k_ => XS.iloadN X0.here hx rfl (hb hby d4_61) rfl k_) ?_
          refine own_st (S' := s₁.setTop (mkF m 63 #[.val (.int ((((((x1.toUInt32 >>> ((16 : Int32) &&& 31).toUInt32).toInt32).toUInt32 >>> ((8 : Int32) &&& 31).toUInt32).toInt32).toUInt32 >>> ((4 : Int32) &&& 31).toUInt32).toInt32)), .val (.int ((((31 : Int32) + (-16 : Int32)) + (-8 : Int32)) + (-4 : Int32)))] [(.int (4 : Int32)), (.int ((((((x1.toUInt32 >>> ((16 : Int32) &&& 31).toUInt32).toInt32).toUInt32 >>> ((8 : Int32) &&& 31).toUInt32).toInt32).toUInt32 >>> ((4 : Int32) &&& 31).toUInt32).toInt32))])) (fun t_ k_ => XS.iconst X0.here hx rfl (hb hby d4_62) k_) ?_
          by_cases hc63 : ((((((x1.toUInt32 >>> ((16 : Int32) &&& 31).toUInt32).toInt32).toUInt32 >>> ((8 : Int32) &&& 31).toUInt32).toInt32).toUInt32 >>> ((4 : Int32) &&& 31).toUInt32).toInt32) < (4 : Int32)
          · refine own_st (S' := s₁.setTop (mkF m 73 #[.val (.int ((((((x1.toUInt32 >>> ((16 : Int32) &&& 31).toUInt32).toInt32).toUInt32 >>> ((8 : Int32) &&& 31).toUInt32).toInt32).toUInt32 >>> ((4 : Int32) &&& 31).toUInt32).toInt32)), .val (.int ((((31 : Int32) + (-16 : Int32)) + (-8 : Int32)) + (-4 : Int32)))] [])) (fun t_ k_ => XS.icmpYes X0.here hx rfl (pc0 := 63) (pc' := 73) rfl (hb hby d4_63) rfl (tlt hc63).1 (by decide) (by decide) k_) ?_
            refine own_st (S' := s₁.setTop (mkF m 74 #[.val (.int ((((((x1.toUInt32 >>> ((16 : Int32) &&& 31).toUInt32).toInt32).toUInt32 >>> ((8 : Int32) &&& 31).toUInt32).toInt32).toUInt32 >>> ((4 : Int32) &&& 31).toUInt32).toInt32)), .val (.int ((((31 : Int32) + (-16 : Int32)) + (-8 : Int32)) + (-4 : Int32)))] [(.int ((((31 : Int32) + (-16 : Int32)) + (-8 : Int32)) + (-4 : Int32)))])) (fun t_ k_ => XS.iloadN X0.here hx rfl (hb hby d4_73) rfl k_) ?_
            refine own_st (S' := s₁.setTop (mkF m 75 #[.val (.int ((((((x1.toUInt32 >>> ((16 : Int32) &&& 31).toUInt32).toInt32).toUInt32 >>> ((8 : Int32) &&& 31).toUInt32).toInt32).toUInt32 >>> ((4 : Int32) &&& 31).toUInt32).toInt32)), .val (.int ((((31 : Int32) + (-16 : Int32)) + (-8 : Int32)) + (-4 : Int32)))] [(.int ((((((x1.toUInt32 >>> ((16 : Int32) &&& 31).toUInt32).toInt32).toUInt32 >>> ((8 : Int32) &&& 31).toUInt32).toInt32).toUInt32 >>> ((4 : Int32) &&& 31).toUInt32).toInt32)), (.int ((((31 : Int32) + (-16 : Int32)) + (-8 : Int32)) + (-4 : Int32)))])) (fun t_ k_ => XS.iloadN X0.here hx rfl (hb hby d4_74) rfl k_) ?_
            refine own_st (S' := s₁.setTop (mkF m 76 #[.val (.int ((((((x1.toUInt32 >>> ((16 : Int32) &&& 31).toUInt32).toInt32).toUInt32 >>> ((8 : Int32) &&& 31).toUInt32).toInt32).toUInt32 >>> ((4 : Int32) &&& 31).toUInt32).toInt32)), .val (.int ((((31 : Int32) + (-16 : Int32)) + (-8 : Int32)) + (-4 : Int32)))] [(.int (1 : Int32)), (.int ((((((x1.toUInt32 >>> ((16 : Int32) &&& 31).toUInt32).toInt32).toUInt32 >>> ((8 : Int32) &&& 31).toUInt32).toInt32).toUInt32 >>> ((4 : Int32) &&& 31).toUInt32).toInt32)), (.int ((((31 : Int32) + (-16 : Int32)) + (-8 : Int32)) + (-4 : Int32)))])) (fun t_ k_ => XS.iconst X0.here hx rfl (hb hby d4_75) k_) ?_
            refine own_st (S' := s₁.setTop (mkF m 77 #[.val (.int ((((((x1.toUInt32 >>> ((16 : Int32) &&& 31).toUInt32).toInt32).toUInt32 >>> ((8 : Int32) &&& 31).toUInt32).toInt32).toUInt32 >>> ((4 : Int32) &&& 31).toUInt32).toInt32)), .val (.int ((((31 : Int32) + (-16 : Int32)) + (-8 : Int32)) + (-4 : Int32)))] [(.int ((((((((x1.toUInt32 >>> ((16 : Int32) &&& 31).toUInt32).toInt32).toUInt32 >>> ((8 : Int32) &&& 31).toUInt32).toInt32).toUInt32 >>> ((4 : Int32) &&& 31).toUInt32).toInt32).toUInt32 >>> ((1 : Int32) &&& 31).toUInt32).toInt32)), (.int ((((31 : Int32) + (-16 : Int32)) + (-8 : Int32)) + (-4 : Int32)))])) (fun t_ k_ => XS.iushr X0.here hx rfl (hb hby d4_76) rfl k_) ?_
            refine own_st (S' := s₁.setTop (mkF m 78 #[.val (.int ((((((x1.toUInt32 >>> ((16 : Int32) &&& 31).toUInt32).toInt32).toUInt32 >>> ((8 : Int32) &&& 31).toUInt32).toInt32).toUInt32 >>> ((4 : Int32) &&& 31).toUInt32).toInt32)), .val (.int ((((31 : Int32) + (-16 : Int32)) + (-8 : Int32)) + (-4 : Int32)))] [(.int (((((31 : Int32) + (-16 : Int32)) + (-8 : Int32)) + (-4 : Int32)) - ((((((((x1.toUInt32 >>> ((16 : Int32) &&& 31).toUInt32).toInt32).toUInt32 >>> ((8 : Int32) &&& 31).toUInt32).toInt32).toUInt32 >>> ((4 : Int32) &&& 31).toUInt32).toInt32).toUInt32 >>> ((1 : Int32) &&& 31).toUInt32).toInt32)))])) (fun t_ k_ => XS.isub X0.here hx rfl (hb hby d4_77) rfl k_) ?_
            obtain ⟨fs, hr, hrun, hended, hW, hsame⟩ := X0.leave (v := some (.int (((((31 : Int32) + (-16 : Int32)) + (-8 : Int32)) + (-4 : Int32)) - ((((((((x1.toUInt32 >>> ((16 : Int32) &&& 31).toUInt32).toInt32).toUInt32 >>> ((8 : Int32) &&& 31).toUInt32).toInt32).toUInt32 >>> ((4 : Int32) &&& 31).toUInt32).toInt32).toUInt32 >>> ((1 : Int32) &&& 31).toUInt32).toInt32)))) (fun h => by rw [Bd.returns] at h; cases h)
            refine ⟨_, _, retI X0 hx Bd.returns (hb hby d4_78) hr, hrun, hended, _, _, rfl, ?_, ⟨_, rfl⟩, hW, hsame.mono (by decide) (by decide)⟩
            show Q4 Z x1 h0 n0 _ s₁.heap _
            rw [e0]
            exact ⟨(congrArg (fun z => some (Value.int z)) (show (((((31 : Int32) + (-16 : Int32)) + (-8 : Int32)) + (-4 : Int32)) - ((((((((x1.toUInt32 >>> ((16 : Int32) &&& 31).toUInt32).toInt32).toUInt32 >>> ((8 : Int32) &&& 31).toUInt32).toInt32).toUInt32 >>> ((4 : Int32) &&& 31).toUInt32).toInt32).toUInt32 >>> ((1 : Int32) &&& 31).toUInt32).toInt32)) = (own_nlz x1) from by simp only [own_nlz, own_n1, own_n2, own_n3, own_n4, hc1, hc22, hc37, hc51, hc63, if_true, if_false])), N0, rfl⟩
          · refine own_st (S' := s₁.setTop (mkF m 66 #[.val (.int ((((((x1.toUInt32 >>> ((16 : Int32) &&& 31).toUInt32).toInt32).toUInt32 >>> ((8 : Int32) &&& 31).toUInt32).toInt32).toUInt32 >>> ((4 : Int32) &&& 31).toUInt32).toInt32)), .val (.int ((((31 : Int32) + (-16 : Int32)) + (-8 : Int32)) + (-4 : Int32)))] [])) (fun t_ k_ => XS.icmpNo X0.here hx rfl (hb hby d4_63) rfl (flt hc63).1 k_) ?_
            refine own_st (S' := s₁.setTop (mkF m 69 #[.val (.int ((((((x1.toUInt32 >>> ((16 : Int32) &&& 31).toUInt32).toInt32).toUInt32 >>> ((8 : Int32) &&& 31).toUInt32).toInt32).toUInt32 >>> ((4 : Int32) &&& 31).toUInt32).toInt32)), .val (.int (((((31 : Int32) + (-16 : Int32)) + (-8 : Int32)) + (-4 : Int32)) + (-2 : Int32)))] [])) (fun t_ k_ => XS.iinc X0.here hx rfl (hb hby d4_66) rfl (l' := #[.val (.int ((((((x1.toUInt32 >>> ((16 : Int32) &&& 31).toUInt32).toInt32).toUInt32 >>> ((8 : Int32) &&& 31).toUInt32).toInt32).toUInt32 >>> ((4 : Int32) &&& 31).toUInt32).toInt32)), .val (.int (((((31 : Int32) + (-16 : Int32)) + (-8 : Int32)) + (-4 : Int32)) + (-2 : Int32)))]) rfl k_) ?_
            refine own_st (S' := s₁.setTop (mkF m 70 #[.val (.int ((((((x1.toUInt32 >>> ((16 : Int32) &&& 31).toUInt32).toInt32).toUInt32 >>> ((8 : Int32) &&& 31).toUInt32).toInt32).toUInt32 >>> ((4 : Int32) &&& 31).toUInt32).toInt32)), .val (.int (((((31 : Int32) + (-16 : Int32)) + (-8 : Int32)) + (-4 : Int32)) + (-2 : Int32)))] [(.int ((((((x1.toUInt32 >>> ((16 : Int32) &&& 31).toUInt32).toInt32).toUInt32 >>> ((8 : Int32) &&& 31).toUInt32).toInt32).toUInt32 >>> ((4 : Int32) &&& 31).toUInt32).toInt32))])) (fun t_ k_ => XS.iloadN X0.here hx rfl (hb hby d4_69) rfl k_) ?_
            refine own_st (S' := s₁.setTop (mkF m 71 #[.val (.int ((((((x1.toUInt32 >>> ((16 : Int32) &&& 31).toUInt32).toInt32).toUInt32 >>> ((8 : Int32) &&& 31).toUInt32).toInt32).toUInt32 >>> ((4 : Int32) &&& 31).toUInt32).toInt32)), .val (.int (((((31 : Int32) + (-16 : Int32)) + (-8 : Int32)) + (-4 : Int32)) + (-2 : Int32)))] [(.int (2 : Int32)), (.int ((((((x1.toUInt32 >>> ((16 : Int32) &&& 31).toUInt32).toInt32).toUInt32 >>> ((8 : Int32) &&& 31).toUInt32).toInt32).toUInt32 >>> ((4 : Int32) &&& 31).toUInt32).toInt32))])) (fun t_ k_ => XS.iconst X0.here hx rfl (hb hby d4_70) k_) ?_
            refine own_st (S' := s₁.setTop (mkF m 72 #[.val (.int ((((((x1.toUInt32 >>> ((16 : Int32) &&& 31).toUInt32).toInt32).toUInt32 >>> ((8 : Int32) &&& 31).toUInt32).toInt32).toUInt32 >>> ((4 : Int32) &&& 31).toUInt32).toInt32)), .val (.int (((((31 : Int32) + (-16 : Int32)) + (-8 : Int32)) + (-4 : Int32)) + (-2 : Int32)))] [(.int ((((((((x1.toUInt32 >>> ((16 : Int32) &&& 31).toUInt32).toInt32).toUInt32 >>> ((8 : Int32) &&& 31).toUInt32).toInt32).toUInt32 >>> ((4 : Int32) &&& 31).toUInt32).toInt32).toUInt32 >>> ((2 : Int32) &&& 31).toUInt32).toInt32))])) (fun t_ k_ => XS.iushr X0.here hx rfl (hb hby d4_71) rfl k_) ?_
            refine own_st (S' := s₁.setTop (mkF m 73 #[.val (.int ((((((((x1.toUInt32 >>> ((16 : Int32) &&& 31).toUInt32).toInt32).toUInt32 >>> ((8 : Int32) &&& 31).toUInt32).toInt32).toUInt32 >>> ((4 : Int32) &&& 31).toUInt32).toInt32).toUInt32 >>> ((2 : Int32) &&& 31).toUInt32).toInt32)), .val (.int (((((31 : Int32) + (-16 : Int32)) + (-8 : Int32)) + (-4 : Int32)) + (-2 : Int32)))] [])) (fun t_ k_ => XS.istoreN X0.here hx rfl (hb hby d4_72) rfl (l' := #[.val (.int ((((((((x1.toUInt32 >>> ((16 : Int32) &&& 31).toUInt32).toInt32).toUInt32 >>> ((8 : Int32) &&& 31).toUInt32).toInt32).toUInt32 >>> ((4 : Int32) &&& 31).toUInt32).toInt32).toUInt32 >>> ((2 : Int32) &&& 31).toUInt32).toInt32)), .val (.int (((((31 : Int32) + (-16 : Int32)) + (-8 : Int32)) + (-4 : Int32)) + (-2 : Int32)))]) rfl k_) ?_
            refine own_st (S' := s₁.setTop (mkF m 74 #[.val (.int ((((((((x1.toUInt32 >>> ((16 : Int32) &&& 31).toUInt32).toInt32).toUInt32 >>> ((8 : Int32) &&& 31).toUInt32).toInt32).toUInt32 >>> ((4 : Int32) &&& 31).toUInt32).toInt32).toUInt32 >>> ((2 : Int32) &&& 31).toUInt32).toInt32)), .val (.int (((((31 : Int32) + (-16 : Int32)) + (-8 : Int32)) + (-4 : Int32)) + (-2 : Int32)))] [(.int (((((31 : Int32) + (-16 : Int32)) + (-8 : Int32)) + (-4 : Int32)) + (-2 : Int32)))])) (fun t_ k_ => XS.iloadN X0.here hx rfl (hb hby d4_73) rfl k_) ?_
            refine own_st (S' := s₁.setTop (mkF m 75 #[.val (.int ((((((((x1.toUInt32 >>> ((16 : Int32) &&& 31).toUInt32).toInt32).toUInt32 >>> ((8 : Int32) &&& 31).toUInt32).toInt32).toUInt32 >>> ((4 : Int32) &&& 31).toUInt32).toInt32).toUInt32 >>> ((2 : Int32) &&& 31).toUInt32).toInt32)), .val (.int (((((31 : Int32) + (-16 : Int32)) + (-8 : Int32)) + (-4 : Int32)) + (-2 : Int32)))] [(.int ((((((((x1.toUInt32 >>> ((16 : Int32) &&& 31).toUInt32).toInt32).toUInt32 >>> ((8 : Int32) &&& 31).toUInt32).toInt32).toUInt32 >>> ((4 : Int32) &&& 31).toUInt32).toInt32).toUInt32 >>> ((2 : Int32) &&& 31).toUInt32).toInt32)), (.int (((((31 : Int32) + (-16 : Int32)) + (-8 : Int32)) + (-4 : Int32)) + (-2 : Int32)))])) (fun t_ k_ => XS.iloadN X0.here hx rfl (hb hby d4_74) rfl k_) ?_
            refine own_st (S' := s₁.setTop (mkF m 76 #[.val (.int ((((((((x1.toUInt32 >>> ((16 : Int32) &&& 31).toUInt32).toInt32).toUInt32 >>> ((8 : Int32) &&& 31).toUInt32).toInt32).toUInt32 >>> ((4 : Int32) &&& 31).toUInt32).toInt32).toUInt32 >>> ((2 : Int32) &&& 31).toUInt32).toInt32)), .val (.int (((((31 : Int32) + (-16 : Int32)) + (-8 : Int32)) + (-4 : Int32)) + (-2 : Int32)))] [(.int (1 : Int32)), (.int ((((((((x1.toUInt32 >>> ((16 : Int32) &&& 31).toUInt32).toInt32).toUInt32 >>> ((8 : Int32) &&& 31).toUInt32).toInt32).toUInt32 >>> ((4 : Int32) &&& 31).toUInt32).toInt32).toUInt32 >>> ((2 : Int32) &&& 31).toUInt32).toInt32)), (.int (((((31 : Int32) + (-16 : Int32)) + (-8 : Int32)) + (-4 : Int32)) + (-2 : Int32)))])) (fun t_ k_ => XS.iconst X0.here hx rfl (hb hby d4_75) k_) ?_
            refine own_st (S' := s₁.setTop (mkF m 77 #[.val (.int ((((((((x1.toUInt32 >>> ((16 : Int32) &&& 31).toUInt32).toInt32).toUInt32 >>> ((8 : Int32) &&& 31).toUInt32).toInt32).toUInt32 >>> ((4 : Int32) &&& 31).toUInt32).toInt32).toUInt32 >>> ((2 : Int32) &&& 31).toUInt32).toInt32)), .val (.int (((((31 : Int32) + (-16 : Int32)) + (-8 : Int32)) + (-4 : Int32)) + (-2 : Int32)))] [(.int ((((((((((x1.toUInt32 >>> ((16 : Int32) &&& 31).toUInt32).toInt32).toUInt32 >>> ((8 : Int32) &&& 31).toUInt32).toInt32).toUInt32 >>> ((4 : Int32) &&& 31).toUInt32).toInt32).toUInt32 >>> ((2 : Int32) &&& 31).toUInt32).toInt32).toUInt32 >>> ((1 : Int32) &&& 31).toUInt32).toInt32)), (.int (((((31 : Int32) + (-16 : Int32)) + (-8 : Int32)) + (-4 : Int32)) + (-2 : Int32)))])) (fun t_ k_ => XS.iushr X0.here hx rfl (hb hby d4_76) rfl k_) ?_
            refine own_st (S' := s₁.setTop (mkF m 78 #[.val (.int ((((((((x1.toUInt32 >>> ((16 : Int32) &&& 31).toUInt32).toInt32).toUInt32 >>> ((8 : Int32) &&& 31).toUInt32).toInt32).toUInt32 >>> ((4 : Int32) &&& 31).toUInt32).toInt32).toUInt32 >>> ((2 : Int32) &&& 31).toUInt32).toInt32)), .val (.int (((((31 : Int32) + (-16 : Int32)) + (-8 : Int32)) + (-4 : Int32)) + (-2 : Int32)))] [(.int ((((((31 : Int32) + (-16 : Int32)) + (-8 : Int32)) + (-4 : Int32)) + (-2 : Int32)) - ((((((((((x1.toUInt32 >>> ((16 : Int32) &&& 31).toUInt32).toInt32).toUInt32 >>> ((8 : Int32) &&& 31).toUInt32).toInt32).toUInt32 >>> ((4 : Int32) &&& 31).toUInt32).toInt32).toUInt32 >>> ((2 : Int32) &&& 31).toUInt32).toInt32).toUInt32 >>> ((1 : Int32) &&& 31).toUInt32).toInt32)))])) (fun t_ k_ => XS.isub X0.here hx rfl (hb hby d4_77) rfl k_) ?_
            obtain ⟨fs, hr, hrun, hended, hW, hsame⟩ := X0.leave (v := some (.int ((((((31 : Int32) + (-16 : Int32)) + (-8 : Int32)) + (-4 : Int32)) + (-2 : Int32)) - ((((((((((x1.toUInt32 >>> ((16 : Int32) &&& 31).toUInt32).toInt32).toUInt32 >>> ((8 : Int32) &&& 31).toUInt32).toInt32).toUInt32 >>> ((4 : Int32) &&& 31).toUInt32).toInt32).toUInt32 >>> ((2 : Int32) &&& 31).toUInt32).toInt32).toUInt32 >>> ((1 : Int32) &&& 31).toUInt32).toInt32)))) (fun h => by rw [Bd.returns] at h; cases h)
            refine ⟨_, _, retI X0 hx Bd.returns (hb hby d4_78) hr, hrun, hended, _, _, rfl, ?_, ⟨_, rfl⟩, hW, hsame.mono (by decide) (by decide)⟩
            show Q4 Z x1 h0 n0 _ s₁.heap _
            rw [e0]
            exact ⟨(congrArg (fun z => some (Value.int z)) (show ((((((31 : Int32) + (-16 : Int32)) + (-8 : Int32)) + (-4 : Int32)) + (-2 : Int32)) - ((((((((((x1.toUInt32 >>> ((16 : Int32) &&& 31).toUInt32).toInt32).toUInt32 >>> ((8 : Int32) &&& 31).toUInt32).toInt32).toUInt32 >>> ((4 : Int32) &&& 31).toUInt32).toInt32).toUInt32 >>> ((2 : Int32) &&& 31).toUInt32).toInt32).toUInt32 >>> ((1 : Int32) &&& 31).toUInt32).toInt32)) = (own_nlz x1) from by simp only [own_nlz, own_n1, own_n2, own_n3, own_n4, hc1, hc22, hc37, hc51, hc63, if_true, if_false])), N0, rfl⟩
  · refine own_st (S' := s₁.setTop (mkF m 4 #[.val (.int x1), .unset] [])) (fun t_ k_ => XS.ifNo X0.here hx rfl (hb hby d4_1) rfl ((if0 _ _).trans (flt hc1).2.2.1) k_) ?_
    refine own_st (S' := s₁.setTop (mkF m 5 #[.val (.int x1), .unset] [(.int x1)])) (fun t_ k_ => XS.iloadN X0.here hx rfl (hb hby d4_4) rfl k_) ?_
    by_cases hc5 : x1 = (0 : Int32)
    · refine own_st (S' := s₁.setTop (mkF m 8 #[.val (.int x1), .unset] [])) (fun t_ k_ => XS.ifNo X0.here hx rfl (hb hby d4_5) rfl ((if0 _ _).trans (teq hc5).2) k_) ?_
      refine own_st (S' := s₁.setTop (mkF m 10 #[.val (.int x1), .unset] [(.int (32 : Int32))])) (fun t_ k_ => XS.bipush X0.here hx rfl (hb hby d4_8) k_) ?_
      refine own_st (S' := s₁.setTop (mkF m 14 #[.val (.int x1), .unset] [(.int (32 : Int32))])) (fun t_ k_ => XS.goto X0.here hx rfl (pc0 := 10) (pc' := 14) rfl (hb hby d4_10) (by decide) (by decide) k_) ?_
      obtain ⟨fs, hr, hrun, hended, hW, hsame⟩ := X0.leave (v := some (.int (32 : Int32))) (fun h => by rw [Bd.returns] at h; cases h)
      refine ⟨_, _, retI X0 hx Bd.returns (hb hby d4_14) hr, hrun, hended, _, _, rfl, ?_, ⟨_, rfl⟩, hW, hsame.mono (by decide) (by decide)⟩
      show Q4 Z x1 h0 n0 _ s₁.heap _
      rw [e0]
      exact ⟨(congrArg (fun z => some (Value.int z)) (show (32 : Int32) = (own_nlz x1) from by rw [hc5]; decide)), N0, rfl⟩
    · refine own_st (S' := s₁.setTop (mkF m 13 #[.val (.int x1), .unset] [])) (fun t_ k_ => XS.ifYes X0.here hx rfl (pc0 := 5) (pc' := 13) rfl (hb hby d4_5) rfl ((if0 _ _).trans (feq hc5).2) (by decide) (by decide) k_) ?_
      refine own_st (S' := s₁.setTop (mkF m 14 #[.val (.int x1), .unset] [(.int (0 : Int32))])) (fun t_ k_ => XS.iconst X0.here hx rfl (hb hby d4_13) k_) ?_
      obtain ⟨fs, hr, hrun, hended, hW, hsame⟩ := X0.leave (v := some (.int (0 : Int32))) (fun h => by rw [Bd.returns] at h; cases h)
      refine ⟨_, _, retI X0 hx Bd.returns (hb hby d4_14) hr, hrun, hended, _, _, rfl, ?_, ⟨_, rfl⟩, hW, hsame.mono (by decide) (by decide)⟩
      show Q4 Z x1 h0 n0 _ s₁.heap _
      rw [e0]
      exact ⟨(congrArg (fun z => some (Value.int z)) (show (0 : Int32) = (own_nlz x1) from by simp only [own_nlz, own_n1, own_n2, own_n3, own_n4, hc1, hc5, if_true, if_false])), N0, rfl⟩
theorem d5_0 : decode prog_2_method_12_code 0 = .ok (.aconst_null, 1) := by decide +kernel
theorem d5_1 : decode prog_2_method_12_code 1 = .ok (.astore 4, 2) := by decide +kernel
theorem d5_3 : decode prog_2_method_12_code 3 = .ok (.iload_n 0, 1) := by decide +kernel
theorem d5_4 : decode prog_2_method_12_code 4 = .ok (.ifCond .lt 15, 3) := by decide +kernel
theorem d5_7 : decode prog_2_method_12_code 7 = .ok (.iload_n 1, 1) := by decide +kernel
theorem d5_8 : decode prog_2_method_12_code 8 = .ok (.ifCond .lt 11, 3) := by decide +kernel
theorem d5_11 : decode prog_2_method_12_code 11 = .ok (.iload_n 2, 1) := by decide +kernel
theorem d5_12 : decode prog_2_method_12_code 12 = .ok (.ifCond .lt 7, 3) := by decide +kernel
theorem d5_15 : decode prog_2_method_12_code 15 = .ok (.iload_n 3, 1) := by decide +kernel
theorem d5_16 : decode prog_2_method_12_code 16 = .ok (.ifCond .ge 10, 3) := by decide +kernel
theorem d5_26 : decode prog_2_method_12_code 26 = .ok (.iload_n 3, 1) := by decide +kernel
theorem d5_27 : decode prog_2_method_12_code 27 = .ok (.iload_n 0, 1) := by decide +kernel
theorem d5_28 : decode prog_2_method_12_code 28 = .ok (.if_icmp .le 10, 3) := by decide +kernel
theorem d5_38 : decode prog_2_method_12_code 38 = .ok (.iload_n 2, 1) := by decide +kernel
theorem d5_39 : decode prog_2_method_12_code 39 = .ok (.iload_n 1, 1) := by decide +kernel
theorem d5_40 : decode prog_2_method_12_code 40 = .ok (.if_icmp .le 10, 3) := by decide +kernel
theorem d5_50 : decode prog_2_method_12_code 50 = .ok (.iload_n 1, 1) := by decide +kernel
theorem d5_51 : decode prog_2_method_12_code 51 = .ok (.iload_n 0, 1) := by decide +kernel
theorem d5_52 : decode prog_2_method_12_code 52 = .ok (.if_icmp .le 10, 3) := by decide +kernel
theorem d5_62 : decode prog_2_method_12_code 62 = .ok (.iload_n 1, 1) := by decide +kernel
theorem d5_63 : decode prog_2_method_12_code 63 = .ok (.bipush 32, 2) := by decide +kernel
theorem d5_65 : decode prog_2_method_12_code 65 = .ok (.iload_n 0, 1) := by decide +kernel
theorem d5_66 : decode prog_2_method_12_code 66 = .ok (.invokestatic 76, 3) := by decide +kernel
theorem d5_69 : decode prog_2_method_12_code 69 = .ok (.isub, 1) := by decide +kernel
theorem d5_70 : decode prog_2_method_12_code 70 = .ok (.if_icmp .ge 7, 3) := by decide +kernel
theorem d5_77 : decode prog_2_method_12_code 77 = .ok (.aload 4, 2) := by decide +kernel
theorem d5_79 : decode prog_2_method_12_code 79 = .ok (.areturn, 1) := by decide +kernel
theorem pn_2 : plainName "com/example/bloodwood/bloodwood/TreeReport" = true := by first | (simp [plainName, overriddenIn]; done) | decide +kernel
theorem ef_5 (m : MethodId) (s1 : Int32) (h : Int32) (b : Int32) (r : Int32) : entryFrame m #[(.int s1), (.int h), (.int b), (.int r)] 5 = mkF m 0 #[.val (.int s1), .val (.int h), .val (.int b), .val (.int r), .unset] [] := by first | (simp [entryFrame, mkF, argsToLocals, Value.category]; done) | rfl
theorem pd_2 : parseMethodDescriptor "(I)I" = some ⟨[.int], some .int⟩ := by decide +kernel
def Q5 (Z : State) (s1 : Int32) (h : Int32) (b : Int32) (r : Int32) (h0 : Heap) (n0 : Nat) (v_ : Option Value) (h_ : Heap) (L_ : List Loc) : Prop := v_ = some .null ∧ Fr n0 L_ ∧ h_ = h0
set_option maxRecDepth 65536 in
set_option maxHeartbeats 40000000 in
theorem rm5 (l : Launch) (Z : State) (a0 : Array Value) (hw : ∀ d ∈ tables_1, d.before a0 Z = true) (ws : List Jvm.Cond) (s1 : Int32) (h : Int32) (b : Int32) (r : Int32) (h0 : Heap) (n0 : Nat) (Z0 : n0 ≤ h0.size) (q1 : ¬ (s1 < (0 : Int32))) (q2 : ¬ (h < (0 : Int32))) (q3 : ¬ (b < (0 : Int32))) (q4 : ¬ (r < (0 : Int32))) (q5 : ¬ (s1 < r)) (q6 : ¬ (h < b)) (q7 : ¬ (s1 < h)) (q8 : ¬ (h < ((32 : Int32) - (own_nlz s1)))) :
    MetFree l (⟨"com/example/bloodwood/bloodwood/TreeReport", "findProblem", "(IIII)Ljava/lang/String;"⟩ : MethodName) (head1 (Jvm.Cond.code (⟨"com/example/bloodwood/bloodwood/TreeReport", "findProblem", "(IIII)Ljava/lang/String;"⟩ : MethodName) prog_2_method_12_code 5 (some (.object "java/lang/String")) :: ws) ({ frames := 1, cells := 0, slots := 0, locals := 15 } : Room)) (fun ar_ U_ => ar_ = #[(.int s1), (.int h), (.int b), (.int r)] ∧ Z.Warmed39 U_.vm ∧ U_.heap = h0) (fun _ _ _ _ _ => True) (fun _ U_ o_ U2_ => ∃ v_ L_, o_ = .returned v_ ∧ Q5 Z s1 h b r h0 n0 v_ U2_.heap L_ ∧ FrameEnd U_ o_ U2_ L_ ({ frames := 1, cells := 0, slots := 0, locals := 15 } : Room).cells ({ frames := 1, cells := 0, slots := 0, locals := 15 } : Room).slots) := by
  refine MetFree.of_bodySF (plainFor_of_name pn_2) hisR ?_
  intro p e s m args below meth c s₁ Bd hml0 hP hK
  obtain ⟨rfl, hZ, hh⟩ := hP
  have hx := Bd.exec
  have hby := Bd.bytes
  have hml : c.maxLocals = 5 := hml0
  have hown : s.vm.findClass "com/example/bloodwood/bloodwood/TreeReport" = some m.cls := findClass_of_methodNamed Bd.named
  have hnm := (name_of_methodNamed Bd.named Bd.method).1
  have X0 : Stand p l e ({ frames := 1, cells := 0, slots := 0, locals := 15 } : Room) s m #[(.int s1), (.int h), (.int b), (.int r)] below meth c s₁ [] 0 0 := Stand.of_body Bd
  have e0 : s₁.heap = h0 := by rw [← hh, Bd.state]; rfl
  have N0 := Fr.nil n0
  refine own_gl ?_
  refine own_st (S' := s₁.setTop (mkF m 0 #[.val (.int s1), .val (.int h), .val (.int b), .val (.int r), .unset] [])) (fun t_ k_ => castTop (ef_5 m s1 h b r) k_) ?_
  refine own_st (S' := s₁.setTop (mkF m 1 #[.val (.int s1), .val (.int h), .val (.int b), .val (.int r), .unset] [.null])) (fun t_ k_ => XS.aconstNull X0.here hx rfl (hb hby d5_0) k_) ?_
  refine own_st (S' := s₁.setTop (mkF m 3 #[.val (.int s1), .val (.int h), .val (.int b), .val (.int r), .val .null] [])) (fun t_ k_ => XS.astore X0.here hx rfl (hb hby d5_1) rfl rfl (l' := #[.val (.int s1), .val (.int h), .val (.int b), .val (.int r), .val .null]) rfl k_) ?_
  refine own_st (S' := s₁.setTop (mkF m 4 #[.val (.int s1), .val (.int h), .val (.int b), .val (.int r), .val .null] [(.int s1)])) (fun t_ k_ => XS.iloadN X0.here hx rfl (hb hby d5_3) rfl k_) ?_
  refine own_st (S' := s₁.setTop (mkF m 7 #[.val (.int s1), .val (.int h), .val (.int b), .val (.int r), .val .null] [])) (fun t_ k_ => XS.ifNo X0.here hx rfl (hb hby d5_4) rfl ((if0 _ _).trans (flt q1).1) k_) ?_
  refine own_st (S' := s₁.setTop (mkF m 8 #[.val (.int s1), .val (.int h), .val (.int b), .val (.int r), .val .null] [(.int h)])) (fun t_ k_ => XS.iloadN X0.here hx rfl (hb hby d5_7) rfl k_) ?_
  refine own_st (S' := s₁.setTop (mkF m 11 #[.val (.int s1), .val (.int h), .val (.int b), .val (.int r), .val .null] [])) (fun t_ k_ => XS.ifNo X0.here hx rfl (hb hby d5_8) rfl ((if0 _ _).trans (flt q2).1) k_) ?_
  refine own_st (S' := s₁.setTop (mkF m 12 #[.val (.int s1), .val (.int h), .val (.int b), .val (.int r), .val .null] [(.int b)])) (fun t_ k_ => XS.iloadN X0.here hx rfl (hb hby d5_11) rfl k_) ?_
  refine own_st (S' := s₁.setTop (mkF m 15 #[.val (.int s1), .val (.int h), .val (.int b), .val (.int r), .val .null] [])) (fun t_ k_ => XS.ifNo X0.here hx rfl (hb hby d5_12) rfl ((if0 _ _).trans (flt q3).1) k_) ?_
  refine own_st (S' := s₁.setTop (mkF m 16 #[.val (.int s1), .val (.int h), .val (.int b), .val (.int r), .val .null] [(.int r)])) (fun t_ k_ => XS.iloadN X0.here hx rfl (hb hby d5_15) rfl k_) ?_
  refine own_st (S' := s₁.setTop (mkF m 26 #[.val (.int s1), .val (.int h), .val (.int b), .val (.int r), .val .null] [])) (fun t_ k_ => XS.ifYes X0.here hx rfl (pc0 := 16) (pc' := 26) rfl (hb hby d5_16) rfl ((if0 _ _).trans (flt q4).2.1) (by decide) (by decide) k_) ?_
  refine own_st (S' := s₁.setTop (mkF m 27 #[.val (.int s1), .val (.int h), .val (.int b), .val (.int r), .val .null] [(.int r)])) (fun t_ k_ => XS.iloadN X0.here hx rfl (hb hby d5_26) rfl k_) ?_
  refine own_st (S' := s₁.setTop (mkF m 28 #[.val (.int s1), .val (.int h), .val (.int b), .val (.int r), .val .null] [(.int s1), (.int r)])) (fun t_ k_ => XS.iloadN X0.here hx rfl (hb hby d5_27) rfl k_) ?_
  refine own_st (S' := s₁.setTop (mkF m 38 #[.val (.int s1), .val (.int h), .val (.int b), .val (.int r), .val .null] [])) (fun t_ k_ => XS.icmpYes X0.here hx rfl (pc0 := 28) (pc' := 38) rfl (hb hby d5_28) rfl (flt q5).2.2.2 (by decide) (by decide) k_) ?_
  refine own_st (S' := s₁.setTop (mkF m 39 #[.val (.int s1), .val (.int h), .val (.int b), .val (.int r), .val .null] [(.int b)])) (fun t_ k_ => XS.iloadN X0.here hx rfl (hb hby d5_38) rfl k_) ?_
  refine own_st (S' := s₁.setTop (mkF m 40 #[.val (.int s1), .val (.int h), .val (.int b), .val (.int r), .val .null] [(.int h), (.int b)])) (fun t_ k_ => XS.iloadN X0.here hx rfl (hb hby d5_39) rfl k_) ?_
  refine own_st (S' := s₁.setTop (mkF m 50 #[.val (.int s1), .val (.int h), .val (.int b), .val (.int r), .val .null] [])) (fun t_ k_ => XS.icmpYes X0.here hx rfl (pc0 := 40) (pc' := 50) rfl (hb hby d5_40) rfl (flt q6).2.2.2 (by decide) (by decide) k_) ?_
  refine own_st (S' := s₁.setTop (mkF m 51 #[.val (.int s1), .val (.int h), .val (.int b), .val (.int r), .val .null] [(.int h)])) (fun t_ k_ => XS.iloadN X0.here hx rfl (hb hby d5_50) rfl k_) ?_
  refine own_st (S' := s₁.setTop (mkF m 52 #[.val (.int s1), .val (.int h), .val (.int b), .val (.int r), .val .null] [(.int s1), (.int h)])) (fun t_ k_ => XS.iloadN X0.here hx rfl (hb hby d5_51) rfl k_) ?_
  refine own_st (S' := s₁.setTop (mkF m 62 #[.val (.int s1), .val (.int h), .val (.int b), .val (.int r), .val .null] [])) (fun t_ k_ => XS.icmpYes X0.here hx rfl (pc0 := 52) (pc' := 62) rfl (hb hby d5_52) rfl (flt q7).2.2.2 (by decide) (by decide) k_) ?_
  refine own_st (S' := s₁.setTop (mkF m 63 #[.val (.int s1), .val (.int h), .val (.int b), .val (.int r), .val .null] [(.int h)])) (fun t_ k_ => XS.iloadN X0.here hx rfl (hb hby d5_62) rfl k_) ?_
  refine own_st (S' := s₁.setTop (mkF m 65 #[.val (.int s1), .val (.int h), .val (.int b), .val (.int r), .val .null] [(.int (32 : Int32)), (.int h)])) (fun t_ k_ => XS.bipush X0.here hx rfl (hb hby d5_63) k_) ?_
  refine own_st (S' := s₁.setTop (mkF m 66 #[.val (.int s1), .val (.int h), .val (.int b), .val (.int r), .val .null] [(.int s1), (.int (32 : Int32)), (.int h)])) (fun t_ k_ => XS.iloadN X0.here hx rfl (hb hby d5_65) rfl k_) ?_
  obtain ⟨_, _, ⟨T_1, L_1, k_1, n_1⟩, -, X_1, ⟨Lc_1, hQ_1, l_1, y_1, z_1⟩, st_1⟩ := Jvm.LawKit.callS X0 hx (y := (⟨"java/lang/Integer", "numberOfLeadingZeros", "(I)I"⟩ : MethodName)) hown (mvT hZ (hw _ (List.mem_of_getElem? (i := 13) rfl))) (mvT hZ (hw _ (List.mem_of_getElem? (i := 14) rfl))) (mvT hZ (hw _ (List.mem_of_getElem? (i := 15) rfl))) (mvT hZ (hw _ (List.mem_of_getElem? (i := 16) rfl))) (by decide) (backOf (W := 2) (rm4 l Z a0 hw [] s1 h0 n0 Z0 ) hZ (hw _ (List.mem_of_getElem? (i := 16) rfl)) (hw _ (List.mem_of_getElem? (i := 15) rfl)) (by decide) (by decide)) (g := (mkF m 66 #[.val (.int s1), .val (.int h), .val (.int b), .val (.int r), .val .null] [(.int s1), (.int (32 : Int32)), (.int h)])) rfl (by rw [hml]; rfl) (argsL := [(.int s1)]) (rest := [(.int (32 : Int32)), (.int h)]) (lenOf pd_2 rfl) rfl (by show 2 * 0 + _ ≤ _; exact Nat.le_of_eq rfl) (hb hby d5_66) (fun _ _ => ⟨rfl, e0, (by decide : 0 + 0 ≤ _), (by decide : 0 + 0 ≤ _)⟩)
  dsimp only [Pt.U, Pt.locs, Pt.cells, Pt.slots] at X_1 l_1 y_1 z_1 st_1 hQ_1
  subst l_1 y_1 z_1
  obtain ⟨rfl, M_1, q_1⟩ := hQ_1
  have N_1 := Fr.app N0 M_1
  refine own_st (S' := T_1.setTop (mkF m 69 #[.val (.int s1), .val (.int h), .val (.int b), .val (.int r), .val .null] [(.int (own_nlz s1)), (.int (32 : Int32)), (.int h)])) st_1 ?_
  refine own_st (S' := T_1.setTop (mkF m 70 #[.val (.int s1), .val (.int h), .val (.int b), .val (.int r), .val .null] [(.int ((32 : Int32) - (own_nlz s1))), (.int h)])) (fun t_ k_ => XS.isub X_1.here hx rfl (hb hby d5_69) rfl k_) ?_
  refine own_st (S' := T_1.setTop (mkF m 77 #[.val (.int s1), .val (.int h), .val (.int b), .val (.int r), .val .null] [])) (fun t_ k_ => XS.icmpYes X_1.here hx rfl (pc0 := 70) (pc' := 77) rfl (hb hby d5_70) rfl (flt q8).2.1 (by decide) (by decide) k_) ?_
  refine own_st (S' := T_1.setTop (mkF m 79 #[.val (.int s1), .val (.int h), .val (.int b), .val (.int r), .val .null] [.null])) (fun t_ k_ => XS.aload X_1.here hx rfl (hb hby d5_77) rfl rfl k_) ?_
  obtain ⟨fs, hr, hrun, hended, hW, hsame⟩ := X_1.leave (v := some .null) (fun h => by rw [Bd.returns] at h; cases h)
  refine ⟨_, _, own_retR X_1 hx Bd.returns rfl rfl (hb hby d5_79) hr, hrun, hended, _, _, rfl, ?_, ⟨_, rfl⟩, hW, hsame.mono (by decide) (by decide)⟩
  show Q5 Z s1 h b r h0 n0 _ T_1.heap _
  rw [q_1]
  exact ⟨rfl, N_1, rfl⟩
theorem d6_0 : decode prog_2_method_1_code 0 = .ok (.aload_n 0, 1) := by decide +kernel
theorem d6_1 : decode prog_2_method_1_code 1 = .ok (.invokespecial 1, 3) := by decide +kernel
theorem d6_4 : decode prog_2_method_1_code 4 = .ok (.iload_n 1, 1) := by decide +kernel
theorem d6_5 : decode prog_2_method_1_code 5 = .ok (.iload_n 2, 1) := by decide +kernel
theorem d6_6 : decode prog_2_method_1_code 6 = .ok (.iload_n 3, 1) := by decide +kernel
theorem d6_7 : decode prog_2_method_1_code 7 = .ok (.iload 4, 2) := by decide +kernel
theorem d6_9 : decode prog_2_method_1_code 9 = .ok (.invokestatic 7, 3) := by decide +kernel
theorem d6_12 : decode prog_2_method_1_code 12 = .ok (.astore 5, 2) := by decide +kernel
theorem d6_14 : decode prog_2_method_1_code 14 = .ok (.aload 5, 2) := by decide +kernel
theorem d6_16 : decode prog_2_method_1_code 16 = .ok (.ifnull 26, 3) := by decide +kernel
theorem d6_42 : decode prog_2_method_1_code 42 = .ok (.aload_n 0, 1) := by decide +kernel
theorem d6_43 : decode prog_2_method_1_code 43 = .ok (.iload_n 1, 1) := by decide +kernel
theorem d6_44 : decode prog_2_method_1_code 44 = .ok (.putfield 25, 3) := by decide +kernel
theorem d6_47 : decode prog_2_method_1_code 47 = .ok (.aload_n 0, 1) := by decide +kernel
theorem d6_48 : decode prog_2_method_1_code 48 = .ok (.iload_n 2, 1) := by decide +kernel
theorem d6_49 : decode prog_2_method_1_code 49 = .ok (.putfield 29, 3) := by decide +kernel
theorem d6_52 : decode prog_2_method_1_code 52 = .ok (.aload_n 0, 1) := by decide +kernel
theorem d6_53 : decode prog_2_method_1_code 53 = .ok (.iload_n 3, 1) := by decide +kernel
theorem d6_54 : decode prog_2_method_1_code 54 = .ok (.putfield 32, 3) := by decide +kernel
theorem d6_57 : decode prog_2_method_1_code 57 = .ok (.aload_n 0, 1) := by decide +kernel
theorem d6_58 : decode prog_2_method_1_code 58 = .ok (.iload 4, 2) := by decide +kernel
theorem d6_60 : decode prog_2_method_1_code 60 = .ok (.putfield 35, 3) := by decide +kernel
theorem d6_63 : decode prog_2_method_1_code 63 = .ok (.return_, 1) := by decide +kernel
theorem ef_6 (m : MethodId) (a : Addr) (s1 : Int32) (h : Int32) (b : Int32) (r : Int32) : entryFrame m #[(.ref a), (.int s1), (.int h), (.int b), (.int r)] 6 = mkF m 0 #[.val (.ref a), .val (.int s1), .val (.int h), .val (.int b), .val (.int r), .unset] [] := by first | (simp [entryFrame, mkF, argsToLocals, Value.category]; done) | rfl
theorem pd_3 : parseMethodDescriptor "(IIII)Ljava/lang/String;" = some ⟨[.int, .int, .int, .int], some (.object "java/lang/String")⟩ := by decide +kernel
def Q6 (Z : State) (a : Addr) (s1 : Int32) (h : Int32) (b : Int32) (r : Int32) (h0 : Heap) (n0 : Nat) (v_ : Option Value) (h_ : Heap) (L_ : List Loc) : Prop := v_ = none ∧ Fr n0 L_ ∧ Keep h0 h_ [a] ∧ Exa Z h_ a "com/example/bloodwood/bloodwood/TreeReport" ∧ Fld Z h_ a "com/example/bloodwood/bloodwood/TreeReport" "size" "I" (.int s1) ∧ Fld Z h_ a "com/example/bloodwood/bloodwood/TreeReport" "height" "I" (.int h) ∧ Fld Z h_ a "com/example/bloodwood/bloodwood/TreeReport" "blackHeight" "I" (.int b) ∧ Fld Z h_ a "com/example/bloodwood/bloodwood/TreeReport" "redCount" "I" (.int r)
set_option maxRecDepth 65536 in
set_option maxHeartbeats 40000000 in
theorem rm6 (l : Launch) (Z : State) (a0 : Array Value) (hw : ∀ d ∈ tables_1, d.before a0 Z = true) (ws : List Jvm.Cond) (a : Addr) (s1 : Int32) (h : Int32) (b : Int32) (r : Int32) (h0 : Heap) (n0 : Nat) (Z0 : n0 ≤ h0.size) (P0 : Exa Z h0 a "com/example/bloodwood/bloodwood/TreeReport") (P1 : Fld Z h0 a "com/example/bloodwood/bloodwood/TreeReport" "size" "I" (.int (0 : Int32))) (P2 : Fld Z h0 a "com/example/bloodwood/bloodwood/TreeReport" "height" "I" (.int (0 : Int32))) (P3 : Fld Z h0 a "com/example/bloodwood/bloodwood/TreeReport" "blackHeight" "I" (.int (0 : Int32))) (P4 : Fld Z h0 a "com/example/bloodwood/bloodwood/TreeReport" "redCount" "I" (.int (0 : Int32))) (g_a : n0 ≤ a) (q1 : ¬ (s1 < (0 : Int32))) (q2 : ¬ (h < (0 : Int32))) (q3 : ¬ (b < (0 : Int32))) (q4 : ¬ (r < (0 : Int32))) (q5 : ¬ (s1 < r)) (q6 : ¬ (h < b)) (q7 : ¬ (s1 < h)) (q8 : ¬ (h < ((32 : Int32) - (own_nlz s1)))) :
    MetFree l (⟨"com/example/bloodwood/bloodwood/TreeReport", "<init>", "(IIII)V"⟩ : MethodName) (head1 (Jvm.Cond.code (⟨"com/example/bloodwood/bloodwood/TreeReport", "<init>", "(IIII)V"⟩ : MethodName) prog_2_method_1_code 6 none :: ws) ({ frames := 2, cells := 0, slots := 0, locals := 31 } : Room)) (fun ar_ U_ => ar_ = #[(.ref a), (.int s1), (.int h), (.int b), (.int r)] ∧ Z.Warmed39 U_.vm ∧ U_.heap = h0) (fun _ _ _ _ _ => True) (fun _ U_ o_ U2_ => ∃ v_ L_, o_ = .returned v_ ∧ Q6 Z a s1 h b r h0 n0 v_ U2_.heap L_ ∧ FrameEnd U_ o_ U2_ L_ ({ frames := 2, cells := 0, slots := 0, locals := 31 } : Room).cells ({ frames := 2, cells := 0, slots := 0, locals := 31 } : Room).slots) := by
  refine MetFree.of_bodySF (plainFor_of_name pn_2) hisR ?_
  intro p e s m args below meth c s₁ Bd hml0 hP hK
  obtain ⟨rfl, hZ, hh⟩ := hP
  have hx := Bd.exec
  have hby := Bd.bytes
  have hml : c.maxLocals = 6 := hml0
  have hown : s.vm.findClass "com/example/bloodwood/bloodwood/TreeReport" = some m.cls := findClass_of_methodNamed Bd.named
  have hnm := (name_of_methodNamed Bd.named Bd.method).1
  have X0 : Stand p l e ({ frames := 2, cells := 0, slots := 0, locals := 31 } : Room) s m #[(.ref a), (.int s1), (.int h), (.int b), (.int r)] below meth c s₁ [] 0 0 := Stand.of_body Bd
  have e0 : s₁.heap = h0 := by rw [← hh, Bd.state]; rfl
  have N0 := Fr.nil n0
  refine own_gl ?_
  refine own_st (S' := s₁.setTop (mkF m 0 #[.val (.ref a), .val (.int s1), .val (.int h), .val (.int b), .val (.int r), .unset] [])) (fun t_ k_ => castTop (ef_6 m a s1 h b r) k_) ?_
  refine own_st (S' := s₁.setTop (mkF m 1 #[.val (.ref a), .val (.int s1), .val (.int h), .val (.int b), .val (.int r), .unset] [(.ref a)])) (fun t_ k_ => XS.aloadN X0.here hx rfl (hb hby d6_0) rfl rfl k_) ?_
  obtain ⟨T_1, X_1, e_1, st_1⟩ := initO X0 hx hZ hown (hw _ (List.mem_of_getElem? (i := 7) rfl)) (hw _ (List.mem_of_getElem? (i := 8) rfl)) (hw _ (List.mem_of_getElem? (i := 9) rfl)) e0 (g := (mkF m 1 #[.val (.ref a), .val (.int s1), .val (.int h), .val (.int b), .val (.int r), .unset] [(.ref a)])) rfl (by rw [hml]; rfl) rfl (hb hby d6_1) (by decide) (W := 0) (by show 2 * 0 + _ ≤ _; exact Nat.le_of_eq rfl) (by decide)
  refine own_st (S' := T_1.setTop (mkF m 4 #[.val (.ref a), .val (.int s1), .val (.int h), .val (.int b), .val (.int r), .unset] [])) st_1 ?_
  refine own_st (S' := T_1.setTop (mkF m 5 #[.val (.ref a), .val (.int s1), .val (.int h), .val (.int b), .val (.int r), .unset] [(.int s1)])) (fun t_ k_ => XS.iloadN X_1.here hx rfl (hb hby d6_4) rfl k_) ?_
  refine own_st (S' := T_1.setTop (mkF m 6 #[.val (.ref a), .val (.int s1), .val (.int h), .val (.int b), .val (.int r), .unset] [(.int h), (.int s1)])) (fun t_ k_ => XS.iloadN X_1.here hx rfl (hb hby d6_5) rfl k_) ?_
  refine own_st (S' := T_1.setTop (mkF m 7 #[.val (.ref a), .val (.int s1), .val (.int h), .val (.int b), .val (.int r), .unset] [(.int b), (.int h), (.int s1)])) (fun t_ k_ => XS.iloadN X_1.here hx rfl (hb hby d6_6) rfl k_) ?_
  refine own_st (S' := T_1.setTop (mkF m 9 #[.val (.ref a), .val (.int s1), .val (.int h), .val (.int b), .val (.int r), .unset] [(.int r), (.int b), (.int h), (.int s1)])) (fun t_ k_ => XS.iload X_1.here hx rfl (hb hby d6_7) rfl k_) ?_
  obtain ⟨_, _, ⟨T_2, L_2, k_2, n_2⟩, -, X_2, ⟨Lc_2, hQ_2, l_2, y_2, z_2⟩, st_2⟩ := Jvm.LawKit.callS X_1 hx (y := (⟨"com/example/bloodwood/bloodwood/TreeReport", "findProblem", "(IIII)Ljava/lang/String;"⟩ : MethodName)) hown (mvT hZ (hw _ (List.mem_of_getElem? (i := 10) rfl))) (mvT hZ (hw _ (List.mem_of_getElem? (i := 11) rfl))) (mvT hZ (hw _ (List.mem_of_getElem? (i := 3) rfl))) (mvT hZ (hw _ (List.mem_of_getElem? (i := 12) rfl))) (by decide) (backOf (W := 0) (rm5 l Z a0 hw [] s1 h b r h0 n0 Z0 q1 q2 q3 q4 q5 q6 q7 q8) hZ (hw _ (List.mem_of_getElem? (i := 12) rfl)) (hw _ (List.mem_of_getElem? (i := 3) rfl)) (by decide) (by decide)) (g := (mkF m 9 #[.val (.ref a), .val (.int s1), .val (.int h), .val (.int b), .val (.int r), .unset] [(.int r), (.int b), (.int h), (.int s1)])) rfl (by rw [hml]; rfl) (argsL := [(.int s1), (.int h), (.int b), (.int r)]) (rest := []) (lenOf pd_3 rfl) rfl (by show 2 * 0 + _ ≤ _; exact Nat.le_of_eq rfl) (hb hby d6_9) (fun _ _ => ⟨rfl, e_1, (by decide : 0 + 0 ≤ _), (by decide : 0 + 0 ≤ _)⟩)
  dsimp only [Pt.U, Pt.locs, Pt.cells, Pt.slots] at X_2 l_2 y_2 z_2 st_2 hQ_2
  subst l_2 y_2 z_2
  obtain ⟨rfl, M_2, q_2⟩ := hQ_2
  have N_2 := Fr.app N0 M_2
  refine own_st (S' := T_2.setTop (mkF m 12 #[.val (.ref a), .val (.int s1), .val (.int h), .val (.int b), .val (.int r), .unset] [.null])) st_2 ?_
  refine own_st (S' := T_2.setTop (mkF m 14 #[.val (.ref a), .val (.int s1), .val (.int h), .val (.int b), .val (.int r), .val .null] [])) (fun t_ k_ => XS.astore X_2.here hx rfl (hb hby d6_12) rfl rfl (l' := #[.val (.ref a), .val (.int s1), .val (.int h), .val (.int b), .val (.int r), .val .null]) rfl k_) ?_
  refine own_st (S' := T_2.setTop (mkF m 16 #[.val (.ref a), .val (.int s1), .val (.int h), .val (.int b), .val (.int r), .val .null] [.null])) (fun t_ k_ => XS.aload X_2.here hx rfl (hb hby d6_14) rfl rfl k_) ?_
  refine own_st (S' := T_2.setTop (mkF m 42 #[.val (.ref a), .val (.int s1), .val (.int h), .val (.int b), .val (.int r), .val .null] [])) (fun t_ k_ => XS.ifnullYes X_2.here hx rfl (pc0 := 16) (pc' := 42) rfl (hb hby d6_16) rfl (by decide) (by decide) k_) ?_
  refine own_st (S' := T_2.setTop (mkF m 43 #[.val (.ref a), .val (.int s1), .val (.int h), .val (.int b), .val (.int r), .val .null] [(.ref a)])) (fun t_ k_ => XS.aloadN X_2.here hx rfl (hb hby d6_42) rfl rfl k_) ?_
  refine own_st (S' := T_2.setTop (mkF m 44 #[.val (.ref a), .val (.int s1), .val (.int h), .val (.int b), .val (.int r), .val .null] [(.int s1), (.ref a)])) (fun t_ k_ => XS.iloadN X_2.here hx rfl (hb hby d6_43) rfl k_) ?_
  obtain ⟨T_3, h_3, X_3, e_3, W_3, st_3⟩ := putF X_2 hx hZ hown (host := "") (Or.inl (hw _ (List.mem_of_getElem? (i := 17) rfl))) Via.refl q_2 P1 P0 (Or.inr ⟨(hw _ (List.mem_of_getElem? (i := 18) rfl)), rfl, hnm⟩) (hw _ (List.mem_of_getElem? (i := 2) rfl)) (ty := .int) (by decide) rfl rfl (g := (mkF m 44 #[.val (.ref a), .val (.int s1), .val (.int h), .val (.int b), .val (.int r), .val .null] [(.int s1), (.ref a)])) rfl rfl (hb hby d6_44)
  have Z_3 : n0 ≤ h_3.size := Nat.le_trans Z0 (Keep.of_wr W_3).1
  have N_3 := Fr.snoc X_3 N_2 g_a
  have K_3 : Keep h0 h_3 [a] := (Keep.refl h0 [a]).wr W_3 (Or.inl (List.mem_of_getElem? (i := 0) rfl))
  have f_3 : Fld Z h_3 a "com/example/bloodwood/bloodwood/TreeReport" "size" "I" (.int s1) := Fld.same W_3 P1
  refine own_st (S' := T_3.setTop (mkF m 47 #[.val (.ref a), .val (.int s1), .val (.int h), .val (.int b), .val (.int r), .val .null] [])) st_3 ?_
  refine own_st (S' := T_3.setTop (mkF m 48 #[.val (.ref a), .val (.int s1), .val (.int h), .val (.int b), .val (.int r), .val .null] [(.ref a)])) (fun t_ k_ => XS.aloadN X_3.here hx rfl (hb hby d6_47) rfl rfl k_) ?_
  refine own_st (S' := T_3.setTop (mkF m 49 #[.val (.ref a), .val (.int s1), .val (.int h), .val (.int b), .val (.int r), .val .null] [(.int h), (.ref a)])) (fun t_ k_ => XS.iloadN X_3.here hx rfl (hb hby d6_48) rfl k_) ?_
  have f_4 : Fld Z h_3 a "com/example/bloodwood/bloodwood/TreeReport" "height" "I" (.int (0 : Int32)) := (Fld.other W_3 P2 (Or.inr (slot_ne (Or.inr (hw _ (List.mem_of_getElem? (i := 20) rfl))) (Or.inr (hw _ (List.mem_of_getElem? (i := 18) rfl))) (by decide) (t := .int) (t' := .int) (by decide) (by decide))))
  have f_5 : Exa Z h_3 a "com/example/bloodwood/bloodwood/TreeReport" := (Exa.wr W_3 P0)
  obtain ⟨T_6, h_6, X_6, e_6, W_6, st_6⟩ := putF X_3 hx hZ hown (host := "") (Or.inl (hw _ (List.mem_of_getElem? (i := 19) rfl))) Via.refl e_3 f_4 f_5 (Or.inr ⟨(hw _ (List.mem_of_getElem? (i := 20) rfl)), rfl, hnm⟩) (hw _ (List.mem_of_getElem? (i := 2) rfl)) (ty := .int) (by decide) rfl rfl (g := (mkF m 49 #[.val (.ref a), .val (.int s1), .val (.int h), .val (.int b), .val (.int r), .val .null] [(.int h), (.ref a)])) rfl rfl (hb hby d6_49)
  have Z_6 : n0 ≤ h_6.size := Nat.le_trans Z_3 (Keep.of_wr W_6).1
  have N_6 := Fr.snoc X_6 N_3 g_a
  have K_6 : Keep h0 h_6 [a] := K_3.wr W_6 (Or.inl (List.mem_of_getElem? (i := 0) rfl))
  have f_6 : Fld Z h_6 a "com/example/bloodwood/bloodwood/TreeReport" "height" "I" (.int h) := Fld.same W_6 f_4
  refine own_st (S' := T_6.setTop (mkF m 52 #[.val (.ref a), .val (.int s1), .val (.int h), .val (.int b), .val (.int r), .val .null] [])) st_6 ?_
  refine own_st (S' := T_6.setTop (mkF m 53 #[.val (.ref a), .val (.int s1), .val (.int h), .val (.int b), .val (.int r), .val .null] [(.ref a)])) (fun t_ k_ => XS.aloadN X_6.here hx rfl (hb hby d6_52) rfl rfl k_) ?_
  refine own_st (S' := T_6.setTop (mkF m 54 #[.val (.ref a), .val (.int s1), .val (.int h), .val (.int b), .val (.int r), .val .null] [(.int b), (.ref a)])) (fun t_ k_ => XS.iloadN X_6.here hx rfl (hb hby d6_53) rfl k_) ?_
  have f_7 : Fld Z h_6 a "com/example/bloodwood/bloodwood/TreeReport" "blackHeight" "I" (.int (0 : Int32)) := (Fld.other W_6 (Fld.other W_3 P3 (Or.inr (slot_ne (Or.inr (hw _ (List.mem_of_getElem? (i := 22) rfl))) (Or.inr (hw _ (List.mem_of_getElem? (i := 18) rfl))) (by decide) (t := .int) (t' := .int) (by decide) (by decide)))) (Or.inr (slot_ne (Or.inr (hw _ (List.mem_of_getElem? (i := 22) rfl))) (Or.inr (hw _ (List.mem_of_getElem? (i := 20) rfl))) (by decide) (t := .int) (t' := .int) (by decide) (by decide))))
  have f_8 : Exa Z h_6 a "com/example/bloodwood/bloodwood/TreeReport" := (Exa.wr W_6 f_5)
  obtain ⟨T_9, h_9, X_9, e_9, W_9, st_9⟩ := putF X_6 hx hZ hown (host := "") (Or.inl (hw _ (List.mem_of_getElem? (i := 21) rfl))) Via.refl e_6 f_7 f_8 (Or.inr ⟨(hw _ (List.mem_of_getElem? (i := 22) rfl)), rfl, hnm⟩) (hw _ (List.mem_of_getElem? (i := 2) rfl)) (ty := .int) (by decide) rfl rfl (g := (mkF m 54 #[.val (.ref a), .val (.int s1), .val (.int h), .val (.int b), .val (.int r), .val .null] [(.int b), (.ref a)])) rfl rfl (hb hby d6_54)
  have Z_9 : n0 ≤ h_9.size := Nat.le_trans Z_6 (Keep.of_wr W_9).1
  have N_9 := Fr.snoc X_9 N_6 g_a
  have K_9 : Keep h0 h_9 [a] := K_6.wr W_9 (Or.inl (List.mem_of_getElem? (i := 0) rfl))
  have f_9 : Fld Z h_9 a "com/example/bloodwood/bloodwood/TreeReport" "blackHeight" "I" (.int b) := Fld.same W_9 f_7
  refine own_st (S' := T_9.setTop (mkF m 57 #[.val (.ref a), .val (.int s1), .val (.int h), .val (.int b), .val (.int r), .val .null] [])) st_9 ?_
  refine own_st (S' := T_9.setTop (mkF m 58 #[.val (.ref a), .val (.int s1), .val (.int h), .val (.int b), .val (.int r), .val .null] [(.ref a)])) (fun t_ k_ => XS.aloadN X_9.here hx rfl (hb hby d6_57) rfl rfl k_) ?_
  refine own_st (S' := T_9.setTop (mkF m 60 #[.val (.ref a), .val (.int s1), .val (.int h), .val (.int b), .val (.int r), .val .null] [(.int r), (.ref a)])) (fun t_ k_ => XS.iload X_9.here hx rfl (hb hby d6_58) rfl k_) ?_
  have f_10 : Fld Z h_9 a "com/example/bloodwood/bloodwood/TreeReport" "redCount" "I" (.int (0 : Int32)) := (Fld.other W_9 (Fld.other W_6 (Fld.other W_3 P4 (Or.inr (slot_ne (Or.inr (hw _ (List.mem_of_getElem? (i := 24) rfl))) (Or.inr (hw _ (List.mem_of_getElem? (i := 18) rfl))) (by decide) (t := .int) (t' := .int) (by decide) (by decide)))) (Or.inr (slot_ne (Or.inr (hw _ (List.mem_of_getElem? (i := 24) rfl))) (Or.inr (hw _ (List.mem_of_getElem? (i := 20) rfl))) (by decide) (t := .int) (t' := .int) (by decide) (by decide)))) (Or.inr (slot_ne (Or.inr (hw _ (List.mem_of_getElem? (i := 24) rfl))) (Or.inr (hw _ (List.mem_of_getElem? (i := 22) rfl))) (by decide) (t := .int) (t' := .int) (by decide) (by decide))))
  have f_11 : Exa Z h_9 a "com/example/bloodwood/bloodwood/TreeReport" := (Exa.wr W_9 f_8)
  obtain ⟨T_12, h_12, X_12, e_12, W_12, st_12⟩ := putF X_9 hx hZ hown (host := "") (Or.inl (hw _ (List.mem_of_getElem? (i := 23) rfl))) Via.refl e_9 f_10 f_11 (Or.inr ⟨(hw _ (List.mem_of_getElem? (i := 24) rfl)), rfl, hnm⟩) (hw _ (List.mem_of_getElem? (i := 2) rfl)) (ty := .int) (by decide) rfl rfl (g := (mkF m 60 #[.val (.ref a), .val (.int s1), .val (.int h), .val (.int b), .val (.int r), .val .null] [(.int r), (.ref a)])) rfl rfl (hb hby d6_60)
  have Z_12 : n0 ≤ h_12.size := Nat.le_trans Z_9 (Keep.of_wr W_12).1
  have N_12 := Fr.snoc X_12 N_9 g_a
  have K_12 : Keep h0 h_12 [a] := K_9.wr W_12 (Or.inl (List.mem_of_getElem? (i := 0) rfl))
  have f_12 : Fld Z h_12 a "com/example/bloodwood/bloodwood/TreeReport" "redCount" "I" (.int r) := Fld.same W_12 f_10
  refine own_st (S' := T_12.setTop (mkF m 63 #[.val (.ref a), .val (.int s1), .val (.int h), .val (.int b), .val (.int r), .val .null] [])) st_12 ?_
  obtain ⟨fs, hr, hrun, hended, hW, hsame⟩ := X_12.leave (v := none) (fun _ => rfl)
  have f_13 : Exa Z h_12 a "com/example/bloodwood/bloodwood/TreeReport" := (Exa.wr W_12 f_11)
  have f_14 : Fld Z h_12 a "com/example/bloodwood/bloodwood/TreeReport" "size" "I" (.int s1) := (Fld.other W_12 (Fld.other W_9 (Fld.other W_6 f_3 (Or.inr (slot_ne (Or.inr (hw _ (List.mem_of_getElem? (i := 18) rfl))) (Or.inr (hw _ (List.mem_of_getElem? (i := 20) rfl))) (by decide) (t := .int) (t' := .int) (by decide) (by decide)))) (Or.inr (slot_ne (Or.inr (hw _ (List.mem_of_getElem? (i := 18) rfl))) (Or.inr (hw _ (List.mem_of_getElem? (i := 22) rfl))) (by decide) (t := .int) (t' := .int) (by decide) (by decide)))) (Or.inr (slot_ne (Or.inr (hw _ (List.mem_of_getElem? (i := 18) rfl))) (Or.inr (hw _ (List.mem_of_getElem? (i := 24) rfl))) (by decide) (t := .int) (t' := .int) (by decide) (by decide))))
  have f_15 : Fld Z h_12 a "com/example/bloodwood/bloodwood/TreeReport" "height" "I" (.int h) := (Fld.other W_12 (Fld.other W_9 f_6 (Or.inr (slot_ne (Or.inr (hw _ (List.mem_of_getElem? (i := 20) rfl))) (Or.inr (hw _ (List.mem_of_getElem? (i := 22) rfl))) (by decide) (t := .int) (t' := .int) (by decide) (by decide)))) (Or.inr (slot_ne (Or.inr (hw _ (List.mem_of_getElem? (i := 20) rfl))) (Or.inr (hw _ (List.mem_of_getElem? (i := 24) rfl))) (by decide) (t := .int) (t' := .int) (by decide) (by decide))))
  have f_16 : Fld Z h_12 a "com/example/bloodwood/bloodwood/TreeReport" "blackHeight" "I" (.int b) := (Fld.other W_12 f_9 (Or.inr (slot_ne (Or.inr (hw _ (List.mem_of_getElem? (i := 22) rfl))) (Or.inr (hw _ (List.mem_of_getElem? (i := 24) rfl))) (by decide) (t := .int) (t' := .int) (by decide) (by decide))))
  refine ⟨_, _, X_12.returnOut hx Bd.returns (hb hby d6_63) hr, hrun, hended, _, _, rfl, ?_, ⟨_, rfl⟩, hW, hsame.mono (by decide) (by decide)⟩
  show Q6 Z a s1 h b r h0 n0 _ T_12.heap _
  rw [e_12]
  exact ⟨rfl, N_12, K_12, f_13, f_14, f_15, f_16, f_12⟩
theorem d7_0 : decode prog_2_method_8_code 0 = .ok (.aload_n 1, 1) := by decide +kernel
theorem d7_1 : decode prog_2_method_8_code 1 = .ok (.instanceof 8, 3) := by decide +kernel
theorem d7_4 : decode prog_2_method_8_code 4 = .ok (.ifCond .ne 5, 3) := by decide +kernel
theorem d7_7 : decode prog_2_method_8_code 7 = .ok (.iconst 0, 1) := by decide +kernel
theorem d7_8 : decode prog_2_method_8_code 8 = .ok (.ireturn, 1) := by decide +kernel
theorem ef_7a (m : MethodId) (a : Addr) : entryFrame m #[(.ref a), .null] 3 = mkF m 0 #[.val (.ref a), .val .null, .unset] [] := by first | (simp [entryFrame, mkF, argsToLocals, Value.category]; done) | rfl
def Q7a (Z : State) (a : Addr) (h0 : Heap) (n0 : Nat) (v_ : Option Value) (h_ : Heap) (L_ : List Loc) : Prop := v_ = some (.int (0 : Int32)) ∧ Fr n0 L_ ∧ h_ = h0
set_option maxRecDepth 65536 in
set_option maxHeartbeats 40000000 in
theorem rm7a (l : Launch) (Z : State) (a0 : Array Value) (hw : ∀ d ∈ tables_1, d.before a0 Z = true) (ws : List Jvm.Cond) (a : Addr) (h0 : Heap) (n0 : Nat) (Z0 : n0 ≤ h0.size)  :
    MetFree l (⟨"com/example/bloodwood/bloodwood/TreeReport", "equals", "(Ljava/lang/Object;)Z"⟩ : MethodName) (head1 (Jvm.Cond.code (⟨"com/example/bloodwood/bloodwood/TreeReport", "equals", "(Ljava/lang/Object;)Z"⟩ : MethodName) prog_2_method_8_code 3 (some .boolean) :: ws) ({ frames := 0, cells := 0, slots := 0, locals := 0 } : Room)) (fun ar_ U_ => ar_ = #[(.ref a), .null] ∧ Z.Warmed39 U_.vm ∧ U_.heap = h0) (fun _ _ _ _ _ => True) (fun _ U_ o_ U2_ => ∃ v_ L_, o_ = .returned v_ ∧ Q7a Z a h0 n0 v_ U2_.heap L_ ∧ FrameEnd U_ o_ U2_ L_ ({ frames := 0, cells := 0, slots := 0, locals := 0 } : Room).cells ({ frames := 0, cells := 0, slots := 0, locals := 0 } : Room).slots) := by
  refine MetFree.of_bodySF (plainFor_of_name pn_2) hisR ?_
  intro p e s m args below meth c s₁ Bd hml0 hP hK
  obtain ⟨rfl, hZ, hh⟩ := hP
  have hx := Bd.exec
  have hby := Bd.bytes
  have hml : c.maxLocals = 3 := hml0
  have hown : s.vm.findClass "com/example/bloodwood/bloodwood/TreeReport" = some m.cls := findClass_of_methodNamed Bd.named
  have hnm := (name_of_methodNamed Bd.named Bd.method).1
  have X0 : Stand p l e ({ frames := 0, cells := 0, slots := 0, locals := 0 } : Room) s m #[(.ref a), .null] below meth c s₁ [] 0 0 := Stand.of_body Bd
  have e0 : s₁.heap = h0 := by rw [← hh, Bd.state]; rfl
  have N0 := Fr.nil n0
  refine own_gl ?_
  refine own_st (S' := s₁.setTop (mkF m 0 #[.val (.ref a), .val .null, .unset] [])) (fun t_ k_ => castTop (ef_7a m a) k_) ?_
  refine own_st (S' := s₁.setTop (mkF m 1 #[.val (.ref a), .val .null, .unset] [.null])) (fun t_ k_ => XS.aloadN X0.here hx rfl (hb hby d7_0) rfl rfl k_) ?_
  refine own_st (S' := s₁.setTop (mkF m 4 #[.val (.ref a), .val .null, .unset] [(.int (0 : Int32))])) (fun t_ k_ => X0.instanceofNull hx (g := (mkF m 1 #[.val (.ref a), .val .null, .unset] [.null])) rfl rfl (hb hby d7_1) _ k_) ?_
  refine own_st (S' := s₁.setTop (mkF m 7 #[.val (.ref a), .val .null, .unset] [])) (fun t_ k_ => XS.ifNo X0.here hx rfl (hb hby d7_4) rfl ((if0 _ _).trans (teq (by decide : (0 : Int32) = (0 : Int32))).2) k_) ?_
  refine own_st (S' := s₁.setTop (mkF m 8 #[.val (.ref a), .val .null, .unset] [(.int (0 : Int32))])) (fun t_ k_ => XS.iconst X0.here hx rfl (hb hby d7_7) k_) ?_
  obtain ⟨fs, hr, hrun, hended, hW, hsame⟩ := X0.leave (v := some (.int (0 : Int32))) (fun h => by rw [Bd.returns] at h; cases h)
  refine ⟨_, _, retN X0 hx (t := .boolean) Bd.returns (by simp) (hb hby d7_8) hr, hrun, hended, _, _, rfl, ?_, ⟨_, rfl⟩, hW, hsame.mono (by decide) (by decide)⟩
  show Q7a Z a h0 n0 _ s₁.heap _
  rw [e0]
  exact ⟨rfl, N0, rfl⟩
theorem ef_7b (m : MethodId) (a : Addr) (o : Addr) : entryFrame m #[(.ref a), (.ref o)] 3 = mkF m 0 #[.val (.ref a), .val (.ref o), .unset] [] := by first | (simp [entryFrame, mkF, argsToLocals, Value.category]; done) | rfl
def Q7b (Z : State) (a : Addr) (o : Addr) (h0 : Heap) (n0 : Nat) (v_ : Option Value) (h_ : Heap) (L_ : List Loc) : Prop := v_ = some (.int (0 : Int32)) ∧ Fr n0 L_ ∧ h_ = h0
set_option maxRecDepth 65536 in
set_option maxHeartbeats 40000000 in
theorem rm7b (l : Launch) (Z : State) (a0 : Array Value) (hw : ∀ d ∈ tables_1, d.before a0 Z = true) (ws : List Jvm.Cond) (a : Addr) (o : Addr) (h0 : Heap) (n0 : Nat) (Z0 : n0 ≤ h0.size) (P0 : Exa Z h0 o "java/lang/Integer") :
    MetFree l (⟨"com/example/bloodwood/bloodwood/TreeReport", "equals", "(Ljava/lang/Object;)Z"⟩ : MethodName) (head1 (Jvm.Cond.code (⟨"com/example/bloodwood/bloodwood/TreeReport", "equals", "(Ljava/lang/Object;)Z"⟩ : MethodName) prog_2_method_8_code 3 (some .boolean) :: ws) ({ frames := 0, cells := 0, slots := 0, locals := 0 } : Room)) (fun ar_ U_ => ar_ = #[(.ref a), (.ref o)] ∧ Z.Warmed39 U_.vm ∧ U_.heap = h0) (fun _ _ _ _ _ => True) (fun _ U_ o_ U2_ => ∃ v_ L_, o_ = .returned v_ ∧ Q7b Z a o h0 n0 v_ U2_.heap L_ ∧ FrameEnd U_ o_ U2_ L_ ({ frames := 0, cells := 0, slots := 0, locals := 0 } : Room).cells ({ frames := 0, cells := 0, slots := 0, locals := 0 } : Room).slots) := by
  refine MetFree.of_bodySF (plainFor_of_name pn_2) hisR ?_
  intro p e s m args below meth c s₁ Bd hml0 hP hK
  obtain ⟨rfl, hZ, hh⟩ := hP
  have hx := Bd.exec
  have hby := Bd.bytes
  have hml : c.maxLocals = 3 := hml0
  have hown : s.vm.findClass "com/example/bloodwood/bloodwood/TreeReport" = some m.cls := findClass_of_methodNamed Bd.named
  have hnm := (name_of_methodNamed Bd.named Bd.method).1
  have X0 : Stand p l e ({ frames := 0, cells := 0, slots := 0, locals := 0 } : Room) s m #[(.ref a), (.ref o)] below meth c s₁ [] 0 0 := Stand.of_body Bd
  have e0 : s₁.heap = h0 := by rw [← hh, Bd.state]; rfl
  have N0 := Fr.nil n0
  refine own_gl ?_
  refine own_st (S' := s₁.setTop (mkF m 0 #[.val (.ref a), .val (.ref o), .unset] [])) (fun t_ k_ => castTop (ef_7b m a o) k_) ?_
  refine own_st (S' := s₁.setTop (mkF m 1 #[.val (.ref a), .val (.ref o), .unset] [(.ref o)])) (fun t_ k_ => XS.aloadN X0.here hx rfl (hb hby d7_0) rfl rfl k_) ?_
  obtain ⟨T_1, X_1, e_1, st_1⟩ := instNo X0 hx hZ hown (hw _ (List.mem_of_getElem? (i := 30) rfl)) e0 P0 (own_ns_no (hw _ (List.mem_of_getElem? (i := 57) rfl)) (hw _ (List.mem_of_getElem? (i := 2) rfl)) (NS.step (hw _ (List.mem_of_getElem? (i := 57) rfl)) (NS.step (hw _ (List.mem_of_getElem? (i := 58) rfl)) (own_ns_root (hw _ (List.mem_of_getElem? (i := 59) rfl)) (hw _ (List.mem_of_getElem? (i := 2) rfl)) (by decide)) (by decide)) (by decide)) (by decide)) (g := (mkF m 1 #[.val (.ref a), .val (.ref o), .unset] [(.ref o)])) rfl rfl (hb hby d7_1)
  refine own_st (S' := T_1.setTop (mkF m 4 #[.val (.ref a), .val (.ref o), .unset] [(.int (0 : Int32))])) st_1 ?_
  refine own_st (S' := T_1.setTop (mkF m 7 #[.val (.ref a), .val (.ref o), .unset] [])) (fun t_ k_ => XS.ifNo X_1.here hx rfl (hb hby d7_4) rfl ((if0 _ _).trans (teq (by decide : (0 : Int32) = (0 : Int32))).2) k_) ?_
  refine own_st (S' := T_1.setTop (mkF m 8 #[.val (.ref a), .val (.ref o), .unset] [(.int (0 : Int32))])) (fun t_ k_ => XS.iconst X_1.here hx rfl (hb hby d7_7) k_) ?_
  obtain ⟨fs, hr, hrun, hended, hW, hsame⟩ := X_1.leave (v := some (.int (0 : Int32))) (fun h => by rw [Bd.returns] at h; cases h)
  refine ⟨_, _, retN X_1 hx (t := .boolean) Bd.returns (by simp) (hb hby d7_8) hr, hrun, hended, _, _, rfl, ?_, ⟨_, rfl⟩, hW, hsame.mono (by decide) (by decide)⟩
  show Q7b Z a o h0 n0 _ T_1.heap _
  rw [e_1]
  exact ⟨rfl, N0, rfl⟩
theorem d7_9 : decode prog_2_method_8_code 9 = .ok (.aload_n 1, 1) := by decide +kernel
theorem d7_10 : decode prog_2_method_8_code 10 = .ok (.checkcast 8, 3) := by decide +kernel
theorem d7_13 : decode prog_2_method_8_code 13 = .ok (.astore_n 2, 1) := by decide +kernel
theorem d7_14 : decode prog_2_method_8_code 14 = .ok (.aload_n 0, 1) := by decide +kernel
theorem d7_15 : decode prog_2_method_8_code 15 = .ok (.getfield 25, 3) := by decide +kernel
theorem d7_18 : decode prog_2_method_8_code 18 = .ok (.aload_n 2, 1) := by decide +kernel
theorem d7_19 : decode prog_2_method_8_code 19 = .ok (.getfield 25, 3) := by decide +kernel
theorem d7_22 : decode prog_2_method_8_code 22 = .ok (.if_icmp .ne 40, 3) := by decide +kernel
theorem d7_25 : decode prog_2_method_8_code 25 = .ok (.aload_n 0, 1) := by decide +kernel
theorem d7_26 : decode prog_2_method_8_code 26 = .ok (.getfield 29, 3) := by decide +kernel
theorem d7_29 : decode prog_2_method_8_code 29 = .ok (.aload_n 2, 1) := by decide +kernel
theorem d7_30 : decode prog_2_method_8_code 30 = .ok (.getfield 29, 3) := by decide +kernel
theorem d7_33 : decode prog_2_method_8_code 33 = .ok (.if_icmp .ne 29, 3) := by decide +kernel
theorem d7_36 : decode prog_2_method_8_code 36 = .ok (.aload_n 0, 1) := by decide +kernel
theorem d7_37 : decode prog_2_method_8_code 37 = .ok (.getfield 32, 3) := by decide +kernel
theorem d7_40 : decode prog_2_method_8_code 40 = .ok (.aload_n 2, 1) := by decide +kernel
theorem d7_41 : decode prog_2_method_8_code 41 = .ok (.getfield 32, 3) := by decide +kernel
theorem d7_44 : decode prog_2_method_8_code 44 = .ok (.if_icmp .ne 18, 3) := by decide +kernel
theorem d7_47 : decode prog_2_method_8_code 47 = .ok (.aload_n 0, 1) := by decide +kernel
theorem d7_48 : decode prog_2_method_8_code 48 = .ok (.getfield 35, 3) := by decide +kernel
theorem d7_51 : decode prog_2_method_8_code 51 = .ok (.aload_n 2, 1) := by decide +kernel
theorem d7_52 : decode prog_2_method_8_code 52 = .ok (.getfield 35, 3) := by decide +kernel
theorem d7_55 : decode prog_2_method_8_code 55 = .ok (.if_icmp .ne 7, 3) := by decide +kernel
theorem d7_58 : decode prog_2_method_8_code 58 = .ok (.iconst 1, 1) := by decide +kernel
theorem d7_59 : decode prog_2_method_8_code 59 = .ok (.goto 4, 3) := by decide +kernel
theorem d7_63 : decode prog_2_method_8_code 63 = .ok (.ireturn, 1) := by decide +kernel
theorem ef_7c (m : MethodId) (a : Addr) (o : Addr) : entryFrame m #[(.ref a), (.ref o)] 3 = mkF m 0 #[.val (.ref a), .val (.ref o), .unset] [] := by first | (simp [entryFrame, mkF, argsToLocals, Value.category]; done) | rfl
def Q7c (Z : State) (a : Addr) (o : Addr) (s1 : Int32) (h : Int32) (b : Int32) (r : Int32) (h0 : Heap) (n0 : Nat) (v_ : Option Value) (h_ : Heap) (L_ : List Loc) : Prop := v_ = some (.int (1 : Int32)) ∧ Fr n0 L_ ∧ h_ = h0
set_option maxRecDepth 65536 in
set_option maxHeartbeats 40000000 in
theorem rm7c (l : Launch) (Z : State) (a0 : Array Value) (hw : ∀ d ∈ tables_1, d.before a0 Z = true) (ws : List Jvm.Cond) (a : Addr) (o : Addr) (s1 : Int32) (h : Int32) (b : Int32) (r : Int32) (h0 : Heap) (n0 : Nat) (Z0 : n0 ≤ h0.size) (P0 : Exa Z h0 o "com/example/bloodwood/bloodwood/TreeReport") (P1 : Fld Z h0 a "com/example/bloodwood/bloodwood/TreeReport" "size" "I" (.int s1)) (P2 : Fld Z h0 a "com/example/bloodwood/bloodwood/TreeReport" "height" "I" (.int h)) (P3 : Fld Z h0 a "com/example/bloodwood/bloodwood/TreeReport" "blackHeight" "I" (.int b)) (P4 : Fld Z h0 a "com/example/bloodwood/bloodwood/TreeReport" "redCount" "I" (.int r)) (P5 : Fld Z h0 o "com/example/bloodwood/bloodwood/TreeReport" "size" "I" (.int s1)) (P6 : Fld Z h0 o "com/example/bloodwood/bloodwood/TreeReport" "height" "I" (.int h)) (P7 : Fld Z h0 o "com/example/bloodwood/bloodwood/TreeReport" "blackHeight" "I" (.int b)) (P8 : Fld Z h0 o "com/example/bloodwood/bloodwood/TreeReport" "redCount" "I" (.int r)) :
    MetFree l (⟨"com/example/bloodwood/bloodwood/TreeReport", "equals", "(Ljava/lang/Object;)Z"⟩ : MethodName) (head1 (Jvm.Cond.code (⟨"com/example/bloodwood/bloodwood/TreeReport", "equals", "(Ljava/lang/Object;)Z"⟩ : MethodName) prog_2_method_8_code 3 (some .boolean) :: ws) ({ frames := 0, cells := 0, slots := 0, locals := 0 } : Room)) (fun ar_ U_ => ar_ = #[(.ref a), (.ref o)] ∧ Z.Warmed39 U_.vm ∧ U_.heap = h0) (fun _ _ _ _ _ => True) (fun _ U_ o_ U2_ => ∃ v_ L_, o_ = .returned v_ ∧ Q7c Z a o s1 h b r h0 n0 v_ U2_.heap L_ ∧ FrameEnd U_ o_ U2_ L_ ({ frames := 0, cells := 0, slots := 0, locals := 0 } : Room).cells ({ frames := 0, cells := 0, slots := 0, locals := 0 } : Room).slots) := by
  refine MetFree.of_bodySF (plainFor_of_name pn_2) hisR ?_
  intro p e s m args below meth c s₁ Bd hml0 hP hK
  obtain ⟨rfl, hZ, hh⟩ := hP
  have hx := Bd.exec
  have hby := Bd.bytes
  have hml : c.maxLocals = 3 := hml0
  have hown : s.vm.findClass "com/example/bloodwood/bloodwood/TreeReport" = some m.cls := findClass_of_methodNamed Bd.named
  have hnm := (name_of_methodNamed Bd.named Bd.method).1
  have X0 : Stand p l e ({ frames := 0, cells := 0, slots := 0, locals := 0 } : Room) s m #[(.ref a), (.ref o)] below meth c s₁ [] 0 0 := Stand.of_body Bd
  have e0 : s₁.heap = h0 := by rw [← hh, Bd.state]; rfl
  have N0 := Fr.nil n0
  refine own_gl ?_
  refine own_st (S' := s₁.setTop (mkF m 0 #[.val (.ref a), .val (.ref o), .unset] [])) (fun t_ k_ => castTop (ef_7c m a o) k_) ?_
  refine own_st (S' := s₁.setTop (mkF m 1 #[.val (.ref a), .val (.ref o), .unset] [(.ref o)])) (fun t_ k_ => XS.aloadN X0.here hx rfl (hb hby d7_0) rfl rfl k_) ?_
  obtain ⟨T_1, X_1, e_1, st_1⟩ := instY X0 hx hZ hown (hw _ (List.mem_of_getElem? (i := 30) rfl)) e0 (Ins.self P0) (g := (mkF m 1 #[.val (.ref a), .val (.ref o), .unset] [(.ref o)])) rfl rfl (hb hby d7_1)
  refine own_st (S' := T_1.setTop (mkF m 4 #[.val (.ref a), .val (.ref o), .unset] [(.int (1 : Int32))])) st_1 ?_
  refine own_st (S' := T_1.setTop (mkF m 9 #[.val (.ref a), .val (.ref o), .unset] [])) (fun t_ k_ => XS.ifYes X_1.here hx rfl (pc0 := 4) (pc' := 9) rfl (hb hby d7_4) rfl ((if0 _ _).trans (feq (by decide : ¬ ((1 : Int32) = (0 : Int32)))).2) (by decide) (by decide) k_) ?_
  refine own_st (S' := T_1.setTop (mkF m 10 #[.val (.ref a), .val (.ref o), .unset] [(.ref o)])) (fun t_ k_ => XS.aloadN X_1.here hx rfl (hb hby d7_9) rfl rfl k_) ?_
  obtain ⟨T_2, X_2, e_2, st_2⟩ := castY X_1 hx hZ hown (hw _ (List.mem_of_getElem? (i := 30) rfl)) e_1 (Ins.self P0) (g := (mkF m 10 #[.val (.ref a), .val (.ref o), .unset] [(.ref o)])) rfl rfl (hb hby d7_10)
  refine own_st (S' := T_2.setTop (mkF m 13 #[.val (.ref a), .val (.ref o), .unset] [(.ref o)])) st_2 ?_
  refine own_st (S' := T_2.setTop (mkF m 14 #[.val (.ref a), .val (.ref o), .val (.ref o)] [])) (fun t_ k_ => XS.astoreN X_2.here hx rfl (hb hby d7_13) rfl rfl (l' := #[.val (.ref a), .val (.ref o), .val (.ref o)]) rfl k_) ?_
  refine own_st (S' := T_2.setTop (mkF m 15 #[.val (.ref a), .val (.ref o), .val (.ref o)] [(.ref a)])) (fun t_ k_ => XS.aloadN X_2.here hx rfl (hb hby d7_14) rfl rfl k_) ?_
  obtain ⟨T_3, X_3, e_3, st_3⟩ := getF X_2 hx hZ hown (host := "") (Or.inl (hw _ (List.mem_of_getElem? (i := 17) rfl))) Via.refl e_2 P1 (g := (mkF m 15 #[.val (.ref a), .val (.ref o), .val (.ref o)] [(.ref a)])) rfl rfl (hb hby d7_15)
  refine own_st (S' := T_3.setTop (mkF m 18 #[.val (.ref a), .val (.ref o), .val (.ref o)] [(.int s1)])) st_3 ?_
  refine own_st (S' := T_3.setTop (mkF m 19 #[.val (.ref a), .val (.ref o), .val (.ref o)] [(.ref o), (.int s1)])) (fun t_ k_ => XS.aloadN X_3.here hx rfl (hb hby d7_18) rfl rfl k_) ?_
  obtain ⟨T_4, X_4, e_4, st_4⟩ := getF X_3 hx hZ hown (host := "") (Or.inl (hw _ (List.mem_of_getElem? (i := 17) rfl))) Via.refl e_3 P5 (g := (mkF m 19 #[.val (.ref a), .val (.ref o), .val (.ref o)] [(.ref o), (.int s1)])) rfl rfl (hb hby d7_19)
  refine own_st (S' := T_4.setTop (mkF m 22 #[.val (.ref a), .val (.ref o), .val (.ref o)] [(.int s1), (.int s1)])) st_4 ?_
  refine own_st (S' := T_4.setTop (mkF m 25 #[.val (.ref a), .val (.ref o), .val (.ref o)] [])) (fun t_ k_ => XS.icmpNo X_4.here hx rfl (hb hby d7_22) rfl (teq (rfl : s1 = s1)).2 k_) ?_
  refine own_st (S' := T_4.setTop (mkF m 26 #[.val (.ref a), .val (.ref o), .val (.ref o)] [(.ref a)])) (fun t_ k_ => XS.aloadN X_4.here hx rfl (hb hby d7_25) rfl rfl k_) ?_
  obtain ⟨T_5, X_5, e_5, st_5⟩ := getF X_4 hx hZ hown (host := "") (Or.inl (hw _ (List.mem_of_getElem? (i := 19) rfl))) Via.refl e_4 P2 (g := (mkF m 26 #[.val (.ref a), .val (.ref o), .val (.ref o)] [(.ref a)])) rfl rfl (hb hby d7_26)
  refine own_st (S' := T_5.setTop (mkF m 29 #[.val (.ref a), .val (.ref o), .val (.ref o)] [(.int h)])) st_5 ?_
  refine own_st (S' := T_5.setTop (mkF m 30 #[.val (.ref a), .val (.ref o), .val (.ref o)] [(.ref o), (.int h)])) (fun t_ k_ => XS.aloadN X_5.here hx rfl (hb hby d7_29) rfl rfl k_) ?_
  obtain ⟨T_6, X_6, e_6, st_6⟩ := getF X_5 hx hZ hown (host := "") (Or.inl (hw _ (List.mem_of_getElem? (i := 19) rfl))) Via.refl e_5 P6 (g := (mkF m 30 #[.val (.ref a), .val (.ref o), .val (.ref o)] [(.ref o), (.int h)])) rfl rfl (hb hby d7_30)
  refine own_st (S' := T_6.setTop (mkF m 33 #[.val (.ref a), .val (.ref o), .val (.ref o)] [(.int h), (.int h)])) st_6 ?_
  refine own_st (S' := T_6.setTop (mkF m 36 #[.val (.ref a), .val (.ref o), .val (.ref o)] [])) (fun t_ k_ => XS.icmpNo X_6.here hx rfl (hb hby d7_33) rfl (teq (rfl : h = h)).2 k_) ?_
  refine own_st (S' := T_6.setTop (mkF m 37 #[.val (.ref a), .val (.ref o), .val (.ref o)] [(.ref a)])) (fun t_ k_ => XS.aloadN X_6.here hx rfl (hb hby d7_36) rfl rfl k_) ?_
  obtain ⟨T_7, X_7, e_7, st_7⟩ := getF X_6 hx hZ hown (host := "") (Or.inl (hw _ (List.mem_of_getElem? (i := 21) rfl))) Via.refl e_6 P3 (g := (mkF m 37 #[.val (.ref a), .val (.ref o), .val (.ref o)] [(.ref a)])) rfl rfl (hb hby d7_37)
  refine own_st (S' := T_7.setTop (mkF m 40 #[.val (.ref a), .val (.ref o), .val (.ref o)] [(.int b)])) st_7 ?_
  refine own_st (S' := T_7.setTop (mkF m 41 #[.val (.ref a), .val (.ref o), .val (.ref o)] [(.ref o), (.int b)])) (fun t_ k_ => XS.aloadN X_7.here hx rfl (hb hby d7_40) rfl rfl k_) ?_
  obtain ⟨T_8, X_8, e_8, st_8⟩ := getF X_7 hx hZ hown (host := "") (Or.inl (hw _ (List.mem_of_getElem? (i := 21) rfl))) Via.refl e_7 P7 (g := (mkF m 41 #[.val (.ref a), .val (.ref o), .val (.ref o)] [(.ref o), (.int b)])) rfl rfl (hb hby d7_41)
  refine own_st (S' := T_8.setTop (mkF m 44 #[.val (.ref a), .val (.ref o), .val (.ref o)] [(.int b), (.int b)])) st_8 ?_
  refine own_st (S' := T_8.setTop (mkF m 47 #[.val (.ref a), .val (.ref o), .val (.ref o)] [])) (fun t_ k_ => XS.icmpNo X_8.here hx rfl (hb hby d7_44) rfl (teq (rfl : b = b)).2 k_) ?_
  refine own_st (S' := T_8.setTop (mkF m 48 #[.val (.ref a), .val (.ref o), .val (.ref o)] [(.ref a)])) (fun t_ k_ => XS.aloadN X_8.here hx rfl (hb hby d7_47) rfl rfl k_) ?_
  obtain ⟨T_9, X_9, e_9, st_9⟩ := getF X_8 hx hZ hown (host := "") (Or.inl (hw _ (List.mem_of_getElem? (i := 23) rfl))) Via.refl e_8 P4 (g := (mkF m 48 #[.val (.ref a), .val (.ref o), .val (.ref o)] [(.ref a)])) rfl rfl (hb hby d7_48)
  refine own_st (S' := T_9.setTop (mkF m 51 #[.val (.ref a), .val (.ref o), .val (.ref o)] [(.int r)])) st_9 ?_
  refine own_st (S' := T_9.setTop (mkF m 52 #[.val (.ref a), .val (.ref o), .val (.ref o)] [(.ref o), (.int r)])) (fun t_ k_ => XS.aloadN X_9.here hx rfl (hb hby d7_51) rfl rfl k_) ?_
  obtain ⟨T_10, X_10, e_10, st_10⟩ := getF X_9 hx hZ hown (host := "") (Or.inl (hw _ (List.mem_of_getElem? (i := 23) rfl))) Via.refl e_9 P8 (g := (mkF m 52 #[.val (.ref a), .val (.ref o), .val (.ref o)] [(.ref o), (.int r)])) rfl rfl (hb hby d7_52)
  refine own_st (S' := T_10.setTop (mkF m 55 #[.val (.ref a), .val (.ref o), .val (.ref o)] [(.int r), (.int r)])) st_10 ?_
  refine own_st (S' := T_10.setTop (mkF m 58 #[.val (.ref a), .val (.ref o), .val (.ref o)] [])) (fun t_ k_ => XS.icmpNo X_10.here hx rfl (hb hby d7_55) rfl (teq (rfl : r = r)).2 k_) ?_
  refine own_st (S' := T_10.setTop (mkF m 59 #[.val (.ref a), .val (.ref o), .val (.ref o)] [(.int (1 : Int32))])) (fun t_ k_ => XS.iconst X_10.here hx rfl (hb hby d7_58) k_) ?_
  refine own_st (S' := T_10.setTop (mkF m 63 #[.val (.ref a), .val (.ref o), .val (.ref o)] [(.int (1 : Int32))])) (fun t_ k_ => XS.goto X_10.here hx rfl (pc0 := 59) (pc' := 63) rfl (hb hby d7_59) (by decide) (by decide) k_) ?_
  obtain ⟨fs, hr, hrun, hended, hW, hsame⟩ := X_10.leave (v := some (.int (1 : Int32))) (fun h => by rw [Bd.returns] at h; cases h)
  refine ⟨_, _, retN X_10 hx (t := .boolean) Bd.returns (by simp) (hb hby d7_63) hr, hrun, hended, _, _, rfl, ?_, ⟨_, rfl⟩, hW, hsame.mono (by decide) (by decide)⟩
  show Q7c Z a o s1 h b r h0 n0 _ T_10.heap _
  rw [e_10]
  exact ⟨rfl, N0, rfl⟩
theorem d7_62 : decode prog_2_method_8_code 62 = .ok (.iconst 0, 1) := by decide +kernel
theorem ef_7d (m : MethodId) (a : Addr) (o : Addr) : entryFrame m #[(.ref a), (.ref o)] 3 = mkF m 0 #[.val (.ref a), .val (.ref o), .unset] [] := by first | (simp [entryFrame, mkF, argsToLocals, Value.category]; done) | rfl
def Q7d (Z : State) (a : Addr) (o : Addr) (s1 : Int32) (h : Int32) (b : Int32) (r : Int32) (s12 : Int32) (h2 : Int32) (b2 : Int32) (r2 : Int32) (h0 : Heap) (n0 : Nat) (v_ : Option Value) (h_ : Heap) (L_ : List Loc) : Prop := v_ = some (.int (own_eq s1 h b r s12 h2 b2 r2)) ∧ Fr n0 L_ ∧ h_ = h0
set_option maxRecDepth 65536 in
set_option maxHeartbeats 40000000 in
theorem rm7d (l : Launch) (Z : State) (a0 : Array Value) (hw : ∀ d ∈ tables_1, d.before a0 Z = true) (ws : List Jvm.Cond) (a : Addr) (o : Addr) (s1 : Int32) (h : Int32) (b : Int32) (r : Int32) (s12 : Int32) (h2 : Int32) (b2 : Int32) (r2 : Int32) (h0 : Heap) (n0 : Nat) (Z0 : n0 ≤ h0.size) (P0 : Exa Z h0 o "com/example/bloodwood/bloodwood/TreeReport") (P1 : Fld Z h0 a "com/example/bloodwood/bloodwood/TreeReport" "size" "I" (.int s1)) (P2 : Fld Z h0 a "com/example/bloodwood/bloodwood/TreeReport" "height" "I" (.int h)) (P3 : Fld Z h0 a "com/example/bloodwood/bloodwood/TreeReport" "blackHeight" "I" (.int b)) (P4 : Fld Z h0 a "com/example/bloodwood/bloodwood/TreeReport" "redCount" "I" (.int r)) (P5 : Fld Z h0 o "com/example/bloodwood/bloodwood/TreeReport" "size" "I" (.int s12)) (P6 : Fld Z h0 o "com/example/bloodwood/bloodwood/TreeReport" "height" "I" (.int h2)) (P7 : Fld Z h0 o "com/example/bloodwood/bloodwood/TreeReport" "blackHeight" "I" (.int b2)) (P8 : Fld Z h0 o "com/example/bloodwood/bloodwood/TreeReport" "redCount" "I" (.int r2)) :
    MetFree l (⟨"com/example/bloodwood/bloodwood/TreeReport", "equals", "(Ljava/lang/Object;)Z"⟩ : MethodName) (head1 (Jvm.Cond.code (⟨"com/example/bloodwood/bloodwood/TreeReport", "equals", "(Ljava/lang/Object;)Z"⟩ : MethodName) prog_2_method_8_code 3 (some .boolean) :: ws) ({ frames := 0, cells := 0, slots := 0, locals := 0 } : Room)) (fun ar_ U_ => ar_ = #[(.ref a), (.ref o)] ∧ Z.Warmed39 U_.vm ∧ U_.heap = h0) (fun _ _ _ _ _ => True) (fun _ U_ o_ U2_ => ∃ v_ L_, o_ = .returned v_ ∧ Q7d Z a o s1 h b r s12 h2 b2 r2 h0 n0 v_ U2_.heap L_ ∧ FrameEnd U_ o_ U2_ L_ ({ frames := 0, cells := 0, slots := 0, locals := 0 } : Room).cells ({ frames := 0, cells := 0, slots := 0, locals := 0 } : Room).slots) := by
  refine MetFree.of_bodySF (plainFor_of_name pn_2) hisR ?_
  intro p e s m args below meth c s₁ Bd hml0 hP hK
  obtain ⟨rfl, hZ, hh⟩ := hP
  have hx := Bd.exec
  have hby := Bd.bytes
  have hml : c.maxLocals = 3 := hml0
  have hown : s.vm.findClass "com/example/bloodwood/bloodwood/TreeReport" = some m.cls := findClass_of_methodNamed Bd.named
  have hnm := (name_of_methodNamed Bd.named Bd.method).1
  have X0 : Stand p l e ({ frames := 0, cells := 0, slots := 0, locals := 0 } : Room) s m #[(.ref a), (.ref o)] below meth c s₁ [] 0 0 := Stand.of_body Bd
  have e0 : s₁.heap = h0 := by rw [← hh, Bd.state]; rfl
  have N0 := Fr.nil n0
  refine own_gl ?_
  refine own_st (S' := s₁.setTop (mkF m 0 #[.val (.ref a), .val (.ref o), .unset] [])) (fun t_ k_ => castTop (ef_7d m a o) k_) ?_
  refine own_st (S' := s₁.setTop (mkF m 1 #[.val (.ref a), .val (.ref o), .unset] [(.ref o)])) (fun t_ k_ => XS.aloadN X0.here hx rfl (hb hby d7_0) rfl rfl k_) ?_
  obtain ⟨T_1, X_1, e_1, st_1⟩ := instY X0 hx hZ hown (hw _ (List.mem_of_getElem? (i := 30) rfl)) e0 (Ins.self P0) (g := (mkF m 1 #[.val (.ref a), .val (.ref o), .unset] [(.ref o)])) rfl rfl (hb hby d7_1)
  refine own_st (S' := T_1.setTop (mkF m 4 #[.val (.ref a), .val (.ref o), .unset] [(.int (1 : Int32))])) st_1 ?_
  refine own_st (S' := T_1.setTop (mkF m 9 #[.val (.ref a), .val (.ref o), .unset] [])) (fun t_ k_ => XS.ifYes X_1.here hx rfl (pc0 := 4) (pc' := 9) rfl (hb hby d7_4) rfl ((if0 _ _).trans (feq (by decide : ¬ ((1 : Int32) = (0 : Int32)))).2) (by decide) (by decide) k_) ?_
  refine own_st (S' := T_1.setTop (mkF m 10 #[.val (.ref a), .val (.ref o), .unset] [(.ref o)])) (fun t_ k_ => XS.aloadN X_1.here hx rfl (hb hby d7_9) rfl rfl k_) ?_
  obtain ⟨T_2, X_2, e_2, st_2⟩ := castY X_1 hx hZ hown (hw _ (List.mem_of_getElem? (i := 30) rfl)) e_1 (Ins.self P0) (g := (mkF m 10 #[.val (.ref a), .val (.ref o), .unset] [(.ref o)])) rfl rfl (hb hby d7_10)
  refine own_st (S' := T_2.setTop (mkF m 13 #[.val (.ref a), .val (.ref o), .unset] [(.ref o)])) st_2 ?_
  refine own_st (S' := T_2.setTop (mkF m 14 #[.val (.ref a), .val (.ref o), .val (.ref o)] [])) (fun t_ k_ => XS.astoreN X_2.here hx rfl (hb hby d7_13) rfl rfl (l' := #[.val (.ref a), .val (.ref o), .val (.ref o)]) rfl k_) ?_
  refine own_st (S' := T_2.setTop (mkF m 15 #[.val (.ref a), .val (.ref o), .val (.ref o)] [(.ref a)])) (fun t_ k_ => XS.aloadN X_2.here hx rfl (hb hby d7_14) rfl rfl k_) ?_
  obtain ⟨T_3, X_3, e_3, st_3⟩ := getF X_2 hx hZ hown (host := "") (Or.inl (hw _ (List.mem_of_getElem? (i := 17) rfl))) Via.refl e_2 P1 (g := (mkF m 15 #[.val (.ref a), .val (.ref o), .val (.ref o)] [(.ref a)])) rfl rfl (hb hby d7_15)
  refine own_st (S' := T_3.setTop (mkF m 18 #[.val (.ref a), .val (.ref o), .val (.ref o)] [(.int s1)])) st_3 ?_
  refine own_st (S' := T_3.setTop (mkF m 19 #[.val (.ref a), .val (.ref o), .val (.ref o)] [(.ref o), (.int s1)])) (fun t_ k_ => XS.aloadN X_3.here hx rfl (hb hby d7_18) rfl rfl k_) ?_
  obtain ⟨T_4, X_4, e_4, st_4⟩ := getF X_3 hx hZ hown (host := "") (Or.inl (hw _ (List.mem_of_getElem? (i := 17) rfl))) Via.refl e_3 P5 (g := (mkF m 19 #[.val (.ref a), .val (.ref o), .val (.ref o)] [(.ref o), (.int s1)])) rfl rfl (hb hby d7_19)
  refine own_st (S' := T_4.setTop (mkF m 22 #[.val (.ref a), .val (.ref o), .val (.ref o)] [(.int s12), (.int s1)])) st_4 ?_
  by_cases hc22 : s1 = s12
  · refine own_st (S' := T_4.setTop (mkF m 25 #[.val (.ref a), .val (.ref o), .val (.ref o)] [])) (fun t_ k_ => XS.icmpNo X_4.here hx rfl (hb hby d7_22) rfl (teq hc22).2 k_) ?_
    refine own_st (S' := T_4.setTop (mkF m 26 #[.val (.ref a), .val (.ref o), .val (.ref o)] [(.ref a)])) (fun t_ k_ => XS.aloadN X_4.here hx rfl (hb hby d7_25) rfl rfl k_) ?_
    obtain ⟨T_5, X_5, e_5, st_5⟩ := getF X_4 hx hZ hown (host := "") (Or.inl (hw _ (List.mem_of_getElem? (i := 19) rfl))) Via.refl e_4 P2 (g := (mkF m 26 #[.val (.ref a), .val (.ref o), .val (.ref o)] [(.ref a)])) rfl rfl (hb hby d7_26)
    refine own_st (S' := T_5.setTop (mkF m 29 #[.val (.ref a), .val (.ref o), .val (.ref o)] [(.int h)])) st_5 ?_
    refine own_st (S' := T_5.setTop (mkF m 30 #[.val (.ref a), .val (.ref o), .val (.ref o)] [(.ref o), (.int h)])) (fun t_ k_ => XS.aloadN X_5.here hx rfl (hb hby d7_29) rfl rfl k_) ?_
    obtain ⟨T_6, X_6, e_6, st_6⟩ := getF X_5 hx hZ hown (host := "") (Or.inl (hw _ (List.mem_of_getElem? (i := 19) rfl))) Via.refl e_5 P6 (g := (mkF m 30 #[.val (.ref a), .val (.ref o), .val (.ref o)] [(.ref o), (.int h)])) rfl rfl (hb hby d7_30)
    refine own_st (S' := T_6.setTop (mkF m 33 #[.val (.ref a), .val (.ref o), .val (.ref o)] [(.int h2), (.int h)])) st_6 ?_
    by_cases hc33 : h = h2
    · refine own_st (S' := T_6.setTop (mkF m 36 #[.val (.ref a), .val (.ref o), .val (.ref o)] [])) (fun t_ k_ => XS.icmpNo X_6.here hx rfl (hb hby d7_33) rfl (teq hc33).2 k_) ?_
      refine own_st (S' := T_6.setTop (mkF m 37 #[.val (.ref a), .val (.ref o), .val (.ref o)] [(.ref a)])) (fun t_ k_ => XS.aloadN X_6.here hx rfl (hb hby d7_36) rfl rfl k_) ?_
      obtain ⟨T_7, X_7, e_7, st_7⟩ := getF X_6 hx hZ hown (host := "") (Or.inl (hw _ (List.mem_of_getElem? (i := 21) rfl))) Via.refl e_6 P3 (g := (mkF m 37 #[.val (.ref a), .val (.ref o), .val (.ref o)] [(.ref a)])) rfl rfl (hb hby d7_37)
      refine own_st (S' := T_7.setTop (mkF m 40 #[.val (.ref a), .val (.ref o), .val (.ref o)] [(.int b)])) st_7 ?_
      refine own_st (S' := T_7.setTop (mkF m 41 #[.val (.ref a), .val (.ref o), .val (.ref o)] [(.ref o), (.int b)])) (fun t_ k_ => XS.aloadN X_7.here hx rfl (hb hby d7_40) rfl rfl k_) ?_
      obtain ⟨T_8, X_8, e_8, st_8⟩ := getF X_7 hx hZ hown (host := "") (Or.inl (hw _ (List.mem_of_getElem? (i := 21) rfl))) Via.refl e_7 P7 (g := (mkF m 41 #[.val (.ref a), .val (.ref o), .val (.ref o)] [(.ref o), (.int b)])) rfl rfl (hb hby d7_41)
      refine own_st (S' := T_8.setTop (mkF m 44 #[.val (.ref a), .val (.ref o), .val (.ref o)] [(.int b2), (.int b)])) st_8 ?_
      by_cases hc44 : b = b2
      · refine own_st (S' := T_8.setTop (mkF m 47 #[.val (.ref a), .val (.ref o), .val (.ref o)] [])) (fun t_ k_ => XS.icmpNo X_8.here hx rfl (hb hby d7_44) rfl (teq hc44).2 k_) ?_
        refine own_st (S' := T_8.setTop (mkF m 48 #[.val (.ref a), .val (.ref o), .val (.ref o)] [(.ref a)])) (fun t_ k_ => XS.aloadN X_8.here hx rfl (hb hby d7_47) rfl rfl k_) ?_
        obtain ⟨T_9, X_9, e_9, st_9⟩ := getF X_8 hx hZ hown (host := "") (Or.inl (hw _ (List.mem_of_getElem? (i := 23) rfl))) Via.refl e_8 P4 (g := (mkF m 48 #[.val (.ref a), .val (.ref o), .val (.ref o)] [(.ref a)])) rfl rfl (hb hby d7_48)
        refine own_st (S' := T_9.setTop (mkF m 51 #[.val (.ref a), .val (.ref o), .val (.ref o)] [(.int r)])) st_9 ?_
        refine own_st (S' := T_9.setTop (mkF m 52 #[.val (.ref a), .val (.ref o), .val (.ref o)] [(.ref o), (.int r)])) (fun t_ k_ => XS.aloadN X_9.here hx rfl (hb hby d7_51) rfl rfl k_) ?_
        obtain ⟨T_10, X_10, e_10, st_10⟩ := getF X_9 hx hZ hown (host := "") (Or.inl (hw _ (List.mem_of_getElem? (i := 23) rfl))) Via.refl e_9 P8 (g := (mkF m 52 #[.val (.ref a), .val (.ref o), .val (.ref o)] [(.ref o), (.int r)])) rfl rfl (hb hby d7_52)
        refine own_st (S' := T_10.setTop (mkF m 55 #[.val (.ref a), .val (.ref o), .val (.ref o)] [(.int r2), (.int r)])) st_10 ?_
        by_cases hc55 : r = r2
        · refine own_st (S' := T_10.setTop (mkF m 58 #[.val (.ref a), .val (.ref o), .val (.ref o)] [])) (fun t_ k_ => XS.icmpNo X_10.here hx rfl (hb hby d7_55) rfl (teq hc55).2 k_) ?_
          refine own_st (S' := T_10.setTop (mkF m 59 #[.val (.ref a), .val (.ref o), .val (.ref o)] [(.int (1 : Int32))])) (fun t_ k_ => XS.iconst X_10.here hx rfl (hb hby d7_58) k_) ?_
          refine own_st (S' := T_10.setTop (mkF m 63 #[.val (.ref a), .val (.ref o), .val (.ref o)] [(.int (1 : Int32))])) (fun t_ k_ => XS.goto X_10.here hx rfl (pc0 := 59) (pc' := 63) rfl (hb hby d7_59) (by decide) (by decide) k_) ?_
          obtain ⟨fs, hr, hrun, hended, hW, hsame⟩ := X_10.leave (v := some (.int (1 : Int32))) (fun h => by rw [Bd.returns] at h; cases h)
          refine ⟨_, _, retN X_10 hx (t := .boolean) Bd.returns (by simp) (hb hby d7_63) hr, hrun, hended, _, _, rfl, ?_, ⟨_, rfl⟩, hW, hsame.mono (by decide) (by decide)⟩
          show Q7d Z a o s1 h b r s12 h2 b2 r2 h0 n0 _ T_10.heap _
          rw [e_10]
          exact ⟨(congrArg (fun z => some (Value.int z)) (show (1 : Int32) = (own_eq s1 h b r s12 h2 b2 r2) from by simp [own_eq, hc22, hc33, hc44, hc55])), N0, rfl⟩
        · refine own_st (S' := T_10.setTop (mkF m 62 #[.val (.ref a), .val (.ref o), .val (.ref o)] [])) (fun t_ k_ => XS.icmpYes X_10.here hx rfl (pc0 := 55) (pc' := 62) rfl (hb hby d7_55) rfl (feq hc55).2 (by decide) (by decide) k_) ?_
          refine own_st (S' := T_10.setTop (mkF m 63 #[.val (.ref a), .val (.ref o), .val (.ref o)] [(.int (0 : Int32))])) (fun t_ k_ => XS.iconst X_10.here hx rfl (hb hby d7_62) k_) ?_
          obtain ⟨fs, hr, hrun, hended, hW, hsame⟩ := X_10.leave (v := some (.int (0 : Int32))) (fun h => by rw [Bd.returns] at h; cases h)
          refine ⟨_, _, retN X_10 hx (t := .boolean) Bd.returns (by simp) (hb hby d7_63) hr, hrun, hended, _, _, rfl, ?_, ⟨_, rfl⟩, hW, hsame.mono (by decide) (by decide)⟩
          show Q7d Z a o s1 h b r s12 h2 b2 r2 h0 n0 _ T_10.heap _
          rw [e_10]
          exact ⟨(congrArg (fun z => some (Value.int z)) (show (0 : Int32) = (own_eq s1 h b r s12 h2 b2 r2) from by simp [own_eq, hc22, hc33, hc44, hc55])), N0, rfl⟩
      · refine own_st (S' := T_8.setTop (mkF m 62 #[.val (.ref a), .val (.ref o), .val (.ref o)] [])) (fun t_ k_ => XS.icmpYes X_8.here hx rfl (pc0 := 44) (pc' := 62) rfl (hb hby d7_44) rfl (feq hc44).2 (by decide) (by decide) k_) ?_
        refine own_st (S' := T_8.setTop (mkF m 63 #[.val (.ref a), .val (.ref o), .val (.ref o)] [(.int (0 : Int32))])) (fun t_ k_ => XS.iconst X_8.here hx rfl (hb hby d7_62) k_) ?_
        obtain ⟨fs, hr, hrun, hended, hW, hsame⟩ := X_8.leave (v := some (.int (0 : Int32))) (fun h => by rw [Bd.returns] at h; cases h)
        refine ⟨_, _, retN X_8 hx (t := .boolean) Bd.returns (by simp) (hb hby d7_63) hr, hrun, hended, _, _, rfl, ?_, ⟨_, rfl⟩, hW, hsame.mono (by decide) (by decide)⟩
        show Q7d Z a o s1 h b r s12 h2 b2 r2 h0 n0 _ T_8.heap _
        rw [e_8]
        exact ⟨(congrArg (fun z => some (Value.int z)) (show (0 : Int32) = (own_eq s1 h b r s12 h2 b2 r2) from by simp [own_eq, hc22, hc33, hc44])), N0, rfl⟩
    · refine own_st (S' := T_6.setTop (mkF m 62 #[.val (.ref a), .val (.ref o), .val (.ref o)] [])) (fun t_ k_ => XS.icmpYes X_6.here hx rfl (pc0 := 33) (pc' := 62) rfl (hb hby d7_33) rfl (feq hc33).2 (by decide) (by decide) k_) ?_
      refine own_st (S' := T_6.setTop (mkF m 63 #[.val (.ref a), .val (.ref o), .val (.ref o)] [(.int (0 : Int32))])) (fun t_ k_ => XS.iconst X_6.here hx rfl (hb hby d7_62) k_) ?_
      obtain ⟨fs, hr, hrun, hended, hW, hsame⟩ := X_6.leave (v := some (.int (0 : Int32))) (fun h => by rw [Bd.returns] at h; cases h)
      refine ⟨_, _, retN X_6 hx (t := .boolean) Bd.returns (by simp) (hb hby d7_63) hr, hrun, hended, _, _, rfl, ?_, ⟨_, rfl⟩, hW, hsame.mono (by decide) (by decide)⟩
      show Q7d Z a o s1 h b r s12 h2 b2 r2 h0 n0 _ T_6.heap _
      rw [e_6]
      exact ⟨(congrArg (fun z => some (Value.int z)) (show (0 : Int32) = (own_eq s1 h b r s12 h2 b2 r2) from by simp [own_eq, hc22, hc33])), N0, rfl⟩
  · refine own_st (S' := T_4.setTop (mkF m 62 #[.val (.ref a), .val (.ref o), .val (.ref o)] [])) (fun t_ k_ => XS.icmpYes X_4.here hx rfl (pc0 := 22) (pc' := 62) rfl (hb hby d7_22) rfl (feq hc22).2 (by decide) (by decide) k_) ?_
    refine own_st (S' := T_4.setTop (mkF m 63 #[.val (.ref a), .val (.ref o), .val (.ref o)] [(.int (0 : Int32))])) (fun t_ k_ => XS.iconst X_4.here hx rfl (hb hby d7_62) k_) ?_
    obtain ⟨fs, hr, hrun, hended, hW, hsame⟩ := X_4.leave (v := some (.int (0 : Int32))) (fun h => by rw [Bd.returns] at h; cases h)
    refine ⟨_, _, retN X_4 hx (t := .boolean) Bd.returns (by simp) (hb hby d7_63) hr, hrun, hended, _, _, rfl, ?_, ⟨_, rfl⟩, hW, hsame.mono (by decide) (by decide)⟩
    show Q7d Z a o s1 h b r s12 h2 b2 r2 h0 n0 _ T_4.heap _
    rw [e_4]
    exact ⟨(congrArg (fun z => some (Value.int z)) (show (0 : Int32) = (own_eq s1 h b r s12 h2 b2 r2) from by simp [own_eq, hc22])), N0, rfl⟩
theorem d8_0 : decode method_2_code 0 = .ok (.iload_n 0, 1) := by decide +kernel
theorem d8_1 : decode method_2_code 1 = .ok (.ifCond .lt 15, 3) := by decide +kernel
theorem d8_4 : decode method_2_code 4 = .ok (.iload_n 1, 1) := by decide +kernel
theorem d8_5 : decode method_2_code 5 = .ok (.ifCond .lt 11, 3) := by decide +kernel
theorem d8_8 : decode method_2_code 8 = .ok (.iload_n 2, 1) := by decide +kernel
theorem d8_9 : decode method_2_code 9 = .ok (.ifCond .lt 7, 3) := by decide +kernel
theorem d8_12 : decode method_2_code 12 = .ok (.iload_n 3, 1) := by decide +kernel
theorem d8_13 : decode method_2_code 13 = .ok (.ifCond .ge 5, 3) := by decide +kernel
theorem d8_16 : decode method_2_code 16 = .ok (.iconst 0, 1) := by decide +kernel
theorem d8_17 : decode method_2_code 17 = .ok (.ireturn, 1) := by decide +kernel
theorem d8_18 : decode method_2_code 18 = .ok (.iload_n 3, 1) := by decide +kernel
theorem d8_19 : decode method_2_code 19 = .ok (.iload_n 0, 1) := by decide +kernel
theorem d8_20 : decode method_2_code 20 = .ok (.if_icmp .gt 13, 3) := by decide +kernel
theorem d8_23 : decode method_2_code 23 = .ok (.iload_n 2, 1) := by decide +kernel
theorem d8_24 : decode method_2_code 24 = .ok (.iload_n 1, 1) := by decide +kernel
theorem d8_25 : decode method_2_code 25 = .ok (.if_icmp .gt 8, 3) := by decide +kernel
theorem d8_28 : decode method_2_code 28 = .ok (.iload_n 1, 1) := by decide +kernel
theorem d8_29 : decode method_2_code 29 = .ok (.iload_n 0, 1) := by decide +kernel
theorem d8_30 : decode method_2_code 30 = .ok (.if_icmp .le 5, 3) := by decide +kernel
theorem d8_33 : decode method_2_code 33 = .ok (.iconst 0, 1) := by decide +kernel
theorem d8_34 : decode method_2_code 34 = .ok (.ireturn, 1) := by decide +kernel
theorem d8_35 : decode method_2_code 35 = .ok (.iload_n 1, 1) := by decide +kernel
theorem d8_36 : decode method_2_code 36 = .ok (.bipush 31, 2) := by decide +kernel
theorem d8_38 : decode method_2_code 38 = .ok (.if_icmp .ge 10, 3) := by decide +kernel
theorem d8_41 : decode method_2_code 41 = .ok (.iload_n 0, 1) := by decide +kernel
theorem d8_42 : decode method_2_code 42 = .ok (.iconst 1, 1) := by decide +kernel
theorem d8_43 : decode method_2_code 43 = .ok (.iload_n 1, 1) := by decide +kernel
theorem d8_44 : decode method_2_code 44 = .ok (.ishl, 1) := by decide +kernel
theorem d8_45 : decode method_2_code 45 = .ok (.if_icmp .ge 7, 3) := by decide +kernel
theorem d8_48 : decode method_2_code 48 = .ok (.iconst 1, 1) := by decide +kernel
theorem d8_49 : decode method_2_code 49 = .ok (.goto 4, 3) := by decide +kernel
theorem d8_52 : decode method_2_code 52 = .ok (.iconst 0, 1) := by decide +kernel
theorem d8_53 : decode method_2_code 53 = .ok (.ireturn, 1) := by decide +kernel
theorem pn_3 : plainName "com/example/bloodwood/bloodwood/TreeReportEqualsPinLaw" = true := by first | (simp [plainName, overriddenIn]; done) | decide +kernel
theorem ef_8 (m : MethodId) (s1 : Int32) (h : Int32) (b : Int32) (r : Int32) : entryFrame m #[(.int s1), (.int h), (.int b), (.int r)] 4 = mkF m 0 #[.val (.int s1), .val (.int h), .val (.int b), .val (.int r)] [] := by first | (simp [entryFrame, mkF, argsToLocals, Value.category]; done) | rfl
def Q8 (Z : State) (s1 : Int32) (h : Int32) (b : Int32) (r : Int32) (h0 : Heap) (n0 : Nat) (v_ : Option Value) (h_ : Heap) (L_ : List Loc) : Prop := v_ = some (.int (own_fits s1 h b r)) ∧ Fr n0 L_ ∧ h_ = h0
set_option maxRecDepth 65536 in
set_option maxHeartbeats 40000000 in
theorem rm8 (l : Launch) (Z : State) (a0 : Array Value) (hw : ∀ d ∈ tables_1, d.before a0 Z = true) (ws : List Jvm.Cond) (s1 : Int32) (h : Int32) (b : Int32) (r : Int32) (h0 : Heap) (n0 : Nat) (Z0 : n0 ≤ h0.size)  :
    MetFree l (⟨"com/example/bloodwood/bloodwood/TreeReportEqualsPinLaw", "fits", "(IIII)Z"⟩ : MethodName) (head1 (Jvm.Cond.code (⟨"com/example/bloodwood/bloodwood/TreeReportEqualsPinLaw", "fits", "(IIII)Z"⟩ : MethodName) method_2_code 4 (some .boolean) :: ws) ({ frames := 0, cells := 0, slots := 0, locals := 0 } : Room)) (fun ar_ U_ => ar_ = #[(.int s1), (.int h), (.int b), (.int r)] ∧ Z.Warmed39 U_.vm ∧ U_.heap = h0) (fun _ _ _ _ _ => True) (fun _ U_ o_ U2_ => ∃ v_ L_, o_ = .returned v_ ∧ Q8 Z s1 h b r h0 n0 v_ U2_.heap L_ ∧ FrameEnd U_ o_ U2_ L_ ({ frames := 0, cells := 0, slots := 0, locals := 0 } : Room).cells ({ frames := 0, cells := 0, slots := 0, locals := 0 } : Room).slots) := by
  refine MetFree.of_bodySF (plainFor_of_name pn_3) hisR ?_
  intro p e s m args below meth c s₁ Bd hml0 hP hK
  obtain ⟨rfl, hZ, hh⟩ := hP
  have hx := Bd.exec
  have hby := Bd.bytes
  have hml : c.maxLocals = 4 := hml0
  have hown : s.vm.findClass "com/example/bloodwood/bloodwood/TreeReportEqualsPinLaw" = some m.cls := findClass_of_methodNamed Bd.named
  have hnm := (name_of_methodNamed Bd.named Bd.method).1
  have X0 : Stand p l e ({ frames := 0, cells := 0, slots := 0, locals := 0 } : Room) s m #[(.int s1), (.int h), (.int b), (.int r)] below meth c s₁ [] 0 0 := Stand.of_body Bd
  have e0 : s₁.heap = h0 := by rw [← hh, Bd.state]; rfl
  have N0 := Fr.nil n0
  refine own_gl ?_
  refine own_st (S' := s₁.setTop (mkF m 0 #[.val (.int s1), .val (.int h), .val (.int b), .val (.int r)] [])) (fun t_ k_ => castTop (ef_8 m s1 h b r) k_) ?_
  refine own_st (S' := s₁.setTop (mkF m 1 #[.val (.int s1), .val (.int h), .val (.int b), .val (.int r)] [(.int s1)])) (fun t_ k_ => XS.iloadN X0.here hx rfl (hb hby d8_0) rfl k_) ?_
  by_cases hc1 : s1 < (0 : Int32)
  · refine own_st (S' := s₁.setTop (mkF m 16 #[.val (.int s1), .val (.int h), .val (.int b), .val (.int r)] [])) (fun t_ k_ => XS.ifYes X0.here hx rfl (pc0 := 1) (pc' := 16) rfl (hb hby d8_1) rfl ((if0 _ _).trans (tlt hc1).1) (by decide) (by decide) k_) ?_
    refine own_st (S' := s₁.setTop (mkF m 17 #[.val (.int s1), .val (.int h), .val (.int b), .val (.int r)] [(.int (0 : Int32))])) (fun t_ k_ => XS.iconst X0.here hx rfl (hb hby d8_16) k_) ?_
    obtain ⟨fs, hr, hrun, hended, hW, hsame⟩ := X0.leave (v := some (.int (0 : Int32))) (fun h => by rw [Bd.returns] at h; cases h)
    refine ⟨_, _, retN X0 hx (t := .boolean) Bd.returns (by simp) (hb hby d8_17) hr, hrun, hended, _, _, rfl, ?_, ⟨_, rfl⟩, hW, hsame.mono (by decide) (by decide)⟩
    show Q8 Z s1 h b r h0 n0 _ s₁.heap _
    rw [e0]
    exact ⟨(congrArg (fun z => some (Value.int z)) (show (0 : Int32) = (own_fits s1 h b r) from by simp [own_fits, hc1])), N0, rfl⟩
  · refine own_st (S' := s₁.setTop (mkF m 4 #[.val (.int s1), .val (.int h), .val (.int b), .val (.int r)] [])) (fun t_ k_ => XS.ifNo X0.here hx rfl (hb hby d8_1) rfl ((if0 _ _).trans (flt hc1).1) k_) ?_
    refine own_st (S' := s₁.setTop (mkF m 5 #[.val (.int s1), .val (.int h), .val (.int b), .val (.int r)] [(.int h)])) (fun t_ k_ => XS.iloadN X0.here hx rfl (hb hby d8_4) rfl k_) ?_
    by_cases hc5 : h < (0 : Int32)
    · refine own_st (S' := s₁.setTop (mkF m 16 #[.val (.int s1), .val (.int h), .val (.int b), .val (.int r)] [])) (fun t_ k_ => XS.ifYes X0.here hx rfl (pc0 := 5) (pc' := 16) rfl (hb hby d8_5) rfl ((if0 _ _).trans (tlt hc5).1) (by decide) (by decide) k_) ?_
      refine own_st (S' := s₁.setTop (mkF m 17 #[.val (.int s1), .val (.int h), .val (.int b), .val (.int r)] [(.int (0 : Int32))])) (fun t_ k_ => XS.iconst X0.here hx rfl (hb hby d8_16) k_) ?_
      obtain ⟨fs, hr, hrun, hended, hW, hsame⟩ := X0.leave (v := some (.int (0 : Int32))) (fun h => by rw [Bd.returns] at h; cases h)
      refine ⟨_, _, retN X0 hx (t := .boolean) Bd.returns (by simp) (hb hby d8_17) hr, hrun, hended, _, _, rfl, ?_, ⟨_, rfl⟩, hW, hsame.mono (by decide) (by decide)⟩
      show Q8 Z s1 h b r h0 n0 _ s₁.heap _
      rw [e0]
      exact ⟨(congrArg (fun z => some (Value.int z)) (show (0 : Int32) = (own_fits s1 h b r) from by simp [own_fits, hc1, hc5])), N0, rfl⟩
    · refine own_st (S' := s₁.setTop (mkF m 8 #[.val (.int s1), .val (.int h), .val (.int b), .val (.int r)] [])) (fun t_ k_ => XS.ifNo X0.here hx rfl (hb hby d8_5) rfl ((if0 _ _).trans (flt hc5).1) k_) ?_
      refine own_st (S' := s₁.setTop (mkF m 9 #[.val (.int s1), .val (.int h), .val (.int b), .val (.int r)] [(.int b)])) (fun t_ k_ => XS.iloadN X0.here hx rfl (hb hby d8_8) rfl k_) ?_
      by_cases hc9 : b < (0 : Int32)
      · refine own_st (S' := s₁.setTop (mkF m 16 #[.val (.int s1), .val (.int h), .val (.int b), .val (.int r)] [])) (fun t_ k_ => XS.ifYes X0.here hx rfl (pc0 := 9) (pc' := 16) rfl (hb hby d8_9) rfl ((if0 _ _).trans (tlt hc9).1) (by decide) (by decide) k_) ?_
        refine own_st (S' := s₁.setTop (mkF m 17 #[.val (.int s1), .val (.int h), .val (.int b), .val (.int r)] [(.int (0 : Int32))])) (fun t_ k_ => XS.iconst X0.here hx rfl (hb hby d8_16) k_) ?_
        obtain ⟨fs, hr, hrun, hended, hW, hsame⟩ := X0.leave (v := some (.int (0 : Int32))) (fun h => by rw [Bd.returns] at h; cases h)
        refine ⟨_, _, retN X0 hx (t := .boolean) Bd.returns (by simp) (hb hby d8_17) hr, hrun, hended, _, _, rfl, ?_, ⟨_, rfl⟩, hW, hsame.mono (by decide) (by decide)⟩
        show Q8 Z s1 h b r h0 n0 _ s₁.heap _
        rw [e0]
        exact ⟨(congrArg (fun z => some (Value.int z)) (show (0 : Int32) = (own_fits s1 h b r) from by simp [own_fits, hc1, hc5, hc9])), N0, rfl⟩
      · refine own_st (S' := s₁.setTop (mkF m 12 #[.val (.int s1), .val (.int h), .val (.int b), .val (.int r)] [])) (fun t_ k_ => XS.ifNo X0.here hx rfl (hb hby d8_9) rfl ((if0 _ _).trans (flt hc9).1) k_) ?_
        refine own_st (S' := s₁.setTop (mkF m 13 #[.val (.int s1), .val (.int h), .val (.int b), .val (.int r)] [(.int r)])) (fun t_ k_ => XS.iloadN X0.here hx rfl (hb hby d8_12) rfl k_) ?_
        by_cases hc13 : r < (0 : Int32)
        · refine own_st (S' := s₁.setTop (mkF m 16 #[.val (.int s1), .val (.int h), .val (.int b), .val (.int r)] [])) (fun t_ k_ => XS.ifNo X0.here hx rfl (hb hby d8_13) rfl ((if0 _ _).trans (tlt hc13).2.1) k_) ?_
          refine own_st (S' := s₁.setTop (mkF m 17 #[.val (.int s1), .val (.int h), .val (.int b), .val (.int r)] [(.int (0 : Int32))])) (fun t_ k_ => XS.iconst X0.here hx rfl (hb hby d8_16) k_) ?_
          obtain ⟨fs, hr, hrun, hended, hW, hsame⟩ := X0.leave (v := some (.int (0 : Int32))) (fun h => by rw [Bd.returns] at h; cases h)
          refine ⟨_, _, retN X0 hx (t := .boolean) Bd.returns (by simp) (hb hby d8_17) hr, hrun, hended, _, _, rfl, ?_, ⟨_, rfl⟩, hW, hsame.mono (by decide) (by decide)⟩
          show Q8 Z s1 h b r h0 n0 _ s₁.heap _
          rw [e0]
          exact ⟨(congrArg (fun z => some (Value.int z)) (show (0 : Int32) = (own_fits s1 h b r) from by simp [own_fits, hc1, hc5, hc9, hc13])), N0, rfl⟩
        · refine own_st (S' := s₁.setTop (mkF m 18 #[.val (.int s1), .val (.int h), .val (.int b), .val (.int r)] [])) (fun t_ k_ => XS.ifYes X0.here hx rfl (pc0 := 13) (pc' := 18) rfl (hb hby d8_13) rfl ((if0 _ _).trans (flt hc13).2.1) (by decide) (by decide) k_) ?_
          refine own_st (S' := s₁.setTop (mkF m 19 #[.val (.int s1), .val (.int h), .val (.int b), .val (.int r)] [(.int r)])) (fun t_ k_ => XS.iloadN X0.here hx rfl (hb hby d8_18) rfl k_) ?_
          refine own_st (S' := s₁.setTop (mkF m 20 #[.val (.int s1), .val (.int h), .val (.int b), .val (.int r)] [(.int s1), (.int r)])) (fun t_ k_ => XS.iloadN X0.here hx rfl (hb hby d8_19) rfl k_) ?_
          by_cases hc20 : s1 < r
          · refine own_st (S' := s₁.setTop (mkF m 33 #[.val (.int s1), .val (.int h), .val (.int b), .val (.int r)] [])) (fun t_ k_ => XS.icmpYes X0.here hx rfl (pc0 := 20) (pc' := 33) rfl (hb hby d8_20) rfl (tlt hc20).2.2.1 (by decide) (by decide) k_) ?_
            refine own_st (S' := s₁.setTop (mkF m 34 #[.val (.int s1), .val (.int h), .val (.int b), .val (.int r)] [(.int (0 : Int32))])) (fun t_ k_ => XS.iconst X0.here hx rfl (hb hby d8_33) k_) ?_
            obtain ⟨fs, hr, hrun, hended, hW, hsame⟩ := X0.leave (v := some (.int (0 : Int32))) (fun h => by rw [Bd.returns] at h; cases h)
            refine ⟨_, _, retN X0 hx (t := .boolean) Bd.returns (by simp) (hb hby d8_34) hr, hrun, hended, _, _, rfl, ?_, ⟨_, rfl⟩, hW, hsame.mono (by decide) (by decide)⟩
            show Q8 Z s1 h b r h0 n0 _ s₁.heap _
            rw [e0]
            exact ⟨(congrArg (fun z => some (Value.int z)) (show (0 : Int32) = (own_fits s1 h b r) from by simp [own_fits, hc1, hc5, hc9, hc13, hc20])), N0, rfl⟩
          · refine own_st (S' := s₁.setTop (mkF m 23 #[.val (.int s1), .val (.int h), .val (.int b), .val (.int r)] [])) (fun t_ k_ => XS.icmpNo X0.here hx rfl (hb hby d8_20) rfl (flt hc20).2.2.1 k_) ?_
            refine own_st (S' := s₁.setTop (mkF m 24 #[.val (.int s1), .val (.int h), .val (.int b), .val (.int r)] [(.int b)])) (fun t_ k_ => XS.iloadN X0.here hx rfl (hb hby d8_23) rfl k_) ?_
            refine own_st (S' := s₁.setTop (mkF m 25 #[.val (.int s1), .val (.int h), .val (.int b), .val (.int r)] [(.int h), (.int b)])) (fun t_ k_ => XS.iloadN X0.here hx rfl (hb hby d8_24) rfl k_) ?_
            by_cases hc25 : h < b
            · refine own_st (S' := s₁.setTop (mkF m 33 #[.val (.int s1), .val (.int h), .val (.int b), .val (.int r)] [])) (fun t_ k_ => XS.icmpYes X0.here hx rfl (pc0 := 25) (pc' := 33) rfl (hb hby d8_25) rfl (tlt hc25).2.2.1 (by decide) (by decide) k_) ?_
              refine own_st (S' := s₁.setTop (mkF m 34 #[.val (.int s1), .val (.int h), .val (.int b), .val (.int r)] [(.int (0 : Int32))])) (fun t_ k_ => XS.iconst X0.here hx rfl (hb hby d8_33) k_) ?_
              obtain ⟨fs, hr, hrun, hended, hW, hsame⟩ := X0.leave (v := some (.int (0 : Int32))) (fun h => by rw [Bd.returns] at h; cases h)
              refine ⟨_, _, retN X0 hx (t := .boolean) Bd.returns (by simp) (hb hby d8_34) hr, hrun, hended, _, _, rfl, ?_, ⟨_, rfl⟩, hW, hsame.mono (by decide) (by decide)⟩
              show Q8 Z s1 h b r h0 n0 _ s₁.heap _
              rw [e0]
              exact ⟨(congrArg (fun z => some (Value.int z)) (show (0 : Int32) = (own_fits s1 h b r) from by simp [own_fits, hc1, hc5, hc9, hc13, hc20, hc25])), N0, rfl⟩
            · refine own_st (S' := s₁.setTop (mkF m 28 #[.val (.int s1), .val (.int h), .val (.int b), .val (.int r)] [])) (fun t_ k_ => XS.icmpNo X0.here hx rfl (hb hby d8_25) rfl (flt hc25).2.2.1 k_) ?_
              refine own_st (S' := s₁.setTop (mkF m 29 #[.val (.int s1), .val (.int h), .val (.int b), .val (.int r)] [(.int h)])) (fun t_ k_ => XS.iloadN X0.here hx rfl (hb hby d8_28) rfl k_) ?_
              refine own_st (S' := s₁.setTop (mkF m 30 #[.val (.int s1), .val (.int h), .val (.int b), .val (.int r)] [(.int s1), (.int h)])) (fun t_ k_ => XS.iloadN X0.here hx rfl (hb hby d8_29) rfl k_) ?_
              by_cases hc30 : s1 < h
              · refine own_st (S' := s₁.setTop (mkF m 33 #[.val (.int s1), .val (.int h), .val (.int b), .val (.int r)] [])) (fun t_ k_ => XS.icmpNo X0.here hx rfl (hb hby d8_30) rfl (tlt hc30).2.2.2 k_) ?_
                refine own_st (S' := s₁.setTop (mkF m 34 #[.val (.int s1), .val (.int h), .val (.int b), .val (.int r)] [(.int (0 : Int32))])) (fun t_ k_ => XS.iconst X0.here hx rfl (hb hby d8_33) k_) ?_
                obtain ⟨fs, hr, hrun, hended, hW, hsame⟩ := X0.leave (v := some (.int (0 : Int32))) (fun h => by rw [Bd.returns] at h; cases h)
                refine ⟨_, _, retN X0 hx (t := .boolean) Bd.returns (by simp) (hb hby d8_34) hr, hrun, hended, _, _, rfl, ?_, ⟨_, rfl⟩, hW, hsame.mono (by decide) (by decide)⟩
                show Q8 Z s1 h b r h0 n0 _ s₁.heap _
                rw [e0]
                exact ⟨(congrArg (fun z => some (Value.int z)) (show (0 : Int32) = (own_fits s1 h b r) from by simp [own_fits, hc1, hc5, hc9, hc13, hc20, hc25, hc30])), N0, rfl⟩
              · refine own_st (S' := s₁.setTop (mkF m 35 #[.val (.int s1), .val (.int h), .val (.int b), .val (.int r)] [])) (fun t_ k_ => XS.icmpYes X0.here hx rfl (pc0 := 30) (pc' := 35) rfl (hb hby d8_30) rfl (flt hc30).2.2.2 (by decide) (by decide) k_) ?_
                refine own_st (S' := s₁.setTop (mkF m 36 #[.val (.int s1), .val (.int h), .val (.int b), .val (.int r)] [(.int h)])) (fun t_ k_ => XS.iloadN X0.here hx rfl (hb hby d8_35) rfl k_) ?_
                refine own_st (S' := s₁.setTop (mkF m 38 #[.val (.int s1), .val (.int h), .val (.int b), .val (.int r)] [(.int (31 : Int32)), (.int h)])) (fun t_ k_ => XS.bipush X0.here hx rfl (hb hby d8_36) k_) ?_
                by_cases hc38 : h < (31 : Int32)
                · refine own_st (S' := s₁.setTop (mkF m 41 #[.val (.int s1), .val (.int h), .val (.int b), .val (.int r)] [])) (fun t_ k_ => XS.icmpNo X0.here hx rfl (hb hby d8_38) rfl (tlt hc38).2.1 k_) ?_
                  refine own_st (S' := s₁.setTop (mkF m 42 #[.val (.int s1), .val (.int h), .val (.int b), .val (.int r)] [(.int s1)])) (fun t_ k_ => XS.iloadN X0.here hx rfl (hb hby d8_41) rfl k_) ?_
                  refine own_st (S' := s₁.setTop (mkF m 43 #[.val (.int s1), .val (.int h), .val (.int b), .val (.int r)] [(.int (1 : Int32)), (.int s1)])) (fun t_ k_ => XS.iconst X0.here hx rfl (hb hby d8_42) k_) ?_
                  refine own_st (S' := s₁.setTop (mkF m 44 #[.val (.int s1), .val (.int h), .val (.int b), .val (.int r)] [(.int h), (.int (1 : Int32)), (.int s1)])) (fun t_ k_ => XS.iloadN X0.here hx rfl (hb hby d8_43) rfl k_) ?_
                  refine own_st (S' := s₁.setTop (mkF m 45 #[.val (.int s1), .val (.int h), .val (.int b), .val (.int r)] [(.int ((1 : Int32) <<< (h &&& 31))), (.int s1)])) (fun t_ k_ => XS.ishl X0.here hx rfl (hb hby d8_44) rfl k_) ?_
                  by_cases hc45 : s1 < ((1 : Int32) <<< (h &&& 31))
                  · refine own_st (S' := s₁.setTop (mkF m 48 #[.val (.int s1), .val (.int h), .val (.int b), .val (.int r)] [])) (fun t_ k_ => XS.icmpNo X0.here hx rfl (hb hby d8_45) rfl (tlt hc45).2.1 k_) ?_
                    refine own_st (S' := s₁.setTop (mkF m 49 #[.val (.int s1), .val (.int h), .val (.int b), .val (.int r)] [(.int (1 : Int32))])) (fun t_ k_ => XS.iconst X0.here hx rfl (hb hby d8_48) k_) ?_
                    refine own_st (S' := s₁.setTop (mkF m 53 #[.val (.int s1), .val (.int h), .val (.int b), .val (.int r)] [(.int (1 : Int32))])) (fun t_ k_ => XS.goto X0.here hx rfl (pc0 := 49) (pc' := 53) rfl (hb hby d8_49) (by decide) (by decide) k_) ?_
                    obtain ⟨fs, hr, hrun, hended, hW, hsame⟩ := X0.leave (v := some (.int (1 : Int32))) (fun h => by rw [Bd.returns] at h; cases h)
                    refine ⟨_, _, retN X0 hx (t := .boolean) Bd.returns (by simp) (hb hby d8_53) hr, hrun, hended, _, _, rfl, ?_, ⟨_, rfl⟩, hW, hsame.mono (by decide) (by decide)⟩
                    show Q8 Z s1 h b r h0 n0 _ s₁.heap _
                    rw [e0]
                    exact ⟨(congrArg (fun z => some (Value.int z)) (show (1 : Int32) = (own_fits s1 h b r) from by simp [own_fits, hc1, hc5, hc9, hc13, hc20, hc25, hc30, hc38, hc45])), N0, rfl⟩
                  · refine own_st (S' := s₁.setTop (mkF m 52 #[.val (.int s1), .val (.int h), .val (.int b), .val (.int r)] [])) (fun t_ k_ => XS.icmpYes X0.here hx rfl (pc0 := 45) (pc' := 52) rfl (hb hby d8_45) rfl (flt hc45).2.1 (by decide) (by decide) k_) ?_
                    refine own_st (S' := s₁.setTop (mkF m 53 #[.val (.int s1), .val (.int h), .val (.int b), .val (.int r)] [(.int (0 : Int32))])) (fun t_ k_ => XS.iconst X0.here hx rfl (hb hby d8_52) k_) ?_
                    obtain ⟨fs, hr, hrun, hended, hW, hsame⟩ := X0.leave (v := some (.int (0 : Int32))) (fun h => by rw [Bd.returns] at h; cases h)
                    refine ⟨_, _, retN X0 hx (t := .boolean) Bd.returns (by simp) (hb hby d8_53) hr, hrun, hended, _, _, rfl, ?_, ⟨_, rfl⟩, hW, hsame.mono (by decide) (by decide)⟩
                    show Q8 Z s1 h b r h0 n0 _ s₁.heap _
                    rw [e0]
                    exact ⟨(congrArg (fun z => some (Value.int z)) (show (0 : Int32) = (own_fits s1 h b r) from by simp [own_fits, hc1, hc5, hc9, hc13, hc20, hc25, hc30, hc38, hc45])), N0, rfl⟩
                · refine own_st (S' := s₁.setTop (mkF m 48 #[.val (.int s1), .val (.int h), .val (.int b), .val (.int r)] [])) (fun t_ k_ => XS.icmpYes X0.here hx rfl (pc0 := 38) (pc' := 48) rfl (hb hby d8_38) rfl (flt hc38).2.1 (by decide) (by decide) k_) ?_
                  refine own_st (S' := s₁.setTop (mkF m 49 #[.val (.int s1), .val (.int h), .val (.int b), .val (.int r)] [(.int (1 : Int32))])) (fun t_ k_ => XS.iconst X0.here hx rfl (hb hby d8_48) k_) ?_
                  refine own_st (S' := s₁.setTop (mkF m 53 #[.val (.int s1), .val (.int h), .val (.int b), .val (.int r)] [(.int (1 : Int32))])) (fun t_ k_ => XS.goto X0.here hx rfl (pc0 := 49) (pc' := 53) rfl (hb hby d8_49) (by decide) (by decide) k_) ?_
                  obtain ⟨fs, hr, hrun, hended, hW, hsame⟩ := X0.leave (v := some (.int (1 : Int32))) (fun h => by rw [Bd.returns] at h; cases h)
                  refine ⟨_, _, retN X0 hx (t := .boolean) Bd.returns (by simp) (hb hby d8_53) hr, hrun, hended, _, _, rfl, ?_, ⟨_, rfl⟩, hW, hsame.mono (by decide) (by decide)⟩
                  show Q8 Z s1 h b r h0 n0 _ s₁.heap _
                  rw [e0]
                  exact ⟨(congrArg (fun z => some (Value.int z)) (show (1 : Int32) = (own_fits s1 h b r) from by simp [own_fits, hc1, hc5, hc9, hc13, hc20, hc25, hc30, hc38])), N0, rfl⟩
theorem ef_0 (m : MethodId) (p0 : Int32) (p1 : Int32) (p2 : Int32) (p3 : Int32) (p4 : Int64) (p5 : Int64) : entryFrame m #[(.int p0), (.int p1), (.int p2), (.int p3), (.long p4), (.long p5)] maxLocals = mkF m 0 #[.val (.int p0), .val (.int p1), .val (.int p2), .val (.int p3), .val (.long p4), .second, .val (.long p5), .second, .unset, .unset, .unset, .unset, .unset, .unset, .unset, .unset, .unset, .unset, .unset, .unset] [] := by first | (simp [entryFrame, mkF, argsToLocals, Value.category, maxLocals]; done) | rfl
theorem pd_4 : parseMethodDescriptor "(IIII)V" = some ⟨[.int, .int, .int, .int], none⟩ := by decide +kernel
theorem pd_5 : parseMethodDescriptor "(Ljava/lang/Object;)Z" = some ⟨[(.object "java/lang/Object")], some .boolean⟩ := by decide +kernel
theorem pd_6 : parseMethodDescriptor "(I)Ljava/lang/Integer;" = some ⟨[.int], some (.object "java/lang/Integer")⟩ := by decide +kernel
theorem pd_7 : parseMethodDescriptor "(IIII)Z" = some ⟨[.int, .int, .int, .int], some .boolean⟩ := by decide +kernel
def Q0 (Z : State) (p0 : Int32) (p1 : Int32) (p2 : Int32) (p3 : Int32) (p4 : Int64) (p5 : Int64) (ca : Addr) (cc : Cell) (h0 : Heap) (n0 : Nat) (v_ : Option Value) (h_ : Heap) (L_ : List Loc) : Prop := v_ = some (.int (1 : Int32)) ∧ Fr n0 L_
set_option maxRecDepth 65536 in
set_option maxHeartbeats 40000000 in
theorem rm0 (l : Launch) (Z : State) (a0 : Array Value) (hw : ∀ d ∈ tables_1, d.before a0 Z = true) (ws : List Jvm.Cond) (p0 : Int32) (p1 : Int32) (p2 : Int32) (p3 : Int32) (p4 : Int64) (p5 : Int64) (ca : Addr) (cc : Cell) (h0 : Heap) (n0 : Nat) (Z0 : n0 ≤ h0.size) (Y0 : Sta Z Z.heap "java/lang/Integer$IntegerCache" "high" "I" (.int (127 : Int32))) (Y1 : Sta Z Z.heap "java/lang/Integer$IntegerCache" "cache" "[Ljava/lang/Integer;" (.ref ca)) (O0 : Old Z n0 h0) (HB : Bxs Z ca cc "java/lang/Integer" "I" (256 : Int32) (fun j => .int (j - (128 : Int32)))) :
    MetFree l x (head1 (Jvm.Cond.code x code maxLocals ret :: ws) room_1) (fun ar_ U_ => ar_ = #[(.int p0), (.int p1), (.int p2), (.int p3), (.long p4), (.long p5)] ∧ Z.Warmed39 U_.vm ∧ U_.heap = h0) (fun _ _ _ _ _ => True) (fun _ U_ o_ U2_ => ∃ v_ L_, o_ = .returned v_ ∧ Q0 Z p0 p1 p2 p3 p4 p5 ca cc h0 n0 v_ U2_.heap L_ ∧ FrameEnd U_ o_ U2_ L_ room_1.cells room_1.slots) := by
  refine MetFree.of_bodySF (plainFor_of_name pn_3) hisR ?_
  intro p e s m args below meth c s₁ Bd hml0 hP hK
  obtain ⟨rfl, hZ, hh⟩ := hP
  have hx := Bd.exec
  have hby := Bd.bytes
  have hml : c.maxLocals = 20 := hml0
  have hown : s.vm.findClass "com/example/bloodwood/bloodwood/TreeReportEqualsPinLaw" = some m.cls := findClass_of_methodNamed Bd.named
  have hnm := (name_of_methodNamed Bd.named Bd.method).1
  have X0 : Stand p l e room_1 s m #[(.int p0), (.int p1), (.int p2), (.int p3), (.long p4), (.long p5)] below meth c s₁ [] 0 0 := Stand.of_body Bd
  have e0 : s₁.heap = h0 := by rw [← hh, Bd.state]; rfl
  have N0 := Fr.nil n0
  refine own_gl ?_
  refine own_st (S' := s₁.setTop (mkF m 0 #[.val (.int p0), .val (.int p1), .val (.int p2), .val (.int p3), .val (.long p4), .second, .val (.long p5), .second, .unset, .unset, .unset, .unset, .unset, .unset, .unset, .unset, .unset, .unset, .unset, .unset] [])) (fun t_ k_ => castTop (ef_0 m p0 p1 p2 p3 p4 p5) k_) ?_
  refine own_st (S' := s₁.setTop (mkF m 1 #[.val (.int p0), .val (.int p1), .val (.int p2), .val (.int p3), .val (.long p4), .second, .val (.long p5), .second, .unset, .unset, .unset, .unset, .unset, .unset, .unset, .unset, .unset, .unset, .unset, .unset] [(.int p0)])) (fun t_ k_ => XS.iloadN X0.here hx rfl (hb hby at_0) rfl k_) ?_
  refine own_st (S' := s₁.setTop (mkF m 3 #[.val (.int p0), .val (.int p1), .val (.int p2), .val (.int p3), .val (.long p4), .second, .val (.long p5), .second, .unset, .unset, .unset, .unset, .unset, .unset, .unset, .unset, .unset, .unset, .unset, .unset] [(.int (2147483647 : Int32)), (.int p0)])) (fun t_ k_ => X0.ldcI hx hown (mvT hZ (hw _ (List.mem_of_getElem? (i := 0) rfl))) (g := (mkF m 1 #[.val (.int p0), .val (.int p1), .val (.int p2), .val (.int p3), .val (.long p4), .second, .val (.long p5), .second, .unset, .unset, .unset, .unset, .unset, .unset, .unset, .unset, .unset, .unset, .unset, .unset] [(.int p0)])) rfl (hb hby at_1) k_) ?_
  refine own_st (S' := s₁.setTop (mkF m 4 #[.val (.int p0), .val (.int p1), .val (.int p2), .val (.int p3), .val (.long p4), .second, .val (.long p5), .second, .unset, .unset, .unset, .unset, .unset, .unset, .unset, .unset, .unset, .unset, .unset, .unset] [(.int (p0 &&& (2147483647 : Int32)))])) (fun t_ k_ => XS.iand X0.here hx rfl (hb hby at_3) rfl k_) ?_
  refine own_st (S' := s₁.setTop (mkF m 6 #[.val (.int p0), .val (.int p1), .val (.int p2), .val (.int p3), .val (.long p4), .second, .val (.long p5), .second, .unset, .unset, .unset, .unset, .unset, .unset, .unset, .unset, .unset, .unset, .unset, .unset] [(.int (31 : Int32)), (.int (p0 &&& (2147483647 : Int32)))])) (fun t_ k_ => XS.bipush X0.here hx rfl (hb hby at_4) k_) ?_
  refine own_st (S' := s₁.setTop (mkF m 7 #[.val (.int p0), .val (.int p1), .val (.int p2), .val (.int p3), .val (.long p4), .second, .val (.long p5), .second, .unset, .unset, .unset, .unset, .unset, .unset, .unset, .unset, .unset, .unset, .unset, .unset] [(.int ((p0 &&& (2147483647 : Int32)) % (31 : Int32)))])) (fun t_ k_ => iremM (g := (mkF m 6 #[.val (.int p0), .val (.int p1), .val (.int p2), .val (.int p3), .val (.long p4), .second, .val (.long p5), .second, .unset, .unset, .unset, .unset, .unset, .unset, .unset, .unset, .unset, .unset, .unset, .unset] [(.int (31 : Int32)), (.int (p0 &&& (2147483647 : Int32)))])) X0 hx rfl (hb hby at_6) rfl (by decide) k_) ?_
  obtain ⟨v_1, hv_1⟩ : ∃ z : Int32, z = ((p0 &&& (2147483647 : Int32)) % (31 : Int32)) := ⟨_, rfl⟩
  refine own_cast (S' := s₁.setTop (mkF m 7 #[.val (.int p0), .val (.int p1), .val (.int p2), .val (.int p3), .val (.long p4), .second, .val (.long p5), .second, .unset, .unset, .unset, .unset, .unset, .unset, .unset, .unset, .unset, .unset, .unset, .unset] [(.int v_1)])) (by rw [hv_1]) ?_
  refine own_st (S' := s₁.setTop (mkF m 9 #[.val (.int p0), .val (.int p1), .val (.int p2), .val (.int p3), .val (.long p4), .second, .val (.long p5), .second, .val (.int v_1), .unset, .unset, .unset, .unset, .unset, .unset, .unset, .unset, .unset, .unset, .unset] [])) (fun t_ k_ => XS.istore X0.here hx rfl (hb hby at_7) rfl (l' := #[.val (.int p0), .val (.int p1), .val (.int p2), .val (.int p3), .val (.long p4), .second, .val (.long p5), .second, .val (.int v_1), .unset, .unset, .unset, .unset, .unset, .unset, .unset, .unset, .unset, .unset, .unset]) rfl k_) ?_
  refine own_st (S' := s₁.setTop (mkF m 11 #[.val (.int p0), .val (.int p1), .val (.int p2), .val (.int p3), .val (.long p4), .second, .val (.long p5), .second, .val (.int v_1), .unset, .unset, .unset, .unset, .unset, .unset, .unset, .unset, .unset, .unset, .unset] [(.int v_1)])) (fun t_ k_ => XS.iload X0.here hx rfl (hb hby at_9) rfl k_) ?_
  refine own_st (S' := s₁.setTop (mkF m 12 #[.val (.int p0), .val (.int p1), .val (.int p2), .val (.int p3), .val (.long p4), .second, .val (.long p5), .second, .val (.int v_1), .unset, .unset, .unset, .unset, .unset, .unset, .unset, .unset, .unset, .unset, .unset] [(.int p1), (.int v_1)])) (fun t_ k_ => XS.iloadN X0.here hx rfl (hb hby at_11) rfl k_) ?_
  refine own_st (S' := s₁.setTop (mkF m 14 #[.val (.int p0), .val (.int p1), .val (.int p2), .val (.int p3), .val (.long p4), .second, .val (.long p5), .second, .val (.int v_1), .unset, .unset, .unset, .unset, .unset, .unset, .unset, .unset, .unset, .unset, .unset] [(.int (2147483647 : Int32)), (.int p1), (.int v_1)])) (fun t_ k_ => X0.ldcI hx hown (mvT hZ (hw _ (List.mem_of_getElem? (i := 0) rfl))) (g := (mkF m 12 #[.val (.int p0), .val (.int p1), .val (.int p2), .val (.int p3), .val (.long p4), .second, .val (.long p5), .second, .val (.int v_1), .unset, .unset, .unset, .unset, .unset, .unset, .unset, .unset, .unset, .unset, .unset] [(.int p1), (.int v_1)])) rfl (hb hby at_12) k_) ?_
  refine own_st (S' := s₁.setTop (mkF m 15 #[.val (.int p0), .val (.int p1), .val (.int p2), .val (.int p3), .val (.long p4), .second, .val (.long p5), .second, .val (.int v_1), .unset, .unset, .unset, .unset, .unset, .unset, .unset, .unset, .unset, .unset, .unset] [(.int (p1 &&& (2147483647 : Int32))), (.int v_1)])) (fun t_ k_ => XS.iand X0.here hx rfl (hb hby at_14) rfl k_) ?_
  refine own_st (S' := s₁.setTop (mkF m 16 #[.val (.int p0), .val (.int p1), .val (.int p2), .val (.int p3), .val (.long p4), .second, .val (.long p5), .second, .val (.int v_1), .unset, .unset, .unset, .unset, .unset, .unset, .unset, .unset, .unset, .unset, .unset] [(.int (1 : Int32)), (.int (p1 &&& (2147483647 : Int32))), (.int v_1)])) (fun t_ k_ => XS.iconst X0.here hx rfl (hb hby at_15) k_) ?_
  refine own_st (S' := s₁.setTop (mkF m 18 #[.val (.int p0), .val (.int p1), .val (.int p2), .val (.int p3), .val (.long p4), .second, .val (.long p5), .second, .val (.int v_1), .unset, .unset, .unset, .unset, .unset, .unset, .unset, .unset, .unset, .unset, .unset] [(.int v_1), (.int (1 : Int32)), (.int (p1 &&& (2147483647 : Int32))), (.int v_1)])) (fun t_ k_ => XS.iload X0.here hx rfl (hb hby at_16) rfl k_) ?_
  refine own_st (S' := s₁.setTop (mkF m 19 #[.val (.int p0), .val (.int p1), .val (.int p2), .val (.int p3), .val (.long p4), .second, .val (.long p5), .second, .val (.int v_1), .unset, .unset, .unset, .unset, .unset, .unset, .unset, .unset, .unset, .unset, .unset] [(.int ((1 : Int32) <<< (v_1 &&& 31))), (.int (p1 &&& (2147483647 : Int32))), (.int v_1)])) (fun t_ k_ => XS.ishl X0.here hx rfl (hb hby at_18) rfl k_) ?_
  refine own_st (S' := s₁.setTop (mkF m 21 #[.val (.int p0), .val (.int p1), .val (.int p2), .val (.int p3), .val (.long p4), .second, .val (.long p5), .second, .val (.int v_1), .unset, .unset, .unset, .unset, .unset, .unset, .unset, .unset, .unset, .unset, .unset] [(.int v_1), (.int ((1 : Int32) <<< (v_1 &&& 31))), (.int (p1 &&& (2147483647 : Int32))), (.int v_1)])) (fun t_ k_ => XS.iload X0.here hx rfl (hb hby at_19) rfl k_) ?_
  refine own_st (S' := s₁.setTop (mkF m 22 #[.val (.int p0), .val (.int p1), .val (.int p2), .val (.int p3), .val (.long p4), .second, .val (.long p5), .second, .val (.int v_1), .unset, .unset, .unset, .unset, .unset, .unset, .unset, .unset, .unset, .unset, .unset] [(.int (((1 : Int32) <<< (v_1 &&& 31)) - v_1)), (.int (p1 &&& (2147483647 : Int32))), (.int v_1)])) (fun t_ k_ => XS.isub X0.here hx rfl (hb hby at_21) rfl k_) ?_
  have nz22 : ¬ (((1 : Int32) <<< (v_1 &&& 31)) - v_1) = (0 : Int32) := own_dz hv_1
  refine own_st (S' := s₁.setTop (mkF m 23 #[.val (.int p0), .val (.int p1), .val (.int p2), .val (.int p3), .val (.long p4), .second, .val (.long p5), .second, .val (.int v_1), .unset, .unset, .unset, .unset, .unset, .unset, .unset, .unset, .unset, .unset, .unset] [(.int ((p1 &&& (2147483647 : Int32)) % (((1 : Int32) <<< (v_1 &&& 31)) - v_1))), (.int v_1)])) (fun t_ k_ => iremM (g := (mkF m 22 #[.val (.int p0), .val (.int p1), .val (.int p2), .val (.int p3), .val (.long p4), .second, .val (.long p5), .second, .val (.int v_1), .unset, .unset, .unset, .unset, .unset, .unset, .unset, .unset, .unset, .unset, .unset] [(.int (((1 : Int32) <<< (v_1 &&& 31)) - v_1)), (.int (p1 &&& (2147483647 : Int32))), (.int v_1)])) X0 hx rfl (hb hby at_22) rfl nz22 k_) ?_
  refine own_st (S' := s₁.setTop (mkF m 24 #[.val (.int p0), .val (.int p1), .val (.int p2), .val (.int p3), .val (.long p4), .second, .val (.long p5), .second, .val (.int v_1), .unset, .unset, .unset, .unset, .unset, .unset, .unset, .unset, .unset, .unset, .unset] [(.int (v_1 + ((p1 &&& (2147483647 : Int32)) % (((1 : Int32) <<< (v_1 &&& 31)) - v_1))))])) (fun t_ k_ => XS.iadd X0.here hx rfl (hb hby at_23) rfl k_) ?_
  obtain ⟨v_2, hv_2⟩ : ∃ z : Int32, z = (v_1 + ((p1 &&& (2147483647 : Int32)) % (((1 : Int32) <<< (v_1 &&& 31)) - v_1))) := ⟨_, rfl⟩
  refine own_cast (S' := s₁.setTop (mkF m 24 #[.val (.int p0), .val (.int p1), .val (.int p2), .val (.int p3), .val (.long p4), .second, .val (.long p5), .second, .val (.int v_1), .unset, .unset, .unset, .unset, .unset, .unset, .unset, .unset, .unset, .unset, .unset] [(.int v_2)])) (by rw [hv_2]) ?_
  refine own_st (S' := s₁.setTop (mkF m 26 #[.val (.int p0), .val (.int p1), .val (.int p2), .val (.int p3), .val (.long p4), .second, .val (.long p5), .second, .val (.int v_1), .val (.int v_2), .unset, .unset, .unset, .unset, .unset, .unset, .unset, .unset, .unset, .unset] [])) (fun t_ k_ => XS.istore X0.here hx rfl (hb hby at_24) rfl (l' := #[.val (.int p0), .val (.int p1), .val (.int p2), .val (.int p3), .val (.long p4), .second, .val (.long p5), .second, .val (.int v_1), .val (.int v_2), .unset, .unset, .unset, .unset, .unset, .unset, .unset, .unset, .unset, .unset]) rfl k_) ?_
  refine own_st (S' := s₁.setTop (mkF m 27 #[.val (.int p0), .val (.int p1), .val (.int p2), .val (.int p3), .val (.long p4), .second, .val (.long p5), .second, .val (.int v_1), .val (.int v_2), .unset, .unset, .unset, .unset, .unset, .unset, .unset, .unset, .unset, .unset] [(.int p2)])) (fun t_ k_ => XS.iloadN X0.here hx rfl (hb hby at_26) rfl k_) ?_
  refine own_st (S' := s₁.setTop (mkF m 28 #[.val (.int p0), .val (.int p1), .val (.int p2), .val (.int p3), .val (.long p4), .second, .val (.long p5), .second, .val (.int v_1), .val (.int v_2), .unset, .unset, .unset, .unset, .unset, .unset, .unset, .unset, .unset, .unset] [(.int (3 : Int32)), (.int p2)])) (fun t_ k_ => XS.iconst X0.here hx rfl (hb hby at_27) k_) ?_
  refine own_st (S' := s₁.setTop (mkF m 29 #[.val (.int p0), .val (.int p1), .val (.int p2), .val (.int p3), .val (.long p4), .second, .val (.long p5), .second, .val (.int v_1), .val (.int v_2), .unset, .unset, .unset, .unset, .unset, .unset, .unset, .unset, .unset, .unset] [(.int ((p2.toUInt32 >>> ((3 : Int32) &&& 31).toUInt32).toInt32))])) (fun t_ k_ => XS.iushr X0.here hx rfl (hb hby at_28) rfl k_) ?_
  refine own_st (S' := s₁.setTop (mkF m 31 #[.val (.int p0), .val (.int p1), .val (.int p2), .val (.int p3), .val (.long p4), .second, .val (.long p5), .second, .val (.int v_1), .val (.int v_2), .unset, .unset, .unset, .unset, .unset, .unset, .unset, .unset, .unset, .unset] [(.int v_1), (.int ((p2.toUInt32 >>> ((3 : Int32) &&& 31).toUInt32).toInt32))])) (fun t_ k_ => XS.iload X0.here hx rfl (hb hby at_29) rfl k_) ?_
  refine own_st (S' := s₁.setTop (mkF m 32 #[.val (.int p0), .val (.int p1), .val (.int p2), .val (.int p3), .val (.long p4), .second, .val (.long p5), .second, .val (.int v_1), .val (.int v_2), .unset, .unset, .unset, .unset, .unset, .unset, .unset, .unset, .unset, .unset] [(.int (1 : Int32)), (.int v_1), (.int ((p2.toUInt32 >>> ((3 : Int32) &&& 31).toUInt32).toInt32))])) (fun t_ k_ => XS.iconst X0.here hx rfl (hb hby at_31) k_) ?_
  refine own_st (S' := s₁.setTop (mkF m 33 #[.val (.int p0), .val (.int p1), .val (.int p2), .val (.int p3), .val (.long p4), .second, .val (.long p5), .second, .val (.int v_1), .val (.int v_2), .unset, .unset, .unset, .unset, .unset, .unset, .unset, .unset, .unset, .unset] [(.int (v_1 + (1 : Int32))), (.int ((p2.toUInt32 >>> ((3 : Int32) &&& 31).toUInt32).toInt32))])) (fun t_ k_ => XS.iadd X0.here hx rfl (hb hby at_32) rfl k_) ?_
  have nz33 : ¬ (v_1 + (1 : Int32)) = (0 : Int32) := own_hz hv_1
  refine own_st (S' := s₁.setTop (mkF m 34 #[.val (.int p0), .val (.int p1), .val (.int p2), .val (.int p3), .val (.long p4), .second, .val (.long p5), .second, .val (.int v_1), .val (.int v_2), .unset, .unset, .unset, .unset, .unset, .unset, .unset, .unset, .unset, .unset] [(.int (((p2.toUInt32 >>> ((3 : Int32) &&& 31).toUInt32).toInt32) % (v_1 + (1 : Int32))))])) (fun t_ k_ => iremM (g := (mkF m 33 #[.val (.int p0), .val (.int p1), .val (.int p2), .val (.int p3), .val (.long p4), .second, .val (.long p5), .second, .val (.int v_1), .val (.int v_2), .unset, .unset, .unset, .unset, .unset, .unset, .unset, .unset, .unset, .unset] [(.int (v_1 + (1 : Int32))), (.int ((p2.toUInt32 >>> ((3 : Int32) &&& 31).toUInt32).toInt32))])) X0 hx rfl (hb hby at_33) rfl nz33 k_) ?_
  obtain ⟨v_3, hv_3⟩ : ∃ z : Int32, z = (((p2.toUInt32 >>> ((3 : Int32) &&& 31).toUInt32).toInt32) % (v_1 + (1 : Int32))) := ⟨_, rfl⟩
  refine own_cast (S' := s₁.setTop (mkF m 34 #[.val (.int p0), .val (.int p1), .val (.int p2), .val (.int p3), .val (.long p4), .second, .val (.long p5), .second, .val (.int v_1), .val (.int v_2), .unset, .unset, .unset, .unset, .unset, .unset, .unset, .unset, .unset, .unset] [(.int v_3)])) (by rw [hv_3]) ?_
  refine own_st (S' := s₁.setTop (mkF m 36 #[.val (.int p0), .val (.int p1), .val (.int p2), .val (.int p3), .val (.long p4), .second, .val (.long p5), .second, .val (.int v_1), .val (.int v_2), .val (.int v_3), .unset, .unset, .unset, .unset, .unset, .unset, .unset, .unset, .unset] [])) (fun t_ k_ => XS.istore X0.here hx rfl (hb hby at_34) rfl (l' := #[.val (.int p0), .val (.int p1), .val (.int p2), .val (.int p3), .val (.long p4), .second, .val (.long p5), .second, .val (.int v_1), .val (.int v_2), .val (.int v_3), .unset, .unset, .unset, .unset, .unset, .unset, .unset, .unset, .unset]) rfl k_) ?_
  refine own_st (S' := s₁.setTop (mkF m 37 #[.val (.int p0), .val (.int p1), .val (.int p2), .val (.int p3), .val (.long p4), .second, .val (.long p5), .second, .val (.int v_1), .val (.int v_2), .val (.int v_3), .unset, .unset, .unset, .unset, .unset, .unset, .unset, .unset, .unset] [(.int p3)])) (fun t_ k_ => XS.iloadN X0.here hx rfl (hb hby at_36) rfl k_) ?_
  refine own_st (S' := s₁.setTop (mkF m 39 #[.val (.int p0), .val (.int p1), .val (.int p2), .val (.int p3), .val (.long p4), .second, .val (.long p5), .second, .val (.int v_1), .val (.int v_2), .val (.int v_3), .unset, .unset, .unset, .unset, .unset, .unset, .unset, .unset, .unset] [(.int (2147483647 : Int32)), (.int p3)])) (fun t_ k_ => X0.ldcI hx hown (mvT hZ (hw _ (List.mem_of_getElem? (i := 0) rfl))) (g := (mkF m 37 #[.val (.int p0), .val (.int p1), .val (.int p2), .val (.int p3), .val (.long p4), .second, .val (.long p5), .second, .val (.int v_1), .val (.int v_2), .val (.int v_3), .unset, .unset, .unset, .unset, .unset, .unset, .unset, .unset, .unset] [(.int p3)])) rfl (hb hby at_37) k_) ?_
  refine own_st (S' := s₁.setTop (mkF m 40 #[.val (.int p0), .val (.int p1), .val (.int p2), .val (.int p3), .val (.long p4), .second, .val (.long p5), .second, .val (.int v_1), .val (.int v_2), .val (.int v_3), .unset, .unset, .unset, .unset, .unset, .unset, .unset, .unset, .unset] [(.int (p3 &&& (2147483647 : Int32)))])) (fun t_ k_ => XS.iand X0.here hx rfl (hb hby at_39) rfl k_) ?_
  refine own_st (S' := s₁.setTop (mkF m 42 #[.val (.int p0), .val (.int p1), .val (.int p2), .val (.int p3), .val (.long p4), .second, .val (.long p5), .second, .val (.int v_1), .val (.int v_2), .val (.int v_3), .unset, .unset, .unset, .unset, .unset, .unset, .unset, .unset, .unset] [(.int v_2), (.int (p3 &&& (2147483647 : Int32)))])) (fun t_ k_ => XS.iload X0.here hx rfl (hb hby at_40) rfl k_) ?_
  refine own_st (S' := s₁.setTop (mkF m 43 #[.val (.int p0), .val (.int p1), .val (.int p2), .val (.int p3), .val (.long p4), .second, .val (.long p5), .second, .val (.int v_1), .val (.int v_2), .val (.int v_3), .unset, .unset, .unset, .unset, .unset, .unset, .unset, .unset, .unset] [(.int (1 : Int32)), (.int v_2), (.int (p3 &&& (2147483647 : Int32)))])) (fun t_ k_ => XS.iconst X0.here hx rfl (hb hby at_42) k_) ?_
  refine own_st (S' := s₁.setTop (mkF m 44 #[.val (.int p0), .val (.int p1), .val (.int p2), .val (.int p3), .val (.long p4), .second, .val (.long p5), .second, .val (.int v_1), .val (.int v_2), .val (.int v_3), .unset, .unset, .unset, .unset, .unset, .unset, .unset, .unset, .unset] [(.int (v_2 + (1 : Int32))), (.int (p3 &&& (2147483647 : Int32)))])) (fun t_ k_ => XS.iadd X0.here hx rfl (hb hby at_43) rfl k_) ?_
  have nz44 : ¬ (v_2 + (1 : Int32)) = (0 : Int32) := own_sz hv_1 hv_2
  refine own_st (S' := s₁.setTop (mkF m 45 #[.val (.int p0), .val (.int p1), .val (.int p2), .val (.int p3), .val (.long p4), .second, .val (.long p5), .second, .val (.int v_1), .val (.int v_2), .val (.int v_3), .unset, .unset, .unset, .unset, .unset, .unset, .unset, .unset, .unset] [(.int ((p3 &&& (2147483647 : Int32)) % (v_2 + (1 : Int32))))])) (fun t_ k_ => iremM (g := (mkF m 44 #[.val (.int p0), .val (.int p1), .val (.int p2), .val (.int p3), .val (.long p4), .second, .val (.long p5), .second, .val (.int v_1), .val (.int v_2), .val (.int v_3), .unset, .unset, .unset, .unset, .unset, .unset, .unset, .unset, .unset] [(.int (v_2 + (1 : Int32))), (.int (p3 &&& (2147483647 : Int32)))])) X0 hx rfl (hb hby at_44) rfl nz44 k_) ?_
  obtain ⟨v_4, hv_4⟩ : ∃ z : Int32, z = ((p3 &&& (2147483647 : Int32)) % (v_2 + (1 : Int32))) := ⟨_, rfl⟩
  refine own_cast (S' := s₁.setTop (mkF m 45 #[.val (.int p0), .val (.int p1), .val (.int p2), .val (.int p3), .val (.long p4), .second, .val (.long p5), .second, .val (.int v_1), .val (.int v_2), .val (.int v_3), .unset, .unset, .unset, .unset, .unset, .unset, .unset, .unset, .unset] [(.int v_4)])) (by rw [hv_4]) ?_
  refine own_st (S' := s₁.setTop (mkF m 47 #[.val (.int p0), .val (.int p1), .val (.int p2), .val (.int p3), .val (.long p4), .second, .val (.long p5), .second, .val (.int v_1), .val (.int v_2), .val (.int v_3), .val (.int v_4), .unset, .unset, .unset, .unset, .unset, .unset, .unset, .unset] [])) (fun t_ k_ => XS.istore X0.here hx rfl (hb hby at_45) rfl (l' := #[.val (.int p0), .val (.int p1), .val (.int p2), .val (.int p3), .val (.long p4), .second, .val (.long p5), .second, .val (.int v_1), .val (.int v_2), .val (.int v_3), .val (.int v_4), .unset, .unset, .unset, .unset, .unset, .unset, .unset, .unset]) rfl k_) ?_
  refine own_st (S' := s₁.setTop (mkF m 48 #[.val (.int p0), .val (.int p1), .val (.int p2), .val (.int p3), .val (.long p4), .second, .val (.long p5), .second, .val (.int v_1), .val (.int v_2), .val (.int v_3), .val (.int v_4), .unset, .unset, .unset, .unset, .unset, .unset, .unset, .unset] [(.int p2)])) (fun t_ k_ => XS.iloadN X0.here hx rfl (hb hby at_47) rfl k_) ?_
  refine own_st (S' := s₁.setTop (mkF m 50 #[.val (.int p0), .val (.int p1), .val (.int p2), .val (.int p3), .val (.long p4), .second, .val (.long p5), .second, .val (.int v_1), .val (.int v_2), .val (.int v_3), .val (.int v_4), .unset, .unset, .unset, .unset, .unset, .unset, .unset, .unset] [(.int (7 : Int32)), (.int p2)])) (fun t_ k_ => XS.bipush X0.here hx rfl (hb hby at_48) k_) ?_
  refine own_st (S' := s₁.setTop (mkF m 51 #[.val (.int p0), .val (.int p1), .val (.int p2), .val (.int p3), .val (.long p4), .second, .val (.long p5), .second, .val (.int v_1), .val (.int v_2), .val (.int v_3), .val (.int v_4), .unset, .unset, .unset, .unset, .unset, .unset, .unset, .unset] [(.int (p2 &&& (7 : Int32)))])) (fun t_ k_ => XS.iand X0.here hx rfl (hb hby at_50) rfl k_) ?_
  obtain ⟨v_5, hv_5⟩ : ∃ z : Int32, z = (p2 &&& (7 : Int32)) := ⟨_, rfl⟩
  refine own_cast (S' := s₁.setTop (mkF m 51 #[.val (.int p0), .val (.int p1), .val (.int p2), .val (.int p3), .val (.long p4), .second, .val (.long p5), .second, .val (.int v_1), .val (.int v_2), .val (.int v_3), .val (.int v_4), .unset, .unset, .unset, .unset, .unset, .unset, .unset, .unset] [(.int v_5)])) (by rw [hv_5]) ?_
  refine own_st (S' := s₁.setTop (mkF m 53 #[.val (.int p0), .val (.int p1), .val (.int p2), .val (.int p3), .val (.long p4), .second, .val (.long p5), .second, .val (.int v_1), .val (.int v_2), .val (.int v_3), .val (.int v_4), .val (.int v_5), .unset, .unset, .unset, .unset, .unset, .unset, .unset] [])) (fun t_ k_ => XS.istore X0.here hx rfl (hb hby at_51) rfl (l' := #[.val (.int p0), .val (.int p1), .val (.int p2), .val (.int p3), .val (.long p4), .second, .val (.long p5), .second, .val (.int v_1), .val (.int v_2), .val (.int v_3), .val (.int v_4), .val (.int v_5), .unset, .unset, .unset, .unset, .unset, .unset, .unset]) rfl k_) ?_
  have G1 := own_ok hv_1 hv_2 hv_3 hv_4
  obtain ⟨T_6, h_6, X_6, e_6, E_6, A_6, D_6, -, st_6⟩ := newO X0 hx hZ hown (hw _ (List.mem_of_getElem? (i := 1) rfl)) (hw _ (List.mem_of_getElem? (i := 2) rfl)) (hw _ (List.mem_of_getElem? (i := 3) rfl)) e0 (g := (mkF m 53 #[.val (.int p0), .val (.int p1), .val (.int p2), .val (.int p3), .val (.long p4), .second, .val (.long p5), .second, .val (.int v_1), .val (.int v_2), .val (.int v_3), .val (.int v_4), .val (.int v_5), .unset, .unset, .unset, .unset, .unset, .unset, .unset] [])) rfl (hb hby at_53) (by decide) (by decide)
  obtain ⟨b_6, gg_6⟩ : ∃ z, z = h0.size := ⟨_, rfl⟩
  rw [← gg_6] at A_6 D_6 st_6
  have g_b_6 : n0 ≤ b_6 := Nat.le_trans Z0 (Nat.le_of_eq gg_6.symm)
  have Z_6 : n0 ≤ h_6.size := Nat.le_trans Z0 E_6.1
  have F_6_size : Fld Z h_6 b_6 "com/example/bloodwood/bloodwood/TreeReport" "size" "I" (.int (0 : Int32)) := D_6 (Or.inr (hw _ (List.mem_of_getElem? (i := 18) rfl))) (ty := .int) (by decide)
  have F_6_height : Fld Z h_6 b_6 "com/example/bloodwood/bloodwood/TreeReport" "height" "I" (.int (0 : Int32)) := D_6 (Or.inr (hw _ (List.mem_of_getElem? (i := 20) rfl))) (ty := .int) (by decide)
  have F_6_blackHeight : Fld Z h_6 b_6 "com/example/bloodwood/bloodwood/TreeReport" "blackHeight" "I" (.int (0 : Int32)) := D_6 (Or.inr (hw _ (List.mem_of_getElem? (i := 22) rfl))) (ty := .int) (by decide)
  have F_6_redCount : Fld Z h_6 b_6 "com/example/bloodwood/bloodwood/TreeReport" "redCount" "I" (.int (0 : Int32)) := D_6 (Or.inr (hw _ (List.mem_of_getElem? (i := 24) rfl))) (ty := .int) (by decide)
  refine own_st (S' := T_6.setTop (mkF m 56 #[.val (.int p0), .val (.int p1), .val (.int p2), .val (.int p3), .val (.long p4), .second, .val (.long p5), .second, .val (.int v_1), .val (.int v_2), .val (.int v_3), .val (.int v_4), .val (.int v_5), .unset, .unset, .unset, .unset, .unset, .unset, .unset] [(.ref b_6)])) st_6 ?_
  refine own_st (S' := T_6.setTop (mkF m 57 #[.val (.int p0), .val (.int p1), .val (.int p2), .val (.int p3), .val (.long p4), .second, .val (.long p5), .second, .val (.int v_1), .val (.int v_2), .val (.int v_3), .val (.int v_4), .val (.int v_5), .unset, .unset, .unset, .unset, .unset, .unset, .unset] [(.ref b_6), (.ref b_6)])) (fun t_ k_ => XS.dup X_6.here hx rfl (hb hby at_56) rfl rfl k_) ?_
  refine own_st (S' := T_6.setTop (mkF m 59 #[.val (.int p0), .val (.int p1), .val (.int p2), .val (.int p3), .val (.long p4), .second, .val (.long p5), .second, .val (.int v_1), .val (.int v_2), .val (.int v_3), .val (.int v_4), .val (.int v_5), .unset, .unset, .unset, .unset, .unset, .unset, .unset] [(.int v_2), (.ref b_6), (.ref b_6)])) (fun t_ k_ => XS.iload X_6.here hx rfl (hb hby at_57) rfl k_) ?_
  refine own_st (S' := T_6.setTop (mkF m 61 #[.val (.int p0), .val (.int p1), .val (.int p2), .val (.int p3), .val (.long p4), .second, .val (.long p5), .second, .val (.int v_1), .val (.int v_2), .val (.int v_3), .val (.int v_4), .val (.int v_5), .unset, .unset, .unset, .unset, .unset, .unset, .unset] [(.int v_1), (.int v_2), (.ref b_6), (.ref b_6)])) (fun t_ k_ => XS.iload X_6.here hx rfl (hb hby at_59) rfl k_) ?_
  refine own_st (S' := T_6.setTop (mkF m 63 #[.val (.int p0), .val (.int p1), .val (.int p2), .val (.int p3), .val (.long p4), .second, .val (.long p5), .second, .val (.int v_1), .val (.int v_2), .val (.int v_3), .val (.int v_4), .val (.int v_5), .unset, .unset, .unset, .unset, .unset, .unset, .unset] [(.int v_3), (.int v_1), (.int v_2), (.ref b_6), (.ref b_6)])) (fun t_ k_ => XS.iload X_6.here hx rfl (hb hby at_61) rfl k_) ?_
  refine own_st (S' := T_6.setTop (mkF m 65 #[.val (.int p0), .val (.int p1), .val (.int p2), .val (.int p3), .val (.long p4), .second, .val (.long p5), .second, .val (.int v_1), .val (.int v_2), .val (.int v_3), .val (.int v_4), .val (.int v_5), .unset, .unset, .unset, .unset, .unset, .unset, .unset] [(.int v_4), (.int v_3), (.int v_1), (.int v_2), (.ref b_6), (.ref b_6)])) (fun t_ k_ => XS.iload X_6.here hx rfl (hb hby at_63) rfl k_) ?_
  obtain ⟨_, _, ⟨T_7, L_7, k_7, n_7⟩, -, X_7, ⟨Lc_7, hQ_7, l_7, y_7, z_7⟩, st_7⟩ := X_6.specialBack hx (y := (⟨"com/example/bloodwood/bloodwood/TreeReport", "<init>", "(IIII)V"⟩ : MethodName)) rfl hown (mvT hZ (hw _ (List.mem_of_getElem? (i := 4) rfl))) (mvT hZ (hw _ (List.mem_of_getElem? (i := 5) rfl))) (mvT hZ (hw _ (List.mem_of_getElem? (i := 6) rfl))) (by decide) (backOf (W := 1) (rm6 l Z a0 hw [] b_6 v_2 v_1 v_3 v_4 h_6 n0 Z_6 A_6 F_6_size F_6_height F_6_blackHeight F_6_redCount g_b_6 G1.1 G1.2.1 G1.2.2.1 G1.2.2.2.1 G1.2.2.2.2.1 G1.2.2.2.2.2.1 G1.2.2.2.2.2.2.1 G1.2.2.2.2.2.2.2) hZ (hw _ (List.mem_of_getElem? (i := 6) rfl)) (hw _ (List.mem_of_getElem? (i := 3) rfl)) (by decide) (by decide)) (g := (mkF m 65 #[.val (.int p0), .val (.int p1), .val (.int p2), .val (.int p3), .val (.long p4), .second, .val (.long p5), .second, .val (.int v_1), .val (.int v_2), .val (.int v_3), .val (.int v_4), .val (.int v_5), .unset, .unset, .unset, .unset, .unset, .unset, .unset] [(.int v_4), (.int v_3), (.int v_1), (.int v_2), (.ref b_6), (.ref b_6)])) rfl (by rw [hml]; rfl) (Steps.refl _) (a := b_6) (argsL := [(.int v_2), (.int v_1), (.int v_3), (.int v_4)]) (rest := [(.ref b_6)]) (lenOf pd_4 rfl) rfl (by show 2 * 0 + _ ≤ _; exact Nat.le_of_eq rfl) (hb hby at_65) (fun _ _ => ⟨rfl, e_6, (by decide : 1 + 0 ≤ _), (by decide : 4 + 0 ≤ _)⟩)
  dsimp only [Pt.U, Pt.locs, Pt.cells, Pt.slots] at X_7 l_7 y_7 z_7 st_7 hQ_7
  subst l_7 y_7 z_7
  obtain ⟨rfl, M_7, K_7c, c_7_0, c_7_1, c_7_2, c_7_3, c_7_4⟩ := hQ_7
  have N_7 := Fr.app N0 M_7
  have Z_7 : n0 ≤ T_7.heap.size := Nat.le_trans Z_6 K_7c.1
  refine own_st (S' := T_7.setTop (mkF m 68 #[.val (.int p0), .val (.int p1), .val (.int p2), .val (.int p3), .val (.long p4), .second, .val (.long p5), .second, .val (.int v_1), .val (.int v_2), .val (.int v_3), .val (.int v_4), .val (.int v_5), .unset, .unset, .unset, .unset, .unset, .unset, .unset] [(.ref b_6)])) (fun t_ k_ => st_7.trans k_) ?_
  refine own_st (S' := T_7.setTop (mkF m 70 #[.val (.int p0), .val (.int p1), .val (.int p2), .val (.int p3), .val (.long p4), .second, .val (.long p5), .second, .val (.int v_1), .val (.int v_2), .val (.int v_3), .val (.int v_4), .val (.int v_5), .val (.ref b_6), .unset, .unset, .unset, .unset, .unset, .unset] [])) (fun t_ k_ => XS.astore X_7.here hx rfl (hb hby at_68) rfl rfl (l' := #[.val (.int p0), .val (.int p1), .val (.int p2), .val (.int p3), .val (.long p4), .second, .val (.long p5), .second, .val (.int v_1), .val (.int v_2), .val (.int v_3), .val (.int v_4), .val (.int v_5), .val (.ref b_6), .unset, .unset, .unset, .unset, .unset, .unset]) rfl k_) ?_
  refine own_st (S' := T_7.setTop (mkF m 72 #[.val (.int p0), .val (.int p1), .val (.int p2), .val (.int p3), .val (.long p4), .second, .val (.long p5), .second, .val (.int v_1), .val (.int v_2), .val (.int v_3), .val (.int v_4), .val (.int v_5), .val (.ref b_6), .unset, .unset, .unset, .unset, .unset, .unset] [(.int v_5)])) (fun t_ k_ => XS.iload X_7.here hx rfl (hb hby at_70) rfl k_) ?_
  by_cases hc72 : v_5 = (0 : Int32)
  · refine own_st (S' := T_7.setTop (mkF m 75 #[.val (.int p0), .val (.int p1), .val (.int p2), .val (.int p3), .val (.long p4), .second, .val (.long p5), .second, .val (.int v_1), .val (.int v_2), .val (.int v_3), .val (.int v_4), .val (.int v_5), .val (.ref b_6), .unset, .unset, .unset, .unset, .unset, .unset] [])) (fun t_ k_ => XS.ifNo X_7.here hx rfl (hb hby at_72) rfl ((if0 _ _).trans (teq hc72).2) k_) ?_
    refine own_st (S' := T_7.setTop (mkF m 77 #[.val (.int p0), .val (.int p1), .val (.int p2), .val (.int p3), .val (.long p4), .second, .val (.long p5), .second, .val (.int v_1), .val (.int v_2), .val (.int v_3), .val (.int v_4), .val (.int v_5), .val (.ref b_6), .unset, .unset, .unset, .unset, .unset, .unset] [(.ref b_6)])) (fun t_ k_ => XS.aload X_7.here hx rfl (hb hby at_75) rfl rfl k_) ?_
    refine own_st (S' := T_7.setTop (mkF m 78 #[.val (.int p0), .val (.int p1), .val (.int p2), .val (.int p3), .val (.long p4), .second, .val (.long p5), .second, .val (.int v_1), .val (.int v_2), .val (.int v_3), .val (.int v_4), .val (.int v_5), .val (.ref b_6), .unset, .unset, .unset, .unset, .unset, .unset] [.null, (.ref b_6)])) (fun t_ k_ => XS.aconstNull X_7.here hx rfl (hb hby at_77) k_) ?_
    obtain ⟨cq_8, kq_8, q_8a, q_8b, q_8c⟩ := isOf hZ rfl c_7_0
    obtain ⟨_, _, ⟨T_8, L_8, k_8, n_8⟩, -, X_8, ⟨Lc_8, hQ_8, l_8, y_8, z_8⟩, st_8⟩ := X_7.virtualBack hx (y := (⟨"com/example/bloodwood/bloodwood/TreeReport", "equals", "(Ljava/lang/Object;)Z"⟩ : MethodName)) (z := (⟨"com/example/bloodwood/bloodwood/TreeReport", "equals", "(Ljava/lang/Object;)Z"⟩ : MethodName)) hown (mvT hZ (hw _ (List.mem_of_getElem? (i := 25) rfl))) (mvT hZ (hw _ (List.mem_of_getElem? (i := 26) rfl))) (notFace_of_selects (args := #[]) (mvT hZ (hw _ (List.mem_of_getElem? (i := 28) rfl)))) (mvT hZ (hw _ (List.mem_of_getElem? (i := 28) rfl))) (mvT hZ (hw _ (List.mem_of_getElem? (i := 27) rfl))) (by decide) (backOf (W := 0) (rm7a l Z a0 hw [] b_6 T_7.heap n0 Z_7 ) hZ (hw _ (List.mem_of_getElem? (i := 29) rfl)) (hw _ (List.mem_of_getElem? (i := 3) rfl)) (by decide) (by decide)) q_8a q_8c (g := (mkF m 78 #[.val (.int p0), .val (.int p1), .val (.int p2), .val (.int p3), .val (.long p4), .second, .val (.long p5), .second, .val (.int v_1), .val (.int v_2), .val (.int v_3), .val (.int v_4), .val (.int v_5), .val (.ref b_6), .unset, .unset, .unset, .unset, .unset, .unset] [.null, (.ref b_6)])) rfl (by rw [hml]; rfl) (Steps.refl _) (argsL := [.null]) (rest := []) (lenOf pd_5 rfl) rfl (by show 2 * 0 + _ ≤ _; exact Nat.le_of_eq rfl) (hb hby at_78) (fun _ _ => ⟨rfl, rfl, (by decide : 1 + 0 ≤ _), (by decide : 4 + 0 ≤ _)⟩)
    dsimp only [Pt.U, Pt.locs, Pt.cells, Pt.slots] at X_8 l_8 y_8 z_8 st_8 hQ_8
    subst l_8 y_8 z_8
    obtain ⟨rfl, M_8, q_8⟩ := hQ_8
    have N_8 := Fr.app N_7 M_8
    refine own_st (S' := T_8.setTop (mkF m 81 #[.val (.int p0), .val (.int p1), .val (.int p2), .val (.int p3), .val (.long p4), .second, .val (.long p5), .second, .val (.int v_1), .val (.int v_2), .val (.int v_3), .val (.int v_4), .val (.int v_5), .val (.ref b_6), .unset, .unset, .unset, .unset, .unset, .unset] [(.int (0 : Int32))])) (fun t_ k_ => st_8.trans k_) ?_
    refine own_st (S' := T_8.setTop (mkF m 84 #[.val (.int p0), .val (.int p1), .val (.int p2), .val (.int p3), .val (.long p4), .second, .val (.long p5), .second, .val (.int v_1), .val (.int v_2), .val (.int v_3), .val (.int v_4), .val (.int v_5), .val (.ref b_6), .unset, .unset, .unset, .unset, .unset, .unset] [])) (fun t_ k_ => XS.ifNo X_8.here hx rfl (hb hby at_81) rfl ((if0 _ _).trans (teq (by decide : (0 : Int32) = (0 : Int32))).2) k_) ?_
    refine own_st (S' := T_8.setTop (mkF m 85 #[.val (.int p0), .val (.int p1), .val (.int p2), .val (.int p3), .val (.long p4), .second, .val (.long p5), .second, .val (.int v_1), .val (.int v_2), .val (.int v_3), .val (.int v_4), .val (.int v_5), .val (.ref b_6), .unset, .unset, .unset, .unset, .unset, .unset] [(.int (1 : Int32))])) (fun t_ k_ => XS.iconst X_8.here hx rfl (hb hby at_84) k_) ?_
    refine own_st (S' := T_8.setTop (mkF m 89 #[.val (.int p0), .val (.int p1), .val (.int p2), .val (.int p3), .val (.long p4), .second, .val (.long p5), .second, .val (.int v_1), .val (.int v_2), .val (.int v_3), .val (.int v_4), .val (.int v_5), .val (.ref b_6), .unset, .unset, .unset, .unset, .unset, .unset] [(.int (1 : Int32))])) (fun t_ k_ => XS.goto X_8.here hx rfl (pc0 := 85) (pc' := 89) rfl (hb hby at_85) (by decide) (by decide) k_) ?_
    obtain ⟨fs, hr, hrun, hended, hW, hsame⟩ := X_8.leave (v := some (.int (1 : Int32))) (fun h => by rw [Bd.returns] at h; cases h)
    refine ⟨_, _, retN X_8 hx (t := .boolean) Bd.returns (by simp) (hb hby at_89) hr, hrun, hended, _, _, rfl, ?_, ⟨_, rfl⟩, hW, hsame.mono (by decide) (by decide)⟩
    show Q0 Z p0 p1 p2 p3 p4 p5 ca cc h0 n0 _ T_8.heap _
    rw [q_8]
    exact ⟨rfl, N_8⟩
  · refine own_st (S' := T_7.setTop (mkF m 90 #[.val (.int p0), .val (.int p1), .val (.int p2), .val (.int p3), .val (.long p4), .second, .val (.long p5), .second, .val (.int v_1), .val (.int v_2), .val (.int v_3), .val (.int v_4), .val (.int v_5), .val (.ref b_6), .unset, .unset, .unset, .unset, .unset, .unset] [])) (fun t_ k_ => XS.ifYes X_7.here hx rfl (pc0 := 72) (pc' := 90) rfl (hb hby at_72) rfl ((if0 _ _).trans (feq hc72).2) (by decide) (by decide) k_) ?_
    refine own_st (S' := T_7.setTop (mkF m 92 #[.val (.int p0), .val (.int p1), .val (.int p2), .val (.int p3), .val (.long p4), .second, .val (.long p5), .second, .val (.int v_1), .val (.int v_2), .val (.int v_3), .val (.int v_4), .val (.int v_5), .val (.ref b_6), .unset, .unset, .unset, .unset, .unset, .unset] [(.int v_5)])) (fun t_ k_ => XS.iload X_7.here hx rfl (hb hby at_90) rfl k_) ?_
    refine own_st (S' := T_7.setTop (mkF m 93 #[.val (.int p0), .val (.int p1), .val (.int p2), .val (.int p3), .val (.long p4), .second, .val (.long p5), .second, .val (.int v_1), .val (.int v_2), .val (.int v_3), .val (.int v_4), .val (.int v_5), .val (.ref b_6), .unset, .unset, .unset, .unset, .unset, .unset] [(.int (1 : Int32)), (.int v_5)])) (fun t_ k_ => XS.iconst X_7.here hx rfl (hb hby at_92) k_) ?_
    by_cases hc93 : v_5 = (1 : Int32)
    · refine own_st (S' := T_7.setTop (mkF m 96 #[.val (.int p0), .val (.int p1), .val (.int p2), .val (.int p3), .val (.long p4), .second, .val (.long p5), .second, .val (.int v_1), .val (.int v_2), .val (.int v_3), .val (.int v_4), .val (.int v_5), .val (.ref b_6), .unset, .unset, .unset, .unset, .unset, .unset] [])) (fun t_ k_ => XS.icmpNo X_7.here hx rfl (hb hby at_93) rfl (teq hc93).2 k_) ?_
      refine own_st (S' := T_7.setTop (mkF m 98 #[.val (.int p0), .val (.int p1), .val (.int p2), .val (.int p3), .val (.long p4), .second, .val (.long p5), .second, .val (.int v_1), .val (.int v_2), .val (.int v_3), .val (.int v_4), .val (.int v_5), .val (.ref b_6), .unset, .unset, .unset, .unset, .unset, .unset] [(.ref b_6)])) (fun t_ k_ => XS.aload X_7.here hx rfl (hb hby at_96) rfl rfl k_) ?_
      refine own_st (S' := T_7.setTop (mkF m 100 #[.val (.int p0), .val (.int p1), .val (.int p2), .val (.int p3), .val (.long p4), .second, .val (.long p5), .second, .val (.int v_1), .val (.int v_2), .val (.int v_3), .val (.int v_4), .val (.int v_5), .val (.ref b_6), .unset, .unset, .unset, .unset, .unset, .unset] [(.int v_2), (.ref b_6)])) (fun t_ k_ => XS.iload X_7.here hx rfl (hb hby at_98) rfl k_) ?_
      have f_9 : Old Z n0 T_7.heap := ((O0.ext E_6).keep K_7c (allS g_b_6 all0))
      obtain ⟨_, _, ⟨T_10, L_10, k_10, n_10⟩, -, X_10, ⟨Lc_10, hQ_10, l_10, y_10, z_10⟩, st_10⟩ := Jvm.LawKit.callS X_7 hx (y := (⟨"java/lang/Integer", "valueOf", "(I)Ljava/lang/Integer;"⟩ : MethodName)) hown (mvT hZ (hw _ (List.mem_of_getElem? (i := 37) rfl))) (mvT hZ (hw _ (List.mem_of_getElem? (i := 38) rfl))) (mvT hZ (hw _ (List.mem_of_getElem? (i := 15) rfl))) (mvT hZ (hw _ (List.mem_of_getElem? (i := 39) rfl))) (by decide) (backOf (W := 1) (rm3 l Z a0 hw [] v_2 ca cc T_7.heap n0 Z_7 Y0 Y1 f_9 HB (own_m128 G1)) hZ (hw _ (List.mem_of_getElem? (i := 39) rfl)) (hw _ (List.mem_of_getElem? (i := 15) rfl)) (by decide) (by decide)) (g := (mkF m 100 #[.val (.int p0), .val (.int p1), .val (.int p2), .val (.int p3), .val (.long p4), .second, .val (.long p5), .second, .val (.int v_1), .val (.int v_2), .val (.int v_3), .val (.int v_4), .val (.int v_5), .val (.ref b_6), .unset, .unset, .unset, .unset, .unset, .unset] [(.int v_2), (.ref b_6)])) rfl (by rw [hml]; rfl) (argsL := [(.int v_2)]) (rest := [(.ref b_6)]) (lenOf pd_6 rfl) rfl (by show 2 * 0 + _ ≤ _; exact Nat.le_of_eq rfl) (hb hby at_100) (fun _ _ => ⟨rfl, rfl, (by decide : 1 + 1 ≤ _), (by decide : 4 + 1 ≤ _)⟩)
      dsimp only [Pt.U, Pt.locs, Pt.cells, Pt.slots] at X_10 l_10 y_10 z_10 st_10 hQ_10
      subst l_10 y_10 z_10
      obtain ⟨x_10_y, rfl, M_10, K_10c, c_10_0⟩ := hQ_10
      have N_10 := Fr.app N_7 M_10
      have Z_10 : n0 ≤ T_10.heap.size := Nat.le_trans Z_7 K_10c.1
      refine own_st (S' := T_10.setTop (mkF m 103 #[.val (.int p0), .val (.int p1), .val (.int p2), .val (.int p3), .val (.long p4), .second, .val (.long p5), .second, .val (.int v_1), .val (.int v_2), .val (.int v_3), .val (.int v_4), .val (.int v_5), .val (.ref b_6), .unset, .unset, .unset, .unset, .unset, .unset] [(.ref x_10_y), (.ref b_6)])) st_10 ?_
      have f_12 : Exa Z T_10.heap b_6 "com/example/bloodwood/bloodwood/TreeReport" := (c_7_0.keep K_10c)
      obtain ⟨cq_11, kq_11, q_11a, q_11b, q_11c⟩ := isOf hZ rfl f_12
      obtain ⟨_, _, ⟨T_11, L_11, k_11, n_11⟩, -, X_11, ⟨Lc_11, hQ_11, l_11, y_11, z_11⟩, st_11⟩ := X_10.virtualBack hx (y := (⟨"com/example/bloodwood/bloodwood/TreeReport", "equals", "(Ljava/lang/Object;)Z"⟩ : MethodName)) (z := (⟨"com/example/bloodwood/bloodwood/TreeReport", "equals", "(Ljava/lang/Object;)Z"⟩ : MethodName)) hown (mvT hZ (hw _ (List.mem_of_getElem? (i := 25) rfl))) (mvT hZ (hw _ (List.mem_of_getElem? (i := 26) rfl))) (notFace_of_selects (args := #[]) (mvT hZ (hw _ (List.mem_of_getElem? (i := 28) rfl)))) (mvT hZ (hw _ (List.mem_of_getElem? (i := 28) rfl))) (mvT hZ (hw _ (List.mem_of_getElem? (i := 27) rfl))) (by decide) (backOf (W := 0) (rm7b l Z a0 hw [] b_6 x_10_y T_10.heap n0 Z_10 c_10_0) hZ (hw _ (List.mem_of_getElem? (i := 29) rfl)) (hw _ (List.mem_of_getElem? (i := 3) rfl)) (by decide) (by decide)) q_11a q_11c (g := (mkF m 103 #[.val (.int p0), .val (.int p1), .val (.int p2), .val (.int p3), .val (.long p4), .second, .val (.long p5), .second, .val (.int v_1), .val (.int v_2), .val (.int v_3), .val (.int v_4), .val (.int v_5), .val (.ref b_6), .unset, .unset, .unset, .unset, .unset, .unset] [(.ref x_10_y), (.ref b_6)])) rfl (by rw [hml]; rfl) (Steps.refl _) (argsL := [(.ref x_10_y)]) (rest := []) (lenOf pd_5 rfl) rfl (by show 2 * 0 + _ ≤ _; exact Nat.le_of_eq rfl) (hb hby at_103) (fun _ _ => ⟨rfl, rfl, (by decide : 2 + 0 ≤ _), (by decide : 5 + 0 ≤ _)⟩)
      dsimp only [Pt.U, Pt.locs, Pt.cells, Pt.slots] at X_11 l_11 y_11 z_11 st_11 hQ_11
      subst l_11 y_11 z_11
      obtain ⟨rfl, M_11, q_11⟩ := hQ_11
      have N_11 := Fr.app N_10 M_11
      refine own_st (S' := T_11.setTop (mkF m 106 #[.val (.int p0), .val (.int p1), .val (.int p2), .val (.int p3), .val (.long p4), .second, .val (.long p5), .second, .val (.int v_1), .val (.int v_2), .val (.int v_3), .val (.int v_4), .val (.int v_5), .val (.ref b_6), .unset, .unset, .unset, .unset, .unset, .unset] [(.int (0 : Int32))])) (fun t_ k_ => st_11.trans k_) ?_
      refine own_st (S' := T_11.setTop (mkF m 109 #[.val (.int p0), .val (.int p1), .val (.int p2), .val (.int p3), .val (.long p4), .second, .val (.long p5), .second, .val (.int v_1), .val (.int v_2), .val (.int v_3), .val (.int v_4), .val (.int v_5), .val (.ref b_6), .unset, .unset, .unset, .unset, .unset, .unset] [])) (fun t_ k_ => XS.ifNo X_11.here hx rfl (hb hby at_106) rfl ((if0 _ _).trans (teq (by decide : (0 : Int32) = (0 : Int32))).2) k_) ?_
      refine own_st (S' := T_11.setTop (mkF m 110 #[.val (.int p0), .val (.int p1), .val (.int p2), .val (.int p3), .val (.long p4), .second, .val (.long p5), .second, .val (.int v_1), .val (.int v_2), .val (.int v_3), .val (.int v_4), .val (.int v_5), .val (.ref b_6), .unset, .unset, .unset, .unset, .unset, .unset] [(.int (1 : Int32))])) (fun t_ k_ => XS.iconst X_11.here hx rfl (hb hby at_109) k_) ?_
      refine own_st (S' := T_11.setTop (mkF m 114 #[.val (.int p0), .val (.int p1), .val (.int p2), .val (.int p3), .val (.long p4), .second, .val (.long p5), .second, .val (.int v_1), .val (.int v_2), .val (.int v_3), .val (.int v_4), .val (.int v_5), .val (.ref b_6), .unset, .unset, .unset, .unset, .unset, .unset] [(.int (1 : Int32))])) (fun t_ k_ => XS.goto X_11.here hx rfl (pc0 := 110) (pc' := 114) rfl (hb hby at_110) (by decide) (by decide) k_) ?_
      obtain ⟨fs, hr, hrun, hended, hW, hsame⟩ := X_11.leave (v := some (.int (1 : Int32))) (fun h => by rw [Bd.returns] at h; cases h)
      refine ⟨_, _, retN X_11 hx (t := .boolean) Bd.returns (by simp) (hb hby at_114) hr, hrun, hended, _, _, rfl, ?_, ⟨_, rfl⟩, hW, hsame.mono (by decide) (by decide)⟩
      show Q0 Z p0 p1 p2 p3 p4 p5 ca cc h0 n0 _ T_11.heap _
      rw [q_11]
      exact ⟨rfl, N_11⟩
    · refine own_st (S' := T_7.setTop (mkF m 115 #[.val (.int p0), .val (.int p1), .val (.int p2), .val (.int p3), .val (.long p4), .second, .val (.long p5), .second, .val (.int v_1), .val (.int v_2), .val (.int v_3), .val (.int v_4), .val (.int v_5), .val (.ref b_6), .unset, .unset, .unset, .unset, .unset, .unset] [])) (fun t_ k_ => XS.icmpYes X_7.here hx rfl (pc0 := 93) (pc' := 115) rfl (hb hby at_93) rfl (feq hc93).2 (by decide) (by decide) k_) ?_
      refine own_st (S' := T_7.setTop (mkF m 117 #[.val (.int p0), .val (.int p1), .val (.int p2), .val (.int p3), .val (.long p4), .second, .val (.long p5), .second, .val (.int v_1), .val (.int v_2), .val (.int v_3), .val (.int v_4), .val (.int v_5), .val (.ref b_6), .unset, .unset, .unset, .unset, .unset, .unset] [(.int v_5)])) (fun t_ k_ => XS.iload X_7.here hx rfl (hb hby at_115) rfl k_) ?_
      refine own_st (S' := T_7.setTop (mkF m 118 #[.val (.int p0), .val (.int p1), .val (.int p2), .val (.int p3), .val (.long p4), .second, .val (.long p5), .second, .val (.int v_1), .val (.int v_2), .val (.int v_3), .val (.int v_4), .val (.int v_5), .val (.ref b_6), .unset, .unset, .unset, .unset, .unset, .unset] [(.int (2 : Int32)), (.int v_5)])) (fun t_ k_ => XS.iconst X_7.here hx rfl (hb hby at_117) k_) ?_
      by_cases hc118 : v_5 = (2 : Int32)
      · refine own_st (S' := T_7.setTop (mkF m 121 #[.val (.int p0), .val (.int p1), .val (.int p2), .val (.int p3), .val (.long p4), .second, .val (.long p5), .second, .val (.int v_1), .val (.int v_2), .val (.int v_3), .val (.int v_4), .val (.int v_5), .val (.ref b_6), .unset, .unset, .unset, .unset, .unset, .unset] [])) (fun t_ k_ => XS.icmpNo X_7.here hx rfl (hb hby at_118) rfl (teq hc118).2 k_) ?_
        refine own_st (S' := T_7.setTop (mkF m 123 #[.val (.int p0), .val (.int p1), .val (.int p2), .val (.int p3), .val (.long p4), .second, .val (.long p5), .second, .val (.int v_1), .val (.int v_2), .val (.int v_3), .val (.int v_4), .val (.int v_5), .val (.ref b_6), .unset, .unset, .unset, .unset, .unset, .unset] [(.ref b_6)])) (fun t_ k_ => XS.aload X_7.here hx rfl (hb hby at_121) rfl rfl k_) ?_
        refine own_st (S' := T_7.setTop (mkF m 125 #[.val (.int p0), .val (.int p1), .val (.int p2), .val (.int p3), .val (.long p4), .second, .val (.long p5), .second, .val (.int v_1), .val (.int v_2), .val (.int v_3), .val (.int v_4), .val (.int v_5), .val (.ref b_6), .unset, .unset, .unset, .unset, .unset, .unset] [(.ref b_6), (.ref b_6)])) (fun t_ k_ => XS.aload X_7.here hx rfl (hb hby at_123) rfl rfl k_) ?_
        obtain ⟨cq_13, kq_13, q_13a, q_13b, q_13c⟩ := isOf hZ rfl c_7_0
        obtain ⟨_, _, ⟨T_13, L_13, k_13, n_13⟩, -, X_13, ⟨Lc_13, hQ_13, l_13, y_13, z_13⟩, st_13⟩ := X_7.virtualBack hx (y := (⟨"com/example/bloodwood/bloodwood/TreeReport", "equals", "(Ljava/lang/Object;)Z"⟩ : MethodName)) (z := (⟨"com/example/bloodwood/bloodwood/TreeReport", "equals", "(Ljava/lang/Object;)Z"⟩ : MethodName)) hown (mvT hZ (hw _ (List.mem_of_getElem? (i := 25) rfl))) (mvT hZ (hw _ (List.mem_of_getElem? (i := 26) rfl))) (notFace_of_selects (args := #[]) (mvT hZ (hw _ (List.mem_of_getElem? (i := 28) rfl)))) (mvT hZ (hw _ (List.mem_of_getElem? (i := 28) rfl))) (mvT hZ (hw _ (List.mem_of_getElem? (i := 27) rfl))) (by decide) (backOf (W := 0) (rm7c l Z a0 hw [] b_6 b_6 v_2 v_1 v_3 v_4 T_7.heap n0 Z_7 c_7_0 c_7_1 c_7_2 c_7_3 c_7_4 c_7_1 c_7_2 c_7_3 c_7_4) hZ (hw _ (List.mem_of_getElem? (i := 29) rfl)) (hw _ (List.mem_of_getElem? (i := 3) rfl)) (by decide) (by decide)) q_13a q_13c (g := (mkF m 125 #[.val (.int p0), .val (.int p1), .val (.int p2), .val (.int p3), .val (.long p4), .second, .val (.long p5), .second, .val (.int v_1), .val (.int v_2), .val (.int v_3), .val (.int v_4), .val (.int v_5), .val (.ref b_6), .unset, .unset, .unset, .unset, .unset, .unset] [(.ref b_6), (.ref b_6)])) rfl (by rw [hml]; rfl) (Steps.refl _) (argsL := [(.ref b_6)]) (rest := []) (lenOf pd_5 rfl) rfl (by show 2 * 0 + _ ≤ _; exact Nat.le_of_eq rfl) (hb hby at_125) (fun _ _ => ⟨rfl, rfl, (by decide : 1 + 0 ≤ _), (by decide : 4 + 0 ≤ _)⟩)
        dsimp only [Pt.U, Pt.locs, Pt.cells, Pt.slots] at X_13 l_13 y_13 z_13 st_13 hQ_13
        subst l_13 y_13 z_13
        obtain ⟨rfl, M_13, q_13⟩ := hQ_13
        have N_13 := Fr.app N_7 M_13
        refine own_st (S' := T_13.setTop (mkF m 128 #[.val (.int p0), .val (.int p1), .val (.int p2), .val (.int p3), .val (.long p4), .second, .val (.long p5), .second, .val (.int v_1), .val (.int v_2), .val (.int v_3), .val (.int v_4), .val (.int v_5), .val (.ref b_6), .unset, .unset, .unset, .unset, .unset, .unset] [(.int (1 : Int32))])) (fun t_ k_ => st_13.trans k_) ?_
        obtain ⟨fs, hr, hrun, hended, hW, hsame⟩ := X_13.leave (v := some (.int (1 : Int32))) (fun h => by rw [Bd.returns] at h; cases h)
        refine ⟨_, _, retN X_13 hx (t := .boolean) Bd.returns (by simp) (hb hby at_128) hr, hrun, hended, _, _, rfl, ?_, ⟨_, rfl⟩, hW, hsame.mono (by decide) (by decide)⟩
        show Q0 Z p0 p1 p2 p3 p4 p5 ca cc h0 n0 _ T_13.heap _
        rw [q_13]
        exact ⟨rfl, N_13⟩
      · refine own_st (S' := T_7.setTop (mkF m 129 #[.val (.int p0), .val (.int p1), .val (.int p2), .val (.int p3), .val (.long p4), .second, .val (.long p5), .second, .val (.int v_1), .val (.int v_2), .val (.int v_3), .val (.int v_4), .val (.int v_5), .val (.ref b_6), .unset, .unset, .unset, .unset, .unset, .unset] [])) (fun t_ k_ => XS.icmpYes X_7.here hx rfl (pc0 := 118) (pc' := 129) rfl (hb hby at_118) rfl (feq hc118).2 (by decide) (by decide) k_) ?_
        refine own_st (S' := T_7.setTop (mkF m 131 #[.val (.int p0), .val (.int p1), .val (.int p2), .val (.int p3), .val (.long p4), .second, .val (.long p5), .second, .val (.int v_1), .val (.int v_2), .val (.int v_3), .val (.int v_4), .val (.int v_5), .val (.ref b_6), .unset, .unset, .unset, .unset, .unset, .unset] [(.int v_2)])) (fun t_ k_ => XS.iload X_7.here hx rfl (hb hby at_129) rfl k_) ?_
        refine own_st (S' := T_7.setTop (mkF m 133 #[.val (.int p0), .val (.int p1), .val (.int p2), .val (.int p3), .val (.long p4), .second, .val (.long p5), .second, .val (.int v_1), .val (.int v_2), .val (.int v_3), .val (.int v_4), .val (.int v_5), .val (.ref b_6), .unset, .unset, .unset, .unset, .unset, .unset] [(.long p4), (.int v_2)])) (fun t_ k_ => XS.lload X_7.here hx rfl (hb hby at_131) rfl k_) ?_
        refine own_st (S' := T_7.setTop (mkF m 134 #[.val (.int p0), .val (.int p1), .val (.int p2), .val (.int p3), .val (.long p4), .second, .val (.long p5), .second, .val (.int v_1), .val (.int v_2), .val (.int v_3), .val (.int v_4), .val (.int v_5), .val (.ref b_6), .unset, .unset, .unset, .unset, .unset, .unset] [(.int (p4.toInt32)), (.int v_2)])) (fun t_ k_ => XS.l2i X_7.here hx rfl (hb hby at_133) rfl k_) ?_
        refine own_st (S' := T_7.setTop (mkF m 135 #[.val (.int p0), .val (.int p1), .val (.int p2), .val (.int p3), .val (.long p4), .second, .val (.long p5), .second, .val (.int v_1), .val (.int v_2), .val (.int v_3), .val (.int v_4), .val (.int v_5), .val (.ref b_6), .unset, .unset, .unset, .unset, .unset, .unset] [(.int (v_2 + (p4.toInt32)))])) (fun t_ k_ => XS.iadd X_7.here hx rfl (hb hby at_134) rfl k_) ?_
        obtain ⟨v_14, hv_14⟩ : ∃ z : Int32, z = (v_2 + (p4.toInt32)) := ⟨_, rfl⟩
        refine own_cast (S' := T_7.setTop (mkF m 135 #[.val (.int p0), .val (.int p1), .val (.int p2), .val (.int p3), .val (.long p4), .second, .val (.long p5), .second, .val (.int v_1), .val (.int v_2), .val (.int v_3), .val (.int v_4), .val (.int v_5), .val (.ref b_6), .unset, .unset, .unset, .unset, .unset, .unset] [(.int v_14)])) (by rw [hv_14]) ?_
        refine own_st (S' := T_7.setTop (mkF m 137 #[.val (.int p0), .val (.int p1), .val (.int p2), .val (.int p3), .val (.long p4), .second, .val (.long p5), .second, .val (.int v_1), .val (.int v_2), .val (.int v_3), .val (.int v_4), .val (.int v_5), .val (.ref b_6), .val (.int v_14), .unset, .unset, .unset, .unset, .unset] [])) (fun t_ k_ => XS.istore X_7.here hx rfl (hb hby at_135) rfl (l' := #[.val (.int p0), .val (.int p1), .val (.int p2), .val (.int p3), .val (.long p4), .second, .val (.long p5), .second, .val (.int v_1), .val (.int v_2), .val (.int v_3), .val (.int v_4), .val (.int v_5), .val (.ref b_6), .val (.int v_14), .unset, .unset, .unset, .unset, .unset]) rfl k_) ?_
        refine own_st (S' := T_7.setTop (mkF m 139 #[.val (.int p0), .val (.int p1), .val (.int p2), .val (.int p3), .val (.long p4), .second, .val (.long p5), .second, .val (.int v_1), .val (.int v_2), .val (.int v_3), .val (.int v_4), .val (.int v_5), .val (.ref b_6), .val (.int v_14), .unset, .unset, .unset, .unset, .unset] [(.int v_1)])) (fun t_ k_ => XS.iload X_7.here hx rfl (hb hby at_137) rfl k_) ?_
        refine own_st (S' := T_7.setTop (mkF m 141 #[.val (.int p0), .val (.int p1), .val (.int p2), .val (.int p3), .val (.long p4), .second, .val (.long p5), .second, .val (.int v_1), .val (.int v_2), .val (.int v_3), .val (.int v_4), .val (.int v_5), .val (.ref b_6), .val (.int v_14), .unset, .unset, .unset, .unset, .unset] [(.long p4), (.int v_1)])) (fun t_ k_ => XS.lload X_7.here hx rfl (hb hby at_139) rfl k_) ?_
        refine own_st (S' := T_7.setTop (mkF m 143 #[.val (.int p0), .val (.int p1), .val (.int p2), .val (.int p3), .val (.long p4), .second, .val (.long p5), .second, .val (.int v_1), .val (.int v_2), .val (.int v_3), .val (.int v_4), .val (.int v_5), .val (.ref b_6), .val (.int v_14), .unset, .unset, .unset, .unset, .unset] [(.int (32 : Int32)), (.long p4), (.int v_1)])) (fun t_ k_ => XS.bipush X_7.here hx rfl (hb hby at_141) k_) ?_
        refine own_st (S' := T_7.setTop (mkF m 144 #[.val (.int p0), .val (.int p1), .val (.int p2), .val (.int p3), .val (.long p4), .second, .val (.long p5), .second, .val (.int v_1), .val (.int v_2), .val (.int v_3), .val (.int v_4), .val (.int v_5), .val (.ref b_6), .val (.int v_14), .unset, .unset, .unset, .unset, .unset] [(.long ((p4.toUInt64 >>> ((32 : Int32) &&& 0x3f).toInt64.toUInt64).toInt64)), (.int v_1)])) (fun t_ k_ => XS.lushr X_7.here hx rfl (hb hby at_143) rfl k_) ?_
        refine own_st (S' := T_7.setTop (mkF m 145 #[.val (.int p0), .val (.int p1), .val (.int p2), .val (.int p3), .val (.long p4), .second, .val (.long p5), .second, .val (.int v_1), .val (.int v_2), .val (.int v_3), .val (.int v_4), .val (.int v_5), .val (.ref b_6), .val (.int v_14), .unset, .unset, .unset, .unset, .unset] [(.int (((p4.toUInt64 >>> ((32 : Int32) &&& 0x3f).toInt64.toUInt64).toInt64).toInt32)), (.int v_1)])) (fun t_ k_ => XS.l2i X_7.here hx rfl (hb hby at_144) rfl k_) ?_
        refine own_st (S' := T_7.setTop (mkF m 146 #[.val (.int p0), .val (.int p1), .val (.int p2), .val (.int p3), .val (.long p4), .second, .val (.long p5), .second, .val (.int v_1), .val (.int v_2), .val (.int v_3), .val (.int v_4), .val (.int v_5), .val (.ref b_6), .val (.int v_14), .unset, .unset, .unset, .unset, .unset] [(.int (v_1 + (((p4.toUInt64 >>> ((32 : Int32) &&& 0x3f).toInt64.toUInt64).toInt64).toInt32)))])) (fun t_ k_ => XS.iadd X_7.here hx rfl (hb hby at_145) rfl k_) ?_
        obtain ⟨v_15, hv_15⟩ : ∃ z : Int32, z = (v_1 + (((p4.toUInt64 >>> ((32 : Int32) &&& 0x3f).toInt64.toUInt64).toInt64).toInt32)) := ⟨_, rfl⟩
        refine own_cast (S' := T_7.setTop (mkF m 146 #[.val (.int p0), .val (.int p1), .val (.int p2), .val (.int p3), .val (.long p4), .second, .val (.long p5), .second, .val (.int v_1), .val (.int v_2), .val (.int v_3), .val (.int v_4), .val (.int v_5), .val (.ref b_6), .val (.int v_14), .unset, .unset, .unset, .unset, .unset] [(.int v_15)])) (by rw [hv_15]) ?_
        refine own_st (S' := T_7.setTop (mkF m 148 #[.val (.int p0), .val (.int p1), .val (.int p2), .val (.int p3), .val (.long p4), .second, .val (.long p5), .second, .val (.int v_1), .val (.int v_2), .val (.int v_3), .val (.int v_4), .val (.int v_5), .val (.ref b_6), .val (.int v_14), .val (.int v_15), .unset, .unset, .unset, .unset] [])) (fun t_ k_ => XS.istore X_7.here hx rfl (hb hby at_146) rfl (l' := #[.val (.int p0), .val (.int p1), .val (.int p2), .val (.int p3), .val (.long p4), .second, .val (.long p5), .second, .val (.int v_1), .val (.int v_2), .val (.int v_3), .val (.int v_4), .val (.int v_5), .val (.ref b_6), .val (.int v_14), .val (.int v_15), .unset, .unset, .unset, .unset]) rfl k_) ?_
        refine own_st (S' := T_7.setTop (mkF m 150 #[.val (.int p0), .val (.int p1), .val (.int p2), .val (.int p3), .val (.long p4), .second, .val (.long p5), .second, .val (.int v_1), .val (.int v_2), .val (.int v_3), .val (.int v_4), .val (.int v_5), .val (.ref b_6), .val (.int v_14), .val (.int v_15), .unset, .unset, .unset, .unset] [(.int v_3)])) (fun t_ k_ => XS.iload X_7.here hx rfl (hb hby at_148) rfl k_) ?_
        refine own_st (S' := T_7.setTop (mkF m 152 #[.val (.int p0), .val (.int p1), .val (.int p2), .val (.int p3), .val (.long p4), .second, .val (.long p5), .second, .val (.int v_1), .val (.int v_2), .val (.int v_3), .val (.int v_4), .val (.int v_5), .val (.ref b_6), .val (.int v_14), .val (.int v_15), .unset, .unset, .unset, .unset] [(.long p5), (.int v_3)])) (fun t_ k_ => XS.lload X_7.here hx rfl (hb hby at_150) rfl k_) ?_
        refine own_st (S' := T_7.setTop (mkF m 153 #[.val (.int p0), .val (.int p1), .val (.int p2), .val (.int p3), .val (.long p4), .second, .val (.long p5), .second, .val (.int v_1), .val (.int v_2), .val (.int v_3), .val (.int v_4), .val (.int v_5), .val (.ref b_6), .val (.int v_14), .val (.int v_15), .unset, .unset, .unset, .unset] [(.int (p5.toInt32)), (.int v_3)])) (fun t_ k_ => XS.l2i X_7.here hx rfl (hb hby at_152) rfl k_) ?_
        refine own_st (S' := T_7.setTop (mkF m 154 #[.val (.int p0), .val (.int p1), .val (.int p2), .val (.int p3), .val (.long p4), .second, .val (.long p5), .second, .val (.int v_1), .val (.int v_2), .val (.int v_3), .val (.int v_4), .val (.int v_5), .val (.ref b_6), .val (.int v_14), .val (.int v_15), .unset, .unset, .unset, .unset] [(.int (v_3 + (p5.toInt32)))])) (fun t_ k_ => XS.iadd X_7.here hx rfl (hb hby at_153) rfl k_) ?_
        obtain ⟨v_16, hv_16⟩ : ∃ z : Int32, z = (v_3 + (p5.toInt32)) := ⟨_, rfl⟩
        refine own_cast (S' := T_7.setTop (mkF m 154 #[.val (.int p0), .val (.int p1), .val (.int p2), .val (.int p3), .val (.long p4), .second, .val (.long p5), .second, .val (.int v_1), .val (.int v_2), .val (.int v_3), .val (.int v_4), .val (.int v_5), .val (.ref b_6), .val (.int v_14), .val (.int v_15), .unset, .unset, .unset, .unset] [(.int v_16)])) (by rw [hv_16]) ?_
        refine own_st (S' := T_7.setTop (mkF m 156 #[.val (.int p0), .val (.int p1), .val (.int p2), .val (.int p3), .val (.long p4), .second, .val (.long p5), .second, .val (.int v_1), .val (.int v_2), .val (.int v_3), .val (.int v_4), .val (.int v_5), .val (.ref b_6), .val (.int v_14), .val (.int v_15), .val (.int v_16), .unset, .unset, .unset] [])) (fun t_ k_ => XS.istore X_7.here hx rfl (hb hby at_154) rfl (l' := #[.val (.int p0), .val (.int p1), .val (.int p2), .val (.int p3), .val (.long p4), .second, .val (.long p5), .second, .val (.int v_1), .val (.int v_2), .val (.int v_3), .val (.int v_4), .val (.int v_5), .val (.ref b_6), .val (.int v_14), .val (.int v_15), .val (.int v_16), .unset, .unset, .unset]) rfl k_) ?_
        refine own_st (S' := T_7.setTop (mkF m 158 #[.val (.int p0), .val (.int p1), .val (.int p2), .val (.int p3), .val (.long p4), .second, .val (.long p5), .second, .val (.int v_1), .val (.int v_2), .val (.int v_3), .val (.int v_4), .val (.int v_5), .val (.ref b_6), .val (.int v_14), .val (.int v_15), .val (.int v_16), .unset, .unset, .unset] [(.int v_4)])) (fun t_ k_ => XS.iload X_7.here hx rfl (hb hby at_156) rfl k_) ?_
        refine own_st (S' := T_7.setTop (mkF m 160 #[.val (.int p0), .val (.int p1), .val (.int p2), .val (.int p3), .val (.long p4), .second, .val (.long p5), .second, .val (.int v_1), .val (.int v_2), .val (.int v_3), .val (.int v_4), .val (.int v_5), .val (.ref b_6), .val (.int v_14), .val (.int v_15), .val (.int v_16), .unset, .unset, .unset] [(.long p5), (.int v_4)])) (fun t_ k_ => XS.lload X_7.here hx rfl (hb hby at_158) rfl k_) ?_
        refine own_st (S' := T_7.setTop (mkF m 162 #[.val (.int p0), .val (.int p1), .val (.int p2), .val (.int p3), .val (.long p4), .second, .val (.long p5), .second, .val (.int v_1), .val (.int v_2), .val (.int v_3), .val (.int v_4), .val (.int v_5), .val (.ref b_6), .val (.int v_14), .val (.int v_15), .val (.int v_16), .unset, .unset, .unset] [(.int (32 : Int32)), (.long p5), (.int v_4)])) (fun t_ k_ => XS.bipush X_7.here hx rfl (hb hby at_160) k_) ?_
        refine own_st (S' := T_7.setTop (mkF m 163 #[.val (.int p0), .val (.int p1), .val (.int p2), .val (.int p3), .val (.long p4), .second, .val (.long p5), .second, .val (.int v_1), .val (.int v_2), .val (.int v_3), .val (.int v_4), .val (.int v_5), .val (.ref b_6), .val (.int v_14), .val (.int v_15), .val (.int v_16), .unset, .unset, .unset] [(.long ((p5.toUInt64 >>> ((32 : Int32) &&& 0x3f).toInt64.toUInt64).toInt64)), (.int v_4)])) (fun t_ k_ => XS.lushr X_7.here hx rfl (hb hby at_162) rfl k_) ?_
        refine own_st (S' := T_7.setTop (mkF m 164 #[.val (.int p0), .val (.int p1), .val (.int p2), .val (.int p3), .val (.long p4), .second, .val (.long p5), .second, .val (.int v_1), .val (.int v_2), .val (.int v_3), .val (.int v_4), .val (.int v_5), .val (.ref b_6), .val (.int v_14), .val (.int v_15), .val (.int v_16), .unset, .unset, .unset] [(.int (((p5.toUInt64 >>> ((32 : Int32) &&& 0x3f).toInt64.toUInt64).toInt64).toInt32)), (.int v_4)])) (fun t_ k_ => XS.l2i X_7.here hx rfl (hb hby at_163) rfl k_) ?_
        refine own_st (S' := T_7.setTop (mkF m 165 #[.val (.int p0), .val (.int p1), .val (.int p2), .val (.int p3), .val (.long p4), .second, .val (.long p5), .second, .val (.int v_1), .val (.int v_2), .val (.int v_3), .val (.int v_4), .val (.int v_5), .val (.ref b_6), .val (.int v_14), .val (.int v_15), .val (.int v_16), .unset, .unset, .unset] [(.int (v_4 + (((p5.toUInt64 >>> ((32 : Int32) &&& 0x3f).toInt64.toUInt64).toInt64).toInt32)))])) (fun t_ k_ => XS.iadd X_7.here hx rfl (hb hby at_164) rfl k_) ?_
        obtain ⟨v_17, hv_17⟩ : ∃ z : Int32, z = (v_4 + (((p5.toUInt64 >>> ((32 : Int32) &&& 0x3f).toInt64.toUInt64).toInt64).toInt32)) := ⟨_, rfl⟩
        refine own_cast (S' := T_7.setTop (mkF m 165 #[.val (.int p0), .val (.int p1), .val (.int p2), .val (.int p3), .val (.long p4), .second, .val (.long p5), .second, .val (.int v_1), .val (.int v_2), .val (.int v_3), .val (.int v_4), .val (.int v_5), .val (.ref b_6), .val (.int v_14), .val (.int v_15), .val (.int v_16), .unset, .unset, .unset] [(.int v_17)])) (by rw [hv_17]) ?_
        refine own_st (S' := T_7.setTop (mkF m 167 #[.val (.int p0), .val (.int p1), .val (.int p2), .val (.int p3), .val (.long p4), .second, .val (.long p5), .second, .val (.int v_1), .val (.int v_2), .val (.int v_3), .val (.int v_4), .val (.int v_5), .val (.ref b_6), .val (.int v_14), .val (.int v_15), .val (.int v_16), .val (.int v_17), .unset, .unset] [])) (fun t_ k_ => XS.istore X_7.here hx rfl (hb hby at_165) rfl (l' := #[.val (.int p0), .val (.int p1), .val (.int p2), .val (.int p3), .val (.long p4), .second, .val (.long p5), .second, .val (.int v_1), .val (.int v_2), .val (.int v_3), .val (.int v_4), .val (.int v_5), .val (.ref b_6), .val (.int v_14), .val (.int v_15), .val (.int v_16), .val (.int v_17), .unset, .unset]) rfl k_) ?_
        refine own_st (S' := T_7.setTop (mkF m 169 #[.val (.int p0), .val (.int p1), .val (.int p2), .val (.int p3), .val (.long p4), .second, .val (.long p5), .second, .val (.int v_1), .val (.int v_2), .val (.int v_3), .val (.int v_4), .val (.int v_5), .val (.ref b_6), .val (.int v_14), .val (.int v_15), .val (.int v_16), .val (.int v_17), .unset, .unset] [(.int v_5)])) (fun t_ k_ => XS.iload X_7.here hx rfl (hb hby at_167) rfl k_) ?_
        refine own_st (S' := T_7.setTop (mkF m 170 #[.val (.int p0), .val (.int p1), .val (.int p2), .val (.int p3), .val (.long p4), .second, .val (.long p5), .second, .val (.int v_1), .val (.int v_2), .val (.int v_3), .val (.int v_4), .val (.int v_5), .val (.ref b_6), .val (.int v_14), .val (.int v_15), .val (.int v_16), .val (.int v_17), .unset, .unset] [(.int (3 : Int32)), (.int v_5)])) (fun t_ k_ => XS.iconst X_7.here hx rfl (hb hby at_169) k_) ?_
        by_cases hc170 : v_5 = (3 : Int32)
        · refine own_st (S' := T_7.setTop (mkF m 187 #[.val (.int p0), .val (.int p1), .val (.int p2), .val (.int p3), .val (.long p4), .second, .val (.long p5), .second, .val (.int v_1), .val (.int v_2), .val (.int v_3), .val (.int v_4), .val (.int v_5), .val (.ref b_6), .val (.int v_14), .val (.int v_15), .val (.int v_16), .val (.int v_17), .unset, .unset] [])) (fun t_ k_ => XS.icmpYes X_7.here hx rfl (pc0 := 170) (pc' := 187) rfl (hb hby at_170) rfl (teq hc170).1 (by decide) (by decide) k_) ?_
          refine own_st (S' := T_7.setTop (mkF m 189 #[.val (.int p0), .val (.int p1), .val (.int p2), .val (.int p3), .val (.long p4), .second, .val (.long p5), .second, .val (.int v_1), .val (.int v_2), .val (.int v_3), .val (.int v_4), .val (.int v_5), .val (.ref b_6), .val (.int v_14), .val (.int v_15), .val (.int v_16), .val (.int v_17), .unset, .unset] [(.int v_2)])) (fun t_ k_ => XS.iload X_7.here hx rfl (hb hby at_187) rfl k_) ?_
          refine own_st (S' := T_7.setTop (mkF m 191 #[.val (.int p0), .val (.int p1), .val (.int p2), .val (.int p3), .val (.long p4), .second, .val (.long p5), .second, .val (.int v_1), .val (.int v_2), .val (.int v_3), .val (.int v_4), .val (.int v_5), .val (.ref b_6), .val (.int v_2), .val (.int v_15), .val (.int v_16), .val (.int v_17), .unset, .unset] [])) (fun t_ k_ => XS.istore X_7.here hx rfl (hb hby at_189) rfl (l' := #[.val (.int p0), .val (.int p1), .val (.int p2), .val (.int p3), .val (.long p4), .second, .val (.long p5), .second, .val (.int v_1), .val (.int v_2), .val (.int v_3), .val (.int v_4), .val (.int v_5), .val (.ref b_6), .val (.int v_2), .val (.int v_15), .val (.int v_16), .val (.int v_17), .unset, .unset]) rfl k_) ?_
          refine own_st (S' := T_7.setTop (mkF m 193 #[.val (.int p0), .val (.int p1), .val (.int p2), .val (.int p3), .val (.long p4), .second, .val (.long p5), .second, .val (.int v_1), .val (.int v_2), .val (.int v_3), .val (.int v_4), .val (.int v_5), .val (.ref b_6), .val (.int v_2), .val (.int v_15), .val (.int v_16), .val (.int v_17), .unset, .unset] [(.int v_1)])) (fun t_ k_ => XS.iload X_7.here hx rfl (hb hby at_191) rfl k_) ?_
          refine own_st (S' := T_7.setTop (mkF m 195 #[.val (.int p0), .val (.int p1), .val (.int p2), .val (.int p3), .val (.long p4), .second, .val (.long p5), .second, .val (.int v_1), .val (.int v_2), .val (.int v_3), .val (.int v_4), .val (.int v_5), .val (.ref b_6), .val (.int v_2), .val (.int v_1), .val (.int v_16), .val (.int v_17), .unset, .unset] [])) (fun t_ k_ => XS.istore X_7.here hx rfl (hb hby at_193) rfl (l' := #[.val (.int p0), .val (.int p1), .val (.int p2), .val (.int p3), .val (.long p4), .second, .val (.long p5), .second, .val (.int v_1), .val (.int v_2), .val (.int v_3), .val (.int v_4), .val (.int v_5), .val (.ref b_6), .val (.int v_2), .val (.int v_1), .val (.int v_16), .val (.int v_17), .unset, .unset]) rfl k_) ?_
          refine own_st (S' := T_7.setTop (mkF m 197 #[.val (.int p0), .val (.int p1), .val (.int p2), .val (.int p3), .val (.long p4), .second, .val (.long p5), .second, .val (.int v_1), .val (.int v_2), .val (.int v_3), .val (.int v_4), .val (.int v_5), .val (.ref b_6), .val (.int v_2), .val (.int v_1), .val (.int v_16), .val (.int v_17), .unset, .unset] [(.int v_3)])) (fun t_ k_ => XS.iload X_7.here hx rfl (hb hby at_195) rfl k_) ?_
          refine own_st (S' := T_7.setTop (mkF m 199 #[.val (.int p0), .val (.int p1), .val (.int p2), .val (.int p3), .val (.long p4), .second, .val (.long p5), .second, .val (.int v_1), .val (.int v_2), .val (.int v_3), .val (.int v_4), .val (.int v_5), .val (.ref b_6), .val (.int v_2), .val (.int v_1), .val (.int v_3), .val (.int v_17), .unset, .unset] [])) (fun t_ k_ => XS.istore X_7.here hx rfl (hb hby at_197) rfl (l' := #[.val (.int p0), .val (.int p1), .val (.int p2), .val (.int p3), .val (.long p4), .second, .val (.long p5), .second, .val (.int v_1), .val (.int v_2), .val (.int v_3), .val (.int v_4), .val (.int v_5), .val (.ref b_6), .val (.int v_2), .val (.int v_1), .val (.int v_3), .val (.int v_17), .unset, .unset]) rfl k_) ?_
          refine own_st (S' := T_7.setTop (mkF m 201 #[.val (.int p0), .val (.int p1), .val (.int p2), .val (.int p3), .val (.long p4), .second, .val (.long p5), .second, .val (.int v_1), .val (.int v_2), .val (.int v_3), .val (.int v_4), .val (.int v_5), .val (.ref b_6), .val (.int v_2), .val (.int v_1), .val (.int v_3), .val (.int v_17), .unset, .unset] [(.int v_4)])) (fun t_ k_ => XS.iload X_7.here hx rfl (hb hby at_199) rfl k_) ?_
          refine own_st (S' := T_7.setTop (mkF m 203 #[.val (.int p0), .val (.int p1), .val (.int p2), .val (.int p3), .val (.long p4), .second, .val (.long p5), .second, .val (.int v_1), .val (.int v_2), .val (.int v_3), .val (.int v_4), .val (.int v_5), .val (.ref b_6), .val (.int v_2), .val (.int v_1), .val (.int v_3), .val (.int v_4), .unset, .unset] [])) (fun t_ k_ => XS.istore X_7.here hx rfl (hb hby at_201) rfl (l' := #[.val (.int p0), .val (.int p1), .val (.int p2), .val (.int p3), .val (.long p4), .second, .val (.long p5), .second, .val (.int v_1), .val (.int v_2), .val (.int v_3), .val (.int v_4), .val (.int v_5), .val (.ref b_6), .val (.int v_2), .val (.int v_1), .val (.int v_3), .val (.int v_4), .unset, .unset]) rfl k_) ?_
          have G2 := G1
          obtain ⟨T_18, h_18, X_18, e_18, E_18, A_18, D_18, -, st_18⟩ := newO X_7 hx hZ hown (hw _ (List.mem_of_getElem? (i := 1) rfl)) (hw _ (List.mem_of_getElem? (i := 2) rfl)) (hw _ (List.mem_of_getElem? (i := 3) rfl)) rfl (g := (mkF m 203 #[.val (.int p0), .val (.int p1), .val (.int p2), .val (.int p3), .val (.long p4), .second, .val (.long p5), .second, .val (.int v_1), .val (.int v_2), .val (.int v_3), .val (.int v_4), .val (.int v_5), .val (.ref b_6), .val (.int v_2), .val (.int v_1), .val (.int v_3), .val (.int v_4), .unset, .unset] [])) rfl (hb hby at_203) (by decide) (by decide)
          obtain ⟨b_18, gg_18⟩ : ∃ z, z = T_7.heap.size := ⟨_, rfl⟩
          rw [← gg_18] at A_18 D_18 st_18
          have ne_b_6_b_18 : b_6 ≠ b_18 := Nat.ne_of_lt (Nat.lt_of_lt_of_le c_7_0.lt (Nat.le_of_eq gg_18.symm))
          have g_b_18 : n0 ≤ b_18 := Nat.le_trans Z_7 (Nat.le_of_eq gg_18.symm)
          have Z_18 : n0 ≤ h_18.size := Nat.le_trans Z_7 E_18.1
          have F_18_size : Fld Z h_18 b_18 "com/example/bloodwood/bloodwood/TreeReport" "size" "I" (.int (0 : Int32)) := D_18 (Or.inr (hw _ (List.mem_of_getElem? (i := 18) rfl))) (ty := .int) (by decide)
          have F_18_height : Fld Z h_18 b_18 "com/example/bloodwood/bloodwood/TreeReport" "height" "I" (.int (0 : Int32)) := D_18 (Or.inr (hw _ (List.mem_of_getElem? (i := 20) rfl))) (ty := .int) (by decide)
          have F_18_blackHeight : Fld Z h_18 b_18 "com/example/bloodwood/bloodwood/TreeReport" "blackHeight" "I" (.int (0 : Int32)) := D_18 (Or.inr (hw _ (List.mem_of_getElem? (i := 22) rfl))) (ty := .int) (by decide)
          have F_18_redCount : Fld Z h_18 b_18 "com/example/bloodwood/bloodwood/TreeReport" "redCount" "I" (.int (0 : Int32)) := D_18 (Or.inr (hw _ (List.mem_of_getElem? (i := 24) rfl))) (ty := .int) (by decide)
          refine own_st (S' := T_18.setTop (mkF m 206 #[.val (.int p0), .val (.int p1), .val (.int p2), .val (.int p3), .val (.long p4), .second, .val (.long p5), .second, .val (.int v_1), .val (.int v_2), .val (.int v_3), .val (.int v_4), .val (.int v_5), .val (.ref b_6), .val (.int v_2), .val (.int v_1), .val (.int v_3), .val (.int v_4), .unset, .unset] [(.ref b_18)])) st_18 ?_
          refine own_st (S' := T_18.setTop (mkF m 207 #[.val (.int p0), .val (.int p1), .val (.int p2), .val (.int p3), .val (.long p4), .second, .val (.long p5), .second, .val (.int v_1), .val (.int v_2), .val (.int v_3), .val (.int v_4), .val (.int v_5), .val (.ref b_6), .val (.int v_2), .val (.int v_1), .val (.int v_3), .val (.int v_4), .unset, .unset] [(.ref b_18), (.ref b_18)])) (fun t_ k_ => XS.dup X_18.here hx rfl (hb hby at_206) rfl rfl k_) ?_
          refine own_st (S' := T_18.setTop (mkF m 209 #[.val (.int p0), .val (.int p1), .val (.int p2), .val (.int p3), .val (.long p4), .second, .val (.long p5), .second, .val (.int v_1), .val (.int v_2), .val (.int v_3), .val (.int v_4), .val (.int v_5), .val (.ref b_6), .val (.int v_2), .val (.int v_1), .val (.int v_3), .val (.int v_4), .unset, .unset] [(.int v_2), (.ref b_18), (.ref b_18)])) (fun t_ k_ => XS.iload X_18.here hx rfl (hb hby at_207) rfl k_) ?_
          refine own_st (S' := T_18.setTop (mkF m 211 #[.val (.int p0), .val (.int p1), .val (.int p2), .val (.int p3), .val (.long p4), .second, .val (.long p5), .second, .val (.int v_1), .val (.int v_2), .val (.int v_3), .val (.int v_4), .val (.int v_5), .val (.ref b_6), .val (.int v_2), .val (.int v_1), .val (.int v_3), .val (.int v_4), .unset, .unset] [(.int v_1), (.int v_2), (.ref b_18), (.ref b_18)])) (fun t_ k_ => XS.iload X_18.here hx rfl (hb hby at_209) rfl k_) ?_
          refine own_st (S' := T_18.setTop (mkF m 213 #[.val (.int p0), .val (.int p1), .val (.int p2), .val (.int p3), .val (.long p4), .second, .val (.long p5), .second, .val (.int v_1), .val (.int v_2), .val (.int v_3), .val (.int v_4), .val (.int v_5), .val (.ref b_6), .val (.int v_2), .val (.int v_1), .val (.int v_3), .val (.int v_4), .unset, .unset] [(.int v_3), (.int v_1), (.int v_2), (.ref b_18), (.ref b_18)])) (fun t_ k_ => XS.iload X_18.here hx rfl (hb hby at_211) rfl k_) ?_
          refine own_st (S' := T_18.setTop (mkF m 215 #[.val (.int p0), .val (.int p1), .val (.int p2), .val (.int p3), .val (.long p4), .second, .val (.long p5), .second, .val (.int v_1), .val (.int v_2), .val (.int v_3), .val (.int v_4), .val (.int v_5), .val (.ref b_6), .val (.int v_2), .val (.int v_1), .val (.int v_3), .val (.int v_4), .unset, .unset] [(.int v_4), (.int v_3), (.int v_1), (.int v_2), (.ref b_18), (.ref b_18)])) (fun t_ k_ => XS.iload X_18.here hx rfl (hb hby at_213) rfl k_) ?_
          obtain ⟨_, _, ⟨T_19, L_19, k_19, n_19⟩, -, X_19, ⟨Lc_19, hQ_19, l_19, y_19, z_19⟩, st_19⟩ := X_18.specialBack hx (y := (⟨"com/example/bloodwood/bloodwood/TreeReport", "<init>", "(IIII)V"⟩ : MethodName)) rfl hown (mvT hZ (hw _ (List.mem_of_getElem? (i := 4) rfl))) (mvT hZ (hw _ (List.mem_of_getElem? (i := 5) rfl))) (mvT hZ (hw _ (List.mem_of_getElem? (i := 6) rfl))) (by decide) (backOf (W := 1) (rm6 l Z a0 hw [] b_18 v_2 v_1 v_3 v_4 h_18 n0 Z_18 A_18 F_18_size F_18_height F_18_blackHeight F_18_redCount g_b_18 G2.1 G2.2.1 G2.2.2.1 G2.2.2.2.1 G2.2.2.2.2.1 G2.2.2.2.2.2.1 G2.2.2.2.2.2.2.1 G2.2.2.2.2.2.2.2) hZ (hw _ (List.mem_of_getElem? (i := 6) rfl)) (hw _ (List.mem_of_getElem? (i := 3) rfl)) (by decide) (by decide)) (g := (mkF m 215 #[.val (.int p0), .val (.int p1), .val (.int p2), .val (.int p3), .val (.long p4), .second, .val (.long p5), .second, .val (.int v_1), .val (.int v_2), .val (.int v_3), .val (.int v_4), .val (.int v_5), .val (.ref b_6), .val (.int v_2), .val (.int v_1), .val (.int v_3), .val (.int v_4), .unset, .unset] [(.int v_4), (.int v_3), (.int v_1), (.int v_2), (.ref b_18), (.ref b_18)])) rfl (by rw [hml]; rfl) (Steps.refl _) (a := b_18) (argsL := [(.int v_2), (.int v_1), (.int v_3), (.int v_4)]) (rest := [(.ref b_18)]) (lenOf pd_4 rfl) rfl (by show 2 * 0 + _ ≤ _; exact Nat.le_of_eq rfl) (hb hby at_215) (fun _ _ => ⟨rfl, e_18, (by decide : 2 + 0 ≤ _), (by decide : 8 + 0 ≤ _)⟩)
          dsimp only [Pt.U, Pt.locs, Pt.cells, Pt.slots] at X_19 l_19 y_19 z_19 st_19 hQ_19
          subst l_19 y_19 z_19
          obtain ⟨rfl, M_19, K_19c, c_19_0, c_19_1, c_19_2, c_19_3, c_19_4⟩ := hQ_19
          have N_19 := Fr.app N_7 M_19
          have Z_19 : n0 ≤ T_19.heap.size := Nat.le_trans Z_18 K_19c.1
          refine own_st (S' := T_19.setTop (mkF m 218 #[.val (.int p0), .val (.int p1), .val (.int p2), .val (.int p3), .val (.long p4), .second, .val (.long p5), .second, .val (.int v_1), .val (.int v_2), .val (.int v_3), .val (.int v_4), .val (.int v_5), .val (.ref b_6), .val (.int v_2), .val (.int v_1), .val (.int v_3), .val (.int v_4), .unset, .unset] [(.ref b_18)])) (fun t_ k_ => st_19.trans k_) ?_
          refine own_st (S' := T_19.setTop (mkF m 220 #[.val (.int p0), .val (.int p1), .val (.int p2), .val (.int p3), .val (.long p4), .second, .val (.long p5), .second, .val (.int v_1), .val (.int v_2), .val (.int v_3), .val (.int v_4), .val (.int v_5), .val (.ref b_6), .val (.int v_2), .val (.int v_1), .val (.int v_3), .val (.int v_4), .val (.ref b_18), .unset] [])) (fun t_ k_ => XS.astore X_19.here hx rfl (hb hby at_218) rfl rfl (l' := #[.val (.int p0), .val (.int p1), .val (.int p2), .val (.int p3), .val (.long p4), .second, .val (.long p5), .second, .val (.int v_1), .val (.int v_2), .val (.int v_3), .val (.int v_4), .val (.int v_5), .val (.ref b_6), .val (.int v_2), .val (.int v_1), .val (.int v_3), .val (.int v_4), .val (.ref b_18), .unset]) rfl k_) ?_
          refine own_st (S' := T_19.setTop (mkF m 222 #[.val (.int p0), .val (.int p1), .val (.int p2), .val (.int p3), .val (.long p4), .second, .val (.long p5), .second, .val (.int v_1), .val (.int v_2), .val (.int v_3), .val (.int v_4), .val (.int v_5), .val (.ref b_6), .val (.int v_2), .val (.int v_1), .val (.int v_3), .val (.int v_4), .val (.ref b_18), .unset] [(.int v_2)])) (fun t_ k_ => XS.iload X_19.here hx rfl (hb hby at_220) rfl k_) ?_
          refine own_st (S' := T_19.setTop (mkF m 224 #[.val (.int p0), .val (.int p1), .val (.int p2), .val (.int p3), .val (.long p4), .second, .val (.long p5), .second, .val (.int v_1), .val (.int v_2), .val (.int v_3), .val (.int v_4), .val (.int v_5), .val (.ref b_6), .val (.int v_2), .val (.int v_1), .val (.int v_3), .val (.int v_4), .val (.ref b_18), .unset] [(.int v_2), (.int v_2)])) (fun t_ k_ => XS.iload X_19.here hx rfl (hb hby at_222) rfl k_) ?_
          refine own_st (S' := T_19.setTop (mkF m 227 #[.val (.int p0), .val (.int p1), .val (.int p2), .val (.int p3), .val (.long p4), .second, .val (.long p5), .second, .val (.int v_1), .val (.int v_2), .val (.int v_3), .val (.int v_4), .val (.int v_5), .val (.ref b_6), .val (.int v_2), .val (.int v_1), .val (.int v_3), .val (.int v_4), .val (.ref b_18), .unset] [])) (fun t_ k_ => XS.icmpNo X_19.here hx rfl (hb hby at_224) rfl (teq (rfl : v_2 = v_2)).2 k_) ?_
          refine own_st (S' := T_19.setTop (mkF m 229 #[.val (.int p0), .val (.int p1), .val (.int p2), .val (.int p3), .val (.long p4), .second, .val (.long p5), .second, .val (.int v_1), .val (.int v_2), .val (.int v_3), .val (.int v_4), .val (.int v_5), .val (.ref b_6), .val (.int v_2), .val (.int v_1), .val (.int v_3), .val (.int v_4), .val (.ref b_18), .unset] [(.int v_1)])) (fun t_ k_ => XS.iload X_19.here hx rfl (hb hby at_227) rfl k_) ?_
          refine own_st (S' := T_19.setTop (mkF m 231 #[.val (.int p0), .val (.int p1), .val (.int p2), .val (.int p3), .val (.long p4), .second, .val (.long p5), .second, .val (.int v_1), .val (.int v_2), .val (.int v_3), .val (.int v_4), .val (.int v_5), .val (.ref b_6), .val (.int v_2), .val (.int v_1), .val (.int v_3), .val (.int v_4), .val (.ref b_18), .unset] [(.int v_1), (.int v_1)])) (fun t_ k_ => XS.iload X_19.here hx rfl (hb hby at_229) rfl k_) ?_
          refine own_st (S' := T_19.setTop (mkF m 234 #[.val (.int p0), .val (.int p1), .val (.int p2), .val (.int p3), .val (.long p4), .second, .val (.long p5), .second, .val (.int v_1), .val (.int v_2), .val (.int v_3), .val (.int v_4), .val (.int v_5), .val (.ref b_6), .val (.int v_2), .val (.int v_1), .val (.int v_3), .val (.int v_4), .val (.ref b_18), .unset] [])) (fun t_ k_ => XS.icmpNo X_19.here hx rfl (hb hby at_231) rfl (teq (rfl : v_1 = v_1)).2 k_) ?_
          refine own_st (S' := T_19.setTop (mkF m 236 #[.val (.int p0), .val (.int p1), .val (.int p2), .val (.int p3), .val (.long p4), .second, .val (.long p5), .second, .val (.int v_1), .val (.int v_2), .val (.int v_3), .val (.int v_4), .val (.int v_5), .val (.ref b_6), .val (.int v_2), .val (.int v_1), .val (.int v_3), .val (.int v_4), .val (.ref b_18), .unset] [(.int v_3)])) (fun t_ k_ => XS.iload X_19.here hx rfl (hb hby at_234) rfl k_) ?_
          refine own_st (S' := T_19.setTop (mkF m 238 #[.val (.int p0), .val (.int p1), .val (.int p2), .val (.int p3), .val (.long p4), .second, .val (.long p5), .second, .val (.int v_1), .val (.int v_2), .val (.int v_3), .val (.int v_4), .val (.int v_5), .val (.ref b_6), .val (.int v_2), .val (.int v_1), .val (.int v_3), .val (.int v_4), .val (.ref b_18), .unset] [(.int v_3), (.int v_3)])) (fun t_ k_ => XS.iload X_19.here hx rfl (hb hby at_236) rfl k_) ?_
          refine own_st (S' := T_19.setTop (mkF m 241 #[.val (.int p0), .val (.int p1), .val (.int p2), .val (.int p3), .val (.long p4), .second, .val (.long p5), .second, .val (.int v_1), .val (.int v_2), .val (.int v_3), .val (.int v_4), .val (.int v_5), .val (.ref b_6), .val (.int v_2), .val (.int v_1), .val (.int v_3), .val (.int v_4), .val (.ref b_18), .unset] [])) (fun t_ k_ => XS.icmpNo X_19.here hx rfl (hb hby at_238) rfl (teq (rfl : v_3 = v_3)).2 k_) ?_
          refine own_st (S' := T_19.setTop (mkF m 243 #[.val (.int p0), .val (.int p1), .val (.int p2), .val (.int p3), .val (.long p4), .second, .val (.long p5), .second, .val (.int v_1), .val (.int v_2), .val (.int v_3), .val (.int v_4), .val (.int v_5), .val (.ref b_6), .val (.int v_2), .val (.int v_1), .val (.int v_3), .val (.int v_4), .val (.ref b_18), .unset] [(.int v_4)])) (fun t_ k_ => XS.iload X_19.here hx rfl (hb hby at_241) rfl k_) ?_
          refine own_st (S' := T_19.setTop (mkF m 245 #[.val (.int p0), .val (.int p1), .val (.int p2), .val (.int p3), .val (.long p4), .second, .val (.long p5), .second, .val (.int v_1), .val (.int v_2), .val (.int v_3), .val (.int v_4), .val (.int v_5), .val (.ref b_6), .val (.int v_2), .val (.int v_1), .val (.int v_3), .val (.int v_4), .val (.ref b_18), .unset] [(.int v_4), (.int v_4)])) (fun t_ k_ => XS.iload X_19.here hx rfl (hb hby at_243) rfl k_) ?_
          refine own_st (S' := T_19.setTop (mkF m 248 #[.val (.int p0), .val (.int p1), .val (.int p2), .val (.int p3), .val (.long p4), .second, .val (.long p5), .second, .val (.int v_1), .val (.int v_2), .val (.int v_3), .val (.int v_4), .val (.int v_5), .val (.ref b_6), .val (.int v_2), .val (.int v_1), .val (.int v_3), .val (.int v_4), .val (.ref b_18), .unset] [])) (fun t_ k_ => XS.icmpNo X_19.here hx rfl (hb hby at_245) rfl (teq (rfl : v_4 = v_4)).2 k_) ?_
          refine own_st (S' := T_19.setTop (mkF m 249 #[.val (.int p0), .val (.int p1), .val (.int p2), .val (.int p3), .val (.long p4), .second, .val (.long p5), .second, .val (.int v_1), .val (.int v_2), .val (.int v_3), .val (.int v_4), .val (.int v_5), .val (.ref b_6), .val (.int v_2), .val (.int v_1), .val (.int v_3), .val (.int v_4), .val (.ref b_18), .unset] [(.int (1 : Int32))])) (fun t_ k_ => XS.iconst X_19.here hx rfl (hb hby at_248) k_) ?_
          refine own_st (S' := T_19.setTop (mkF m 253 #[.val (.int p0), .val (.int p1), .val (.int p2), .val (.int p3), .val (.long p4), .second, .val (.long p5), .second, .val (.int v_1), .val (.int v_2), .val (.int v_3), .val (.int v_4), .val (.int v_5), .val (.ref b_6), .val (.int v_2), .val (.int v_1), .val (.int v_3), .val (.int v_4), .val (.ref b_18), .unset] [(.int (1 : Int32))])) (fun t_ k_ => XS.goto X_19.here hx rfl (pc0 := 249) (pc' := 253) rfl (hb hby at_249) (by decide) (by decide) k_) ?_
          refine own_st (S' := T_19.setTop (mkF m 255 #[.val (.int p0), .val (.int p1), .val (.int p2), .val (.int p3), .val (.long p4), .second, .val (.long p5), .second, .val (.int v_1), .val (.int v_2), .val (.int v_3), .val (.int v_4), .val (.int v_5), .val (.ref b_6), .val (.int v_2), .val (.int v_1), .val (.int v_3), .val (.int v_4), .val (.ref b_18), .val (.int (1 : Int32))] [])) (fun t_ k_ => XS.istore X_19.here hx rfl (hb hby at_253) rfl (l' := #[.val (.int p0), .val (.int p1), .val (.int p2), .val (.int p3), .val (.long p4), .second, .val (.long p5), .second, .val (.int v_1), .val (.int v_2), .val (.int v_3), .val (.int v_4), .val (.int v_5), .val (.ref b_6), .val (.int v_2), .val (.int v_1), .val (.int v_3), .val (.int v_4), .val (.ref b_18), .val (.int (1 : Int32))]) rfl k_) ?_
          refine own_st (S' := T_19.setTop (mkF m 257 #[.val (.int p0), .val (.int p1), .val (.int p2), .val (.int p3), .val (.long p4), .second, .val (.long p5), .second, .val (.int v_1), .val (.int v_2), .val (.int v_3), .val (.int v_4), .val (.int v_5), .val (.ref b_6), .val (.int v_2), .val (.int v_1), .val (.int v_3), .val (.int v_4), .val (.ref b_18), .val (.int (1 : Int32))] [(.ref b_6)])) (fun t_ k_ => XS.aload X_19.here hx rfl (hb hby at_255) rfl rfl k_) ?_
          refine own_st (S' := T_19.setTop (mkF m 259 #[.val (.int p0), .val (.int p1), .val (.int p2), .val (.int p3), .val (.long p4), .second, .val (.long p5), .second, .val (.int v_1), .val (.int v_2), .val (.int v_3), .val (.int v_4), .val (.int v_5), .val (.ref b_6), .val (.int v_2), .val (.int v_1), .val (.int v_3), .val (.int v_4), .val (.ref b_18), .val (.int (1 : Int32))] [(.ref b_18), (.ref b_6)])) (fun t_ k_ => XS.aload X_19.here hx rfl (hb hby at_257) rfl rfl k_) ?_
          have f_20 : Fld Z T_19.heap b_6 "com/example/bloodwood/bloodwood/TreeReport" "size" "I" (.int v_2) := ((Fld.ext E_18 c_7_1).keep K_19c (ninS ne_b_6_b_18 nin0))
          have f_21 : Fld Z T_19.heap b_6 "com/example/bloodwood/bloodwood/TreeReport" "height" "I" (.int v_1) := ((Fld.ext E_18 c_7_2).keep K_19c (ninS ne_b_6_b_18 nin0))
          have f_22 : Fld Z T_19.heap b_6 "com/example/bloodwood/bloodwood/TreeReport" "blackHeight" "I" (.int v_3) := ((Fld.ext E_18 c_7_3).keep K_19c (ninS ne_b_6_b_18 nin0))
          have f_23 : Fld Z T_19.heap b_6 "com/example/bloodwood/bloodwood/TreeReport" "redCount" "I" (.int v_4) := ((Fld.ext E_18 c_7_4).keep K_19c (ninS ne_b_6_b_18 nin0))
          have f_25 : Exa Z T_19.heap b_6 "com/example/bloodwood/bloodwood/TreeReport" := ((Exa.ext E_18 c_7_0).keep K_19c)
          obtain ⟨cq_24, kq_24, q_24a, q_24b, q_24c⟩ := isOf hZ rfl f_25
          obtain ⟨_, _, ⟨T_24, L_24, k_24, n_24⟩, -, X_24, ⟨Lc_24, hQ_24, l_24, y_24, z_24⟩, st_24⟩ := X_19.virtualBack hx (y := (⟨"com/example/bloodwood/bloodwood/TreeReport", "equals", "(Ljava/lang/Object;)Z"⟩ : MethodName)) (z := (⟨"com/example/bloodwood/bloodwood/TreeReport", "equals", "(Ljava/lang/Object;)Z"⟩ : MethodName)) hown (mvT hZ (hw _ (List.mem_of_getElem? (i := 25) rfl))) (mvT hZ (hw _ (List.mem_of_getElem? (i := 26) rfl))) (notFace_of_selects (args := #[]) (mvT hZ (hw _ (List.mem_of_getElem? (i := 28) rfl)))) (mvT hZ (hw _ (List.mem_of_getElem? (i := 28) rfl))) (mvT hZ (hw _ (List.mem_of_getElem? (i := 27) rfl))) (by decide) (backOf (W := 0) (rm7d l Z a0 hw [] b_6 b_18 v_2 v_1 v_3 v_4 v_2 v_1 v_3 v_4 T_19.heap n0 Z_19 c_19_0 f_20 f_21 f_22 f_23 c_19_1 c_19_2 c_19_3 c_19_4) hZ (hw _ (List.mem_of_getElem? (i := 29) rfl)) (hw _ (List.mem_of_getElem? (i := 3) rfl)) (by decide) (by decide)) q_24a q_24c (g := (mkF m 259 #[.val (.int p0), .val (.int p1), .val (.int p2), .val (.int p3), .val (.long p4), .second, .val (.long p5), .second, .val (.int v_1), .val (.int v_2), .val (.int v_3), .val (.int v_4), .val (.int v_5), .val (.ref b_6), .val (.int v_2), .val (.int v_1), .val (.int v_3), .val (.int v_4), .val (.ref b_18), .val (.int (1 : Int32))] [(.ref b_18), (.ref b_6)])) rfl (by rw [hml]; rfl) (Steps.refl _) (argsL := [(.ref b_18)]) (rest := []) (lenOf pd_5 rfl) rfl (by show 2 * 0 + _ ≤ _; exact Nat.le_of_eq rfl) (hb hby at_259) (fun _ _ => ⟨rfl, rfl, (by decide : 2 + 0 ≤ _), (by decide : 8 + 0 ≤ _)⟩)
          dsimp only [Pt.U, Pt.locs, Pt.cells, Pt.slots] at X_24 l_24 y_24 z_24 st_24 hQ_24
          subst l_24 y_24 z_24
          obtain ⟨rfl, M_24, q_24⟩ := hQ_24
          have N_24 := Fr.app N_19 M_24
          refine own_st (S' := T_24.setTop (mkF m 262 #[.val (.int p0), .val (.int p1), .val (.int p2), .val (.int p3), .val (.long p4), .second, .val (.long p5), .second, .val (.int v_1), .val (.int v_2), .val (.int v_3), .val (.int v_4), .val (.int v_5), .val (.ref b_6), .val (.int v_2), .val (.int v_1), .val (.int v_3), .val (.int v_4), .val (.ref b_18), .val (.int (1 : Int32))] [(.int (own_eq v_2 v_1 v_3 v_4 v_2 v_1 v_3 v_4))])) (fun t_ k_ => st_24.trans k_) ?_
          refine own_st (S' := T_24.setTop (mkF m 264 #[.val (.int p0), .val (.int p1), .val (.int p2), .val (.int p3), .val (.long p4), .second, .val (.long p5), .second, .val (.int v_1), .val (.int v_2), .val (.int v_3), .val (.int v_4), .val (.int v_5), .val (.ref b_6), .val (.int v_2), .val (.int v_1), .val (.int v_3), .val (.int v_4), .val (.ref b_18), .val (.int (1 : Int32))] [(.int (1 : Int32)), (.int (own_eq v_2 v_1 v_3 v_4 v_2 v_1 v_3 v_4))])) (fun t_ k_ => XS.iload X_24.here hx rfl (hb hby at_262) rfl k_) ?_
          by_cases hc264 : (own_eq v_2 v_1 v_3 v_4 v_2 v_1 v_3 v_4) = (1 : Int32)
          · refine own_st (S' := T_24.setTop (mkF m 267 #[.val (.int p0), .val (.int p1), .val (.int p2), .val (.int p3), .val (.long p4), .second, .val (.long p5), .second, .val (.int v_1), .val (.int v_2), .val (.int v_3), .val (.int v_4), .val (.int v_5), .val (.ref b_6), .val (.int v_2), .val (.int v_1), .val (.int v_3), .val (.int v_4), .val (.ref b_18), .val (.int (1 : Int32))] [])) (fun t_ k_ => XS.icmpNo X_24.here hx rfl (hb hby at_264) rfl (teq hc264).2 k_) ?_
            refine own_st (S' := T_24.setTop (mkF m 269 #[.val (.int p0), .val (.int p1), .val (.int p2), .val (.int p3), .val (.long p4), .second, .val (.long p5), .second, .val (.int v_1), .val (.int v_2), .val (.int v_3), .val (.int v_4), .val (.int v_5), .val (.ref b_6), .val (.int v_2), .val (.int v_1), .val (.int v_3), .val (.int v_4), .val (.ref b_18), .val (.int (1 : Int32))] [(.ref b_18)])) (fun t_ k_ => XS.aload X_24.here hx rfl (hb hby at_267) rfl rfl k_) ?_
            refine own_st (S' := T_24.setTop (mkF m 271 #[.val (.int p0), .val (.int p1), .val (.int p2), .val (.int p3), .val (.long p4), .second, .val (.long p5), .second, .val (.int v_1), .val (.int v_2), .val (.int v_3), .val (.int v_4), .val (.int v_5), .val (.ref b_6), .val (.int v_2), .val (.int v_1), .val (.int v_3), .val (.int v_4), .val (.ref b_18), .val (.int (1 : Int32))] [(.ref b_6), (.ref b_18)])) (fun t_ k_ => XS.aload X_24.here hx rfl (hb hby at_269) rfl rfl k_) ?_
            obtain ⟨cq_26, kq_26, q_26a, q_26b, q_26c⟩ := isOf hZ q_24 c_19_0
            obtain ⟨_, _, ⟨T_26, L_26, k_26, n_26⟩, -, X_26, ⟨Lc_26, hQ_26, l_26, y_26, z_26⟩, st_26⟩ := X_24.virtualBack hx (y := (⟨"com/example/bloodwood/bloodwood/TreeReport", "equals", "(Ljava/lang/Object;)Z"⟩ : MethodName)) (z := (⟨"com/example/bloodwood/bloodwood/TreeReport", "equals", "(Ljava/lang/Object;)Z"⟩ : MethodName)) hown (mvT hZ (hw _ (List.mem_of_getElem? (i := 25) rfl))) (mvT hZ (hw _ (List.mem_of_getElem? (i := 26) rfl))) (notFace_of_selects (args := #[]) (mvT hZ (hw _ (List.mem_of_getElem? (i := 28) rfl)))) (mvT hZ (hw _ (List.mem_of_getElem? (i := 28) rfl))) (mvT hZ (hw _ (List.mem_of_getElem? (i := 27) rfl))) (by decide) (backOf (W := 0) (rm7d l Z a0 hw [] b_18 b_6 v_2 v_1 v_3 v_4 v_2 v_1 v_3 v_4 T_19.heap n0 Z_19 f_25 c_19_1 c_19_2 c_19_3 c_19_4 f_20 f_21 f_22 f_23) hZ (hw _ (List.mem_of_getElem? (i := 29) rfl)) (hw _ (List.mem_of_getElem? (i := 3) rfl)) (by decide) (by decide)) q_26a q_26c (g := (mkF m 271 #[.val (.int p0), .val (.int p1), .val (.int p2), .val (.int p3), .val (.long p4), .second, .val (.long p5), .second, .val (.int v_1), .val (.int v_2), .val (.int v_3), .val (.int v_4), .val (.int v_5), .val (.ref b_6), .val (.int v_2), .val (.int v_1), .val (.int v_3), .val (.int v_4), .val (.ref b_18), .val (.int (1 : Int32))] [(.ref b_6), (.ref b_18)])) rfl (by rw [hml]; rfl) (Steps.refl _) (argsL := [(.ref b_6)]) (rest := []) (lenOf pd_5 rfl) rfl (by show 2 * 0 + _ ≤ _; exact Nat.le_of_eq rfl) (hb hby at_271) (fun _ _ => ⟨rfl, q_24, (by decide : 2 + 0 ≤ _), (by decide : 8 + 0 ≤ _)⟩)
            dsimp only [Pt.U, Pt.locs, Pt.cells, Pt.slots] at X_26 l_26 y_26 z_26 st_26 hQ_26
            subst l_26 y_26 z_26
            obtain ⟨rfl, M_26, q_26⟩ := hQ_26
            have N_26 := Fr.app N_24 M_26
            refine own_st (S' := T_26.setTop (mkF m 274 #[.val (.int p0), .val (.int p1), .val (.int p2), .val (.int p3), .val (.long p4), .second, .val (.long p5), .second, .val (.int v_1), .val (.int v_2), .val (.int v_3), .val (.int v_4), .val (.int v_5), .val (.ref b_6), .val (.int v_2), .val (.int v_1), .val (.int v_3), .val (.int v_4), .val (.ref b_18), .val (.int (1 : Int32))] [(.int (own_eq v_2 v_1 v_3 v_4 v_2 v_1 v_3 v_4))])) (fun t_ k_ => st_26.trans k_) ?_
            refine own_st (S' := T_26.setTop (mkF m 276 #[.val (.int p0), .val (.int p1), .val (.int p2), .val (.int p3), .val (.long p4), .second, .val (.long p5), .second, .val (.int v_1), .val (.int v_2), .val (.int v_3), .val (.int v_4), .val (.int v_5), .val (.ref b_6), .val (.int v_2), .val (.int v_1), .val (.int v_3), .val (.int v_4), .val (.ref b_18), .val (.int (1 : Int32))] [(.int (1 : Int32)), (.int (own_eq v_2 v_1 v_3 v_4 v_2 v_1 v_3 v_4))])) (fun t_ k_ => XS.iload X_26.here hx rfl (hb hby at_274) rfl k_) ?_
            refine own_st (S' := T_26.setTop (mkF m 279 #[.val (.int p0), .val (.int p1), .val (.int p2), .val (.int p3), .val (.long p4), .second, .val (.long p5), .second, .val (.int v_1), .val (.int v_2), .val (.int v_3), .val (.int v_4), .val (.int v_5), .val (.ref b_6), .val (.int v_2), .val (.int v_1), .val (.int v_3), .val (.int v_4), .val (.ref b_18), .val (.int (1 : Int32))] [])) (fun t_ k_ => XS.icmpNo X_26.here hx rfl (hb hby at_276) rfl (teq hc264).2 k_) ?_
            refine own_st (S' := T_26.setTop (mkF m 280 #[.val (.int p0), .val (.int p1), .val (.int p2), .val (.int p3), .val (.long p4), .second, .val (.long p5), .second, .val (.int v_1), .val (.int v_2), .val (.int v_3), .val (.int v_4), .val (.int v_5), .val (.ref b_6), .val (.int v_2), .val (.int v_1), .val (.int v_3), .val (.int v_4), .val (.ref b_18), .val (.int (1 : Int32))] [(.int (1 : Int32))])) (fun t_ k_ => XS.iconst X_26.here hx rfl (hb hby at_279) k_) ?_
            refine own_st (S' := T_26.setTop (mkF m 284 #[.val (.int p0), .val (.int p1), .val (.int p2), .val (.int p3), .val (.long p4), .second, .val (.long p5), .second, .val (.int v_1), .val (.int v_2), .val (.int v_3), .val (.int v_4), .val (.int v_5), .val (.ref b_6), .val (.int v_2), .val (.int v_1), .val (.int v_3), .val (.int v_4), .val (.ref b_18), .val (.int (1 : Int32))] [(.int (1 : Int32))])) (fun t_ k_ => XS.goto X_26.here hx rfl (pc0 := 280) (pc' := 284) rfl (hb hby at_280) (by decide) (by decide) k_) ?_
            obtain ⟨fs, hr, hrun, hended, hW, hsame⟩ := X_26.leave (v := some (.int (1 : Int32))) (fun h => by rw [Bd.returns] at h; cases h)
            refine ⟨_, _, retN X_26 hx (t := .boolean) Bd.returns (by simp) (hb hby at_284) hr, hrun, hended, _, _, rfl, ?_, ⟨_, rfl⟩, hW, hsame.mono (by decide) (by decide)⟩
            show Q0 Z p0 p1 p2 p3 p4 p5 ca cc h0 n0 _ T_26.heap _
            rw [q_26]
            exact ⟨rfl, N_26⟩
          · exact absurd (by simp [own_eq]) hc264
        · refine own_st (S' := T_7.setTop (mkF m 173 #[.val (.int p0), .val (.int p1), .val (.int p2), .val (.int p3), .val (.long p4), .second, .val (.long p5), .second, .val (.int v_1), .val (.int v_2), .val (.int v_3), .val (.int v_4), .val (.int v_5), .val (.ref b_6), .val (.int v_14), .val (.int v_15), .val (.int v_16), .val (.int v_17), .unset, .unset] [])) (fun t_ k_ => XS.icmpNo X_7.here hx rfl (hb hby at_170) rfl (feq hc170).1 k_) ?_
          refine own_st (S' := T_7.setTop (mkF m 175 #[.val (.int p0), .val (.int p1), .val (.int p2), .val (.int p3), .val (.long p4), .second, .val (.long p5), .second, .val (.int v_1), .val (.int v_2), .val (.int v_3), .val (.int v_4), .val (.int v_5), .val (.ref b_6), .val (.int v_14), .val (.int v_15), .val (.int v_16), .val (.int v_17), .unset, .unset] [(.int v_14)])) (fun t_ k_ => XS.iload X_7.here hx rfl (hb hby at_173) rfl k_) ?_
          refine own_st (S' := T_7.setTop (mkF m 177 #[.val (.int p0), .val (.int p1), .val (.int p2), .val (.int p3), .val (.long p4), .second, .val (.long p5), .second, .val (.int v_1), .val (.int v_2), .val (.int v_3), .val (.int v_4), .val (.int v_5), .val (.ref b_6), .val (.int v_14), .val (.int v_15), .val (.int v_16), .val (.int v_17), .unset, .unset] [(.int v_15), (.int v_14)])) (fun t_ k_ => XS.iload X_7.here hx rfl (hb hby at_175) rfl k_) ?_
          refine own_st (S' := T_7.setTop (mkF m 179 #[.val (.int p0), .val (.int p1), .val (.int p2), .val (.int p3), .val (.long p4), .second, .val (.long p5), .second, .val (.int v_1), .val (.int v_2), .val (.int v_3), .val (.int v_4), .val (.int v_5), .val (.ref b_6), .val (.int v_14), .val (.int v_15), .val (.int v_16), .val (.int v_17), .unset, .unset] [(.int v_16), (.int v_15), (.int v_14)])) (fun t_ k_ => XS.iload X_7.here hx rfl (hb hby at_177) rfl k_) ?_
          refine own_st (S' := T_7.setTop (mkF m 181 #[.val (.int p0), .val (.int p1), .val (.int p2), .val (.int p3), .val (.long p4), .second, .val (.long p5), .second, .val (.int v_1), .val (.int v_2), .val (.int v_3), .val (.int v_4), .val (.int v_5), .val (.ref b_6), .val (.int v_14), .val (.int v_15), .val (.int v_16), .val (.int v_17), .unset, .unset] [(.int v_17), (.int v_16), (.int v_15), (.int v_14)])) (fun t_ k_ => XS.iload X_7.here hx rfl (hb hby at_179) rfl k_) ?_
          obtain ⟨_, _, ⟨T_27, L_27, k_27, n_27⟩, -, X_27, ⟨Lc_27, hQ_27, l_27, y_27, z_27⟩, st_27⟩ := Jvm.LawKit.callS X_7 hx (y := (⟨"com/example/bloodwood/bloodwood/TreeReportEqualsPinLaw", "fits", "(IIII)Z"⟩ : MethodName)) hown (mvT hZ (hw _ (List.mem_of_getElem? (i := 33) rfl))) (mvT hZ (hw _ (List.mem_of_getElem? (i := 34) rfl))) (mvT hZ (hw _ (List.mem_of_getElem? (i := 35) rfl))) (mvT hZ (hw _ (List.mem_of_getElem? (i := 36) rfl))) (by decide) (backOf (W := 0) (rm8 l Z a0 hw [] v_14 v_15 v_16 v_17 T_7.heap n0 Z_7 ) hZ (hw _ (List.mem_of_getElem? (i := 36) rfl)) (hw _ (List.mem_of_getElem? (i := 35) rfl)) (by decide) (by decide)) (g := (mkF m 181 #[.val (.int p0), .val (.int p1), .val (.int p2), .val (.int p3), .val (.long p4), .second, .val (.long p5), .second, .val (.int v_1), .val (.int v_2), .val (.int v_3), .val (.int v_4), .val (.int v_5), .val (.ref b_6), .val (.int v_14), .val (.int v_15), .val (.int v_16), .val (.int v_17), .unset, .unset] [(.int v_17), (.int v_16), (.int v_15), (.int v_14)])) rfl (by rw [hml]; rfl) (argsL := [(.int v_14), (.int v_15), (.int v_16), (.int v_17)]) (rest := []) (lenOf pd_7 rfl) rfl (by show 2 * 0 + _ ≤ _; exact Nat.le_of_eq rfl) (hb hby at_181) (fun _ _ => ⟨rfl, rfl, (by decide : 1 + 0 ≤ _), (by decide : 4 + 0 ≤ _)⟩)
          dsimp only [Pt.U, Pt.locs, Pt.cells, Pt.slots] at X_27 l_27 y_27 z_27 st_27 hQ_27
          subst l_27 y_27 z_27
          obtain ⟨rfl, M_27, q_27⟩ := hQ_27
          have N_27 := Fr.app N_7 M_27
          refine own_st (S' := T_27.setTop (mkF m 184 #[.val (.int p0), .val (.int p1), .val (.int p2), .val (.int p3), .val (.long p4), .second, .val (.long p5), .second, .val (.int v_1), .val (.int v_2), .val (.int v_3), .val (.int v_4), .val (.int v_5), .val (.ref b_6), .val (.int v_14), .val (.int v_15), .val (.int v_16), .val (.int v_17), .unset, .unset] [(.int (own_fits v_14 v_15 v_16 v_17))])) st_27 ?_
          by_cases hc184 : (own_fits v_14 v_15 v_16 v_17) = (0 : Int32)
          · refine own_st (S' := T_27.setTop (mkF m 187 #[.val (.int p0), .val (.int p1), .val (.int p2), .val (.int p3), .val (.long p4), .second, .val (.long p5), .second, .val (.int v_1), .val (.int v_2), .val (.int v_3), .val (.int v_4), .val (.int v_5), .val (.ref b_6), .val (.int v_14), .val (.int v_15), .val (.int v_16), .val (.int v_17), .unset, .unset] [])) (fun t_ k_ => XS.ifNo X_27.here hx rfl (hb hby at_184) rfl ((if0 _ _).trans (teq hc184).2) k_) ?_
            refine own_st (S' := T_27.setTop (mkF m 189 #[.val (.int p0), .val (.int p1), .val (.int p2), .val (.int p3), .val (.long p4), .second, .val (.long p5), .second, .val (.int v_1), .val (.int v_2), .val (.int v_3), .val (.int v_4), .val (.int v_5), .val (.ref b_6), .val (.int v_14), .val (.int v_15), .val (.int v_16), .val (.int v_17), .unset, .unset] [(.int v_2)])) (fun t_ k_ => XS.iload X_27.here hx rfl (hb hby at_187) rfl k_) ?_
            refine own_st (S' := T_27.setTop (mkF m 191 #[.val (.int p0), .val (.int p1), .val (.int p2), .val (.int p3), .val (.long p4), .second, .val (.long p5), .second, .val (.int v_1), .val (.int v_2), .val (.int v_3), .val (.int v_4), .val (.int v_5), .val (.ref b_6), .val (.int v_2), .val (.int v_15), .val (.int v_16), .val (.int v_17), .unset, .unset] [])) (fun t_ k_ => XS.istore X_27.here hx rfl (hb hby at_189) rfl (l' := #[.val (.int p0), .val (.int p1), .val (.int p2), .val (.int p3), .val (.long p4), .second, .val (.long p5), .second, .val (.int v_1), .val (.int v_2), .val (.int v_3), .val (.int v_4), .val (.int v_5), .val (.ref b_6), .val (.int v_2), .val (.int v_15), .val (.int v_16), .val (.int v_17), .unset, .unset]) rfl k_) ?_
            refine own_st (S' := T_27.setTop (mkF m 193 #[.val (.int p0), .val (.int p1), .val (.int p2), .val (.int p3), .val (.long p4), .second, .val (.long p5), .second, .val (.int v_1), .val (.int v_2), .val (.int v_3), .val (.int v_4), .val (.int v_5), .val (.ref b_6), .val (.int v_2), .val (.int v_15), .val (.int v_16), .val (.int v_17), .unset, .unset] [(.int v_1)])) (fun t_ k_ => XS.iload X_27.here hx rfl (hb hby at_191) rfl k_) ?_
            refine own_st (S' := T_27.setTop (mkF m 195 #[.val (.int p0), .val (.int p1), .val (.int p2), .val (.int p3), .val (.long p4), .second, .val (.long p5), .second, .val (.int v_1), .val (.int v_2), .val (.int v_3), .val (.int v_4), .val (.int v_5), .val (.ref b_6), .val (.int v_2), .val (.int v_1), .val (.int v_16), .val (.int v_17), .unset, .unset] [])) (fun t_ k_ => XS.istore X_27.here hx rfl (hb hby at_193) rfl (l' := #[.val (.int p0), .val (.int p1), .val (.int p2), .val (.int p3), .val (.long p4), .second, .val (.long p5), .second, .val (.int v_1), .val (.int v_2), .val (.int v_3), .val (.int v_4), .val (.int v_5), .val (.ref b_6), .val (.int v_2), .val (.int v_1), .val (.int v_16), .val (.int v_17), .unset, .unset]) rfl k_) ?_
            refine own_st (S' := T_27.setTop (mkF m 197 #[.val (.int p0), .val (.int p1), .val (.int p2), .val (.int p3), .val (.long p4), .second, .val (.long p5), .second, .val (.int v_1), .val (.int v_2), .val (.int v_3), .val (.int v_4), .val (.int v_5), .val (.ref b_6), .val (.int v_2), .val (.int v_1), .val (.int v_16), .val (.int v_17), .unset, .unset] [(.int v_3)])) (fun t_ k_ => XS.iload X_27.here hx rfl (hb hby at_195) rfl k_) ?_
            refine own_st (S' := T_27.setTop (mkF m 199 #[.val (.int p0), .val (.int p1), .val (.int p2), .val (.int p3), .val (.long p4), .second, .val (.long p5), .second, .val (.int v_1), .val (.int v_2), .val (.int v_3), .val (.int v_4), .val (.int v_5), .val (.ref b_6), .val (.int v_2), .val (.int v_1), .val (.int v_3), .val (.int v_17), .unset, .unset] [])) (fun t_ k_ => XS.istore X_27.here hx rfl (hb hby at_197) rfl (l' := #[.val (.int p0), .val (.int p1), .val (.int p2), .val (.int p3), .val (.long p4), .second, .val (.long p5), .second, .val (.int v_1), .val (.int v_2), .val (.int v_3), .val (.int v_4), .val (.int v_5), .val (.ref b_6), .val (.int v_2), .val (.int v_1), .val (.int v_3), .val (.int v_17), .unset, .unset]) rfl k_) ?_
            refine own_st (S' := T_27.setTop (mkF m 201 #[.val (.int p0), .val (.int p1), .val (.int p2), .val (.int p3), .val (.long p4), .second, .val (.long p5), .second, .val (.int v_1), .val (.int v_2), .val (.int v_3), .val (.int v_4), .val (.int v_5), .val (.ref b_6), .val (.int v_2), .val (.int v_1), .val (.int v_3), .val (.int v_17), .unset, .unset] [(.int v_4)])) (fun t_ k_ => XS.iload X_27.here hx rfl (hb hby at_199) rfl k_) ?_
            refine own_st (S' := T_27.setTop (mkF m 203 #[.val (.int p0), .val (.int p1), .val (.int p2), .val (.int p3), .val (.long p4), .second, .val (.long p5), .second, .val (.int v_1), .val (.int v_2), .val (.int v_3), .val (.int v_4), .val (.int v_5), .val (.ref b_6), .val (.int v_2), .val (.int v_1), .val (.int v_3), .val (.int v_4), .unset, .unset] [])) (fun t_ k_ => XS.istore X_27.here hx rfl (hb hby at_201) rfl (l' := #[.val (.int p0), .val (.int p1), .val (.int p2), .val (.int p3), .val (.long p4), .second, .val (.long p5), .second, .val (.int v_1), .val (.int v_2), .val (.int v_3), .val (.int v_4), .val (.int v_5), .val (.ref b_6), .val (.int v_2), .val (.int v_1), .val (.int v_3), .val (.int v_4), .unset, .unset]) rfl k_) ?_
            have G2 := G1
            obtain ⟨T_28, h_28, X_28, e_28, E_28, A_28, D_28, -, st_28⟩ := newO X_27 hx hZ hown (hw _ (List.mem_of_getElem? (i := 1) rfl)) (hw _ (List.mem_of_getElem? (i := 2) rfl)) (hw _ (List.mem_of_getElem? (i := 3) rfl)) q_27 (g := (mkF m 203 #[.val (.int p0), .val (.int p1), .val (.int p2), .val (.int p3), .val (.long p4), .second, .val (.long p5), .second, .val (.int v_1), .val (.int v_2), .val (.int v_3), .val (.int v_4), .val (.int v_5), .val (.ref b_6), .val (.int v_2), .val (.int v_1), .val (.int v_3), .val (.int v_4), .unset, .unset] [])) rfl (hb hby at_203) (by decide) (by decide)
            obtain ⟨b_28, gg_28⟩ : ∃ z, z = T_7.heap.size := ⟨_, rfl⟩
            rw [← gg_28] at A_28 D_28 st_28
            have ne_b_6_b_28 : b_6 ≠ b_28 := Nat.ne_of_lt (Nat.lt_of_lt_of_le c_7_0.lt (Nat.le_of_eq gg_28.symm))
            have g_b_28 : n0 ≤ b_28 := Nat.le_trans Z_7 (Nat.le_of_eq gg_28.symm)
            have Z_28 : n0 ≤ h_28.size := Nat.le_trans Z_7 E_28.1
            have F_28_size : Fld Z h_28 b_28 "com/example/bloodwood/bloodwood/TreeReport" "size" "I" (.int (0 : Int32)) := D_28 (Or.inr (hw _ (List.mem_of_getElem? (i := 18) rfl))) (ty := .int) (by decide)
            have F_28_height : Fld Z h_28 b_28 "com/example/bloodwood/bloodwood/TreeReport" "height" "I" (.int (0 : Int32)) := D_28 (Or.inr (hw _ (List.mem_of_getElem? (i := 20) rfl))) (ty := .int) (by decide)
            have F_28_blackHeight : Fld Z h_28 b_28 "com/example/bloodwood/bloodwood/TreeReport" "blackHeight" "I" (.int (0 : Int32)) := D_28 (Or.inr (hw _ (List.mem_of_getElem? (i := 22) rfl))) (ty := .int) (by decide)
            have F_28_redCount : Fld Z h_28 b_28 "com/example/bloodwood/bloodwood/TreeReport" "redCount" "I" (.int (0 : Int32)) := D_28 (Or.inr (hw _ (List.mem_of_getElem? (i := 24) rfl))) (ty := .int) (by decide)
            refine own_st (S' := T_28.setTop (mkF m 206 #[.val (.int p0), .val (.int p1), .val (.int p2), .val (.int p3), .val (.long p4), .second, .val (.long p5), .second, .val (.int v_1), .val (.int v_2), .val (.int v_3), .val (.int v_4), .val (.int v_5), .val (.ref b_6), .val (.int v_2), .val (.int v_1), .val (.int v_3), .val (.int v_4), .unset, .unset] [(.ref b_28)])) st_28 ?_
            refine own_st (S' := T_28.setTop (mkF m 207 #[.val (.int p0), .val (.int p1), .val (.int p2), .val (.int p3), .val (.long p4), .second, .val (.long p5), .second, .val (.int v_1), .val (.int v_2), .val (.int v_3), .val (.int v_4), .val (.int v_5), .val (.ref b_6), .val (.int v_2), .val (.int v_1), .val (.int v_3), .val (.int v_4), .unset, .unset] [(.ref b_28), (.ref b_28)])) (fun t_ k_ => XS.dup X_28.here hx rfl (hb hby at_206) rfl rfl k_) ?_
            refine own_st (S' := T_28.setTop (mkF m 209 #[.val (.int p0), .val (.int p1), .val (.int p2), .val (.int p3), .val (.long p4), .second, .val (.long p5), .second, .val (.int v_1), .val (.int v_2), .val (.int v_3), .val (.int v_4), .val (.int v_5), .val (.ref b_6), .val (.int v_2), .val (.int v_1), .val (.int v_3), .val (.int v_4), .unset, .unset] [(.int v_2), (.ref b_28), (.ref b_28)])) (fun t_ k_ => XS.iload X_28.here hx rfl (hb hby at_207) rfl k_) ?_
            refine own_st (S' := T_28.setTop (mkF m 211 #[.val (.int p0), .val (.int p1), .val (.int p2), .val (.int p3), .val (.long p4), .second, .val (.long p5), .second, .val (.int v_1), .val (.int v_2), .val (.int v_3), .val (.int v_4), .val (.int v_5), .val (.ref b_6), .val (.int v_2), .val (.int v_1), .val (.int v_3), .val (.int v_4), .unset, .unset] [(.int v_1), (.int v_2), (.ref b_28), (.ref b_28)])) (fun t_ k_ => XS.iload X_28.here hx rfl (hb hby at_209) rfl k_) ?_
            refine own_st (S' := T_28.setTop (mkF m 213 #[.val (.int p0), .val (.int p1), .val (.int p2), .val (.int p3), .val (.long p4), .second, .val (.long p5), .second, .val (.int v_1), .val (.int v_2), .val (.int v_3), .val (.int v_4), .val (.int v_5), .val (.ref b_6), .val (.int v_2), .val (.int v_1), .val (.int v_3), .val (.int v_4), .unset, .unset] [(.int v_3), (.int v_1), (.int v_2), (.ref b_28), (.ref b_28)])) (fun t_ k_ => XS.iload X_28.here hx rfl (hb hby at_211) rfl k_) ?_
            refine own_st (S' := T_28.setTop (mkF m 215 #[.val (.int p0), .val (.int p1), .val (.int p2), .val (.int p3), .val (.long p4), .second, .val (.long p5), .second, .val (.int v_1), .val (.int v_2), .val (.int v_3), .val (.int v_4), .val (.int v_5), .val (.ref b_6), .val (.int v_2), .val (.int v_1), .val (.int v_3), .val (.int v_4), .unset, .unset] [(.int v_4), (.int v_3), (.int v_1), (.int v_2), (.ref b_28), (.ref b_28)])) (fun t_ k_ => XS.iload X_28.here hx rfl (hb hby at_213) rfl k_) ?_
            obtain ⟨_, _, ⟨T_29, L_29, k_29, n_29⟩, -, X_29, ⟨Lc_29, hQ_29, l_29, y_29, z_29⟩, st_29⟩ := X_28.specialBack hx (y := (⟨"com/example/bloodwood/bloodwood/TreeReport", "<init>", "(IIII)V"⟩ : MethodName)) rfl hown (mvT hZ (hw _ (List.mem_of_getElem? (i := 4) rfl))) (mvT hZ (hw _ (List.mem_of_getElem? (i := 5) rfl))) (mvT hZ (hw _ (List.mem_of_getElem? (i := 6) rfl))) (by decide) (backOf (W := 1) (rm6 l Z a0 hw [] b_28 v_2 v_1 v_3 v_4 h_28 n0 Z_28 A_28 F_28_size F_28_height F_28_blackHeight F_28_redCount g_b_28 G2.1 G2.2.1 G2.2.2.1 G2.2.2.2.1 G2.2.2.2.2.1 G2.2.2.2.2.2.1 G2.2.2.2.2.2.2.1 G2.2.2.2.2.2.2.2) hZ (hw _ (List.mem_of_getElem? (i := 6) rfl)) (hw _ (List.mem_of_getElem? (i := 3) rfl)) (by decide) (by decide)) (g := (mkF m 215 #[.val (.int p0), .val (.int p1), .val (.int p2), .val (.int p3), .val (.long p4), .second, .val (.long p5), .second, .val (.int v_1), .val (.int v_2), .val (.int v_3), .val (.int v_4), .val (.int v_5), .val (.ref b_6), .val (.int v_2), .val (.int v_1), .val (.int v_3), .val (.int v_4), .unset, .unset] [(.int v_4), (.int v_3), (.int v_1), (.int v_2), (.ref b_28), (.ref b_28)])) rfl (by rw [hml]; rfl) (Steps.refl _) (a := b_28) (argsL := [(.int v_2), (.int v_1), (.int v_3), (.int v_4)]) (rest := [(.ref b_28)]) (lenOf pd_4 rfl) rfl (by show 2 * 0 + _ ≤ _; exact Nat.le_of_eq rfl) (hb hby at_215) (fun _ _ => ⟨rfl, e_28, (by decide : 2 + 0 ≤ _), (by decide : 8 + 0 ≤ _)⟩)
            dsimp only [Pt.U, Pt.locs, Pt.cells, Pt.slots] at X_29 l_29 y_29 z_29 st_29 hQ_29
            subst l_29 y_29 z_29
            obtain ⟨rfl, M_29, K_29c, c_29_0, c_29_1, c_29_2, c_29_3, c_29_4⟩ := hQ_29
            have N_29 := Fr.app N_27 M_29
            have Z_29 : n0 ≤ T_29.heap.size := Nat.le_trans Z_28 K_29c.1
            refine own_st (S' := T_29.setTop (mkF m 218 #[.val (.int p0), .val (.int p1), .val (.int p2), .val (.int p3), .val (.long p4), .second, .val (.long p5), .second, .val (.int v_1), .val (.int v_2), .val (.int v_3), .val (.int v_4), .val (.int v_5), .val (.ref b_6), .val (.int v_2), .val (.int v_1), .val (.int v_3), .val (.int v_4), .unset, .unset] [(.ref b_28)])) (fun t_ k_ => st_29.trans k_) ?_
            refine own_st (S' := T_29.setTop (mkF m 220 #[.val (.int p0), .val (.int p1), .val (.int p2), .val (.int p3), .val (.long p4), .second, .val (.long p5), .second, .val (.int v_1), .val (.int v_2), .val (.int v_3), .val (.int v_4), .val (.int v_5), .val (.ref b_6), .val (.int v_2), .val (.int v_1), .val (.int v_3), .val (.int v_4), .val (.ref b_28), .unset] [])) (fun t_ k_ => XS.astore X_29.here hx rfl (hb hby at_218) rfl rfl (l' := #[.val (.int p0), .val (.int p1), .val (.int p2), .val (.int p3), .val (.long p4), .second, .val (.long p5), .second, .val (.int v_1), .val (.int v_2), .val (.int v_3), .val (.int v_4), .val (.int v_5), .val (.ref b_6), .val (.int v_2), .val (.int v_1), .val (.int v_3), .val (.int v_4), .val (.ref b_28), .unset]) rfl k_) ?_
            refine own_st (S' := T_29.setTop (mkF m 222 #[.val (.int p0), .val (.int p1), .val (.int p2), .val (.int p3), .val (.long p4), .second, .val (.long p5), .second, .val (.int v_1), .val (.int v_2), .val (.int v_3), .val (.int v_4), .val (.int v_5), .val (.ref b_6), .val (.int v_2), .val (.int v_1), .val (.int v_3), .val (.int v_4), .val (.ref b_28), .unset] [(.int v_2)])) (fun t_ k_ => XS.iload X_29.here hx rfl (hb hby at_220) rfl k_) ?_
            refine own_st (S' := T_29.setTop (mkF m 224 #[.val (.int p0), .val (.int p1), .val (.int p2), .val (.int p3), .val (.long p4), .second, .val (.long p5), .second, .val (.int v_1), .val (.int v_2), .val (.int v_3), .val (.int v_4), .val (.int v_5), .val (.ref b_6), .val (.int v_2), .val (.int v_1), .val (.int v_3), .val (.int v_4), .val (.ref b_28), .unset] [(.int v_2), (.int v_2)])) (fun t_ k_ => XS.iload X_29.here hx rfl (hb hby at_222) rfl k_) ?_
            refine own_st (S' := T_29.setTop (mkF m 227 #[.val (.int p0), .val (.int p1), .val (.int p2), .val (.int p3), .val (.long p4), .second, .val (.long p5), .second, .val (.int v_1), .val (.int v_2), .val (.int v_3), .val (.int v_4), .val (.int v_5), .val (.ref b_6), .val (.int v_2), .val (.int v_1), .val (.int v_3), .val (.int v_4), .val (.ref b_28), .unset] [])) (fun t_ k_ => XS.icmpNo X_29.here hx rfl (hb hby at_224) rfl (teq (rfl : v_2 = v_2)).2 k_) ?_
            refine own_st (S' := T_29.setTop (mkF m 229 #[.val (.int p0), .val (.int p1), .val (.int p2), .val (.int p3), .val (.long p4), .second, .val (.long p5), .second, .val (.int v_1), .val (.int v_2), .val (.int v_3), .val (.int v_4), .val (.int v_5), .val (.ref b_6), .val (.int v_2), .val (.int v_1), .val (.int v_3), .val (.int v_4), .val (.ref b_28), .unset] [(.int v_1)])) (fun t_ k_ => XS.iload X_29.here hx rfl (hb hby at_227) rfl k_) ?_
            refine own_st (S' := T_29.setTop (mkF m 231 #[.val (.int p0), .val (.int p1), .val (.int p2), .val (.int p3), .val (.long p4), .second, .val (.long p5), .second, .val (.int v_1), .val (.int v_2), .val (.int v_3), .val (.int v_4), .val (.int v_5), .val (.ref b_6), .val (.int v_2), .val (.int v_1), .val (.int v_3), .val (.int v_4), .val (.ref b_28), .unset] [(.int v_1), (.int v_1)])) (fun t_ k_ => XS.iload X_29.here hx rfl (hb hby at_229) rfl k_) ?_
            refine own_st (S' := T_29.setTop (mkF m 234 #[.val (.int p0), .val (.int p1), .val (.int p2), .val (.int p3), .val (.long p4), .second, .val (.long p5), .second, .val (.int v_1), .val (.int v_2), .val (.int v_3), .val (.int v_4), .val (.int v_5), .val (.ref b_6), .val (.int v_2), .val (.int v_1), .val (.int v_3), .val (.int v_4), .val (.ref b_28), .unset] [])) (fun t_ k_ => XS.icmpNo X_29.here hx rfl (hb hby at_231) rfl (teq (rfl : v_1 = v_1)).2 k_) ?_
            refine own_st (S' := T_29.setTop (mkF m 236 #[.val (.int p0), .val (.int p1), .val (.int p2), .val (.int p3), .val (.long p4), .second, .val (.long p5), .second, .val (.int v_1), .val (.int v_2), .val (.int v_3), .val (.int v_4), .val (.int v_5), .val (.ref b_6), .val (.int v_2), .val (.int v_1), .val (.int v_3), .val (.int v_4), .val (.ref b_28), .unset] [(.int v_3)])) (fun t_ k_ => XS.iload X_29.here hx rfl (hb hby at_234) rfl k_) ?_
            refine own_st (S' := T_29.setTop (mkF m 238 #[.val (.int p0), .val (.int p1), .val (.int p2), .val (.int p3), .val (.long p4), .second, .val (.long p5), .second, .val (.int v_1), .val (.int v_2), .val (.int v_3), .val (.int v_4), .val (.int v_5), .val (.ref b_6), .val (.int v_2), .val (.int v_1), .val (.int v_3), .val (.int v_4), .val (.ref b_28), .unset] [(.int v_3), (.int v_3)])) (fun t_ k_ => XS.iload X_29.here hx rfl (hb hby at_236) rfl k_) ?_
            refine own_st (S' := T_29.setTop (mkF m 241 #[.val (.int p0), .val (.int p1), .val (.int p2), .val (.int p3), .val (.long p4), .second, .val (.long p5), .second, .val (.int v_1), .val (.int v_2), .val (.int v_3), .val (.int v_4), .val (.int v_5), .val (.ref b_6), .val (.int v_2), .val (.int v_1), .val (.int v_3), .val (.int v_4), .val (.ref b_28), .unset] [])) (fun t_ k_ => XS.icmpNo X_29.here hx rfl (hb hby at_238) rfl (teq (rfl : v_3 = v_3)).2 k_) ?_
            refine own_st (S' := T_29.setTop (mkF m 243 #[.val (.int p0), .val (.int p1), .val (.int p2), .val (.int p3), .val (.long p4), .second, .val (.long p5), .second, .val (.int v_1), .val (.int v_2), .val (.int v_3), .val (.int v_4), .val (.int v_5), .val (.ref b_6), .val (.int v_2), .val (.int v_1), .val (.int v_3), .val (.int v_4), .val (.ref b_28), .unset] [(.int v_4)])) (fun t_ k_ => XS.iload X_29.here hx rfl (hb hby at_241) rfl k_) ?_
            refine own_st (S' := T_29.setTop (mkF m 245 #[.val (.int p0), .val (.int p1), .val (.int p2), .val (.int p3), .val (.long p4), .second, .val (.long p5), .second, .val (.int v_1), .val (.int v_2), .val (.int v_3), .val (.int v_4), .val (.int v_5), .val (.ref b_6), .val (.int v_2), .val (.int v_1), .val (.int v_3), .val (.int v_4), .val (.ref b_28), .unset] [(.int v_4), (.int v_4)])) (fun t_ k_ => XS.iload X_29.here hx rfl (hb hby at_243) rfl k_) ?_
            refine own_st (S' := T_29.setTop (mkF m 248 #[.val (.int p0), .val (.int p1), .val (.int p2), .val (.int p3), .val (.long p4), .second, .val (.long p5), .second, .val (.int v_1), .val (.int v_2), .val (.int v_3), .val (.int v_4), .val (.int v_5), .val (.ref b_6), .val (.int v_2), .val (.int v_1), .val (.int v_3), .val (.int v_4), .val (.ref b_28), .unset] [])) (fun t_ k_ => XS.icmpNo X_29.here hx rfl (hb hby at_245) rfl (teq (rfl : v_4 = v_4)).2 k_) ?_
            refine own_st (S' := T_29.setTop (mkF m 249 #[.val (.int p0), .val (.int p1), .val (.int p2), .val (.int p3), .val (.long p4), .second, .val (.long p5), .second, .val (.int v_1), .val (.int v_2), .val (.int v_3), .val (.int v_4), .val (.int v_5), .val (.ref b_6), .val (.int v_2), .val (.int v_1), .val (.int v_3), .val (.int v_4), .val (.ref b_28), .unset] [(.int (1 : Int32))])) (fun t_ k_ => XS.iconst X_29.here hx rfl (hb hby at_248) k_) ?_
            refine own_st (S' := T_29.setTop (mkF m 253 #[.val (.int p0), .val (.int p1), .val (.int p2), .val (.int p3), .val (.long p4), .second, .val (.long p5), .second, .val (.int v_1), .val (.int v_2), .val (.int v_3), .val (.int v_4), .val (.int v_5), .val (.ref b_6), .val (.int v_2), .val (.int v_1), .val (.int v_3), .val (.int v_4), .val (.ref b_28), .unset] [(.int (1 : Int32))])) (fun t_ k_ => XS.goto X_29.here hx rfl (pc0 := 249) (pc' := 253) rfl (hb hby at_249) (by decide) (by decide) k_) ?_
            refine own_st (S' := T_29.setTop (mkF m 255 #[.val (.int p0), .val (.int p1), .val (.int p2), .val (.int p3), .val (.long p4), .second, .val (.long p5), .second, .val (.int v_1), .val (.int v_2), .val (.int v_3), .val (.int v_4), .val (.int v_5), .val (.ref b_6), .val (.int v_2), .val (.int v_1), .val (.int v_3), .val (.int v_4), .val (.ref b_28), .val (.int (1 : Int32))] [])) (fun t_ k_ => XS.istore X_29.here hx rfl (hb hby at_253) rfl (l' := #[.val (.int p0), .val (.int p1), .val (.int p2), .val (.int p3), .val (.long p4), .second, .val (.long p5), .second, .val (.int v_1), .val (.int v_2), .val (.int v_3), .val (.int v_4), .val (.int v_5), .val (.ref b_6), .val (.int v_2), .val (.int v_1), .val (.int v_3), .val (.int v_4), .val (.ref b_28), .val (.int (1 : Int32))]) rfl k_) ?_
            refine own_st (S' := T_29.setTop (mkF m 257 #[.val (.int p0), .val (.int p1), .val (.int p2), .val (.int p3), .val (.long p4), .second, .val (.long p5), .second, .val (.int v_1), .val (.int v_2), .val (.int v_3), .val (.int v_4), .val (.int v_5), .val (.ref b_6), .val (.int v_2), .val (.int v_1), .val (.int v_3), .val (.int v_4), .val (.ref b_28), .val (.int (1 : Int32))] [(.ref b_6)])) (fun t_ k_ => XS.aload X_29.here hx rfl (hb hby at_255) rfl rfl k_) ?_
            refine own_st (S' := T_29.setTop (mkF m 259 #[.val (.int p0), .val (.int p1), .val (.int p2), .val (.int p3), .val (.long p4), .second, .val (.long p5), .second, .val (.int v_1), .val (.int v_2), .val (.int v_3), .val (.int v_4), .val (.int v_5), .val (.ref b_6), .val (.int v_2), .val (.int v_1), .val (.int v_3), .val (.int v_4), .val (.ref b_28), .val (.int (1 : Int32))] [(.ref b_28), (.ref b_6)])) (fun t_ k_ => XS.aload X_29.here hx rfl (hb hby at_257) rfl rfl k_) ?_
            have f_30 : Fld Z T_29.heap b_6 "com/example/bloodwood/bloodwood/TreeReport" "size" "I" (.int v_2) := ((Fld.ext E_28 c_7_1).keep K_29c (ninS ne_b_6_b_28 nin0))
            have f_31 : Fld Z T_29.heap b_6 "com/example/bloodwood/bloodwood/TreeReport" "height" "I" (.int v_1) := ((Fld.ext E_28 c_7_2).keep K_29c (ninS ne_b_6_b_28 nin0))
            have f_32 : Fld Z T_29.heap b_6 "com/example/bloodwood/bloodwood/TreeReport" "blackHeight" "I" (.int v_3) := ((Fld.ext E_28 c_7_3).keep K_29c (ninS ne_b_6_b_28 nin0))
            have f_33 : Fld Z T_29.heap b_6 "com/example/bloodwood/bloodwood/TreeReport" "redCount" "I" (.int v_4) := ((Fld.ext E_28 c_7_4).keep K_29c (ninS ne_b_6_b_28 nin0))
            have f_35 : Exa Z T_29.heap b_6 "com/example/bloodwood/bloodwood/TreeReport" := ((Exa.ext E_28 c_7_0).keep K_29c)
            obtain ⟨cq_34, kq_34, q_34a, q_34b, q_34c⟩ := isOf hZ rfl f_35
            obtain ⟨_, _, ⟨T_34, L_34, k_34, n_34⟩, -, X_34, ⟨Lc_34, hQ_34, l_34, y_34, z_34⟩, st_34⟩ := X_29.virtualBack hx (y := (⟨"com/example/bloodwood/bloodwood/TreeReport", "equals", "(Ljava/lang/Object;)Z"⟩ : MethodName)) (z := (⟨"com/example/bloodwood/bloodwood/TreeReport", "equals", "(Ljava/lang/Object;)Z"⟩ : MethodName)) hown (mvT hZ (hw _ (List.mem_of_getElem? (i := 25) rfl))) (mvT hZ (hw _ (List.mem_of_getElem? (i := 26) rfl))) (notFace_of_selects (args := #[]) (mvT hZ (hw _ (List.mem_of_getElem? (i := 28) rfl)))) (mvT hZ (hw _ (List.mem_of_getElem? (i := 28) rfl))) (mvT hZ (hw _ (List.mem_of_getElem? (i := 27) rfl))) (by decide) (backOf (W := 0) (rm7d l Z a0 hw [] b_6 b_28 v_2 v_1 v_3 v_4 v_2 v_1 v_3 v_4 T_29.heap n0 Z_29 c_29_0 f_30 f_31 f_32 f_33 c_29_1 c_29_2 c_29_3 c_29_4) hZ (hw _ (List.mem_of_getElem? (i := 29) rfl)) (hw _ (List.mem_of_getElem? (i := 3) rfl)) (by decide) (by decide)) q_34a q_34c (g := (mkF m 259 #[.val (.int p0), .val (.int p1), .val (.int p2), .val (.int p3), .val (.long p4), .second, .val (.long p5), .second, .val (.int v_1), .val (.int v_2), .val (.int v_3), .val (.int v_4), .val (.int v_5), .val (.ref b_6), .val (.int v_2), .val (.int v_1), .val (.int v_3), .val (.int v_4), .val (.ref b_28), .val (.int (1 : Int32))] [(.ref b_28), (.ref b_6)])) rfl (by rw [hml]; rfl) (Steps.refl _) (argsL := [(.ref b_28)]) (rest := []) (lenOf pd_5 rfl) rfl (by show 2 * 0 + _ ≤ _; exact Nat.le_of_eq rfl) (hb hby at_259) (fun _ _ => ⟨rfl, rfl, (by decide : 2 + 0 ≤ _), (by decide : 8 + 0 ≤ _)⟩)
            dsimp only [Pt.U, Pt.locs, Pt.cells, Pt.slots] at X_34 l_34 y_34 z_34 st_34 hQ_34
            subst l_34 y_34 z_34
            obtain ⟨rfl, M_34, q_34⟩ := hQ_34
            have N_34 := Fr.app N_29 M_34
            refine own_st (S' := T_34.setTop (mkF m 262 #[.val (.int p0), .val (.int p1), .val (.int p2), .val (.int p3), .val (.long p4), .second, .val (.long p5), .second, .val (.int v_1), .val (.int v_2), .val (.int v_3), .val (.int v_4), .val (.int v_5), .val (.ref b_6), .val (.int v_2), .val (.int v_1), .val (.int v_3), .val (.int v_4), .val (.ref b_28), .val (.int (1 : Int32))] [(.int (own_eq v_2 v_1 v_3 v_4 v_2 v_1 v_3 v_4))])) (fun t_ k_ => st_34.trans k_) ?_
            refine own_st (S' := T_34.setTop (mkF m 264 #[.val (.int p0), .val (.int p1), .val (.int p2), .val (.int p3), .val (.long p4), .second, .val (.long p5), .second, .val (.int v_1), .val (.int v_2), .val (.int v_3), .val (.int v_4), .val (.int v_5), .val (.ref b_6), .val (.int v_2), .val (.int v_1), .val (.int v_3), .val (.int v_4), .val (.ref b_28), .val (.int (1 : Int32))] [(.int (1 : Int32)), (.int (own_eq v_2 v_1 v_3 v_4 v_2 v_1 v_3 v_4))])) (fun t_ k_ => XS.iload X_34.here hx rfl (hb hby at_262) rfl k_) ?_
            by_cases hc264 : (own_eq v_2 v_1 v_3 v_4 v_2 v_1 v_3 v_4) = (1 : Int32)
            · refine own_st (S' := T_34.setTop (mkF m 267 #[.val (.int p0), .val (.int p1), .val (.int p2), .val (.int p3), .val (.long p4), .second, .val (.long p5), .second, .val (.int v_1), .val (.int v_2), .val (.int v_3), .val (.int v_4), .val (.int v_5), .val (.ref b_6), .val (.int v_2), .val (.int v_1), .val (.int v_3), .val (.int v_4), .val (.ref b_28), .val (.int (1 : Int32))] [])) (fun t_ k_ => XS.icmpNo X_34.here hx rfl (hb hby at_264) rfl (teq hc264).2 k_) ?_
              refine own_st (S' := T_34.setTop (mkF m 269 #[.val (.int p0), .val (.int p1), .val (.int p2), .val (.int p3), .val (.long p4), .second, .val (.long p5), .second, .val (.int v_1), .val (.int v_2), .val (.int v_3), .val (.int v_4), .val (.int v_5), .val (.ref b_6), .val (.int v_2), .val (.int v_1), .val (.int v_3), .val (.int v_4), .val (.ref b_28), .val (.int (1 : Int32))] [(.ref b_28)])) (fun t_ k_ => XS.aload X_34.here hx rfl (hb hby at_267) rfl rfl k_) ?_
              refine own_st (S' := T_34.setTop (mkF m 271 #[.val (.int p0), .val (.int p1), .val (.int p2), .val (.int p3), .val (.long p4), .second, .val (.long p5), .second, .val (.int v_1), .val (.int v_2), .val (.int v_3), .val (.int v_4), .val (.int v_5), .val (.ref b_6), .val (.int v_2), .val (.int v_1), .val (.int v_3), .val (.int v_4), .val (.ref b_28), .val (.int (1 : Int32))] [(.ref b_6), (.ref b_28)])) (fun t_ k_ => XS.aload X_34.here hx rfl (hb hby at_269) rfl rfl k_) ?_
              obtain ⟨cq_36, kq_36, q_36a, q_36b, q_36c⟩ := isOf hZ q_34 c_29_0
              obtain ⟨_, _, ⟨T_36, L_36, k_36, n_36⟩, -, X_36, ⟨Lc_36, hQ_36, l_36, y_36, z_36⟩, st_36⟩ := X_34.virtualBack hx (y := (⟨"com/example/bloodwood/bloodwood/TreeReport", "equals", "(Ljava/lang/Object;)Z"⟩ : MethodName)) (z := (⟨"com/example/bloodwood/bloodwood/TreeReport", "equals", "(Ljava/lang/Object;)Z"⟩ : MethodName)) hown (mvT hZ (hw _ (List.mem_of_getElem? (i := 25) rfl))) (mvT hZ (hw _ (List.mem_of_getElem? (i := 26) rfl))) (notFace_of_selects (args := #[]) (mvT hZ (hw _ (List.mem_of_getElem? (i := 28) rfl)))) (mvT hZ (hw _ (List.mem_of_getElem? (i := 28) rfl))) (mvT hZ (hw _ (List.mem_of_getElem? (i := 27) rfl))) (by decide) (backOf (W := 0) (rm7d l Z a0 hw [] b_28 b_6 v_2 v_1 v_3 v_4 v_2 v_1 v_3 v_4 T_29.heap n0 Z_29 f_35 c_29_1 c_29_2 c_29_3 c_29_4 f_30 f_31 f_32 f_33) hZ (hw _ (List.mem_of_getElem? (i := 29) rfl)) (hw _ (List.mem_of_getElem? (i := 3) rfl)) (by decide) (by decide)) q_36a q_36c (g := (mkF m 271 #[.val (.int p0), .val (.int p1), .val (.int p2), .val (.int p3), .val (.long p4), .second, .val (.long p5), .second, .val (.int v_1), .val (.int v_2), .val (.int v_3), .val (.int v_4), .val (.int v_5), .val (.ref b_6), .val (.int v_2), .val (.int v_1), .val (.int v_3), .val (.int v_4), .val (.ref b_28), .val (.int (1 : Int32))] [(.ref b_6), (.ref b_28)])) rfl (by rw [hml]; rfl) (Steps.refl _) (argsL := [(.ref b_6)]) (rest := []) (lenOf pd_5 rfl) rfl (by show 2 * 0 + _ ≤ _; exact Nat.le_of_eq rfl) (hb hby at_271) (fun _ _ => ⟨rfl, q_34, (by decide : 2 + 0 ≤ _), (by decide : 8 + 0 ≤ _)⟩)
              dsimp only [Pt.U, Pt.locs, Pt.cells, Pt.slots] at X_36 l_36 y_36 z_36 st_36 hQ_36
              subst l_36 y_36 z_36
              obtain ⟨rfl, M_36, q_36⟩ := hQ_36
              have N_36 := Fr.app N_34 M_36
              refine own_st (S' := T_36.setTop (mkF m 274 #[.val (.int p0), .val (.int p1), .val (.int p2), .val (.int p3), .val (.long p4), .second, .val (.long p5), .second, .val (.int v_1), .val (.int v_2), .val (.int v_3), .val (.int v_4), .val (.int v_5), .val (.ref b_6), .val (.int v_2), .val (.int v_1), .val (.int v_3), .val (.int v_4), .val (.ref b_28), .val (.int (1 : Int32))] [(.int (own_eq v_2 v_1 v_3 v_4 v_2 v_1 v_3 v_4))])) (fun t_ k_ => st_36.trans k_) ?_
              refine own_st (S' := T_36.setTop (mkF m 276 #[.val (.int p0), .val (.int p1), .val (.int p2), .val (.int p3), .val (.long p4), .second, .val (.long p5), .second, .val (.int v_1), .val (.int v_2), .val (.int v_3), .val (.int v_4), .val (.int v_5), .val (.ref b_6), .val (.int v_2), .val (.int v_1), .val (.int v_3), .val (.int v_4), .val (.ref b_28), .val (.int (1 : Int32))] [(.int (1 : Int32)), (.int (own_eq v_2 v_1 v_3 v_4 v_2 v_1 v_3 v_4))])) (fun t_ k_ => XS.iload X_36.here hx rfl (hb hby at_274) rfl k_) ?_
              refine own_st (S' := T_36.setTop (mkF m 279 #[.val (.int p0), .val (.int p1), .val (.int p2), .val (.int p3), .val (.long p4), .second, .val (.long p5), .second, .val (.int v_1), .val (.int v_2), .val (.int v_3), .val (.int v_4), .val (.int v_5), .val (.ref b_6), .val (.int v_2), .val (.int v_1), .val (.int v_3), .val (.int v_4), .val (.ref b_28), .val (.int (1 : Int32))] [])) (fun t_ k_ => XS.icmpNo X_36.here hx rfl (hb hby at_276) rfl (teq hc264).2 k_) ?_
              refine own_st (S' := T_36.setTop (mkF m 280 #[.val (.int p0), .val (.int p1), .val (.int p2), .val (.int p3), .val (.long p4), .second, .val (.long p5), .second, .val (.int v_1), .val (.int v_2), .val (.int v_3), .val (.int v_4), .val (.int v_5), .val (.ref b_6), .val (.int v_2), .val (.int v_1), .val (.int v_3), .val (.int v_4), .val (.ref b_28), .val (.int (1 : Int32))] [(.int (1 : Int32))])) (fun t_ k_ => XS.iconst X_36.here hx rfl (hb hby at_279) k_) ?_
              refine own_st (S' := T_36.setTop (mkF m 284 #[.val (.int p0), .val (.int p1), .val (.int p2), .val (.int p3), .val (.long p4), .second, .val (.long p5), .second, .val (.int v_1), .val (.int v_2), .val (.int v_3), .val (.int v_4), .val (.int v_5), .val (.ref b_6), .val (.int v_2), .val (.int v_1), .val (.int v_3), .val (.int v_4), .val (.ref b_28), .val (.int (1 : Int32))] [(.int (1 : Int32))])) (fun t_ k_ => XS.goto X_36.here hx rfl (pc0 := 280) (pc' := 284) rfl (hb hby at_280) (by decide) (by decide) k_) ?_
              obtain ⟨fs, hr, hrun, hended, hW, hsame⟩ := X_36.leave (v := some (.int (1 : Int32))) (fun h => by rw [Bd.returns] at h; cases h)
              refine ⟨_, _, retN X_36 hx (t := .boolean) Bd.returns (by simp) (hb hby at_284) hr, hrun, hended, _, _, rfl, ?_, ⟨_, rfl⟩, hW, hsame.mono (by decide) (by decide)⟩
              show Q0 Z p0 p1 p2 p3 p4 p5 ca cc h0 n0 _ T_36.heap _
              rw [q_36]
              exact ⟨rfl, N_36⟩
            · exact absurd (by simp [own_eq]) hc264
          · refine own_st (S' := T_27.setTop (mkF m 203 #[.val (.int p0), .val (.int p1), .val (.int p2), .val (.int p3), .val (.long p4), .second, .val (.long p5), .second, .val (.int v_1), .val (.int v_2), .val (.int v_3), .val (.int v_4), .val (.int v_5), .val (.ref b_6), .val (.int v_14), .val (.int v_15), .val (.int v_16), .val (.int v_17), .unset, .unset] [])) (fun t_ k_ => XS.ifYes X_27.here hx rfl (pc0 := 184) (pc' := 203) rfl (hb hby at_184) rfl ((if0 _ _).trans (feq hc184).2) (by decide) (by decide) k_) ?_
            have G2 := own_fitsG hc184
            obtain ⟨T_37, h_37, X_37, e_37, E_37, A_37, D_37, -, st_37⟩ := newO X_27 hx hZ hown (hw _ (List.mem_of_getElem? (i := 1) rfl)) (hw _ (List.mem_of_getElem? (i := 2) rfl)) (hw _ (List.mem_of_getElem? (i := 3) rfl)) q_27 (g := (mkF m 203 #[.val (.int p0), .val (.int p1), .val (.int p2), .val (.int p3), .val (.long p4), .second, .val (.long p5), .second, .val (.int v_1), .val (.int v_2), .val (.int v_3), .val (.int v_4), .val (.int v_5), .val (.ref b_6), .val (.int v_14), .val (.int v_15), .val (.int v_16), .val (.int v_17), .unset, .unset] [])) rfl (hb hby at_203) (by decide) (by decide)
            obtain ⟨b_37, gg_37⟩ : ∃ z, z = T_7.heap.size := ⟨_, rfl⟩
            rw [← gg_37] at A_37 D_37 st_37
            have ne_b_6_b_37 : b_6 ≠ b_37 := Nat.ne_of_lt (Nat.lt_of_lt_of_le c_7_0.lt (Nat.le_of_eq gg_37.symm))
            have g_b_37 : n0 ≤ b_37 := Nat.le_trans Z_7 (Nat.le_of_eq gg_37.symm)
            have Z_37 : n0 ≤ h_37.size := Nat.le_trans Z_7 E_37.1
            have F_37_size : Fld Z h_37 b_37 "com/example/bloodwood/bloodwood/TreeReport" "size" "I" (.int (0 : Int32)) := D_37 (Or.inr (hw _ (List.mem_of_getElem? (i := 18) rfl))) (ty := .int) (by decide)
            have F_37_height : Fld Z h_37 b_37 "com/example/bloodwood/bloodwood/TreeReport" "height" "I" (.int (0 : Int32)) := D_37 (Or.inr (hw _ (List.mem_of_getElem? (i := 20) rfl))) (ty := .int) (by decide)
            have F_37_blackHeight : Fld Z h_37 b_37 "com/example/bloodwood/bloodwood/TreeReport" "blackHeight" "I" (.int (0 : Int32)) := D_37 (Or.inr (hw _ (List.mem_of_getElem? (i := 22) rfl))) (ty := .int) (by decide)
            have F_37_redCount : Fld Z h_37 b_37 "com/example/bloodwood/bloodwood/TreeReport" "redCount" "I" (.int (0 : Int32)) := D_37 (Or.inr (hw _ (List.mem_of_getElem? (i := 24) rfl))) (ty := .int) (by decide)
            refine own_st (S' := T_37.setTop (mkF m 206 #[.val (.int p0), .val (.int p1), .val (.int p2), .val (.int p3), .val (.long p4), .second, .val (.long p5), .second, .val (.int v_1), .val (.int v_2), .val (.int v_3), .val (.int v_4), .val (.int v_5), .val (.ref b_6), .val (.int v_14), .val (.int v_15), .val (.int v_16), .val (.int v_17), .unset, .unset] [(.ref b_37)])) st_37 ?_
            refine own_st (S' := T_37.setTop (mkF m 207 #[.val (.int p0), .val (.int p1), .val (.int p2), .val (.int p3), .val (.long p4), .second, .val (.long p5), .second, .val (.int v_1), .val (.int v_2), .val (.int v_3), .val (.int v_4), .val (.int v_5), .val (.ref b_6), .val (.int v_14), .val (.int v_15), .val (.int v_16), .val (.int v_17), .unset, .unset] [(.ref b_37), (.ref b_37)])) (fun t_ k_ => XS.dup X_37.here hx rfl (hb hby at_206) rfl rfl k_) ?_
            refine own_st (S' := T_37.setTop (mkF m 209 #[.val (.int p0), .val (.int p1), .val (.int p2), .val (.int p3), .val (.long p4), .second, .val (.long p5), .second, .val (.int v_1), .val (.int v_2), .val (.int v_3), .val (.int v_4), .val (.int v_5), .val (.ref b_6), .val (.int v_14), .val (.int v_15), .val (.int v_16), .val (.int v_17), .unset, .unset] [(.int v_14), (.ref b_37), (.ref b_37)])) (fun t_ k_ => XS.iload X_37.here hx rfl (hb hby at_207) rfl k_) ?_
            refine own_st (S' := T_37.setTop (mkF m 211 #[.val (.int p0), .val (.int p1), .val (.int p2), .val (.int p3), .val (.long p4), .second, .val (.long p5), .second, .val (.int v_1), .val (.int v_2), .val (.int v_3), .val (.int v_4), .val (.int v_5), .val (.ref b_6), .val (.int v_14), .val (.int v_15), .val (.int v_16), .val (.int v_17), .unset, .unset] [(.int v_15), (.int v_14), (.ref b_37), (.ref b_37)])) (fun t_ k_ => XS.iload X_37.here hx rfl (hb hby at_209) rfl k_) ?_
            refine own_st (S' := T_37.setTop (mkF m 213 #[.val (.int p0), .val (.int p1), .val (.int p2), .val (.int p3), .val (.long p4), .second, .val (.long p5), .second, .val (.int v_1), .val (.int v_2), .val (.int v_3), .val (.int v_4), .val (.int v_5), .val (.ref b_6), .val (.int v_14), .val (.int v_15), .val (.int v_16), .val (.int v_17), .unset, .unset] [(.int v_16), (.int v_15), (.int v_14), (.ref b_37), (.ref b_37)])) (fun t_ k_ => XS.iload X_37.here hx rfl (hb hby at_211) rfl k_) ?_
            refine own_st (S' := T_37.setTop (mkF m 215 #[.val (.int p0), .val (.int p1), .val (.int p2), .val (.int p3), .val (.long p4), .second, .val (.long p5), .second, .val (.int v_1), .val (.int v_2), .val (.int v_3), .val (.int v_4), .val (.int v_5), .val (.ref b_6), .val (.int v_14), .val (.int v_15), .val (.int v_16), .val (.int v_17), .unset, .unset] [(.int v_17), (.int v_16), (.int v_15), (.int v_14), (.ref b_37), (.ref b_37)])) (fun t_ k_ => XS.iload X_37.here hx rfl (hb hby at_213) rfl k_) ?_
            obtain ⟨_, _, ⟨T_38, L_38, k_38, n_38⟩, -, X_38, ⟨Lc_38, hQ_38, l_38, y_38, z_38⟩, st_38⟩ := X_37.specialBack hx (y := (⟨"com/example/bloodwood/bloodwood/TreeReport", "<init>", "(IIII)V"⟩ : MethodName)) rfl hown (mvT hZ (hw _ (List.mem_of_getElem? (i := 4) rfl))) (mvT hZ (hw _ (List.mem_of_getElem? (i := 5) rfl))) (mvT hZ (hw _ (List.mem_of_getElem? (i := 6) rfl))) (by decide) (backOf (W := 1) (rm6 l Z a0 hw [] b_37 v_14 v_15 v_16 v_17 h_37 n0 Z_37 A_37 F_37_size F_37_height F_37_blackHeight F_37_redCount g_b_37 G2.1 G2.2.1 G2.2.2.1 G2.2.2.2.1 G2.2.2.2.2.1 G2.2.2.2.2.2.1 G2.2.2.2.2.2.2.1 G2.2.2.2.2.2.2.2) hZ (hw _ (List.mem_of_getElem? (i := 6) rfl)) (hw _ (List.mem_of_getElem? (i := 3) rfl)) (by decide) (by decide)) (g := (mkF m 215 #[.val (.int p0), .val (.int p1), .val (.int p2), .val (.int p3), .val (.long p4), .second, .val (.long p5), .second, .val (.int v_1), .val (.int v_2), .val (.int v_3), .val (.int v_4), .val (.int v_5), .val (.ref b_6), .val (.int v_14), .val (.int v_15), .val (.int v_16), .val (.int v_17), .unset, .unset] [(.int v_17), (.int v_16), (.int v_15), (.int v_14), (.ref b_37), (.ref b_37)])) rfl (by rw [hml]; rfl) (Steps.refl _) (a := b_37) (argsL := [(.int v_14), (.int v_15), (.int v_16), (.int v_17)]) (rest := [(.ref b_37)]) (lenOf pd_4 rfl) rfl (by show 2 * 0 + _ ≤ _; exact Nat.le_of_eq rfl) (hb hby at_215) (fun _ _ => ⟨rfl, e_37, (by decide : 2 + 0 ≤ _), (by decide : 8 + 0 ≤ _)⟩)
            dsimp only [Pt.U, Pt.locs, Pt.cells, Pt.slots] at X_38 l_38 y_38 z_38 st_38 hQ_38
            subst l_38 y_38 z_38
            obtain ⟨rfl, M_38, K_38c, c_38_0, c_38_1, c_38_2, c_38_3, c_38_4⟩ := hQ_38
            have N_38 := Fr.app N_27 M_38
            have Z_38 : n0 ≤ T_38.heap.size := Nat.le_trans Z_37 K_38c.1
            refine own_st (S' := T_38.setTop (mkF m 218 #[.val (.int p0), .val (.int p1), .val (.int p2), .val (.int p3), .val (.long p4), .second, .val (.long p5), .second, .val (.int v_1), .val (.int v_2), .val (.int v_3), .val (.int v_4), .val (.int v_5), .val (.ref b_6), .val (.int v_14), .val (.int v_15), .val (.int v_16), .val (.int v_17), .unset, .unset] [(.ref b_37)])) (fun t_ k_ => st_38.trans k_) ?_
            refine own_st (S' := T_38.setTop (mkF m 220 #[.val (.int p0), .val (.int p1), .val (.int p2), .val (.int p3), .val (.long p4), .second, .val (.long p5), .second, .val (.int v_1), .val (.int v_2), .val (.int v_3), .val (.int v_4), .val (.int v_5), .val (.ref b_6), .val (.int v_14), .val (.int v_15), .val (.int v_16), .val (.int v_17), .val (.ref b_37), .unset] [])) (fun t_ k_ => XS.astore X_38.here hx rfl (hb hby at_218) rfl rfl (l' := #[.val (.int p0), .val (.int p1), .val (.int p2), .val (.int p3), .val (.long p4), .second, .val (.long p5), .second, .val (.int v_1), .val (.int v_2), .val (.int v_3), .val (.int v_4), .val (.int v_5), .val (.ref b_6), .val (.int v_14), .val (.int v_15), .val (.int v_16), .val (.int v_17), .val (.ref b_37), .unset]) rfl k_) ?_
            refine own_st (S' := T_38.setTop (mkF m 222 #[.val (.int p0), .val (.int p1), .val (.int p2), .val (.int p3), .val (.long p4), .second, .val (.long p5), .second, .val (.int v_1), .val (.int v_2), .val (.int v_3), .val (.int v_4), .val (.int v_5), .val (.ref b_6), .val (.int v_14), .val (.int v_15), .val (.int v_16), .val (.int v_17), .val (.ref b_37), .unset] [(.int v_2)])) (fun t_ k_ => XS.iload X_38.here hx rfl (hb hby at_220) rfl k_) ?_
            refine own_st (S' := T_38.setTop (mkF m 224 #[.val (.int p0), .val (.int p1), .val (.int p2), .val (.int p3), .val (.long p4), .second, .val (.long p5), .second, .val (.int v_1), .val (.int v_2), .val (.int v_3), .val (.int v_4), .val (.int v_5), .val (.ref b_6), .val (.int v_14), .val (.int v_15), .val (.int v_16), .val (.int v_17), .val (.ref b_37), .unset] [(.int v_14), (.int v_2)])) (fun t_ k_ => XS.iload X_38.here hx rfl (hb hby at_222) rfl k_) ?_
            by_cases hc224 : v_2 = v_14
            · refine own_st (S' := T_38.setTop (mkF m 227 #[.val (.int p0), .val (.int p1), .val (.int p2), .val (.int p3), .val (.long p4), .second, .val (.long p5), .second, .val (.int v_1), .val (.int v_2), .val (.int v_3), .val (.int v_4), .val (.int v_5), .val (.ref b_6), .val (.int v_14), .val (.int v_15), .val (.int v_16), .val (.int v_17), .val (.ref b_37), .unset] [])) (fun t_ k_ => XS.icmpNo X_38.here hx rfl (hb hby at_224) rfl (teq hc224).2 k_) ?_
              refine own_st (S' := T_38.setTop (mkF m 229 #[.val (.int p0), .val (.int p1), .val (.int p2), .val (.int p3), .val (.long p4), .second, .val (.long p5), .second, .val (.int v_1), .val (.int v_2), .val (.int v_3), .val (.int v_4), .val (.int v_5), .val (.ref b_6), .val (.int v_14), .val (.int v_15), .val (.int v_16), .val (.int v_17), .val (.ref b_37), .unset] [(.int v_1)])) (fun t_ k_ => XS.iload X_38.here hx rfl (hb hby at_227) rfl k_) ?_
              refine own_st (S' := T_38.setTop (mkF m 231 #[.val (.int p0), .val (.int p1), .val (.int p2), .val (.int p3), .val (.long p4), .second, .val (.long p5), .second, .val (.int v_1), .val (.int v_2), .val (.int v_3), .val (.int v_4), .val (.int v_5), .val (.ref b_6), .val (.int v_14), .val (.int v_15), .val (.int v_16), .val (.int v_17), .val (.ref b_37), .unset] [(.int v_15), (.int v_1)])) (fun t_ k_ => XS.iload X_38.here hx rfl (hb hby at_229) rfl k_) ?_
              by_cases hc231 : v_1 = v_15
              · refine own_st (S' := T_38.setTop (mkF m 234 #[.val (.int p0), .val (.int p1), .val (.int p2), .val (.int p3), .val (.long p4), .second, .val (.long p5), .second, .val (.int v_1), .val (.int v_2), .val (.int v_3), .val (.int v_4), .val (.int v_5), .val (.ref b_6), .val (.int v_14), .val (.int v_15), .val (.int v_16), .val (.int v_17), .val (.ref b_37), .unset] [])) (fun t_ k_ => XS.icmpNo X_38.here hx rfl (hb hby at_231) rfl (teq hc231).2 k_) ?_
                refine own_st (S' := T_38.setTop (mkF m 236 #[.val (.int p0), .val (.int p1), .val (.int p2), .val (.int p3), .val (.long p4), .second, .val (.long p5), .second, .val (.int v_1), .val (.int v_2), .val (.int v_3), .val (.int v_4), .val (.int v_5), .val (.ref b_6), .val (.int v_14), .val (.int v_15), .val (.int v_16), .val (.int v_17), .val (.ref b_37), .unset] [(.int v_3)])) (fun t_ k_ => XS.iload X_38.here hx rfl (hb hby at_234) rfl k_) ?_
                refine own_st (S' := T_38.setTop (mkF m 238 #[.val (.int p0), .val (.int p1), .val (.int p2), .val (.int p3), .val (.long p4), .second, .val (.long p5), .second, .val (.int v_1), .val (.int v_2), .val (.int v_3), .val (.int v_4), .val (.int v_5), .val (.ref b_6), .val (.int v_14), .val (.int v_15), .val (.int v_16), .val (.int v_17), .val (.ref b_37), .unset] [(.int v_16), (.int v_3)])) (fun t_ k_ => XS.iload X_38.here hx rfl (hb hby at_236) rfl k_) ?_
                by_cases hc238 : v_3 = v_16
                · refine own_st (S' := T_38.setTop (mkF m 241 #[.val (.int p0), .val (.int p1), .val (.int p2), .val (.int p3), .val (.long p4), .second, .val (.long p5), .second, .val (.int v_1), .val (.int v_2), .val (.int v_3), .val (.int v_4), .val (.int v_5), .val (.ref b_6), .val (.int v_14), .val (.int v_15), .val (.int v_16), .val (.int v_17), .val (.ref b_37), .unset] [])) (fun t_ k_ => XS.icmpNo X_38.here hx rfl (hb hby at_238) rfl (teq hc238).2 k_) ?_
                  refine own_st (S' := T_38.setTop (mkF m 243 #[.val (.int p0), .val (.int p1), .val (.int p2), .val (.int p3), .val (.long p4), .second, .val (.long p5), .second, .val (.int v_1), .val (.int v_2), .val (.int v_3), .val (.int v_4), .val (.int v_5), .val (.ref b_6), .val (.int v_14), .val (.int v_15), .val (.int v_16), .val (.int v_17), .val (.ref b_37), .unset] [(.int v_4)])) (fun t_ k_ => XS.iload X_38.here hx rfl (hb hby at_241) rfl k_) ?_
                  refine own_st (S' := T_38.setTop (mkF m 245 #[.val (.int p0), .val (.int p1), .val (.int p2), .val (.int p3), .val (.long p4), .second, .val (.long p5), .second, .val (.int v_1), .val (.int v_2), .val (.int v_3), .val (.int v_4), .val (.int v_5), .val (.ref b_6), .val (.int v_14), .val (.int v_15), .val (.int v_16), .val (.int v_17), .val (.ref b_37), .unset] [(.int v_17), (.int v_4)])) (fun t_ k_ => XS.iload X_38.here hx rfl (hb hby at_243) rfl k_) ?_
                  by_cases hc245 : v_4 = v_17
                  · refine own_st (S' := T_38.setTop (mkF m 248 #[.val (.int p0), .val (.int p1), .val (.int p2), .val (.int p3), .val (.long p4), .second, .val (.long p5), .second, .val (.int v_1), .val (.int v_2), .val (.int v_3), .val (.int v_4), .val (.int v_5), .val (.ref b_6), .val (.int v_14), .val (.int v_15), .val (.int v_16), .val (.int v_17), .val (.ref b_37), .unset] [])) (fun t_ k_ => XS.icmpNo X_38.here hx rfl (hb hby at_245) rfl (teq hc245).2 k_) ?_
                    refine own_st (S' := T_38.setTop (mkF m 249 #[.val (.int p0), .val (.int p1), .val (.int p2), .val (.int p3), .val (.long p4), .second, .val (.long p5), .second, .val (.int v_1), .val (.int v_2), .val (.int v_3), .val (.int v_4), .val (.int v_5), .val (.ref b_6), .val (.int v_14), .val (.int v_15), .val (.int v_16), .val (.int v_17), .val (.ref b_37), .unset] [(.int (1 : Int32))])) (fun t_ k_ => XS.iconst X_38.here hx rfl (hb hby at_248) k_) ?_
                    refine own_st (S' := T_38.setTop (mkF m 253 #[.val (.int p0), .val (.int p1), .val (.int p2), .val (.int p3), .val (.long p4), .second, .val (.long p5), .second, .val (.int v_1), .val (.int v_2), .val (.int v_3), .val (.int v_4), .val (.int v_5), .val (.ref b_6), .val (.int v_14), .val (.int v_15), .val (.int v_16), .val (.int v_17), .val (.ref b_37), .unset] [(.int (1 : Int32))])) (fun t_ k_ => XS.goto X_38.here hx rfl (pc0 := 249) (pc' := 253) rfl (hb hby at_249) (by decide) (by decide) k_) ?_
                    refine own_st (S' := T_38.setTop (mkF m 255 #[.val (.int p0), .val (.int p1), .val (.int p2), .val (.int p3), .val (.long p4), .second, .val (.long p5), .second, .val (.int v_1), .val (.int v_2), .val (.int v_3), .val (.int v_4), .val (.int v_5), .val (.ref b_6), .val (.int v_14), .val (.int v_15), .val (.int v_16), .val (.int v_17), .val (.ref b_37), .val (.int (1 : Int32))] [])) (fun t_ k_ => XS.istore X_38.here hx rfl (hb hby at_253) rfl (l' := #[.val (.int p0), .val (.int p1), .val (.int p2), .val (.int p3), .val (.long p4), .second, .val (.long p5), .second, .val (.int v_1), .val (.int v_2), .val (.int v_3), .val (.int v_4), .val (.int v_5), .val (.ref b_6), .val (.int v_14), .val (.int v_15), .val (.int v_16), .val (.int v_17), .val (.ref b_37), .val (.int (1 : Int32))]) rfl k_) ?_
                    refine own_st (S' := T_38.setTop (mkF m 257 #[.val (.int p0), .val (.int p1), .val (.int p2), .val (.int p3), .val (.long p4), .second, .val (.long p5), .second, .val (.int v_1), .val (.int v_2), .val (.int v_3), .val (.int v_4), .val (.int v_5), .val (.ref b_6), .val (.int v_14), .val (.int v_15), .val (.int v_16), .val (.int v_17), .val (.ref b_37), .val (.int (1 : Int32))] [(.ref b_6)])) (fun t_ k_ => XS.aload X_38.here hx rfl (hb hby at_255) rfl rfl k_) ?_
                    refine own_st (S' := T_38.setTop (mkF m 259 #[.val (.int p0), .val (.int p1), .val (.int p2), .val (.int p3), .val (.long p4), .second, .val (.long p5), .second, .val (.int v_1), .val (.int v_2), .val (.int v_3), .val (.int v_4), .val (.int v_5), .val (.ref b_6), .val (.int v_14), .val (.int v_15), .val (.int v_16), .val (.int v_17), .val (.ref b_37), .val (.int (1 : Int32))] [(.ref b_37), (.ref b_6)])) (fun t_ k_ => XS.aload X_38.here hx rfl (hb hby at_257) rfl rfl k_) ?_
                    have f_39 : Fld Z T_38.heap b_6 "com/example/bloodwood/bloodwood/TreeReport" "size" "I" (.int v_2) := ((Fld.ext E_37 c_7_1).keep K_38c (ninS ne_b_6_b_37 nin0))
                    have f_40 : Fld Z T_38.heap b_6 "com/example/bloodwood/bloodwood/TreeReport" "height" "I" (.int v_1) := ((Fld.ext E_37 c_7_2).keep K_38c (ninS ne_b_6_b_37 nin0))
                    have f_41 : Fld Z T_38.heap b_6 "com/example/bloodwood/bloodwood/TreeReport" "blackHeight" "I" (.int v_3) := ((Fld.ext E_37 c_7_3).keep K_38c (ninS ne_b_6_b_37 nin0))
                    have f_42 : Fld Z T_38.heap b_6 "com/example/bloodwood/bloodwood/TreeReport" "redCount" "I" (.int v_4) := ((Fld.ext E_37 c_7_4).keep K_38c (ninS ne_b_6_b_37 nin0))
                    have f_44 : Exa Z T_38.heap b_6 "com/example/bloodwood/bloodwood/TreeReport" := ((Exa.ext E_37 c_7_0).keep K_38c)
                    obtain ⟨cq_43, kq_43, q_43a, q_43b, q_43c⟩ := isOf hZ rfl f_44
                    obtain ⟨_, _, ⟨T_43, L_43, k_43, n_43⟩, -, X_43, ⟨Lc_43, hQ_43, l_43, y_43, z_43⟩, st_43⟩ := X_38.virtualBack hx (y := (⟨"com/example/bloodwood/bloodwood/TreeReport", "equals", "(Ljava/lang/Object;)Z"⟩ : MethodName)) (z := (⟨"com/example/bloodwood/bloodwood/TreeReport", "equals", "(Ljava/lang/Object;)Z"⟩ : MethodName)) hown (mvT hZ (hw _ (List.mem_of_getElem? (i := 25) rfl))) (mvT hZ (hw _ (List.mem_of_getElem? (i := 26) rfl))) (notFace_of_selects (args := #[]) (mvT hZ (hw _ (List.mem_of_getElem? (i := 28) rfl)))) (mvT hZ (hw _ (List.mem_of_getElem? (i := 28) rfl))) (mvT hZ (hw _ (List.mem_of_getElem? (i := 27) rfl))) (by decide) (backOf (W := 0) (rm7d l Z a0 hw [] b_6 b_37 v_2 v_1 v_3 v_4 v_14 v_15 v_16 v_17 T_38.heap n0 Z_38 c_38_0 f_39 f_40 f_41 f_42 c_38_1 c_38_2 c_38_3 c_38_4) hZ (hw _ (List.mem_of_getElem? (i := 29) rfl)) (hw _ (List.mem_of_getElem? (i := 3) rfl)) (by decide) (by decide)) q_43a q_43c (g := (mkF m 259 #[.val (.int p0), .val (.int p1), .val (.int p2), .val (.int p3), .val (.long p4), .second, .val (.long p5), .second, .val (.int v_1), .val (.int v_2), .val (.int v_3), .val (.int v_4), .val (.int v_5), .val (.ref b_6), .val (.int v_14), .val (.int v_15), .val (.int v_16), .val (.int v_17), .val (.ref b_37), .val (.int (1 : Int32))] [(.ref b_37), (.ref b_6)])) rfl (by rw [hml]; rfl) (Steps.refl _) (argsL := [(.ref b_37)]) (rest := []) (lenOf pd_5 rfl) rfl (by show 2 * 0 + _ ≤ _; exact Nat.le_of_eq rfl) (hb hby at_259) (fun _ _ => ⟨rfl, rfl, (by decide : 2 + 0 ≤ _), (by decide : 8 + 0 ≤ _)⟩)
                    dsimp only [Pt.U, Pt.locs, Pt.cells, Pt.slots] at X_43 l_43 y_43 z_43 st_43 hQ_43
                    subst l_43 y_43 z_43
                    obtain ⟨rfl, M_43, q_43⟩ := hQ_43
                    have N_43 := Fr.app N_38 M_43
                    refine own_st (S' := T_43.setTop (mkF m 262 #[.val (.int p0), .val (.int p1), .val (.int p2), .val (.int p3), .val (.long p4), .second, .val (.long p5), .second, .val (.int v_1), .val (.int v_2), .val (.int v_3), .val (.int v_4), .val (.int v_5), .val (.ref b_6), .val (.int v_14), .val (.int v_15), .val (.int v_16), .val (.int v_17), .val (.ref b_37), .val (.int (1 : Int32))] [(.int (own_eq v_2 v_1 v_3 v_4 v_14 v_15 v_16 v_17))])) (fun t_ k_ => st_43.trans k_) ?_
                    refine own_st (S' := T_43.setTop (mkF m 264 #[.val (.int p0), .val (.int p1), .val (.int p2), .val (.int p3), .val (.long p4), .second, .val (.long p5), .second, .val (.int v_1), .val (.int v_2), .val (.int v_3), .val (.int v_4), .val (.int v_5), .val (.ref b_6), .val (.int v_14), .val (.int v_15), .val (.int v_16), .val (.int v_17), .val (.ref b_37), .val (.int (1 : Int32))] [(.int (1 : Int32)), (.int (own_eq v_2 v_1 v_3 v_4 v_14 v_15 v_16 v_17))])) (fun t_ k_ => XS.iload X_43.here hx rfl (hb hby at_262) rfl k_) ?_
                    by_cases hc264 : (own_eq v_2 v_1 v_3 v_4 v_14 v_15 v_16 v_17) = (1 : Int32)
                    · refine own_st (S' := T_43.setTop (mkF m 267 #[.val (.int p0), .val (.int p1), .val (.int p2), .val (.int p3), .val (.long p4), .second, .val (.long p5), .second, .val (.int v_1), .val (.int v_2), .val (.int v_3), .val (.int v_4), .val (.int v_5), .val (.ref b_6), .val (.int v_14), .val (.int v_15), .val (.int v_16), .val (.int v_17), .val (.ref b_37), .val (.int (1 : Int32))] [])) (fun t_ k_ => XS.icmpNo X_43.here hx rfl (hb hby at_264) rfl (teq hc264).2 k_) ?_
                      refine own_st (S' := T_43.setTop (mkF m 269 #[.val (.int p0), .val (.int p1), .val (.int p2), .val (.int p3), .val (.long p4), .second, .val (.long p5), .second, .val (.int v_1), .val (.int v_2), .val (.int v_3), .val (.int v_4), .val (.int v_5), .val (.ref b_6), .val (.int v_14), .val (.int v_15), .val (.int v_16), .val (.int v_17), .val (.ref b_37), .val (.int (1 : Int32))] [(.ref b_37)])) (fun t_ k_ => XS.aload X_43.here hx rfl (hb hby at_267) rfl rfl k_) ?_
                      refine own_st (S' := T_43.setTop (mkF m 271 #[.val (.int p0), .val (.int p1), .val (.int p2), .val (.int p3), .val (.long p4), .second, .val (.long p5), .second, .val (.int v_1), .val (.int v_2), .val (.int v_3), .val (.int v_4), .val (.int v_5), .val (.ref b_6), .val (.int v_14), .val (.int v_15), .val (.int v_16), .val (.int v_17), .val (.ref b_37), .val (.int (1 : Int32))] [(.ref b_6), (.ref b_37)])) (fun t_ k_ => XS.aload X_43.here hx rfl (hb hby at_269) rfl rfl k_) ?_
                      obtain ⟨cq_45, kq_45, q_45a, q_45b, q_45c⟩ := isOf hZ q_43 c_38_0
                      obtain ⟨_, _, ⟨T_45, L_45, k_45, n_45⟩, -, X_45, ⟨Lc_45, hQ_45, l_45, y_45, z_45⟩, st_45⟩ := X_43.virtualBack hx (y := (⟨"com/example/bloodwood/bloodwood/TreeReport", "equals", "(Ljava/lang/Object;)Z"⟩ : MethodName)) (z := (⟨"com/example/bloodwood/bloodwood/TreeReport", "equals", "(Ljava/lang/Object;)Z"⟩ : MethodName)) hown (mvT hZ (hw _ (List.mem_of_getElem? (i := 25) rfl))) (mvT hZ (hw _ (List.mem_of_getElem? (i := 26) rfl))) (notFace_of_selects (args := #[]) (mvT hZ (hw _ (List.mem_of_getElem? (i := 28) rfl)))) (mvT hZ (hw _ (List.mem_of_getElem? (i := 28) rfl))) (mvT hZ (hw _ (List.mem_of_getElem? (i := 27) rfl))) (by decide) (backOf (W := 0) (rm7d l Z a0 hw [] b_37 b_6 v_14 v_15 v_16 v_17 v_2 v_1 v_3 v_4 T_38.heap n0 Z_38 f_44 c_38_1 c_38_2 c_38_3 c_38_4 f_39 f_40 f_41 f_42) hZ (hw _ (List.mem_of_getElem? (i := 29) rfl)) (hw _ (List.mem_of_getElem? (i := 3) rfl)) (by decide) (by decide)) q_45a q_45c (g := (mkF m 271 #[.val (.int p0), .val (.int p1), .val (.int p2), .val (.int p3), .val (.long p4), .second, .val (.long p5), .second, .val (.int v_1), .val (.int v_2), .val (.int v_3), .val (.int v_4), .val (.int v_5), .val (.ref b_6), .val (.int v_14), .val (.int v_15), .val (.int v_16), .val (.int v_17), .val (.ref b_37), .val (.int (1 : Int32))] [(.ref b_6), (.ref b_37)])) rfl (by rw [hml]; rfl) (Steps.refl _) (argsL := [(.ref b_6)]) (rest := []) (lenOf pd_5 rfl) rfl (by show 2 * 0 + _ ≤ _; exact Nat.le_of_eq rfl) (hb hby at_271) (fun _ _ => ⟨rfl, q_43, (by decide : 2 + 0 ≤ _), (by decide : 8 + 0 ≤ _)⟩)
                      dsimp only [Pt.U, Pt.locs, Pt.cells, Pt.slots] at X_45 l_45 y_45 z_45 st_45 hQ_45
                      subst l_45 y_45 z_45
                      obtain ⟨rfl, M_45, q_45⟩ := hQ_45
                      have N_45 := Fr.app N_43 M_45
                      refine own_st (S' := T_45.setTop (mkF m 274 #[.val (.int p0), .val (.int p1), .val (.int p2), .val (.int p3), .val (.long p4), .second, .val (.long p5), .second, .val (.int v_1), .val (.int v_2), .val (.int v_3), .val (.int v_4), .val (.int v_5), .val (.ref b_6), .val (.int v_14), .val (.int v_15), .val (.int v_16), .val (.int v_17), .val (.ref b_37), .val (.int (1 : Int32))] [(.int (own_eq v_14 v_15 v_16 v_17 v_2 v_1 v_3 v_4))])) (fun t_ k_ => st_45.trans k_) ?_
                      refine own_st (S' := T_45.setTop (mkF m 276 #[.val (.int p0), .val (.int p1), .val (.int p2), .val (.int p3), .val (.long p4), .second, .val (.long p5), .second, .val (.int v_1), .val (.int v_2), .val (.int v_3), .val (.int v_4), .val (.int v_5), .val (.ref b_6), .val (.int v_14), .val (.int v_15), .val (.int v_16), .val (.int v_17), .val (.ref b_37), .val (.int (1 : Int32))] [(.int (1 : Int32)), (.int (own_eq v_14 v_15 v_16 v_17 v_2 v_1 v_3 v_4))])) (fun t_ k_ => XS.iload X_45.here hx rfl (hb hby at_274) rfl k_) ?_
                      by_cases hc276 : (own_eq v_14 v_15 v_16 v_17 v_2 v_1 v_3 v_4) = (1 : Int32)
                      · refine own_st (S' := T_45.setTop (mkF m 279 #[.val (.int p0), .val (.int p1), .val (.int p2), .val (.int p3), .val (.long p4), .second, .val (.long p5), .second, .val (.int v_1), .val (.int v_2), .val (.int v_3), .val (.int v_4), .val (.int v_5), .val (.ref b_6), .val (.int v_14), .val (.int v_15), .val (.int v_16), .val (.int v_17), .val (.ref b_37), .val (.int (1 : Int32))] [])) (fun t_ k_ => XS.icmpNo X_45.here hx rfl (hb hby at_276) rfl (teq hc276).2 k_) ?_
                        refine own_st (S' := T_45.setTop (mkF m 280 #[.val (.int p0), .val (.int p1), .val (.int p2), .val (.int p3), .val (.long p4), .second, .val (.long p5), .second, .val (.int v_1), .val (.int v_2), .val (.int v_3), .val (.int v_4), .val (.int v_5), .val (.ref b_6), .val (.int v_14), .val (.int v_15), .val (.int v_16), .val (.int v_17), .val (.ref b_37), .val (.int (1 : Int32))] [(.int (1 : Int32))])) (fun t_ k_ => XS.iconst X_45.here hx rfl (hb hby at_279) k_) ?_
                        refine own_st (S' := T_45.setTop (mkF m 284 #[.val (.int p0), .val (.int p1), .val (.int p2), .val (.int p3), .val (.long p4), .second, .val (.long p5), .second, .val (.int v_1), .val (.int v_2), .val (.int v_3), .val (.int v_4), .val (.int v_5), .val (.ref b_6), .val (.int v_14), .val (.int v_15), .val (.int v_16), .val (.int v_17), .val (.ref b_37), .val (.int (1 : Int32))] [(.int (1 : Int32))])) (fun t_ k_ => XS.goto X_45.here hx rfl (pc0 := 280) (pc' := 284) rfl (hb hby at_280) (by decide) (by decide) k_) ?_
                        obtain ⟨fs, hr, hrun, hended, hW, hsame⟩ := X_45.leave (v := some (.int (1 : Int32))) (fun h => by rw [Bd.returns] at h; cases h)
                        refine ⟨_, _, retN X_45 hx (t := .boolean) Bd.returns (by simp) (hb hby at_284) hr, hrun, hended, _, _, rfl, ?_, ⟨_, rfl⟩, hW, hsame.mono (by decide) (by decide)⟩
                        show Q0 Z p0 p1 p2 p3 p4 p5 ca cc h0 n0 _ T_45.heap _
                        rw [q_45]
                        exact ⟨rfl, N_45⟩
                      · exact absurd (by rw [own_eqc]; simp [own_eq, hc224, hc231, hc238, hc245]) hc276
                    · exact absurd (by simp [own_eq, hc224, hc231, hc238, hc245]) hc264
                  · refine own_st (S' := T_38.setTop (mkF m 252 #[.val (.int p0), .val (.int p1), .val (.int p2), .val (.int p3), .val (.long p4), .second, .val (.long p5), .second, .val (.int v_1), .val (.int v_2), .val (.int v_3), .val (.int v_4), .val (.int v_5), .val (.ref b_6), .val (.int v_14), .val (.int v_15), .val (.int v_16), .val (.int v_17), .val (.ref b_37), .unset] [])) (fun t_ k_ => XS.icmpYes X_38.here hx rfl (pc0 := 245) (pc' := 252) rfl (hb hby at_245) rfl (feq hc245).2 (by decide) (by decide) k_) ?_
                    refine own_st (S' := T_38.setTop (mkF m 253 #[.val (.int p0), .val (.int p1), .val (.int p2), .val (.int p3), .val (.long p4), .second, .val (.long p5), .second, .val (.int v_1), .val (.int v_2), .val (.int v_3), .val (.int v_4), .val (.int v_5), .val (.ref b_6), .val (.int v_14), .val (.int v_15), .val (.int v_16), .val (.int v_17), .val (.ref b_37), .unset] [(.int (0 : Int32))])) (fun t_ k_ => XS.iconst X_38.here hx rfl (hb hby at_252) k_) ?_
                    refine own_st (S' := T_38.setTop (mkF m 255 #[.val (.int p0), .val (.int p1), .val (.int p2), .val (.int p3), .val (.long p4), .second, .val (.long p5), .second, .val (.int v_1), .val (.int v_2), .val (.int v_3), .val (.int v_4), .val (.int v_5), .val (.ref b_6), .val (.int v_14), .val (.int v_15), .val (.int v_16), .val (.int v_17), .val (.ref b_37), .val (.int (0 : Int32))] [])) (fun t_ k_ => XS.istore X_38.here hx rfl (hb hby at_253) rfl (l' := #[.val (.int p0), .val (.int p1), .val (.int p2), .val (.int p3), .val (.long p4), .second, .val (.long p5), .second, .val (.int v_1), .val (.int v_2), .val (.int v_3), .val (.int v_4), .val (.int v_5), .val (.ref b_6), .val (.int v_14), .val (.int v_15), .val (.int v_16), .val (.int v_17), .val (.ref b_37), .val (.int (0 : Int32))]) rfl k_) ?_
                    refine own_st (S' := T_38.setTop (mkF m 257 #[.val (.int p0), .val (.int p1), .val (.int p2), .val (.int p3), .val (.long p4), .second, .val (.long p5), .second, .val (.int v_1), .val (.int v_2), .val (.int v_3), .val (.int v_4), .val (.int v_5), .val (.ref b_6), .val (.int v_14), .val (.int v_15), .val (.int v_16), .val (.int v_17), .val (.ref b_37), .val (.int (0 : Int32))] [(.ref b_6)])) (fun t_ k_ => XS.aload X_38.here hx rfl (hb hby at_255) rfl rfl k_) ?_
                    refine own_st (S' := T_38.setTop (mkF m 259 #[.val (.int p0), .val (.int p1), .val (.int p2), .val (.int p3), .val (.long p4), .second, .val (.long p5), .second, .val (.int v_1), .val (.int v_2), .val (.int v_3), .val (.int v_4), .val (.int v_5), .val (.ref b_6), .val (.int v_14), .val (.int v_15), .val (.int v_16), .val (.int v_17), .val (.ref b_37), .val (.int (0 : Int32))] [(.ref b_37), (.ref b_6)])) (fun t_ k_ => XS.aload X_38.here hx rfl (hb hby at_257) rfl rfl k_) ?_
                    have f_46 : Fld Z T_38.heap b_6 "com/example/bloodwood/bloodwood/TreeReport" "size" "I" (.int v_2) := ((Fld.ext E_37 c_7_1).keep K_38c (ninS ne_b_6_b_37 nin0))
                    have f_47 : Fld Z T_38.heap b_6 "com/example/bloodwood/bloodwood/TreeReport" "height" "I" (.int v_1) := ((Fld.ext E_37 c_7_2).keep K_38c (ninS ne_b_6_b_37 nin0))
                    have f_48 : Fld Z T_38.heap b_6 "com/example/bloodwood/bloodwood/TreeReport" "blackHeight" "I" (.int v_3) := ((Fld.ext E_37 c_7_3).keep K_38c (ninS ne_b_6_b_37 nin0))
                    have f_49 : Fld Z T_38.heap b_6 "com/example/bloodwood/bloodwood/TreeReport" "redCount" "I" (.int v_4) := ((Fld.ext E_37 c_7_4).keep K_38c (ninS ne_b_6_b_37 nin0))
                    have f_51 : Exa Z T_38.heap b_6 "com/example/bloodwood/bloodwood/TreeReport" := ((Exa.ext E_37 c_7_0).keep K_38c)
                    obtain ⟨cq_50, kq_50, q_50a, q_50b, q_50c⟩ := isOf hZ rfl f_51
                    obtain ⟨_, _, ⟨T_50, L_50, k_50, n_50⟩, -, X_50, ⟨Lc_50, hQ_50, l_50, y_50, z_50⟩, st_50⟩ := X_38.virtualBack hx (y := (⟨"com/example/bloodwood/bloodwood/TreeReport", "equals", "(Ljava/lang/Object;)Z"⟩ : MethodName)) (z := (⟨"com/example/bloodwood/bloodwood/TreeReport", "equals", "(Ljava/lang/Object;)Z"⟩ : MethodName)) hown (mvT hZ (hw _ (List.mem_of_getElem? (i := 25) rfl))) (mvT hZ (hw _ (List.mem_of_getElem? (i := 26) rfl))) (notFace_of_selects (args := #[]) (mvT hZ (hw _ (List.mem_of_getElem? (i := 28) rfl)))) (mvT hZ (hw _ (List.mem_of_getElem? (i := 28) rfl))) (mvT hZ (hw _ (List.mem_of_getElem? (i := 27) rfl))) (by decide) (backOf (W := 0) (rm7d l Z a0 hw [] b_6 b_37 v_2 v_1 v_3 v_4 v_14 v_15 v_16 v_17 T_38.heap n0 Z_38 c_38_0 f_46 f_47 f_48 f_49 c_38_1 c_38_2 c_38_3 c_38_4) hZ (hw _ (List.mem_of_getElem? (i := 29) rfl)) (hw _ (List.mem_of_getElem? (i := 3) rfl)) (by decide) (by decide)) q_50a q_50c (g := (mkF m 259 #[.val (.int p0), .val (.int p1), .val (.int p2), .val (.int p3), .val (.long p4), .second, .val (.long p5), .second, .val (.int v_1), .val (.int v_2), .val (.int v_3), .val (.int v_4), .val (.int v_5), .val (.ref b_6), .val (.int v_14), .val (.int v_15), .val (.int v_16), .val (.int v_17), .val (.ref b_37), .val (.int (0 : Int32))] [(.ref b_37), (.ref b_6)])) rfl (by rw [hml]; rfl) (Steps.refl _) (argsL := [(.ref b_37)]) (rest := []) (lenOf pd_5 rfl) rfl (by show 2 * 0 + _ ≤ _; exact Nat.le_of_eq rfl) (hb hby at_259) (fun _ _ => ⟨rfl, rfl, (by decide : 2 + 0 ≤ _), (by decide : 8 + 0 ≤ _)⟩)
                    dsimp only [Pt.U, Pt.locs, Pt.cells, Pt.slots] at X_50 l_50 y_50 z_50 st_50 hQ_50
                    subst l_50 y_50 z_50
                    obtain ⟨rfl, M_50, q_50⟩ := hQ_50
                    have N_50 := Fr.app N_38 M_50
                    refine own_st (S' := T_50.setTop (mkF m 262 #[.val (.int p0), .val (.int p1), .val (.int p2), .val (.int p3), .val (.long p4), .second, .val (.long p5), .second, .val (.int v_1), .val (.int v_2), .val (.int v_3), .val (.int v_4), .val (.int v_5), .val (.ref b_6), .val (.int v_14), .val (.int v_15), .val (.int v_16), .val (.int v_17), .val (.ref b_37), .val (.int (0 : Int32))] [(.int (own_eq v_2 v_1 v_3 v_4 v_14 v_15 v_16 v_17))])) (fun t_ k_ => st_50.trans k_) ?_
                    refine own_st (S' := T_50.setTop (mkF m 264 #[.val (.int p0), .val (.int p1), .val (.int p2), .val (.int p3), .val (.long p4), .second, .val (.long p5), .second, .val (.int v_1), .val (.int v_2), .val (.int v_3), .val (.int v_4), .val (.int v_5), .val (.ref b_6), .val (.int v_14), .val (.int v_15), .val (.int v_16), .val (.int v_17), .val (.ref b_37), .val (.int (0 : Int32))] [(.int (0 : Int32)), (.int (own_eq v_2 v_1 v_3 v_4 v_14 v_15 v_16 v_17))])) (fun t_ k_ => XS.iload X_50.here hx rfl (hb hby at_262) rfl k_) ?_
                    by_cases hc264 : (own_eq v_2 v_1 v_3 v_4 v_14 v_15 v_16 v_17) = (0 : Int32)
                    · refine own_st (S' := T_50.setTop (mkF m 267 #[.val (.int p0), .val (.int p1), .val (.int p2), .val (.int p3), .val (.long p4), .second, .val (.long p5), .second, .val (.int v_1), .val (.int v_2), .val (.int v_3), .val (.int v_4), .val (.int v_5), .val (.ref b_6), .val (.int v_14), .val (.int v_15), .val (.int v_16), .val (.int v_17), .val (.ref b_37), .val (.int (0 : Int32))] [])) (fun t_ k_ => XS.icmpNo X_50.here hx rfl (hb hby at_264) rfl (teq hc264).2 k_) ?_
                      refine own_st (S' := T_50.setTop (mkF m 269 #[.val (.int p0), .val (.int p1), .val (.int p2), .val (.int p3), .val (.long p4), .second, .val (.long p5), .second, .val (.int v_1), .val (.int v_2), .val (.int v_3), .val (.int v_4), .val (.int v_5), .val (.ref b_6), .val (.int v_14), .val (.int v_15), .val (.int v_16), .val (.int v_17), .val (.ref b_37), .val (.int (0 : Int32))] [(.ref b_37)])) (fun t_ k_ => XS.aload X_50.here hx rfl (hb hby at_267) rfl rfl k_) ?_
                      refine own_st (S' := T_50.setTop (mkF m 271 #[.val (.int p0), .val (.int p1), .val (.int p2), .val (.int p3), .val (.long p4), .second, .val (.long p5), .second, .val (.int v_1), .val (.int v_2), .val (.int v_3), .val (.int v_4), .val (.int v_5), .val (.ref b_6), .val (.int v_14), .val (.int v_15), .val (.int v_16), .val (.int v_17), .val (.ref b_37), .val (.int (0 : Int32))] [(.ref b_6), (.ref b_37)])) (fun t_ k_ => XS.aload X_50.here hx rfl (hb hby at_269) rfl rfl k_) ?_
                      obtain ⟨cq_52, kq_52, q_52a, q_52b, q_52c⟩ := isOf hZ q_50 c_38_0
                      obtain ⟨_, _, ⟨T_52, L_52, k_52, n_52⟩, -, X_52, ⟨Lc_52, hQ_52, l_52, y_52, z_52⟩, st_52⟩ := X_50.virtualBack hx (y := (⟨"com/example/bloodwood/bloodwood/TreeReport", "equals", "(Ljava/lang/Object;)Z"⟩ : MethodName)) (z := (⟨"com/example/bloodwood/bloodwood/TreeReport", "equals", "(Ljava/lang/Object;)Z"⟩ : MethodName)) hown (mvT hZ (hw _ (List.mem_of_getElem? (i := 25) rfl))) (mvT hZ (hw _ (List.mem_of_getElem? (i := 26) rfl))) (notFace_of_selects (args := #[]) (mvT hZ (hw _ (List.mem_of_getElem? (i := 28) rfl)))) (mvT hZ (hw _ (List.mem_of_getElem? (i := 28) rfl))) (mvT hZ (hw _ (List.mem_of_getElem? (i := 27) rfl))) (by decide) (backOf (W := 0) (rm7d l Z a0 hw [] b_37 b_6 v_14 v_15 v_16 v_17 v_2 v_1 v_3 v_4 T_38.heap n0 Z_38 f_51 c_38_1 c_38_2 c_38_3 c_38_4 f_46 f_47 f_48 f_49) hZ (hw _ (List.mem_of_getElem? (i := 29) rfl)) (hw _ (List.mem_of_getElem? (i := 3) rfl)) (by decide) (by decide)) q_52a q_52c (g := (mkF m 271 #[.val (.int p0), .val (.int p1), .val (.int p2), .val (.int p3), .val (.long p4), .second, .val (.long p5), .second, .val (.int v_1), .val (.int v_2), .val (.int v_3), .val (.int v_4), .val (.int v_5), .val (.ref b_6), .val (.int v_14), .val (.int v_15), .val (.int v_16), .val (.int v_17), .val (.ref b_37), .val (.int (0 : Int32))] [(.ref b_6), (.ref b_37)])) rfl (by rw [hml]; rfl) (Steps.refl _) (argsL := [(.ref b_6)]) (rest := []) (lenOf pd_5 rfl) rfl (by show 2 * 0 + _ ≤ _; exact Nat.le_of_eq rfl) (hb hby at_271) (fun _ _ => ⟨rfl, q_50, (by decide : 2 + 0 ≤ _), (by decide : 8 + 0 ≤ _)⟩)
                      dsimp only [Pt.U, Pt.locs, Pt.cells, Pt.slots] at X_52 l_52 y_52 z_52 st_52 hQ_52
                      subst l_52 y_52 z_52
                      obtain ⟨rfl, M_52, q_52⟩ := hQ_52
                      have N_52 := Fr.app N_50 M_52
                      refine own_st (S' := T_52.setTop (mkF m 274 #[.val (.int p0), .val (.int p1), .val (.int p2), .val (.int p3), .val (.long p4), .second, .val (.long p5), .second, .val (.int v_1), .val (.int v_2), .val (.int v_3), .val (.int v_4), .val (.int v_5), .val (.ref b_6), .val (.int v_14), .val (.int v_15), .val (.int v_16), .val (.int v_17), .val (.ref b_37), .val (.int (0 : Int32))] [(.int (own_eq v_14 v_15 v_16 v_17 v_2 v_1 v_3 v_4))])) (fun t_ k_ => st_52.trans k_) ?_
                      refine own_st (S' := T_52.setTop (mkF m 276 #[.val (.int p0), .val (.int p1), .val (.int p2), .val (.int p3), .val (.long p4), .second, .val (.long p5), .second, .val (.int v_1), .val (.int v_2), .val (.int v_3), .val (.int v_4), .val (.int v_5), .val (.ref b_6), .val (.int v_14), .val (.int v_15), .val (.int v_16), .val (.int v_17), .val (.ref b_37), .val (.int (0 : Int32))] [(.int (0 : Int32)), (.int (own_eq v_14 v_15 v_16 v_17 v_2 v_1 v_3 v_4))])) (fun t_ k_ => XS.iload X_52.here hx rfl (hb hby at_274) rfl k_) ?_
                      by_cases hc276 : (own_eq v_14 v_15 v_16 v_17 v_2 v_1 v_3 v_4) = (0 : Int32)
                      · refine own_st (S' := T_52.setTop (mkF m 279 #[.val (.int p0), .val (.int p1), .val (.int p2), .val (.int p3), .val (.long p4), .second, .val (.long p5), .second, .val (.int v_1), .val (.int v_2), .val (.int v_3), .val (.int v_4), .val (.int v_5), .val (.ref b_6), .val (.int v_14), .val (.int v_15), .val (.int v_16), .val (.int v_17), .val (.ref b_37), .val (.int (0 : Int32))] [])) (fun t_ k_ => XS.icmpNo X_52.here hx rfl (hb hby at_276) rfl (teq hc276).2 k_) ?_
                        refine own_st (S' := T_52.setTop (mkF m 280 #[.val (.int p0), .val (.int p1), .val (.int p2), .val (.int p3), .val (.long p4), .second, .val (.long p5), .second, .val (.int v_1), .val (.int v_2), .val (.int v_3), .val (.int v_4), .val (.int v_5), .val (.ref b_6), .val (.int v_14), .val (.int v_15), .val (.int v_16), .val (.int v_17), .val (.ref b_37), .val (.int (0 : Int32))] [(.int (1 : Int32))])) (fun t_ k_ => XS.iconst X_52.here hx rfl (hb hby at_279) k_) ?_
                        refine own_st (S' := T_52.setTop (mkF m 284 #[.val (.int p0), .val (.int p1), .val (.int p2), .val (.int p3), .val (.long p4), .second, .val (.long p5), .second, .val (.int v_1), .val (.int v_2), .val (.int v_3), .val (.int v_4), .val (.int v_5), .val (.ref b_6), .val (.int v_14), .val (.int v_15), .val (.int v_16), .val (.int v_17), .val (.ref b_37), .val (.int (0 : Int32))] [(.int (1 : Int32))])) (fun t_ k_ => XS.goto X_52.here hx rfl (pc0 := 280) (pc' := 284) rfl (hb hby at_280) (by decide) (by decide) k_) ?_
                        obtain ⟨fs, hr, hrun, hended, hW, hsame⟩ := X_52.leave (v := some (.int (1 : Int32))) (fun h => by rw [Bd.returns] at h; cases h)
                        refine ⟨_, _, retN X_52 hx (t := .boolean) Bd.returns (by simp) (hb hby at_284) hr, hrun, hended, _, _, rfl, ?_, ⟨_, rfl⟩, hW, hsame.mono (by decide) (by decide)⟩
                        show Q0 Z p0 p1 p2 p3 p4 p5 ca cc h0 n0 _ T_52.heap _
                        rw [q_52]
                        exact ⟨rfl, N_52⟩
                      · exact absurd (by rw [own_eqc]; simp [own_eq, hc224, hc231, hc238, hc245]) hc276
                    · exact absurd (by simp [own_eq, hc224, hc231, hc238, hc245]) hc264
                · refine own_st (S' := T_38.setTop (mkF m 252 #[.val (.int p0), .val (.int p1), .val (.int p2), .val (.int p3), .val (.long p4), .second, .val (.long p5), .second, .val (.int v_1), .val (.int v_2), .val (.int v_3), .val (.int v_4), .val (.int v_5), .val (.ref b_6), .val (.int v_14), .val (.int v_15), .val (.int v_16), .val (.int v_17), .val (.ref b_37), .unset] [])) (fun t_ k_ => XS.icmpYes X_38.here hx rfl (pc0 := 238) (pc' := 252) rfl (hb hby at_238) rfl (feq hc238).2 (by decide) (by decide) k_) ?_
                  refine own_st (S' := T_38.setTop (mkF m 253 #[.val (.int p0), .val (.int p1), .val (.int p2), .val (.int p3), .val (.long p4), .second, .val (.long p5), .second, .val (.int v_1), .val (.int v_2), .val (.int v_3), .val (.int v_4), .val (.int v_5), .val (.ref b_6), .val (.int v_14), .val (.int v_15), .val (.int v_16), .val (.int v_17), .val (.ref b_37), .unset] [(.int (0 : Int32))])) (fun t_ k_ => XS.iconst X_38.here hx rfl (hb hby at_252) k_) ?_
                  refine own_st (S' := T_38.setTop (mkF m 255 #[.val (.int p0), .val (.int p1), .val (.int p2), .val (.int p3), .val (.long p4), .second, .val (.long p5), .second, .val (.int v_1), .val (.int v_2), .val (.int v_3), .val (.int v_4), .val (.int v_5), .val (.ref b_6), .val (.int v_14), .val (.int v_15), .val (.int v_16), .val (.int v_17), .val (.ref b_37), .val (.int (0 : Int32))] [])) (fun t_ k_ => XS.istore X_38.here hx rfl (hb hby at_253) rfl (l' := #[.val (.int p0), .val (.int p1), .val (.int p2), .val (.int p3), .val (.long p4), .second, .val (.long p5), .second, .val (.int v_1), .val (.int v_2), .val (.int v_3), .val (.int v_4), .val (.int v_5), .val (.ref b_6), .val (.int v_14), .val (.int v_15), .val (.int v_16), .val (.int v_17), .val (.ref b_37), .val (.int (0 : Int32))]) rfl k_) ?_
                  refine own_st (S' := T_38.setTop (mkF m 257 #[.val (.int p0), .val (.int p1), .val (.int p2), .val (.int p3), .val (.long p4), .second, .val (.long p5), .second, .val (.int v_1), .val (.int v_2), .val (.int v_3), .val (.int v_4), .val (.int v_5), .val (.ref b_6), .val (.int v_14), .val (.int v_15), .val (.int v_16), .val (.int v_17), .val (.ref b_37), .val (.int (0 : Int32))] [(.ref b_6)])) (fun t_ k_ => XS.aload X_38.here hx rfl (hb hby at_255) rfl rfl k_) ?_
                  refine own_st (S' := T_38.setTop (mkF m 259 #[.val (.int p0), .val (.int p1), .val (.int p2), .val (.int p3), .val (.long p4), .second, .val (.long p5), .second, .val (.int v_1), .val (.int v_2), .val (.int v_3), .val (.int v_4), .val (.int v_5), .val (.ref b_6), .val (.int v_14), .val (.int v_15), .val (.int v_16), .val (.int v_17), .val (.ref b_37), .val (.int (0 : Int32))] [(.ref b_37), (.ref b_6)])) (fun t_ k_ => XS.aload X_38.here hx rfl (hb hby at_257) rfl rfl k_) ?_
                  have f_53 : Fld Z T_38.heap b_6 "com/example/bloodwood/bloodwood/TreeReport" "size" "I" (.int v_2) := ((Fld.ext E_37 c_7_1).keep K_38c (ninS ne_b_6_b_37 nin0))
                  have f_54 : Fld Z T_38.heap b_6 "com/example/bloodwood/bloodwood/TreeReport" "height" "I" (.int v_1) := ((Fld.ext E_37 c_7_2).keep K_38c (ninS ne_b_6_b_37 nin0))
                  have f_55 : Fld Z T_38.heap b_6 "com/example/bloodwood/bloodwood/TreeReport" "blackHeight" "I" (.int v_3) := ((Fld.ext E_37 c_7_3).keep K_38c (ninS ne_b_6_b_37 nin0))
                  have f_56 : Fld Z T_38.heap b_6 "com/example/bloodwood/bloodwood/TreeReport" "redCount" "I" (.int v_4) := ((Fld.ext E_37 c_7_4).keep K_38c (ninS ne_b_6_b_37 nin0))
                  have f_58 : Exa Z T_38.heap b_6 "com/example/bloodwood/bloodwood/TreeReport" := ((Exa.ext E_37 c_7_0).keep K_38c)
                  obtain ⟨cq_57, kq_57, q_57a, q_57b, q_57c⟩ := isOf hZ rfl f_58
                  obtain ⟨_, _, ⟨T_57, L_57, k_57, n_57⟩, -, X_57, ⟨Lc_57, hQ_57, l_57, y_57, z_57⟩, st_57⟩ := X_38.virtualBack hx (y := (⟨"com/example/bloodwood/bloodwood/TreeReport", "equals", "(Ljava/lang/Object;)Z"⟩ : MethodName)) (z := (⟨"com/example/bloodwood/bloodwood/TreeReport", "equals", "(Ljava/lang/Object;)Z"⟩ : MethodName)) hown (mvT hZ (hw _ (List.mem_of_getElem? (i := 25) rfl))) (mvT hZ (hw _ (List.mem_of_getElem? (i := 26) rfl))) (notFace_of_selects (args := #[]) (mvT hZ (hw _ (List.mem_of_getElem? (i := 28) rfl)))) (mvT hZ (hw _ (List.mem_of_getElem? (i := 28) rfl))) (mvT hZ (hw _ (List.mem_of_getElem? (i := 27) rfl))) (by decide) (backOf (W := 0) (rm7d l Z a0 hw [] b_6 b_37 v_2 v_1 v_3 v_4 v_14 v_15 v_16 v_17 T_38.heap n0 Z_38 c_38_0 f_53 f_54 f_55 f_56 c_38_1 c_38_2 c_38_3 c_38_4) hZ (hw _ (List.mem_of_getElem? (i := 29) rfl)) (hw _ (List.mem_of_getElem? (i := 3) rfl)) (by decide) (by decide)) q_57a q_57c (g := (mkF m 259 #[.val (.int p0), .val (.int p1), .val (.int p2), .val (.int p3), .val (.long p4), .second, .val (.long p5), .second, .val (.int v_1), .val (.int v_2), .val (.int v_3), .val (.int v_4), .val (.int v_5), .val (.ref b_6), .val (.int v_14), .val (.int v_15), .val (.int v_16), .val (.int v_17), .val (.ref b_37), .val (.int (0 : Int32))] [(.ref b_37), (.ref b_6)])) rfl (by rw [hml]; rfl) (Steps.refl _) (argsL := [(.ref b_37)]) (rest := []) (lenOf pd_5 rfl) rfl (by show 2 * 0 + _ ≤ _; exact Nat.le_of_eq rfl) (hb hby at_259) (fun _ _ => ⟨rfl, rfl, (by decide : 2 + 0 ≤ _), (by decide : 8 + 0 ≤ _)⟩)
                  dsimp only [Pt.U, Pt.locs, Pt.cells, Pt.slots] at X_57 l_57 y_57 z_57 st_57 hQ_57
                  subst l_57 y_57 z_57
                  obtain ⟨rfl, M_57, q_57⟩ := hQ_57
                  have N_57 := Fr.app N_38 M_57
                  refine own_st (S' := T_57.setTop (mkF m 262 #[.val (.int p0), .val (.int p1), .val (.int p2), .val (.int p3), .val (.long p4), .second, .val (.long p5), .second, .val (.int v_1), .val (.int v_2), .val (.int v_3), .val (.int v_4), .val (.int v_5), .val (.ref b_6), .val (.int v_14), .val (.int v_15), .val (.int v_16), .val (.int v_17), .val (.ref b_37), .val (.int (0 : Int32))] [(.int (own_eq v_2 v_1 v_3 v_4 v_14 v_15 v_16 v_17))])) (fun t_ k_ => st_57.trans k_) ?_
                  refine own_st (S' := T_57.setTop (mkF m 264 #[.val (.int p0), .val (.int p1), .val (.int p2), .val (.int p3), .val (.long p4), .second, .val (.long p5), .second, .val (.int v_1), .val (.int v_2), .val (.int v_3), .val (.int v_4), .val (.int v_5), .val (.ref b_6), .val (.int v_14), .val (.int v_15), .val (.int v_16), .val (.int v_17), .val (.ref b_37), .val (.int (0 : Int32))] [(.int (0 : Int32)), (.int (own_eq v_2 v_1 v_3 v_4 v_14 v_15 v_16 v_17))])) (fun t_ k_ => XS.iload X_57.here hx rfl (hb hby at_262) rfl k_) ?_
                  by_cases hc264 : (own_eq v_2 v_1 v_3 v_4 v_14 v_15 v_16 v_17) = (0 : Int32)
                  · refine own_st (S' := T_57.setTop (mkF m 267 #[.val (.int p0), .val (.int p1), .val (.int p2), .val (.int p3), .val (.long p4), .second, .val (.long p5), .second, .val (.int v_1), .val (.int v_2), .val (.int v_3), .val (.int v_4), .val (.int v_5), .val (.ref b_6), .val (.int v_14), .val (.int v_15), .val (.int v_16), .val (.int v_17), .val (.ref b_37), .val (.int (0 : Int32))] [])) (fun t_ k_ => XS.icmpNo X_57.here hx rfl (hb hby at_264) rfl (teq hc264).2 k_) ?_
                    refine own_st (S' := T_57.setTop (mkF m 269 #[.val (.int p0), .val (.int p1), .val (.int p2), .val (.int p3), .val (.long p4), .second, .val (.long p5), .second, .val (.int v_1), .val (.int v_2), .val (.int v_3), .val (.int v_4), .val (.int v_5), .val (.ref b_6), .val (.int v_14), .val (.int v_15), .val (.int v_16), .val (.int v_17), .val (.ref b_37), .val (.int (0 : Int32))] [(.ref b_37)])) (fun t_ k_ => XS.aload X_57.here hx rfl (hb hby at_267) rfl rfl k_) ?_
                    refine own_st (S' := T_57.setTop (mkF m 271 #[.val (.int p0), .val (.int p1), .val (.int p2), .val (.int p3), .val (.long p4), .second, .val (.long p5), .second, .val (.int v_1), .val (.int v_2), .val (.int v_3), .val (.int v_4), .val (.int v_5), .val (.ref b_6), .val (.int v_14), .val (.int v_15), .val (.int v_16), .val (.int v_17), .val (.ref b_37), .val (.int (0 : Int32))] [(.ref b_6), (.ref b_37)])) (fun t_ k_ => XS.aload X_57.here hx rfl (hb hby at_269) rfl rfl k_) ?_
                    obtain ⟨cq_59, kq_59, q_59a, q_59b, q_59c⟩ := isOf hZ q_57 c_38_0
                    obtain ⟨_, _, ⟨T_59, L_59, k_59, n_59⟩, -, X_59, ⟨Lc_59, hQ_59, l_59, y_59, z_59⟩, st_59⟩ := X_57.virtualBack hx (y := (⟨"com/example/bloodwood/bloodwood/TreeReport", "equals", "(Ljava/lang/Object;)Z"⟩ : MethodName)) (z := (⟨"com/example/bloodwood/bloodwood/TreeReport", "equals", "(Ljava/lang/Object;)Z"⟩ : MethodName)) hown (mvT hZ (hw _ (List.mem_of_getElem? (i := 25) rfl))) (mvT hZ (hw _ (List.mem_of_getElem? (i := 26) rfl))) (notFace_of_selects (args := #[]) (mvT hZ (hw _ (List.mem_of_getElem? (i := 28) rfl)))) (mvT hZ (hw _ (List.mem_of_getElem? (i := 28) rfl))) (mvT hZ (hw _ (List.mem_of_getElem? (i := 27) rfl))) (by decide) (backOf (W := 0) (rm7d l Z a0 hw [] b_37 b_6 v_14 v_15 v_16 v_17 v_2 v_1 v_3 v_4 T_38.heap n0 Z_38 f_58 c_38_1 c_38_2 c_38_3 c_38_4 f_53 f_54 f_55 f_56) hZ (hw _ (List.mem_of_getElem? (i := 29) rfl)) (hw _ (List.mem_of_getElem? (i := 3) rfl)) (by decide) (by decide)) q_59a q_59c (g := (mkF m 271 #[.val (.int p0), .val (.int p1), .val (.int p2), .val (.int p3), .val (.long p4), .second, .val (.long p5), .second, .val (.int v_1), .val (.int v_2), .val (.int v_3), .val (.int v_4), .val (.int v_5), .val (.ref b_6), .val (.int v_14), .val (.int v_15), .val (.int v_16), .val (.int v_17), .val (.ref b_37), .val (.int (0 : Int32))] [(.ref b_6), (.ref b_37)])) rfl (by rw [hml]; rfl) (Steps.refl _) (argsL := [(.ref b_6)]) (rest := []) (lenOf pd_5 rfl) rfl (by show 2 * 0 + _ ≤ _; exact Nat.le_of_eq rfl) (hb hby at_271) (fun _ _ => ⟨rfl, q_57, (by decide : 2 + 0 ≤ _), (by decide : 8 + 0 ≤ _)⟩)
                    dsimp only [Pt.U, Pt.locs, Pt.cells, Pt.slots] at X_59 l_59 y_59 z_59 st_59 hQ_59
                    subst l_59 y_59 z_59
                    obtain ⟨rfl, M_59, q_59⟩ := hQ_59
                    have N_59 := Fr.app N_57 M_59
                    refine own_st (S' := T_59.setTop (mkF m 274 #[.val (.int p0), .val (.int p1), .val (.int p2), .val (.int p3), .val (.long p4), .second, .val (.long p5), .second, .val (.int v_1), .val (.int v_2), .val (.int v_3), .val (.int v_4), .val (.int v_5), .val (.ref b_6), .val (.int v_14), .val (.int v_15), .val (.int v_16), .val (.int v_17), .val (.ref b_37), .val (.int (0 : Int32))] [(.int (own_eq v_14 v_15 v_16 v_17 v_2 v_1 v_3 v_4))])) (fun t_ k_ => st_59.trans k_) ?_
                    refine own_st (S' := T_59.setTop (mkF m 276 #[.val (.int p0), .val (.int p1), .val (.int p2), .val (.int p3), .val (.long p4), .second, .val (.long p5), .second, .val (.int v_1), .val (.int v_2), .val (.int v_3), .val (.int v_4), .val (.int v_5), .val (.ref b_6), .val (.int v_14), .val (.int v_15), .val (.int v_16), .val (.int v_17), .val (.ref b_37), .val (.int (0 : Int32))] [(.int (0 : Int32)), (.int (own_eq v_14 v_15 v_16 v_17 v_2 v_1 v_3 v_4))])) (fun t_ k_ => XS.iload X_59.here hx rfl (hb hby at_274) rfl k_) ?_
                    by_cases hc276 : (own_eq v_14 v_15 v_16 v_17 v_2 v_1 v_3 v_4) = (0 : Int32)
                    · refine own_st (S' := T_59.setTop (mkF m 279 #[.val (.int p0), .val (.int p1), .val (.int p2), .val (.int p3), .val (.long p4), .second, .val (.long p5), .second, .val (.int v_1), .val (.int v_2), .val (.int v_3), .val (.int v_4), .val (.int v_5), .val (.ref b_6), .val (.int v_14), .val (.int v_15), .val (.int v_16), .val (.int v_17), .val (.ref b_37), .val (.int (0 : Int32))] [])) (fun t_ k_ => XS.icmpNo X_59.here hx rfl (hb hby at_276) rfl (teq hc276).2 k_) ?_
                      refine own_st (S' := T_59.setTop (mkF m 280 #[.val (.int p0), .val (.int p1), .val (.int p2), .val (.int p3), .val (.long p4), .second, .val (.long p5), .second, .val (.int v_1), .val (.int v_2), .val (.int v_3), .val (.int v_4), .val (.int v_5), .val (.ref b_6), .val (.int v_14), .val (.int v_15), .val (.int v_16), .val (.int v_17), .val (.ref b_37), .val (.int (0 : Int32))] [(.int (1 : Int32))])) (fun t_ k_ => XS.iconst X_59.here hx rfl (hb hby at_279) k_) ?_
                      refine own_st (S' := T_59.setTop (mkF m 284 #[.val (.int p0), .val (.int p1), .val (.int p2), .val (.int p3), .val (.long p4), .second, .val (.long p5), .second, .val (.int v_1), .val (.int v_2), .val (.int v_3), .val (.int v_4), .val (.int v_5), .val (.ref b_6), .val (.int v_14), .val (.int v_15), .val (.int v_16), .val (.int v_17), .val (.ref b_37), .val (.int (0 : Int32))] [(.int (1 : Int32))])) (fun t_ k_ => XS.goto X_59.here hx rfl (pc0 := 280) (pc' := 284) rfl (hb hby at_280) (by decide) (by decide) k_) ?_
                      obtain ⟨fs, hr, hrun, hended, hW, hsame⟩ := X_59.leave (v := some (.int (1 : Int32))) (fun h => by rw [Bd.returns] at h; cases h)
                      refine ⟨_, _, retN X_59 hx (t := .boolean) Bd.returns (by simp) (hb hby at_284) hr, hrun, hended, _, _, rfl, ?_, ⟨_, rfl⟩, hW, hsame.mono (by decide) (by decide)⟩
                      show Q0 Z p0 p1 p2 p3 p4 p5 ca cc h0 n0 _ T_59.heap _
                      rw [q_59]
                      exact ⟨rfl, N_59⟩
                    · exact absurd (by rw [own_eqc]; simp [own_eq, hc224, hc231, hc238]) hc276
                  · exact absurd (by simp [own_eq, hc224, hc231, hc238]) hc264
              · refine own_st (S' := T_38.setTop (mkF m 252 #[.val (.int p0), .val (.int p1), .val (.int p2), .val (.int p3), .val (.long p4), .second, .val (.long p5), .second, .val (.int v_1), .val (.int v_2), .val (.int v_3), .val (.int v_4), .val (.int v_5), .val (.ref b_6), .val (.int v_14), .val (.int v_15), .val (.int v_16), .val (.int v_17), .val (.ref b_37), .unset] [])) (fun t_ k_ => XS.icmpYes X_38.here hx rfl (pc0 := 231) (pc' := 252) rfl (hb hby at_231) rfl (feq hc231).2 (by decide) (by decide) k_) ?_
                refine own_st (S' := T_38.setTop (mkF m 253 #[.val (.int p0), .val (.int p1), .val (.int p2), .val (.int p3), .val (.long p4), .second, .val (.long p5), .second, .val (.int v_1), .val (.int v_2), .val (.int v_3), .val (.int v_4), .val (.int v_5), .val (.ref b_6), .val (.int v_14), .val (.int v_15), .val (.int v_16), .val (.int v_17), .val (.ref b_37), .unset] [(.int (0 : Int32))])) (fun t_ k_ => XS.iconst X_38.here hx rfl (hb hby at_252) k_) ?_
                refine own_st (S' := T_38.setTop (mkF m 255 #[.val (.int p0), .val (.int p1), .val (.int p2), .val (.int p3), .val (.long p4), .second, .val (.long p5), .second, .val (.int v_1), .val (.int v_2), .val (.int v_3), .val (.int v_4), .val (.int v_5), .val (.ref b_6), .val (.int v_14), .val (.int v_15), .val (.int v_16), .val (.int v_17), .val (.ref b_37), .val (.int (0 : Int32))] [])) (fun t_ k_ => XS.istore X_38.here hx rfl (hb hby at_253) rfl (l' := #[.val (.int p0), .val (.int p1), .val (.int p2), .val (.int p3), .val (.long p4), .second, .val (.long p5), .second, .val (.int v_1), .val (.int v_2), .val (.int v_3), .val (.int v_4), .val (.int v_5), .val (.ref b_6), .val (.int v_14), .val (.int v_15), .val (.int v_16), .val (.int v_17), .val (.ref b_37), .val (.int (0 : Int32))]) rfl k_) ?_
                refine own_st (S' := T_38.setTop (mkF m 257 #[.val (.int p0), .val (.int p1), .val (.int p2), .val (.int p3), .val (.long p4), .second, .val (.long p5), .second, .val (.int v_1), .val (.int v_2), .val (.int v_3), .val (.int v_4), .val (.int v_5), .val (.ref b_6), .val (.int v_14), .val (.int v_15), .val (.int v_16), .val (.int v_17), .val (.ref b_37), .val (.int (0 : Int32))] [(.ref b_6)])) (fun t_ k_ => XS.aload X_38.here hx rfl (hb hby at_255) rfl rfl k_) ?_
                refine own_st (S' := T_38.setTop (mkF m 259 #[.val (.int p0), .val (.int p1), .val (.int p2), .val (.int p3), .val (.long p4), .second, .val (.long p5), .second, .val (.int v_1), .val (.int v_2), .val (.int v_3), .val (.int v_4), .val (.int v_5), .val (.ref b_6), .val (.int v_14), .val (.int v_15), .val (.int v_16), .val (.int v_17), .val (.ref b_37), .val (.int (0 : Int32))] [(.ref b_37), (.ref b_6)])) (fun t_ k_ => XS.aload X_38.here hx rfl (hb hby at_257) rfl rfl k_) ?_
                have f_60 : Fld Z T_38.heap b_6 "com/example/bloodwood/bloodwood/TreeReport" "size" "I" (.int v_2) := ((Fld.ext E_37 c_7_1).keep K_38c (ninS ne_b_6_b_37 nin0))
                have f_61 : Fld Z T_38.heap b_6 "com/example/bloodwood/bloodwood/TreeReport" "height" "I" (.int v_1) := ((Fld.ext E_37 c_7_2).keep K_38c (ninS ne_b_6_b_37 nin0))
                have f_62 : Fld Z T_38.heap b_6 "com/example/bloodwood/bloodwood/TreeReport" "blackHeight" "I" (.int v_3) := ((Fld.ext E_37 c_7_3).keep K_38c (ninS ne_b_6_b_37 nin0))
                have f_63 : Fld Z T_38.heap b_6 "com/example/bloodwood/bloodwood/TreeReport" "redCount" "I" (.int v_4) := ((Fld.ext E_37 c_7_4).keep K_38c (ninS ne_b_6_b_37 nin0))
                have f_65 : Exa Z T_38.heap b_6 "com/example/bloodwood/bloodwood/TreeReport" := ((Exa.ext E_37 c_7_0).keep K_38c)
                obtain ⟨cq_64, kq_64, q_64a, q_64b, q_64c⟩ := isOf hZ rfl f_65
                obtain ⟨_, _, ⟨T_64, L_64, k_64, n_64⟩, -, X_64, ⟨Lc_64, hQ_64, l_64, y_64, z_64⟩, st_64⟩ := X_38.virtualBack hx (y := (⟨"com/example/bloodwood/bloodwood/TreeReport", "equals", "(Ljava/lang/Object;)Z"⟩ : MethodName)) (z := (⟨"com/example/bloodwood/bloodwood/TreeReport", "equals", "(Ljava/lang/Object;)Z"⟩ : MethodName)) hown (mvT hZ (hw _ (List.mem_of_getElem? (i := 25) rfl))) (mvT hZ (hw _ (List.mem_of_getElem? (i := 26) rfl))) (notFace_of_selects (args := #[]) (mvT hZ (hw _ (List.mem_of_getElem? (i := 28) rfl)))) (mvT hZ (hw _ (List.mem_of_getElem? (i := 28) rfl))) (mvT hZ (hw _ (List.mem_of_getElem? (i := 27) rfl))) (by decide) (backOf (W := 0) (rm7d l Z a0 hw [] b_6 b_37 v_2 v_1 v_3 v_4 v_14 v_15 v_16 v_17 T_38.heap n0 Z_38 c_38_0 f_60 f_61 f_62 f_63 c_38_1 c_38_2 c_38_3 c_38_4) hZ (hw _ (List.mem_of_getElem? (i := 29) rfl)) (hw _ (List.mem_of_getElem? (i := 3) rfl)) (by decide) (by decide)) q_64a q_64c (g := (mkF m 259 #[.val (.int p0), .val (.int p1), .val (.int p2), .val (.int p3), .val (.long p4), .second, .val (.long p5), .second, .val (.int v_1), .val (.int v_2), .val (.int v_3), .val (.int v_4), .val (.int v_5), .val (.ref b_6), .val (.int v_14), .val (.int v_15), .val (.int v_16), .val (.int v_17), .val (.ref b_37), .val (.int (0 : Int32))] [(.ref b_37), (.ref b_6)])) rfl (by rw [hml]; rfl) (Steps.refl _) (argsL := [(.ref b_37)]) (rest := []) (lenOf pd_5 rfl) rfl (by show 2 * 0 + _ ≤ _; exact Nat.le_of_eq rfl) (hb hby at_259) (fun _ _ => ⟨rfl, rfl, (by decide : 2 + 0 ≤ _), (by decide : 8 + 0 ≤ _)⟩)
                dsimp only [Pt.U, Pt.locs, Pt.cells, Pt.slots] at X_64 l_64 y_64 z_64 st_64 hQ_64
                subst l_64 y_64 z_64
                obtain ⟨rfl, M_64, q_64⟩ := hQ_64
                have N_64 := Fr.app N_38 M_64
                refine own_st (S' := T_64.setTop (mkF m 262 #[.val (.int p0), .val (.int p1), .val (.int p2), .val (.int p3), .val (.long p4), .second, .val (.long p5), .second, .val (.int v_1), .val (.int v_2), .val (.int v_3), .val (.int v_4), .val (.int v_5), .val (.ref b_6), .val (.int v_14), .val (.int v_15), .val (.int v_16), .val (.int v_17), .val (.ref b_37), .val (.int (0 : Int32))] [(.int (own_eq v_2 v_1 v_3 v_4 v_14 v_15 v_16 v_17))])) (fun t_ k_ => st_64.trans k_) ?_
                refine own_st (S' := T_64.setTop (mkF m 264 #[.val (.int p0), .val (.int p1), .val (.int p2), .val (.int p3), .val (.long p4), .second, .val (.long p5), .second, .val (.int v_1), .val (.int v_2), .val (.int v_3), .val (.int v_4), .val (.int v_5), .val (.ref b_6), .val (.int v_14), .val (.int v_15), .val (.int v_16), .val (.int v_17), .val (.ref b_37), .val (.int (0 : Int32))] [(.int (0 : Int32)), (.int (own_eq v_2 v_1 v_3 v_4 v_14 v_15 v_16 v_17))])) (fun t_ k_ => XS.iload X_64.here hx rfl (hb hby at_262) rfl k_) ?_
                by_cases hc264 : (own_eq v_2 v_1 v_3 v_4 v_14 v_15 v_16 v_17) = (0 : Int32)
                · refine own_st (S' := T_64.setTop (mkF m 267 #[.val (.int p0), .val (.int p1), .val (.int p2), .val (.int p3), .val (.long p4), .second, .val (.long p5), .second, .val (.int v_1), .val (.int v_2), .val (.int v_3), .val (.int v_4), .val (.int v_5), .val (.ref b_6), .val (.int v_14), .val (.int v_15), .val (.int v_16), .val (.int v_17), .val (.ref b_37), .val (.int (0 : Int32))] [])) (fun t_ k_ => XS.icmpNo X_64.here hx rfl (hb hby at_264) rfl (teq hc264).2 k_) ?_
                  refine own_st (S' := T_64.setTop (mkF m 269 #[.val (.int p0), .val (.int p1), .val (.int p2), .val (.int p3), .val (.long p4), .second, .val (.long p5), .second, .val (.int v_1), .val (.int v_2), .val (.int v_3), .val (.int v_4), .val (.int v_5), .val (.ref b_6), .val (.int v_14), .val (.int v_15), .val (.int v_16), .val (.int v_17), .val (.ref b_37), .val (.int (0 : Int32))] [(.ref b_37)])) (fun t_ k_ => XS.aload X_64.here hx rfl (hb hby at_267) rfl rfl k_) ?_
                  refine own_st (S' := T_64.setTop (mkF m 271 #[.val (.int p0), .val (.int p1), .val (.int p2), .val (.int p3), .val (.long p4), .second, .val (.long p5), .second, .val (.int v_1), .val (.int v_2), .val (.int v_3), .val (.int v_4), .val (.int v_5), .val (.ref b_6), .val (.int v_14), .val (.int v_15), .val (.int v_16), .val (.int v_17), .val (.ref b_37), .val (.int (0 : Int32))] [(.ref b_6), (.ref b_37)])) (fun t_ k_ => XS.aload X_64.here hx rfl (hb hby at_269) rfl rfl k_) ?_
                  obtain ⟨cq_66, kq_66, q_66a, q_66b, q_66c⟩ := isOf hZ q_64 c_38_0
                  obtain ⟨_, _, ⟨T_66, L_66, k_66, n_66⟩, -, X_66, ⟨Lc_66, hQ_66, l_66, y_66, z_66⟩, st_66⟩ := X_64.virtualBack hx (y := (⟨"com/example/bloodwood/bloodwood/TreeReport", "equals", "(Ljava/lang/Object;)Z"⟩ : MethodName)) (z := (⟨"com/example/bloodwood/bloodwood/TreeReport", "equals", "(Ljava/lang/Object;)Z"⟩ : MethodName)) hown (mvT hZ (hw _ (List.mem_of_getElem? (i := 25) rfl))) (mvT hZ (hw _ (List.mem_of_getElem? (i := 26) rfl))) (notFace_of_selects (args := #[]) (mvT hZ (hw _ (List.mem_of_getElem? (i := 28) rfl)))) (mvT hZ (hw _ (List.mem_of_getElem? (i := 28) rfl))) (mvT hZ (hw _ (List.mem_of_getElem? (i := 27) rfl))) (by decide) (backOf (W := 0) (rm7d l Z a0 hw [] b_37 b_6 v_14 v_15 v_16 v_17 v_2 v_1 v_3 v_4 T_38.heap n0 Z_38 f_65 c_38_1 c_38_2 c_38_3 c_38_4 f_60 f_61 f_62 f_63) hZ (hw _ (List.mem_of_getElem? (i := 29) rfl)) (hw _ (List.mem_of_getElem? (i := 3) rfl)) (by decide) (by decide)) q_66a q_66c (g := (mkF m 271 #[.val (.int p0), .val (.int p1), .val (.int p2), .val (.int p3), .val (.long p4), .second, .val (.long p5), .second, .val (.int v_1), .val (.int v_2), .val (.int v_3), .val (.int v_4), .val (.int v_5), .val (.ref b_6), .val (.int v_14), .val (.int v_15), .val (.int v_16), .val (.int v_17), .val (.ref b_37), .val (.int (0 : Int32))] [(.ref b_6), (.ref b_37)])) rfl (by rw [hml]; rfl) (Steps.refl _) (argsL := [(.ref b_6)]) (rest := []) (lenOf pd_5 rfl) rfl (by show 2 * 0 + _ ≤ _; exact Nat.le_of_eq rfl) (hb hby at_271) (fun _ _ => ⟨rfl, q_64, (by decide : 2 + 0 ≤ _), (by decide : 8 + 0 ≤ _)⟩)
                  dsimp only [Pt.U, Pt.locs, Pt.cells, Pt.slots] at X_66 l_66 y_66 z_66 st_66 hQ_66
                  subst l_66 y_66 z_66
                  obtain ⟨rfl, M_66, q_66⟩ := hQ_66
                  have N_66 := Fr.app N_64 M_66
                  refine own_st (S' := T_66.setTop (mkF m 274 #[.val (.int p0), .val (.int p1), .val (.int p2), .val (.int p3), .val (.long p4), .second, .val (.long p5), .second, .val (.int v_1), .val (.int v_2), .val (.int v_3), .val (.int v_4), .val (.int v_5), .val (.ref b_6), .val (.int v_14), .val (.int v_15), .val (.int v_16), .val (.int v_17), .val (.ref b_37), .val (.int (0 : Int32))] [(.int (own_eq v_14 v_15 v_16 v_17 v_2 v_1 v_3 v_4))])) (fun t_ k_ => st_66.trans k_) ?_
                  refine own_st (S' := T_66.setTop (mkF m 276 #[.val (.int p0), .val (.int p1), .val (.int p2), .val (.int p3), .val (.long p4), .second, .val (.long p5), .second, .val (.int v_1), .val (.int v_2), .val (.int v_3), .val (.int v_4), .val (.int v_5), .val (.ref b_6), .val (.int v_14), .val (.int v_15), .val (.int v_16), .val (.int v_17), .val (.ref b_37), .val (.int (0 : Int32))] [(.int (0 : Int32)), (.int (own_eq v_14 v_15 v_16 v_17 v_2 v_1 v_3 v_4))])) (fun t_ k_ => XS.iload X_66.here hx rfl (hb hby at_274) rfl k_) ?_
                  by_cases hc276 : (own_eq v_14 v_15 v_16 v_17 v_2 v_1 v_3 v_4) = (0 : Int32)
                  · refine own_st (S' := T_66.setTop (mkF m 279 #[.val (.int p0), .val (.int p1), .val (.int p2), .val (.int p3), .val (.long p4), .second, .val (.long p5), .second, .val (.int v_1), .val (.int v_2), .val (.int v_3), .val (.int v_4), .val (.int v_5), .val (.ref b_6), .val (.int v_14), .val (.int v_15), .val (.int v_16), .val (.int v_17), .val (.ref b_37), .val (.int (0 : Int32))] [])) (fun t_ k_ => XS.icmpNo X_66.here hx rfl (hb hby at_276) rfl (teq hc276).2 k_) ?_
                    refine own_st (S' := T_66.setTop (mkF m 280 #[.val (.int p0), .val (.int p1), .val (.int p2), .val (.int p3), .val (.long p4), .second, .val (.long p5), .second, .val (.int v_1), .val (.int v_2), .val (.int v_3), .val (.int v_4), .val (.int v_5), .val (.ref b_6), .val (.int v_14), .val (.int v_15), .val (.int v_16), .val (.int v_17), .val (.ref b_37), .val (.int (0 : Int32))] [(.int (1 : Int32))])) (fun t_ k_ => XS.iconst X_66.here hx rfl (hb hby at_279) k_) ?_
                    refine own_st (S' := T_66.setTop (mkF m 284 #[.val (.int p0), .val (.int p1), .val (.int p2), .val (.int p3), .val (.long p4), .second, .val (.long p5), .second, .val (.int v_1), .val (.int v_2), .val (.int v_3), .val (.int v_4), .val (.int v_5), .val (.ref b_6), .val (.int v_14), .val (.int v_15), .val (.int v_16), .val (.int v_17), .val (.ref b_37), .val (.int (0 : Int32))] [(.int (1 : Int32))])) (fun t_ k_ => XS.goto X_66.here hx rfl (pc0 := 280) (pc' := 284) rfl (hb hby at_280) (by decide) (by decide) k_) ?_
                    obtain ⟨fs, hr, hrun, hended, hW, hsame⟩ := X_66.leave (v := some (.int (1 : Int32))) (fun h => by rw [Bd.returns] at h; cases h)
                    refine ⟨_, _, retN X_66 hx (t := .boolean) Bd.returns (by simp) (hb hby at_284) hr, hrun, hended, _, _, rfl, ?_, ⟨_, rfl⟩, hW, hsame.mono (by decide) (by decide)⟩
                    show Q0 Z p0 p1 p2 p3 p4 p5 ca cc h0 n0 _ T_66.heap _
                    rw [q_66]
                    exact ⟨rfl, N_66⟩
                  · exact absurd (by rw [own_eqc]; simp [own_eq, hc224, hc231]) hc276
                · exact absurd (by simp [own_eq, hc224, hc231]) hc264
            · refine own_st (S' := T_38.setTop (mkF m 252 #[.val (.int p0), .val (.int p1), .val (.int p2), .val (.int p3), .val (.long p4), .second, .val (.long p5), .second, .val (.int v_1), .val (.int v_2), .val (.int v_3), .val (.int v_4), .val (.int v_5), .val (.ref b_6), .val (.int v_14), .val (.int v_15), .val (.int v_16), .val (.int v_17), .val (.ref b_37), .unset] [])) (fun t_ k_ => XS.icmpYes X_38.here hx rfl (pc0 := 224) (pc' := 252) rfl (hb hby at_224) rfl (feq hc224).2 (by decide) (by decide) k_) ?_
              refine own_st (S' := T_38.setTop (mkF m 253 #[.val (.int p0), .val (.int p1), .val (.int p2), .val (.int p3), .val (.long p4), .second, .val (.long p5), .second, .val (.int v_1), .val (.int v_2), .val (.int v_3), .val (.int v_4), .val (.int v_5), .val (.ref b_6), .val (.int v_14), .val (.int v_15), .val (.int v_16), .val (.int v_17), .val (.ref b_37), .unset] [(.int (0 : Int32))])) (fun t_ k_ => XS.iconst X_38.here hx rfl (hb hby at_252) k_) ?_
              refine own_st (S' := T_38.setTop (mkF m 255 #[.val (.int p0), .val (.int p1), .val (.int p2), .val (.int p3), .val (.long p4), .second, .val (.long p5), .second, .val (.int v_1), .val (.int v_2), .val (.int v_3), .val (.int v_4), .val (.int v_5), .val (.ref b_6), .val (.int v_14), .val (.int v_15), .val (.int v_16), .val (.int v_17), .val (.ref b_37), .val (.int (0 : Int32))] [])) (fun t_ k_ => XS.istore X_38.here hx rfl (hb hby at_253) rfl (l' := #[.val (.int p0), .val (.int p1), .val (.int p2), .val (.int p3), .val (.long p4), .second, .val (.long p5), .second, .val (.int v_1), .val (.int v_2), .val (.int v_3), .val (.int v_4), .val (.int v_5), .val (.ref b_6), .val (.int v_14), .val (.int v_15), .val (.int v_16), .val (.int v_17), .val (.ref b_37), .val (.int (0 : Int32))]) rfl k_) ?_
              refine own_st (S' := T_38.setTop (mkF m 257 #[.val (.int p0), .val (.int p1), .val (.int p2), .val (.int p3), .val (.long p4), .second, .val (.long p5), .second, .val (.int v_1), .val (.int v_2), .val (.int v_3), .val (.int v_4), .val (.int v_5), .val (.ref b_6), .val (.int v_14), .val (.int v_15), .val (.int v_16), .val (.int v_17), .val (.ref b_37), .val (.int (0 : Int32))] [(.ref b_6)])) (fun t_ k_ => XS.aload X_38.here hx rfl (hb hby at_255) rfl rfl k_) ?_
              refine own_st (S' := T_38.setTop (mkF m 259 #[.val (.int p0), .val (.int p1), .val (.int p2), .val (.int p3), .val (.long p4), .second, .val (.long p5), .second, .val (.int v_1), .val (.int v_2), .val (.int v_3), .val (.int v_4), .val (.int v_5), .val (.ref b_6), .val (.int v_14), .val (.int v_15), .val (.int v_16), .val (.int v_17), .val (.ref b_37), .val (.int (0 : Int32))] [(.ref b_37), (.ref b_6)])) (fun t_ k_ => XS.aload X_38.here hx rfl (hb hby at_257) rfl rfl k_) ?_
              have f_67 : Fld Z T_38.heap b_6 "com/example/bloodwood/bloodwood/TreeReport" "size" "I" (.int v_2) := ((Fld.ext E_37 c_7_1).keep K_38c (ninS ne_b_6_b_37 nin0))
              have f_68 : Fld Z T_38.heap b_6 "com/example/bloodwood/bloodwood/TreeReport" "height" "I" (.int v_1) := ((Fld.ext E_37 c_7_2).keep K_38c (ninS ne_b_6_b_37 nin0))
              have f_69 : Fld Z T_38.heap b_6 "com/example/bloodwood/bloodwood/TreeReport" "blackHeight" "I" (.int v_3) := ((Fld.ext E_37 c_7_3).keep K_38c (ninS ne_b_6_b_37 nin0))
              have f_70 : Fld Z T_38.heap b_6 "com/example/bloodwood/bloodwood/TreeReport" "redCount" "I" (.int v_4) := ((Fld.ext E_37 c_7_4).keep K_38c (ninS ne_b_6_b_37 nin0))
              have f_72 : Exa Z T_38.heap b_6 "com/example/bloodwood/bloodwood/TreeReport" := ((Exa.ext E_37 c_7_0).keep K_38c)
              obtain ⟨cq_71, kq_71, q_71a, q_71b, q_71c⟩ := isOf hZ rfl f_72
              obtain ⟨_, _, ⟨T_71, L_71, k_71, n_71⟩, -, X_71, ⟨Lc_71, hQ_71, l_71, y_71, z_71⟩, st_71⟩ := X_38.virtualBack hx (y := (⟨"com/example/bloodwood/bloodwood/TreeReport", "equals", "(Ljava/lang/Object;)Z"⟩ : MethodName)) (z := (⟨"com/example/bloodwood/bloodwood/TreeReport", "equals", "(Ljava/lang/Object;)Z"⟩ : MethodName)) hown (mvT hZ (hw _ (List.mem_of_getElem? (i := 25) rfl))) (mvT hZ (hw _ (List.mem_of_getElem? (i := 26) rfl))) (notFace_of_selects (args := #[]) (mvT hZ (hw _ (List.mem_of_getElem? (i := 28) rfl)))) (mvT hZ (hw _ (List.mem_of_getElem? (i := 28) rfl))) (mvT hZ (hw _ (List.mem_of_getElem? (i := 27) rfl))) (by decide) (backOf (W := 0) (rm7d l Z a0 hw [] b_6 b_37 v_2 v_1 v_3 v_4 v_14 v_15 v_16 v_17 T_38.heap n0 Z_38 c_38_0 f_67 f_68 f_69 f_70 c_38_1 c_38_2 c_38_3 c_38_4) hZ (hw _ (List.mem_of_getElem? (i := 29) rfl)) (hw _ (List.mem_of_getElem? (i := 3) rfl)) (by decide) (by decide)) q_71a q_71c (g := (mkF m 259 #[.val (.int p0), .val (.int p1), .val (.int p2), .val (.int p3), .val (.long p4), .second, .val (.long p5), .second, .val (.int v_1), .val (.int v_2), .val (.int v_3), .val (.int v_4), .val (.int v_5), .val (.ref b_6), .val (.int v_14), .val (.int v_15), .val (.int v_16), .val (.int v_17), .val (.ref b_37), .val (.int (0 : Int32))] [(.ref b_37), (.ref b_6)])) rfl (by rw [hml]; rfl) (Steps.refl _) (argsL := [(.ref b_37)]) (rest := []) (lenOf pd_5 rfl) rfl (by show 2 * 0 + _ ≤ _; exact Nat.le_of_eq rfl) (hb hby at_259) (fun _ _ => ⟨rfl, rfl, (by decide : 2 + 0 ≤ _), (by decide : 8 + 0 ≤ _)⟩)
              dsimp only [Pt.U, Pt.locs, Pt.cells, Pt.slots] at X_71 l_71 y_71 z_71 st_71 hQ_71
              subst l_71 y_71 z_71
              obtain ⟨rfl, M_71, q_71⟩ := hQ_71
              have N_71 := Fr.app N_38 M_71
              refine own_st (S' := T_71.setTop (mkF m 262 #[.val (.int p0), .val (.int p1), .val (.int p2), .val (.int p3), .val (.long p4), .second, .val (.long p5), .second, .val (.int v_1), .val (.int v_2), .val (.int v_3), .val (.int v_4), .val (.int v_5), .val (.ref b_6), .val (.int v_14), .val (.int v_15), .val (.int v_16), .val (.int v_17), .val (.ref b_37), .val (.int (0 : Int32))] [(.int (own_eq v_2 v_1 v_3 v_4 v_14 v_15 v_16 v_17))])) (fun t_ k_ => st_71.trans k_) ?_
              refine own_st (S' := T_71.setTop (mkF m 264 #[.val (.int p0), .val (.int p1), .val (.int p2), .val (.int p3), .val (.long p4), .second, .val (.long p5), .second, .val (.int v_1), .val (.int v_2), .val (.int v_3), .val (.int v_4), .val (.int v_5), .val (.ref b_6), .val (.int v_14), .val (.int v_15), .val (.int v_16), .val (.int v_17), .val (.ref b_37), .val (.int (0 : Int32))] [(.int (0 : Int32)), (.int (own_eq v_2 v_1 v_3 v_4 v_14 v_15 v_16 v_17))])) (fun t_ k_ => XS.iload X_71.here hx rfl (hb hby at_262) rfl k_) ?_
              by_cases hc264 : (own_eq v_2 v_1 v_3 v_4 v_14 v_15 v_16 v_17) = (0 : Int32)
              · refine own_st (S' := T_71.setTop (mkF m 267 #[.val (.int p0), .val (.int p1), .val (.int p2), .val (.int p3), .val (.long p4), .second, .val (.long p5), .second, .val (.int v_1), .val (.int v_2), .val (.int v_3), .val (.int v_4), .val (.int v_5), .val (.ref b_6), .val (.int v_14), .val (.int v_15), .val (.int v_16), .val (.int v_17), .val (.ref b_37), .val (.int (0 : Int32))] [])) (fun t_ k_ => XS.icmpNo X_71.here hx rfl (hb hby at_264) rfl (teq hc264).2 k_) ?_
                refine own_st (S' := T_71.setTop (mkF m 269 #[.val (.int p0), .val (.int p1), .val (.int p2), .val (.int p3), .val (.long p4), .second, .val (.long p5), .second, .val (.int v_1), .val (.int v_2), .val (.int v_3), .val (.int v_4), .val (.int v_5), .val (.ref b_6), .val (.int v_14), .val (.int v_15), .val (.int v_16), .val (.int v_17), .val (.ref b_37), .val (.int (0 : Int32))] [(.ref b_37)])) (fun t_ k_ => XS.aload X_71.here hx rfl (hb hby at_267) rfl rfl k_) ?_
                refine own_st (S' := T_71.setTop (mkF m 271 #[.val (.int p0), .val (.int p1), .val (.int p2), .val (.int p3), .val (.long p4), .second, .val (.long p5), .second, .val (.int v_1), .val (.int v_2), .val (.int v_3), .val (.int v_4), .val (.int v_5), .val (.ref b_6), .val (.int v_14), .val (.int v_15), .val (.int v_16), .val (.int v_17), .val (.ref b_37), .val (.int (0 : Int32))] [(.ref b_6), (.ref b_37)])) (fun t_ k_ => XS.aload X_71.here hx rfl (hb hby at_269) rfl rfl k_) ?_
                obtain ⟨cq_73, kq_73, q_73a, q_73b, q_73c⟩ := isOf hZ q_71 c_38_0
                obtain ⟨_, _, ⟨T_73, L_73, k_73, n_73⟩, -, X_73, ⟨Lc_73, hQ_73, l_73, y_73, z_73⟩, st_73⟩ := X_71.virtualBack hx (y := (⟨"com/example/bloodwood/bloodwood/TreeReport", "equals", "(Ljava/lang/Object;)Z"⟩ : MethodName)) (z := (⟨"com/example/bloodwood/bloodwood/TreeReport", "equals", "(Ljava/lang/Object;)Z"⟩ : MethodName)) hown (mvT hZ (hw _ (List.mem_of_getElem? (i := 25) rfl))) (mvT hZ (hw _ (List.mem_of_getElem? (i := 26) rfl))) (notFace_of_selects (args := #[]) (mvT hZ (hw _ (List.mem_of_getElem? (i := 28) rfl)))) (mvT hZ (hw _ (List.mem_of_getElem? (i := 28) rfl))) (mvT hZ (hw _ (List.mem_of_getElem? (i := 27) rfl))) (by decide) (backOf (W := 0) (rm7d l Z a0 hw [] b_37 b_6 v_14 v_15 v_16 v_17 v_2 v_1 v_3 v_4 T_38.heap n0 Z_38 f_72 c_38_1 c_38_2 c_38_3 c_38_4 f_67 f_68 f_69 f_70) hZ (hw _ (List.mem_of_getElem? (i := 29) rfl)) (hw _ (List.mem_of_getElem? (i := 3) rfl)) (by decide) (by decide)) q_73a q_73c (g := (mkF m 271 #[.val (.int p0), .val (.int p1), .val (.int p2), .val (.int p3), .val (.long p4), .second, .val (.long p5), .second, .val (.int v_1), .val (.int v_2), .val (.int v_3), .val (.int v_4), .val (.int v_5), .val (.ref b_6), .val (.int v_14), .val (.int v_15), .val (.int v_16), .val (.int v_17), .val (.ref b_37), .val (.int (0 : Int32))] [(.ref b_6), (.ref b_37)])) rfl (by rw [hml]; rfl) (Steps.refl _) (argsL := [(.ref b_6)]) (rest := []) (lenOf pd_5 rfl) rfl (by show 2 * 0 + _ ≤ _; exact Nat.le_of_eq rfl) (hb hby at_271) (fun _ _ => ⟨rfl, q_71, (by decide : 2 + 0 ≤ _), (by decide : 8 + 0 ≤ _)⟩)
                dsimp only [Pt.U, Pt.locs, Pt.cells, Pt.slots] at X_73 l_73 y_73 z_73 st_73 hQ_73
                subst l_73 y_73 z_73
                obtain ⟨rfl, M_73, q_73⟩ := hQ_73
                have N_73 := Fr.app N_71 M_73
                refine own_st (S' := T_73.setTop (mkF m 274 #[.val (.int p0), .val (.int p1), .val (.int p2), .val (.int p3), .val (.long p4), .second, .val (.long p5), .second, .val (.int v_1), .val (.int v_2), .val (.int v_3), .val (.int v_4), .val (.int v_5), .val (.ref b_6), .val (.int v_14), .val (.int v_15), .val (.int v_16), .val (.int v_17), .val (.ref b_37), .val (.int (0 : Int32))] [(.int (own_eq v_14 v_15 v_16 v_17 v_2 v_1 v_3 v_4))])) (fun t_ k_ => st_73.trans k_) ?_
                refine own_st (S' := T_73.setTop (mkF m 276 #[.val (.int p0), .val (.int p1), .val (.int p2), .val (.int p3), .val (.long p4), .second, .val (.long p5), .second, .val (.int v_1), .val (.int v_2), .val (.int v_3), .val (.int v_4), .val (.int v_5), .val (.ref b_6), .val (.int v_14), .val (.int v_15), .val (.int v_16), .val (.int v_17), .val (.ref b_37), .val (.int (0 : Int32))] [(.int (0 : Int32)), (.int (own_eq v_14 v_15 v_16 v_17 v_2 v_1 v_3 v_4))])) (fun t_ k_ => XS.iload X_73.here hx rfl (hb hby at_274) rfl k_) ?_
                by_cases hc276 : (own_eq v_14 v_15 v_16 v_17 v_2 v_1 v_3 v_4) = (0 : Int32)
                · refine own_st (S' := T_73.setTop (mkF m 279 #[.val (.int p0), .val (.int p1), .val (.int p2), .val (.int p3), .val (.long p4), .second, .val (.long p5), .second, .val (.int v_1), .val (.int v_2), .val (.int v_3), .val (.int v_4), .val (.int v_5), .val (.ref b_6), .val (.int v_14), .val (.int v_15), .val (.int v_16), .val (.int v_17), .val (.ref b_37), .val (.int (0 : Int32))] [])) (fun t_ k_ => XS.icmpNo X_73.here hx rfl (hb hby at_276) rfl (teq hc276).2 k_) ?_
                  refine own_st (S' := T_73.setTop (mkF m 280 #[.val (.int p0), .val (.int p1), .val (.int p2), .val (.int p3), .val (.long p4), .second, .val (.long p5), .second, .val (.int v_1), .val (.int v_2), .val (.int v_3), .val (.int v_4), .val (.int v_5), .val (.ref b_6), .val (.int v_14), .val (.int v_15), .val (.int v_16), .val (.int v_17), .val (.ref b_37), .val (.int (0 : Int32))] [(.int (1 : Int32))])) (fun t_ k_ => XS.iconst X_73.here hx rfl (hb hby at_279) k_) ?_
                  refine own_st (S' := T_73.setTop (mkF m 284 #[.val (.int p0), .val (.int p1), .val (.int p2), .val (.int p3), .val (.long p4), .second, .val (.long p5), .second, .val (.int v_1), .val (.int v_2), .val (.int v_3), .val (.int v_4), .val (.int v_5), .val (.ref b_6), .val (.int v_14), .val (.int v_15), .val (.int v_16), .val (.int v_17), .val (.ref b_37), .val (.int (0 : Int32))] [(.int (1 : Int32))])) (fun t_ k_ => XS.goto X_73.here hx rfl (pc0 := 280) (pc' := 284) rfl (hb hby at_280) (by decide) (by decide) k_) ?_
                  obtain ⟨fs, hr, hrun, hended, hW, hsame⟩ := X_73.leave (v := some (.int (1 : Int32))) (fun h => by rw [Bd.returns] at h; cases h)
                  refine ⟨_, _, retN X_73 hx (t := .boolean) Bd.returns (by simp) (hb hby at_284) hr, hrun, hended, _, _, rfl, ?_, ⟨_, rfl⟩, hW, hsame.mono (by decide) (by decide)⟩
                  show Q0 Z p0 p1 p2 p3 p4 p5 ca cc h0 n0 _ T_73.heap _
                  rw [q_73]
                  exact ⟨rfl, N_73⟩
                · exact absurd (by rw [own_eqc]; simp [own_eq, hc224]) hc276
              · exact absurd (by simp [own_eq, hc224]) hc264
set_option maxRecDepth 65536 in
set_option maxHeartbeats 40000000 in
theorem comes_1 {Post : Tables → Env → Array Value → State → Outcome → State → Prop} (hpost : ∀ tb e args s v u, (limb_1_1.after args s (.returned v) u = true ∧ limb_1_2.after args s (.returned v) u = true ∧ True) → FrameEnd s (.returned v) u (Jvm.fieldLocs frame_1_writes args s ++ Jvm.arrayLocs frame_1_arrays args s ++ Jvm.staticLocs frame_1_statics s) 16 128 → Post tb e args s (.returned v) u) :
    ArmFor flags0 classFile x code maxLocals ret World_1 tables_1 room_1 Calls_1 rest_1 Pre_1 Post := by
  intro l hfl _ _ p e ha hc hk s m args below hf hA hF happ hP
  obtain ⟨hcalls, hrest, hpre⟩ := hP
  obtain ⟨-, -, -, hnamed, -, -, -, hat⟩ := (Spec.applies_iff hf).mp happ
  obtain ⟨hg, hn⟩ := and_e (Cond.before_iff.mp (show (Jvm.Cond.and given_1 narrow_1).before args s = true from hpre))
  obtain ⟨hcount, ht0⟩ := and_e hg
  obtain ⟨ha0, ht1⟩ := and_e ht0
  obtain ⟨ha1, ht2⟩ := and_e ht1
  obtain ⟨ha2, ht3⟩ := and_e ht2
  obtain ⟨ha3, ht4⟩ := and_e ht3
  obtain ⟨ha4, ht5⟩ := and_e ht4
  obtain ⟨w0, w1, w2, w3, w4, w5, rfl⟩ : ∃ w0 w1 w2 w3 w4 w5 : Value, args = #[w0, w1, w2, w3, w4, w5] := by
    have hs : args.size = 6 := by simpa [Cond.value, given_1] using hcount
    obtain ⟨L⟩ := args
    match L, hs with
    | [w0, w1, w2, w3, w4, w5], _ => exact ⟨w0, w1, w2, w3, w4, w5, rfl⟩
  have hw := fun d (hd : d ∈ tables_1) => atoms_spec (ws := Jvm.Cond.code x code maxLocals ret :: tables_1) hat d (List.mem_cons_of_mem _ hd)
  have hfit : Fit s := fun {y c} hc i hi => by
    obtain ⟨ha, rfl⟩ := Array.getElem?_eq_some_iff.mp hc
    have q := List.all_eq_true.mp ((Array.all_eq_true_iff_forall_mem.mp hF) _ (Array.getElem_mem ha)) i (List.mem_range.mpr hi)
    simpa [Array.getElem?_eq_getElem hi] using q
  obtain ⟨hsets, hown0⟩ := atoms_of _ (rest_1_c_eq ▸ (show rest_1_c.before _ s = true from hrest))
  have hr0 := Cond.before_iff.mp hown0
  obtain ⟨i0, ei0⟩ := is_v ha0
  obtain rfl : w0 = (.int i0) := Option.some.inj ei0
  obtain ⟨i1, ei1⟩ := is_v ha1
  obtain rfl : w1 = (.int i1) := Option.some.inj ei1
  obtain ⟨i2, ei2⟩ := is_v ha2
  obtain rfl : w2 = (.int i2) := Option.some.inj ei2
  obtain ⟨i3, ei3⟩ := is_v ha3
  obtain rfl : w3 = (.int i3) := Option.some.inj ei3
  obtain ⟨i4, ei4⟩ := isL_v ha4
  obtain rfl : w4 = (.long i4) := Option.some.inj ei4
  obtain ⟨i5, ei5⟩ := isL_v ht5
  obtain rfl : w5 = (.long i5) := Option.some.inj ei5
  have evh := own_intv (Cond.before_iff.mp (hsets _ (List.mem_of_getElem? (i := 3) rfl)))
  have Sh := Sta.start evh (Or.inl (hsets _ (List.mem_of_getElem? (i := 1) rfl)))
  obtain ⟨ca, evc⟩ := arr_v (Cond.before_iff.mp (hsets _ (List.mem_of_getElem? (i := 4) rfl)))
  have Sc := Sta.start evc (Or.inr ⟨(hw _ (List.mem_of_getElem? (i := 41) rfl)), (hsets _ (List.mem_of_getElem? (i := 2) rfl))⟩)
  obtain ⟨cc, Ac⟩ := Arr.start evc (Cond.before_iff.mp (hsets _ (List.mem_of_getElem? (i := 4) rfl)))
  have HB := own_box Ac (fun idx => evc) (Cond.before_iff.mp (hsets _ (List.mem_of_getElem? (i := 6) rfl))) (Cond.before_iff.mp (hsets _ (List.mem_of_getElem? (i := 7) rfl)))
  obtain ⟨n, o, h1, h2, h3, _, L, rfl, ⟨rfl, N⟩, hq⟩ := rm0 l s _ hw tables_1 i0 i1 i2 i3 i4 i5 ca cc s.heap s.heap.size (Nat.le_refl _) Sh Sc (Old.start s) HB p e ha hc hk s m _ below hf ((Spec.applies_iff_loose hf).mp happ).1 ⟨rfl, State.Warmed39.refl s, rfl⟩ trivial
  refine ⟨n, _, h1, h2, h3, hpost _ _ _ _ _ _ ⟨Cond.after_iff.mpr rfl, Cond.after_iff.mpr (eq_i res_at (Term.int_eval (1)) rfl), trivial⟩ ⟨hq.1, hq.2.1, (hq.2.2.sift fun y hy => Or.inr (N y hy)).mono (by decide) (by decide)⟩⟩
theorem main_1_1 : Claimed_1_1 := comes_1 fun _ _ _ _ _ _ h hF => ⟨h.1, hF⟩
theorem main_1_2 : Claimed_1_2 := comes_1 fun _ _ _ _ _ _ h hF => ⟨h.2.1, hF⟩
end Jvm.Pilot.@@N@@
namespace Jvm.Pilot.@@N@@
open Jvm Jvm.ClassFile Sem Op Lib Jvm.Free Jvm.Stand Jvm.Pilot.@@N@@.Jvm.D
/-! MADE BY PROGRAM (witnessworld.py) out of the Statement's table words and the real class files: 16 classes; the members and pool entries that the words name. The judged class is class 1, her method 2. -/
namespace start1
open Jvm.ClassFile
def u (s : String) : CpInfo := .utf8 (stringToUtf16 s)
/-- a pool by its gaps: so many unusable entries, then the entry; so many at the end -/
def gap : Nat → List CpInfo → List CpInfo
  | 0, r => r
  | n + 1, r => .unusable :: gap n r
def poolList (es : List (Nat × CpInfo)) (last : Nat) : List CpInfo := es.foldr (fun e r => gap e.1 (e.2 :: r)) (gap last [])
def pool (es : List (Nat × CpInfo)) (last : Nat) : Array CpInfo := ⟨poolList es last⟩
def fileOf (pool : Array CpInfo) (this : Nat) (attrs : Array Attribute := #[]) (ms : Array MethodInfo := #[]) (fl : Nat := 33) (sup : Nat := 0) (ifs : Array Nat := #[]) (fds : Array FieldInfo := #[]) : ClassFile where
  minorVersion := 0
  majorVersion := 65
  constantPool := pool
  accessFlags := fl
  thisClass := this
  superClass := sup
  interfaces := ifs
  fields := fds
  methods := ms
  attributes := attrs
def plain (name : String) (sup : Option ClassId) : Class where
  name := name
  kind := .ordinary
  loader := none
  accessFlags := 33
  super := sup
  interfaces := #[]
  cf := none
  fields := #[]
  methods := #[]
  instanceTypes := #[]
  staticTypes := #[]
  resolved := #[]
  callSites := []
  init := .initialized
  statics := none
  mirror := none

def pool0 : Array CpInfo := pool [(5, u "<init>"), (0, u "()V"), (1, .class_ 10), (1, u "java/lang/Object")] 113

def k0c0 : Code := { maxStack := 0, maxLocals := 1, code := object_method_1_code, exceptionTable := #[], attributes := #[] }
def k0m0 : Method := { name := "<init>", desc := "()V", sig := { parameters := [], returnType := none }, accessFlags := 1, code := some k0c0 }
/-- java/lang/Object -/
def k0 : Class := { plain "java/lang/Object" none with
  accessFlags := 33
  interfaces := #[]
  cf := some (fileOf pool0 8 #[] #[{ accessFlags := 1, nameIndex := 5, descriptorIndex := 6, attributes := #[] }] 33 0 #[] #[])
  fields := #[]
  methods := #[k0m0]
  instanceTypes := #[]
  staticTypes := #[]
  resolved := Array.replicate 124 none
  statics := none }

def pool1 : Array CpInfo := pool [(2, .class_ 4), (1, u "java/lang/Object"), (0, u "<init>"), (0, u "()V"), (0, .integer 2147483647), (0, .class_ 9), (0, u "com/example/bloodwood/bloodwood/TreeReport"), (0, .methodref 8 11), (0, .nameAndType 5 12), (0, u "(IIII)V"), (0, .methodref 8 14), (0, .nameAndType 15 16), (0, u "equals"), (0, u "(Ljava/lang/Object;)Z"), (0, .methodref 18 19), (0, .class_ 20), (0, .nameAndType 21 22), (0, u "java/lang/Integer"), (0, u "valueOf"), (0, u "(I)Ljava/lang/Integer;"), (0, .methodref 24 25), (0, .class_ 26), (0, .nameAndType 27 28), (0, u "com/example/bloodwood/bloodwood/TreeReportEqualsPinLaw"), (0, u "fits"), (0, u "(IIII)Z"), (3, u "law"), (0, u "(IIIIJJ)Z")] 2

def k1m0 : Method := { name := "<init>", desc := "()V", sig := { parameters := [], returnType := none }, accessFlags := 1, code := none }
def k1c1 : Code := { maxStack := 3, maxLocals := 4, code := method_2_code, exceptionTable := #[], attributes := #[] }
def k1m1 : Method := { name := "fits", desc := "(IIII)Z", sig := { parameters := [.int, .int, .int, .int], returnType := some .boolean }, accessFlags := 10, code := some k1c1 }
def k1c2 : Code := { maxStack := 6, maxLocals := 20, code := code, exceptionTable := #[], attributes := #[] }
def k1m2 : Method := { name := "law", desc := "(IIIIJJ)Z", sig := { parameters := [.int, .int, .int, .int, .long, .long], returnType := some .boolean }, accessFlags := 9, code := some k1c2 }
/-- com/example/bloodwood/bloodwood/TreeReportEqualsPinLaw -/
def k1 : Class := { plain "com/example/bloodwood/bloodwood/TreeReportEqualsPinLaw" (some 0) with
  accessFlags := 49
  interfaces := #[]
  cf := some (fileOf pool1 24 #[] #[{ accessFlags := 1, nameIndex := 5, descriptorIndex := 6, attributes := #[] }, { accessFlags := 10, nameIndex := 27, descriptorIndex := 28, attributes := #[] }, { accessFlags := 9, nameIndex := 32, descriptorIndex := 33, attributes := #[] }] 49 2 #[] #[])
  fields := #[]
  methods := #[k1m0, k1m1, k1m2]
  instanceTypes := #[]
  staticTypes := #[]
  resolved := Array.replicate 36 none
  statics := none }

def pool2 : Array CpInfo := pool [(1, .methodref 2 3), (0, .class_ 4), (0, .nameAndType 5 6), (0, u "java/lang/Object"), (0, u "<init>"), (0, u "()V"), (0, .methodref 8 9), (0, .class_ 10), (0, .nameAndType 11 12), (0, u "com/example/bloodwood/bloodwood/TreeReport"), (0, u "findProblem"), (0, u "(IIII)Ljava/lang/String;"), (12, .fieldref 8 26), (0, .nameAndType 27 28), (0, u "size"), (0, u "I"), (0, .fieldref 8 30), (0, .nameAndType 31 28), (0, u "height"), (0, .fieldref 8 33), (0, .nameAndType 34 28), (0, u "blackHeight"), (0, .fieldref 8 36), (0, .nameAndType 37 28), (0, u "redCount"), (3, u "(I)I"), (7, u "numberOfLeadingZeros"), (2, .class_ 54), (1, u "java/lang/Integer"), (21, .methodref 52 77), (0, .nameAndType 49 41), (2, u "(IIII)V"), (6, u "equals"), (0, u "(Ljava/lang/Object;)Z")] 26

def k2c0 : Code := { maxStack := 7, maxLocals := 6, code := prog_2_method_1_code, exceptionTable := #[], attributes := #[] }
def k2m0 : Method := { name := "<init>", desc := "(IIII)V", sig := { parameters := [.int, .int, .int, .int], returnType := none }, accessFlags := 1, code := some k2c0 }
def k2c1 : Code := { maxStack := 2, maxLocals := 3, code := prog_2_method_8_code, exceptionTable := #[], attributes := #[] }
def k2m1 : Method := { name := "equals", desc := "(Ljava/lang/Object;)Z", sig := { parameters := [(.object "java/lang/Object")], returnType := some .boolean }, accessFlags := 1, code := some k2c1 }
def k2c2 : Code := { maxStack := 3, maxLocals := 5, code := prog_2_method_12_code, exceptionTable := #[], attributes := #[] }
def k2m2 : Method := { name := "findProblem", desc := "(IIII)Ljava/lang/String;", sig := { parameters := [.int, .int, .int, .int], returnType := some (.object "java/lang/String") }, accessFlags := 10, code := some k2c2 }
/-- com/example/bloodwood/bloodwood/TreeReport -/
def k2 : Class := { plain "com/example/bloodwood/bloodwood/TreeReport" (some 0) with
  accessFlags := 49
  interfaces := #[]
  cf := some (fileOf pool2 8 #[] #[{ accessFlags := 1, nameIndex := 5, descriptorIndex := 80, attributes := #[] }, { accessFlags := 1, nameIndex := 87, descriptorIndex := 88, attributes := #[] }, { accessFlags := 10, nameIndex := 11, descriptorIndex := 12, attributes := #[] }] 49 2 #[] #[{ accessFlags := 18, nameIndex := 27, descriptorIndex := 28, attributes := #[] }, { accessFlags := 18, nameIndex := 31, descriptorIndex := 28, attributes := #[] }, { accessFlags := 18, nameIndex := 34, descriptorIndex := 28, attributes := #[] }, { accessFlags := 18, nameIndex := 37, descriptorIndex := 28, attributes := #[] }])
  fields := #[{ name := "size", type := .int, accessFlags := 18, slot := 0, constantValue := 0 }, { name := "height", type := .int, accessFlags := 18, slot := 1, constantValue := 0 }, { name := "blackHeight", type := .int, accessFlags := 18, slot := 2, constantValue := 0 }, { name := "redCount", type := .int, accessFlags := 18, slot := 3, constantValue := 0 }]
  methods := #[k2m0, k2m1, k2m2]
  instanceTypes := #[.int, .int, .int, .int]
  staticTypes := #[]
  resolved := Array.replicate 115 none
  statics := none }

def pool3 : Array CpInfo := pool [(1, .class_ 2), (0, u "java/io/Serializable"), (0, .class_ 4), (0, u "java/lang/Object")] 2

/-- java/io/Serializable -/
def k3 : Class := { plain "java/io/Serializable" (some 0) with
  accessFlags := 1537
  interfaces := #[]
  cf := some (fileOf pool3 1 #[] #[] 1537 3 #[] #[])
  fields := #[]
  methods := #[]
  instanceTypes := #[]
  staticTypes := #[]
  resolved := Array.replicate 7 none
  statics := none }

def pool4 : Array CpInfo := pool [(1, .methodref 2 3), (0, .class_ 4), (0, .nameAndType 5 6), (0, u "java/lang/Object"), (0, u "<init>"), (0, u "()V"), (1, .class_ 10), (1, u "java/lang/Number"), (2, .class_ 14), (0, u "java/io/Serializable"), (0, u "serialVersionUID"), (0, u "J")] 20

def k4c0 : Code := { maxStack := 1, maxLocals := 1, code := jdk_18_method_1_code, exceptionTable := #[], attributes := #[] }
def k4m0 : Method := { name := "<init>", desc := "()V", sig := { parameters := [], returnType := none }, accessFlags := 1, code := some k4c0 }
/-- java/lang/Number -/
def k4 : Class := { plain "java/lang/Number" (some 0) with
  accessFlags := 1057
  interfaces := #[3]
  cf := some (fileOf pool4 8 #[] #[{ accessFlags := 1, nameIndex := 5, descriptorIndex := 6, attributes := #[] }] 1057 2 #[13] #[{ accessFlags := 26, nameIndex := 15, descriptorIndex := 16, attributes := #[] }])
  fields := #[{ name := "serialVersionUID", type := .long, accessFlags := 26, slot := 0, constantValue := 0 }]
  methods := #[k4m0]
  instanceTypes := #[]
  staticTypes := #[.long]
  resolved := Array.replicate 37 none
  statics := none }

def pool5 : Array CpInfo := pool [(1, .class_ 2), (0, u "java/lang/Comparable"), (0, .class_ 4), (0, u "java/lang/Object")] 7

/-- java/lang/Comparable -/
def k5 : Class := { plain "java/lang/Comparable" (some 0) with
  accessFlags := 1537
  interfaces := #[]
  cf := some (fileOf pool5 1 #[] #[] 1537 3 #[] #[])
  fields := #[]
  methods := #[]
  instanceTypes := #[]
  staticTypes := #[]
  resolved := Array.replicate 12 none
  statics := none }

def pool6 : Array CpInfo := pool [(1, .class_ 2), (0, u "java/lang/constant/Constable"), (0, .class_ 4), (0, u "java/lang/Object")] 6

/-- java/lang/constant/Constable -/
def k6 : Class := { plain "java/lang/constant/Constable" (some 0) with
  accessFlags := 1537
  interfaces := #[]
  cf := some (fileOf pool6 1 #[] #[] 1537 3 #[] #[])
  fields := #[]
  methods := #[]
  instanceTypes := #[]
  staticTypes := #[]
  resolved := Array.replicate 11 none
  statics := none }

def pool7 : Array CpInfo := pool [(1, .class_ 2), (0, u "java/lang/constant/ConstantDesc"), (0, .class_ 4), (0, u "java/lang/Object")] 32

/-- java/lang/constant/ConstantDesc -/
def k7 : Class := { plain "java/lang/constant/ConstantDesc" (some 0) with
  accessFlags := 1537
  interfaces := #[]
  cf := some (fileOf pool7 1 #[] #[] 1537 3 #[] #[])
  fields := #[]
  methods := #[]
  instanceTypes := #[]
  staticTypes := #[]
  resolved := Array.replicate 37 none
  statics := none }

def pool8 : Array CpInfo := pool [(1, .class_ 2), (0, u "java/lang/Integer"), (16, u "digits"), (0, u "[C"), (32, u "numberOfLeadingZeros"), (0, u "(I)I"), (12, u "<init>"), (17, u "DigitOnes"), (0, u "[B"), (2, u "DigitTens"), (10, .nameAndType 67 101), (0, u "()V"), (85, u "valueOf"), (0, u "(I)Ljava/lang/Integer;"), (0, .class_ 190), (0, u "java/lang/Integer$IntegerCache"), (0, .fieldref 189 192), (0, .nameAndType 193 194), (0, u "high"), (0, u "I"), (0, .fieldref 189 196), (0, .nameAndType 197 198), (0, u "cache"), (0, u "[Ljava/lang/Integer;"), (0, .methodref 1 200), (0, .nameAndType 67 201), (0, u "(I)V"), (0, .methodref 203 100), (0, .class_ 204), (0, u "java/lang/Number"), (0, .fieldref 1 206), (0, .nameAndType 207 194), (0, u "value"), (56, .integer 65536), (37, u "TYPE"), (0, u "Ljava/lang/Class;"), (0, .class_ 305), (0, u "java/lang/Comparable"), (0, .class_ 307), (0, u "java/lang/constant/Constable"), (0, .class_ 309), (0, u "java/lang/constant/ConstantDesc"), (0, u "MIN_VALUE"), (1, u "MAX_VALUE"), (3, u "SIZE"), (1, u "BYTES"), (1, u "serialVersionUID"), (0, u "J")] 131

def k8c0 : Code := { maxStack := 3, maxLocals := 1, code := jdk_33_method_22_code, exceptionTable := #[], attributes := #[] }
def k8m0 : Method := { name := "valueOf", desc := "(I)Ljava/lang/Integer;", sig := { parameters := [.int], returnType := some (.object "java/lang/Integer") }, accessFlags := 9, code := some k8c0 }
def k8c1 : Code := { maxStack := 2, maxLocals := 2, code := jdk_33_method_23_code, exceptionTable := #[], attributes := #[] }
def k8m1 : Method := { name := "<init>", desc := "(I)V", sig := { parameters := [.int], returnType := none }, accessFlags := 1, code := some k8c1 }
def k8c2 : Code := { maxStack := 3, maxLocals := 2, code := jdk_33_method_47_code, exceptionTable := #[], attributes := #[] }
def k8m2 : Method := { name := "numberOfLeadingZeros", desc := "(I)I", sig := { parameters := [.int], returnType := some .int }, accessFlags := 9, code := some k8c2 }
/-- java/lang/Integer -/
def k8 : Class := { plain "java/lang/Integer" (some 4) with
  accessFlags := 49
  interfaces := #[5, 6, 7]
  cf := some (fileOf pool8 1 #[.nestMembers #[189]] #[{ accessFlags := 9, nameIndex := 187, descriptorIndex := 188, attributes := #[] }, { accessFlags := 1, nameIndex := 67, descriptorIndex := 201, attributes := #[] }, { accessFlags := 9, nameIndex := 53, descriptorIndex := 54, attributes := #[] }] 49 203 #[304, 306, 308] #[{ accessFlags := 25, nameIndex := 310, descriptorIndex := 194, attributes := #[] }, { accessFlags := 25, nameIndex := 312, descriptorIndex := 194, attributes := #[] }, { accessFlags := 25, nameIndex := 302, descriptorIndex := 303, attributes := #[] }, { accessFlags := 24, nameIndex := 19, descriptorIndex := 20, attributes := #[] }, { accessFlags := 24, nameIndex := 89, descriptorIndex := 86, attributes := #[] }, { accessFlags := 24, nameIndex := 85, descriptorIndex := 86, attributes := #[] }, { accessFlags := 18, nameIndex := 207, descriptorIndex := 194, attributes := #[] }, { accessFlags := 25, nameIndex := 316, descriptorIndex := 194, attributes := #[] }, { accessFlags := 25, nameIndex := 318, descriptorIndex := 194, attributes := #[] }, { accessFlags := 26, nameIndex := 320, descriptorIndex := 321, attributes := #[] }])
  fields := #[{ name := "MIN_VALUE", type := .int, accessFlags := 25, slot := 0, constantValue := 0 }, { name := "MAX_VALUE", type := .int, accessFlags := 25, slot := 1, constantValue := 0 }, { name := "TYPE", type := (.object "java/lang/Class"), accessFlags := 25, slot := 2, constantValue := 0 }, { name := "digits", type := (.array .char), accessFlags := 24, slot := 3, constantValue := 0 }, { name := "DigitTens", type := (.array .byte), accessFlags := 24, slot := 4, constantValue := 0 }, { name := "DigitOnes", type := (.array .byte), accessFlags := 24, slot := 5, constantValue := 0 }, { name := "value", type := .int, accessFlags := 18, slot := 0, constantValue := 0 }, { name := "SIZE", type := .int, accessFlags := 25, slot := 6, constantValue := 0 }, { name := "BYTES", type := .int, accessFlags := 25, slot := 7, constantValue := 0 }, { name := "serialVersionUID", type := .long, accessFlags := 26, slot := 8, constantValue := 0 }]
  methods := #[k8m0, k8m1, k8m2]
  instanceTypes := #[.int]
  staticTypes := #[.int, .int, (.object "java/lang/Class"), (.array .char), (.array .byte), (.array .byte), .int, .int, .long]
  resolved := Array.replicate 453 none
  statics := none }

def pool9 : Array CpInfo := pool [(2, .class_ 4), (1, u "java/lang/Object"), (0, u "<init>"), (0, u "()V"), (0, .class_ 8), (0, u "java/lang/Integer"), (7, .class_ 18), (1, u "java/lang/Integer$IntegerCache"), (0, u "$assertionsDisabled"), (0, u "Z"), (26, u "high"), (0, u "I"), (8, u "archivedCache"), (0, u "[Ljava/lang/Integer;"), (12, u "cache"), (0, u "low")] 27

def k9m0 : Method := { name := "<init>", desc := "()V", sig := { parameters := [], returnType := none }, accessFlags := 2, code := none }
/-- java/lang/Integer$IntegerCache -/
def k9 : Class := { plain "java/lang/Integer$IntegerCache" (some 0) with
  accessFlags := 48
  interfaces := #[]
  cf := some (fileOf pool9 16 #[.nestHost 7] #[{ accessFlags := 2, nameIndex := 5, descriptorIndex := 6, attributes := #[] }] 48 2 #[] #[{ accessFlags := 24, nameIndex := 72, descriptorIndex := 48, attributes := #[] }, { accessFlags := 24, nameIndex := 47, descriptorIndex := 48, attributes := #[] }, { accessFlags := 24, nameIndex := 71, descriptorIndex := 58, attributes := #[] }, { accessFlags := 8, nameIndex := 57, descriptorIndex := 58, attributes := #[] }, { accessFlags := 4120, nameIndex := 19, descriptorIndex := 20, attributes := #[] }])
  fields := #[{ name := "low", type := .int, accessFlags := 24, slot := 0, constantValue := 0 }, { name := "high", type := .int, accessFlags := 24, slot := 1, constantValue := 0 }, { name := "cache", type := (.array (.object "java/lang/Integer")), accessFlags := 24, slot := 2, constantValue := 0 }, { name := "archivedCache", type := (.array (.object "java/lang/Integer")), accessFlags := 8, slot := 3, constantValue := 0 }, { name := "$assertionsDisabled", type := .boolean, accessFlags := 4120, slot := 4, constantValue := 0 }]
  methods := #[k9m0]
  instanceTypes := #[]
  staticTypes := #[.int, .int, (.array (.object "java/lang/Integer")), (.array (.object "java/lang/Integer")), .boolean]
  resolved := Array.replicate 100 none
  statics := some 0 }

def pool10 : Array CpInfo := pool [(1, u "java/lang/Cloneable"), (0, .class_ 1), (0, u "java/lang/Object"), (0, .class_ 3)] 3

/-- java/lang/Cloneable -/
def k10 : Class := { plain "java/lang/Cloneable" (some 0) with
  accessFlags := 1537
  interfaces := #[]
  cf := some (fileOf pool10 2 #[] #[] 1537 4 #[] #[])
  fields := #[]
  methods := #[]
  instanceTypes := #[]
  staticTypes := #[]
  resolved := Array.replicate 8 none
  statics := none }

/-- the primitive byte -/
def k11 : Class := { plain "byte" none with kind := .primitive 'B', accessFlags := 0x411 }
/-- [B -/
def k12 : Class := { plain "[B" (some 0) with kind := .array 11 .byte, interfaces := #[10, 3], accessFlags := 1041 }

/-- the primitive int -/
def k13 : Class := { plain "int" none with kind := .primitive 'I', accessFlags := 0x411 }
/-- [I -/
def k14 : Class := { plain "[I" (some 0) with kind := .array 13 .int, interfaces := #[10, 3], accessFlags := 1041 }

/-- [Ljava/lang/Integer; -/
def k15 : Class := { plain "[Ljava/lang/Integer;" (some 0) with kind := .array 8 (.object "java/lang/Integer"), interfaces := #[10, 3], accessFlags := 1041 }

def heap : Heap := #[{ cls := 9, slots := #[.int 0, .int 127, .ref 1, .null, .int 0], vm := .statics 9 },
  { cls := 15, slots := #[.ref 2, .ref 3, .ref 4, .ref 5, .ref 6, .ref 7, .ref 8, .ref 9, .ref 10, .ref 11, .ref 12, .ref 13, .ref 14, .ref 15, .ref 16, .ref 17, .ref 18, .ref 19, .ref 20, .ref 21, .ref 22, .ref 23, .ref 24, .ref 25, .ref 26, .ref 27, .ref 28, .ref 29, .ref 30, .ref 31, .ref 32, .ref 33, .ref 34, .ref 35, .ref 36, .ref 37, .ref 38, .ref 39, .ref 40, .ref 41, .ref 42, .ref 43, .ref 44, .ref 45, .ref 46, .ref 47, .ref 48, .ref 49, .ref 50, .ref 51, .ref 52, .ref 53, .ref 54, .ref 55, .ref 56, .ref 57, .ref 58, .ref 59, .ref 60, .ref 61, .ref 62, .ref 63, .ref 64, .ref 65, .ref 66, .ref 67, .ref 68, .ref 69, .ref 70, .ref 71, .ref 72, .ref 73, .ref 74, .ref 75, .ref 76, .ref 77, .ref 78, .ref 79, .ref 80, .ref 81, .ref 82, .ref 83, .ref 84, .ref 85, .ref 86, .ref 87, .ref 88, .ref 89, .ref 90, .ref 91, .ref 92, .ref 93, .ref 94, .ref 95, .ref 96, .ref 97, .ref 98, .ref 99, .ref 100, .ref 101, .ref 102, .ref 103, .ref 104, .ref 105, .ref 106, .ref 107, .ref 108, .ref 109, .ref 110, .ref 111, .ref 112, .ref 113, .ref 114, .ref 115, .ref 116, .ref 117, .ref 118, .ref 119, .ref 120, .ref 121, .ref 122, .ref 123, .ref 124, .ref 125, .ref 126, .ref 127, .ref 128, .ref 129, .ref 130, .ref 131, .ref 132, .ref 133, .ref 134, .ref 135, .ref 136, .ref 137, .ref 138, .ref 139, .ref 140, .ref 141, .ref 142, .ref 143, .ref 144, .ref 145, .ref 146, .ref 147, .ref 148, .ref 149, .ref 150, .ref 151, .ref 152, .ref 153, .ref 154, .ref 155, .ref 156, .ref 157, .ref 158, .ref 159, .ref 160, .ref 161, .ref 162, .ref 163, .ref 164, .ref 165, .ref 166, .ref 167, .ref 168, .ref 169, .ref 170, .ref 171, .ref 172, .ref 173, .ref 174, .ref 175, .ref 176, .ref 177, .ref 178, .ref 179, .ref 180, .ref 181, .ref 182, .ref 183, .ref 184, .ref 185, .ref 186, .ref 187, .ref 188, .ref 189, .ref 190, .ref 191, .ref 192, .ref 193, .ref 194, .ref 195, .ref 196, .ref 197, .ref 198, .ref 199, .ref 200, .ref 201, .ref 202, .ref 203, .ref 204, .ref 205, .ref 206, .ref 207, .ref 208, .ref 209, .ref 210, .ref 211, .ref 212, .ref 213, .ref 214, .ref 215, .ref 216, .ref 217, .ref 218, .ref 219, .ref 220, .ref 221, .ref 222, .ref 223, .ref 224, .ref 225, .ref 226, .ref 227, .ref 228, .ref 229, .ref 230, .ref 231, .ref 232, .ref 233, .ref 234, .ref 235, .ref 236, .ref 237, .ref 238, .ref 239, .ref 240, .ref 241, .ref 242, .ref 243, .ref 244, .ref 245, .ref 246, .ref 247, .ref 248, .ref 249, .ref 250, .ref 251, .ref 252, .ref 253, .ref 254, .ref 255, .ref 256, .ref 257], vm := .none },
  { cls := 8, slots := #[.int (-128)], vm := .none },
  { cls := 8, slots := #[.int (-127)], vm := .none },
  { cls := 8, slots := #[.int (-126)], vm := .none },
  { cls := 8, slots := #[.int (-125)], vm := .none },
  { cls := 8, slots := #[.int (-124)], vm := .none },
  { cls := 8, slots := #[.int (-123)], vm := .none },
  { cls := 8, slots := #[.int (-122)], vm := .none },
  { cls := 8, slots := #[.int (-121)], vm := .none },
  { cls := 8, slots := #[.int (-120)], vm := .none },
  { cls := 8, slots := #[.int (-119)], vm := .none },
  { cls := 8, slots := #[.int (-118)], vm := .none },
  { cls := 8, slots := #[.int (-117)], vm := .none },
  { cls := 8, slots := #[.int (-116)], vm := .none },
  { cls := 8, slots := #[.int (-115)], vm := .none },
  { cls := 8, slots := #[.int (-114)], vm := .none },
  { cls := 8, slots := #[.int (-113)], vm := .none },
  { cls := 8, slots := #[.int (-112)], vm := .none },
  { cls := 8, slots := #[.int (-111)], vm := .none },
  { cls := 8, slots := #[.int (-110)], vm := .none },
  { cls := 8, slots := #[.int (-109)], vm := .none },
  { cls := 8, slots := #[.int (-108)], vm := .none },
  { cls := 8, slots := #[.int (-107)], vm := .none },
  { cls := 8, slots := #[.int (-106)], vm := .none },
  { cls := 8, slots := #[.int (-105)], vm := .none },
  { cls := 8, slots := #[.int (-104)], vm := .none },
  { cls := 8, slots := #[.int (-103)], vm := .none },
  { cls := 8, slots := #[.int (-102)], vm := .none },
  { cls := 8, slots := #[.int (-101)], vm := .none },
  { cls := 8, slots := #[.int (-100)], vm := .none },
  { cls := 8, slots := #[.int (-99)], vm := .none },
  { cls := 8, slots := #[.int (-98)], vm := .none },
  { cls := 8, slots := #[.int (-97)], vm := .none },
  { cls := 8, slots := #[.int (-96)], vm := .none },
  { cls := 8, slots := #[.int (-95)], vm := .none },
  { cls := 8, slots := #[.int (-94)], vm := .none },
  { cls := 8, slots := #[.int (-93)], vm := .none },
  { cls := 8, slots := #[.int (-92)], vm := .none },
  { cls := 8, slots := #[.int (-91)], vm := .none },
  { cls := 8, slots := #[.int (-90)], vm := .none },
  { cls := 8, slots := #[.int (-89)], vm := .none },
  { cls := 8, slots := #[.int (-88)], vm := .none },
  { cls := 8, slots := #[.int (-87)], vm := .none },
  { cls := 8, slots := #[.int (-86)], vm := .none },
  { cls := 8, slots := #[.int (-85)], vm := .none },
  { cls := 8, slots := #[.int (-84)], vm := .none },
  { cls := 8, slots := #[.int (-83)], vm := .none },
  { cls := 8, slots := #[.int (-82)], vm := .none },
  { cls := 8, slots := #[.int (-81)], vm := .none },
  { cls := 8, slots := #[.int (-80)], vm := .none },
  { cls := 8, slots := #[.int (-79)], vm := .none },
  { cls := 8, slots := #[.int (-78)], vm := .none },
  { cls := 8, slots := #[.int (-77)], vm := .none },
  { cls := 8, slots := #[.int (-76)], vm := .none },
  { cls := 8, slots := #[.int (-75)], vm := .none },
  { cls := 8, slots := #[.int (-74)], vm := .none },
  { cls := 8, slots := #[.int (-73)], vm := .none },
  { cls := 8, slots := #[.int (-72)], vm := .none },
  { cls := 8, slots := #[.int (-71)], vm := .none },
  { cls := 8, slots := #[.int (-70)], vm := .none },
  { cls := 8, slots := #[.int (-69)], vm := .none },
  { cls := 8, slots := #[.int (-68)], vm := .none },
  { cls := 8, slots := #[.int (-67)], vm := .none },
  { cls := 8, slots := #[.int (-66)], vm := .none },
  { cls := 8, slots := #[.int (-65)], vm := .none },
  { cls := 8, slots := #[.int (-64)], vm := .none },
  { cls := 8, slots := #[.int (-63)], vm := .none },
  { cls := 8, slots := #[.int (-62)], vm := .none },
  { cls := 8, slots := #[.int (-61)], vm := .none },
  { cls := 8, slots := #[.int (-60)], vm := .none },
  { cls := 8, slots := #[.int (-59)], vm := .none },
  { cls := 8, slots := #[.int (-58)], vm := .none },
  { cls := 8, slots := #[.int (-57)], vm := .none },
  { cls := 8, slots := #[.int (-56)], vm := .none },
  { cls := 8, slots := #[.int (-55)], vm := .none },
  { cls := 8, slots := #[.int (-54)], vm := .none },
  { cls := 8, slots := #[.int (-53)], vm := .none },
  { cls := 8, slots := #[.int (-52)], vm := .none },
  { cls := 8, slots := #[.int (-51)], vm := .none },
  { cls := 8, slots := #[.int (-50)], vm := .none },
  { cls := 8, slots := #[.int (-49)], vm := .none },
  { cls := 8, slots := #[.int (-48)], vm := .none },
  { cls := 8, slots := #[.int (-47)], vm := .none },
  { cls := 8, slots := #[.int (-46)], vm := .none },
  { cls := 8, slots := #[.int (-45)], vm := .none },
  { cls := 8, slots := #[.int (-44)], vm := .none },
  { cls := 8, slots := #[.int (-43)], vm := .none },
  { cls := 8, slots := #[.int (-42)], vm := .none },
  { cls := 8, slots := #[.int (-41)], vm := .none },
  { cls := 8, slots := #[.int (-40)], vm := .none },
  { cls := 8, slots := #[.int (-39)], vm := .none },
  { cls := 8, slots := #[.int (-38)], vm := .none },
  { cls := 8, slots := #[.int (-37)], vm := .none },
  { cls := 8, slots := #[.int (-36)], vm := .none },
  { cls := 8, slots := #[.int (-35)], vm := .none },
  { cls := 8, slots := #[.int (-34)], vm := .none },
  { cls := 8, slots := #[.int (-33)], vm := .none },
  { cls := 8, slots := #[.int (-32)], vm := .none },
  { cls := 8, slots := #[.int (-31)], vm := .none },
  { cls := 8, slots := #[.int (-30)], vm := .none },
  { cls := 8, slots := #[.int (-29)], vm := .none },
  { cls := 8, slots := #[.int (-28)], vm := .none },
  { cls := 8, slots := #[.int (-27)], vm := .none },
  { cls := 8, slots := #[.int (-26)], vm := .none },
  { cls := 8, slots := #[.int (-25)], vm := .none },
  { cls := 8, slots := #[.int (-24)], vm := .none },
  { cls := 8, slots := #[.int (-23)], vm := .none },
  { cls := 8, slots := #[.int (-22)], vm := .none },
  { cls := 8, slots := #[.int (-21)], vm := .none },
  { cls := 8, slots := #[.int (-20)], vm := .none },
  { cls := 8, slots := #[.int (-19)], vm := .none },
  { cls := 8, slots := #[.int (-18)], vm := .none },
  { cls := 8, slots := #[.int (-17)], vm := .none },
  { cls := 8, slots := #[.int (-16)], vm := .none },
  { cls := 8, slots := #[.int (-15)], vm := .none },
  { cls := 8, slots := #[.int (-14)], vm := .none },
  { cls := 8, slots := #[.int (-13)], vm := .none },
  { cls := 8, slots := #[.int (-12)], vm := .none },
  { cls := 8, slots := #[.int (-11)], vm := .none },
  { cls := 8, slots := #[.int (-10)], vm := .none },
  { cls := 8, slots := #[.int (-9)], vm := .none },
  { cls := 8, slots := #[.int (-8)], vm := .none },
  { cls := 8, slots := #[.int (-7)], vm := .none },
  { cls := 8, slots := #[.int (-6)], vm := .none },
  { cls := 8, slots := #[.int (-5)], vm := .none },
  { cls := 8, slots := #[.int (-4)], vm := .none },
  { cls := 8, slots := #[.int (-3)], vm := .none },
  { cls := 8, slots := #[.int (-2)], vm := .none },
  { cls := 8, slots := #[.int (-1)], vm := .none },
  { cls := 8, slots := #[.int (0)], vm := .none },
  { cls := 8, slots := #[.int (1)], vm := .none },
  { cls := 8, slots := #[.int (2)], vm := .none },
  { cls := 8, slots := #[.int (3)], vm := .none },
  { cls := 8, slots := #[.int (4)], vm := .none },
  { cls := 8, slots := #[.int (5)], vm := .none },
  { cls := 8, slots := #[.int (6)], vm := .none },
  { cls := 8, slots := #[.int (7)], vm := .none },
  { cls := 8, slots := #[.int (8)], vm := .none },
  { cls := 8, slots := #[.int (9)], vm := .none },
  { cls := 8, slots := #[.int (10)], vm := .none },
  { cls := 8, slots := #[.int (11)], vm := .none },
  { cls := 8, slots := #[.int (12)], vm := .none },
  { cls := 8, slots := #[.int (13)], vm := .none },
  { cls := 8, slots := #[.int (14)], vm := .none },
  { cls := 8, slots := #[.int (15)], vm := .none },
  { cls := 8, slots := #[.int (16)], vm := .none },
  { cls := 8, slots := #[.int (17)], vm := .none },
  { cls := 8, slots := #[.int (18)], vm := .none },
  { cls := 8, slots := #[.int (19)], vm := .none },
  { cls := 8, slots := #[.int (20)], vm := .none },
  { cls := 8, slots := #[.int (21)], vm := .none },
  { cls := 8, slots := #[.int (22)], vm := .none },
  { cls := 8, slots := #[.int (23)], vm := .none },
  { cls := 8, slots := #[.int (24)], vm := .none },
  { cls := 8, slots := #[.int (25)], vm := .none },
  { cls := 8, slots := #[.int (26)], vm := .none },
  { cls := 8, slots := #[.int (27)], vm := .none },
  { cls := 8, slots := #[.int (28)], vm := .none },
  { cls := 8, slots := #[.int (29)], vm := .none },
  { cls := 8, slots := #[.int (30)], vm := .none },
  { cls := 8, slots := #[.int (31)], vm := .none },
  { cls := 8, slots := #[.int (32)], vm := .none },
  { cls := 8, slots := #[.int (33)], vm := .none },
  { cls := 8, slots := #[.int (34)], vm := .none },
  { cls := 8, slots := #[.int (35)], vm := .none },
  { cls := 8, slots := #[.int (36)], vm := .none },
  { cls := 8, slots := #[.int (37)], vm := .none },
  { cls := 8, slots := #[.int (38)], vm := .none },
  { cls := 8, slots := #[.int (39)], vm := .none },
  { cls := 8, slots := #[.int (40)], vm := .none },
  { cls := 8, slots := #[.int (41)], vm := .none },
  { cls := 8, slots := #[.int (42)], vm := .none },
  { cls := 8, slots := #[.int (43)], vm := .none },
  { cls := 8, slots := #[.int (44)], vm := .none },
  { cls := 8, slots := #[.int (45)], vm := .none },
  { cls := 8, slots := #[.int (46)], vm := .none },
  { cls := 8, slots := #[.int (47)], vm := .none },
  { cls := 8, slots := #[.int (48)], vm := .none },
  { cls := 8, slots := #[.int (49)], vm := .none },
  { cls := 8, slots := #[.int (50)], vm := .none },
  { cls := 8, slots := #[.int (51)], vm := .none },
  { cls := 8, slots := #[.int (52)], vm := .none },
  { cls := 8, slots := #[.int (53)], vm := .none },
  { cls := 8, slots := #[.int (54)], vm := .none },
  { cls := 8, slots := #[.int (55)], vm := .none },
  { cls := 8, slots := #[.int (56)], vm := .none },
  { cls := 8, slots := #[.int (57)], vm := .none },
  { cls := 8, slots := #[.int (58)], vm := .none },
  { cls := 8, slots := #[.int (59)], vm := .none },
  { cls := 8, slots := #[.int (60)], vm := .none },
  { cls := 8, slots := #[.int (61)], vm := .none },
  { cls := 8, slots := #[.int (62)], vm := .none },
  { cls := 8, slots := #[.int (63)], vm := .none },
  { cls := 8, slots := #[.int (64)], vm := .none },
  { cls := 8, slots := #[.int (65)], vm := .none },
  { cls := 8, slots := #[.int (66)], vm := .none },
  { cls := 8, slots := #[.int (67)], vm := .none },
  { cls := 8, slots := #[.int (68)], vm := .none },
  { cls := 8, slots := #[.int (69)], vm := .none },
  { cls := 8, slots := #[.int (70)], vm := .none },
  { cls := 8, slots := #[.int (71)], vm := .none },
  { cls := 8, slots := #[.int (72)], vm := .none },
  { cls := 8, slots := #[.int (73)], vm := .none },
  { cls := 8, slots := #[.int (74)], vm := .none },
  { cls := 8, slots := #[.int (75)], vm := .none },
  { cls := 8, slots := #[.int (76)], vm := .none },
  { cls := 8, slots := #[.int (77)], vm := .none },
  { cls := 8, slots := #[.int (78)], vm := .none },
  { cls := 8, slots := #[.int (79)], vm := .none },
  { cls := 8, slots := #[.int (80)], vm := .none },
  { cls := 8, slots := #[.int (81)], vm := .none },
  { cls := 8, slots := #[.int (82)], vm := .none },
  { cls := 8, slots := #[.int (83)], vm := .none },
  { cls := 8, slots := #[.int (84)], vm := .none },
  { cls := 8, slots := #[.int (85)], vm := .none },
  { cls := 8, slots := #[.int (86)], vm := .none },
  { cls := 8, slots := #[.int (87)], vm := .none },
  { cls := 8, slots := #[.int (88)], vm := .none },
  { cls := 8, slots := #[.int (89)], vm := .none },
  { cls := 8, slots := #[.int (90)], vm := .none },
  { cls := 8, slots := #[.int (91)], vm := .none },
  { cls := 8, slots := #[.int (92)], vm := .none },
  { cls := 8, slots := #[.int (93)], vm := .none },
  { cls := 8, slots := #[.int (94)], vm := .none },
  { cls := 8, slots := #[.int (95)], vm := .none },
  { cls := 8, slots := #[.int (96)], vm := .none },
  { cls := 8, slots := #[.int (97)], vm := .none },
  { cls := 8, slots := #[.int (98)], vm := .none },
  { cls := 8, slots := #[.int (99)], vm := .none },
  { cls := 8, slots := #[.int (100)], vm := .none },
  { cls := 8, slots := #[.int (101)], vm := .none },
  { cls := 8, slots := #[.int (102)], vm := .none },
  { cls := 8, slots := #[.int (103)], vm := .none },
  { cls := 8, slots := #[.int (104)], vm := .none },
  { cls := 8, slots := #[.int (105)], vm := .none },
  { cls := 8, slots := #[.int (106)], vm := .none },
  { cls := 8, slots := #[.int (107)], vm := .none },
  { cls := 8, slots := #[.int (108)], vm := .none },
  { cls := 8, slots := #[.int (109)], vm := .none },
  { cls := 8, slots := #[.int (110)], vm := .none },
  { cls := 8, slots := #[.int (111)], vm := .none },
  { cls := 8, slots := #[.int (112)], vm := .none },
  { cls := 8, slots := #[.int (113)], vm := .none },
  { cls := 8, slots := #[.int (114)], vm := .none },
  { cls := 8, slots := #[.int (115)], vm := .none },
  { cls := 8, slots := #[.int (116)], vm := .none },
  { cls := 8, slots := #[.int (117)], vm := .none },
  { cls := 8, slots := #[.int (118)], vm := .none },
  { cls := 8, slots := #[.int (119)], vm := .none },
  { cls := 8, slots := #[.int (120)], vm := .none },
  { cls := 8, slots := #[.int (121)], vm := .none },
  { cls := 8, slots := #[.int (122)], vm := .none },
  { cls := 8, slots := #[.int (123)], vm := .none },
  { cls := 8, slots := #[.int (124)], vm := .none },
  { cls := 8, slots := #[.int (125)], vm := .none },
  { cls := 8, slots := #[.int (126)], vm := .none },
  { cls := 8, slots := #[.int (127)], vm := .none }]
def classes : Array Class := #[k0, k1, k2, k3, k4, k5, k6, k7, k8, k9, k10, k11, k12, k13, k14, k15]
def interned : List (Array UInt16 × Addr) := []
def slotsUsed : Nat := 517
def theMethod : MethodId := ⟨1, 2⟩
def args0 : Array Value := #[.int 5, .int 1, .int 2, .int 3, .long 4, .long 4]
def aboutOver (below : List Frame) : State where
  vm := { classes := classes, interned := interned.toArray }
  heap := heap
  slotsUsed := slotsUsed
  threads := #[{ frames := .invoking theMethod args0 :: below }]
def below0 : List Frame := [.native { method := ⟨0, 0⟩, args := #[] }]
def about1 : State := aboutOver below0
def p0 : Program := .bare "" "" ""
def e0 : Env := launch0.env 0 0 0
theorem w_frames : about1.frames = Frame.invoking theMethod args0 :: below0 := rfl
set_option maxRecDepth 65536 in
theorem w_args : argsFit about1.vm theMethod args0 = true := by decide +kernel
set_option maxRecDepth 65536 in
theorem w_heap : heapFits about1 = true := by decide +kernel
set_option maxRecDepth 65536 in
theorem w_runnable : about1.curStatus? = some .runnable := by decide +kernel
set_option maxRecDepth 65536 in
theorem w_alone : about1.alone = true := by decide +kernel
set_option maxRecDepth 65536 in
theorem w_named : about1.methodNamed? x = some theMethod := by decide +kernel
set_option maxRecDepth 65536 in
theorem w_hears : about1.hears theMethod below0 = true := by decide +kernel
set_option maxRecDepth 65536 in
theorem w_ripe : about1.ripe theMethod args0 below0 = true := by decide +kernel
theorem w_running : about1.status = .running := rfl
set_option maxRecDepth 65536 in
theorem w_room : about1.hasRoom e0.platform room_1 = true :=
  launch0.hasRoom_least _ room_1 (by decide +kernel) (by decide +kernel) (by decide +kernel) (by decide +kernel) (by decide +kernel) (by decide +kernel)
theorem allAtoms_all (ts : List Jvm.Cond) (a : Array Jvm.Value) (st : Jvm.State) : (allAtoms ts).before a st = ts.all (fun c => c.before a st) := by
  induction ts with
  | nil => rfl
  | cons c t ih =>
    show (Jvm.Cond.and c (allAtoms t)).before a st = _
    rw [Jvm.Cond.before_and, ih, List.all_cons]
def words1 : List Jvm.Cond := Jvm.Cond.code x code maxLocals ret :: tables_1
/-- a 'code' word, met by the world's own term for the bytes: nothing is compared byte by byte -/
theorem code_word {y : MethodName} {bytes : ByteArray} {mx : Nat} {rt : Option FieldType} {a : Array Value} {s : State} {m : MethodId} {meth : Method} {c : Code} (h1 : s.methodNamed? y = some m) (h2 : s.vm.method? m = some meth) (h3 : meth.code = some c) (h4 : c.code = bytes)
    (h5 : (c.maxLocals == mx && c.exceptionTable.isEmpty && decide (c.maxStack ≤ mostOperands) && decide (meth.sig.returnType = rt) && !meth.locks && decide (parseMethodDescriptor y.desc = some meth.sig)) = true) : (Jvm.Cond.code y bytes mx rt).before a s = true := by
  simp only [Bool.and_eq_true, beq_iff_eq, Bool.not_eq_true', decide_eq_true_eq] at h5
  obtain ⟨⟨⟨⟨⟨g1, g2⟩, g3⟩, g4⟩, g5⟩, g6⟩ := h5
  simp [Cond.before, Cond.holds, Cond.value, h1, h2, h3, h4, g1, g2, g3, g4, g5, g6]
def isCode : Jvm.Cond → Bool
  | .code _ _ _ _ => true
  | _ => false
theorem all_split {L : List Jvm.Cond} {P : Jvm.Cond → Bool} (h1 : L.all (fun c => isCode c || P c) = true) (h2 : ∀ c ∈ L.filter isCode, P c = true) : L.all P = true := by
  refine List.all_eq_true.mpr fun c hc => ?_
  have h := List.all_eq_true.mp h1 c hc
  rcases Bool.eq_false_or_eq_true (isCode c) with hi | hi
  · exact h2 c (List.mem_filter.mpr ⟨hc, hi⟩)
  · simpa [hi] using h
set_option maxRecDepth 65536 in
theorem w_c0 : (Jvm.Cond.code x code maxLocals ret).before args0 about1 = true := code_word (m := ⟨1, 2⟩) (meth := k1m2) (c := k1c2) (by decide +kernel) rfl rfl rfl (by decide +kernel)
set_option maxRecDepth 65536 in
theorem w_c1 : (Jvm.Cond.code ({ cls := "com/example/bloodwood/bloodwood/TreeReport", name := "<init>", desc := "(IIII)V" } : Jvm.MethodName) prog_2_method_1_code (6 : Nat) (Option.none : Option Jvm.ClassFile.FieldType)).before args0 about1 = true := code_word (m := ⟨2, 0⟩) (meth := k2m0) (c := k2c0) (by decide +kernel) rfl rfl rfl (by decide +kernel)
set_option maxRecDepth 65536 in
theorem w_c2 : (Jvm.Cond.code ({ cls := "java/lang/Object", name := "<init>", desc := "()V" } : Jvm.MethodName) object_method_1_code (1 : Nat) (Option.none : Option Jvm.ClassFile.FieldType)).before args0 about1 = true := code_word (m := ⟨0, 0⟩) (meth := k0m0) (c := k0c0) (by decide +kernel) rfl rfl rfl (by decide +kernel)
set_option maxRecDepth 65536 in
theorem w_c3 : (Jvm.Cond.code ({ cls := "com/example/bloodwood/bloodwood/TreeReport", name := "findProblem", desc := "(IIII)Ljava/lang/String;" } : Jvm.MethodName) prog_2_method_12_code (5 : Nat) (Option.some (Jvm.ClassFile.FieldType.object "java/lang/String"))).before args0 about1 = true := code_word (m := ⟨2, 2⟩) (meth := k2m2) (c := k2c2) (by decide +kernel) rfl rfl rfl (by decide +kernel)
set_option maxRecDepth 65536 in
theorem w_c4 : (Jvm.Cond.code ({ cls := "java/lang/Integer", name := "numberOfLeadingZeros", desc := "(I)I" } : Jvm.MethodName) jdk_33_method_47_code (2 : Nat) (Option.some Jvm.ClassFile.FieldType.int)).before args0 about1 = true := code_word (m := ⟨8, 2⟩) (meth := k8m2) (c := k8c2) (by decide +kernel) rfl rfl rfl (by decide +kernel)
set_option maxRecDepth 65536 in
theorem w_c5 : (Jvm.Cond.code ({ cls := "com/example/bloodwood/bloodwood/TreeReport", name := "equals", desc := "(Ljava/lang/Object;)Z" } : Jvm.MethodName) prog_2_method_8_code (3 : Nat) (Option.some Jvm.ClassFile.FieldType.boolean)).before args0 about1 = true := code_word (m := ⟨2, 1⟩) (meth := k2m1) (c := k2c1) (by decide +kernel) rfl rfl rfl (by decide +kernel)
set_option maxRecDepth 65536 in
theorem w_c6 : (Jvm.Cond.code ({ cls := "com/example/bloodwood/bloodwood/TreeReportEqualsPinLaw", name := "fits", desc := "(IIII)Z" } : Jvm.MethodName) method_2_code (4 : Nat) (Option.some Jvm.ClassFile.FieldType.boolean)).before args0 about1 = true := code_word (m := ⟨1, 1⟩) (meth := k1m1) (c := k1c1) (by decide +kernel) rfl rfl rfl (by decide +kernel)
set_option maxRecDepth 65536 in
theorem w_c7 : (Jvm.Cond.code ({ cls := "java/lang/Integer", name := "valueOf", desc := "(I)Ljava/lang/Integer;" } : Jvm.MethodName) jdk_33_method_22_code (1 : Nat) (Option.some (Jvm.ClassFile.FieldType.object "java/lang/Integer"))).before args0 about1 = true := code_word (m := ⟨8, 0⟩) (meth := k8m0) (c := k8c0) (by decide +kernel) rfl rfl rfl (by decide +kernel)
set_option maxRecDepth 65536 in
theorem w_c8 : (Jvm.Cond.code ({ cls := "java/lang/Integer", name := "<init>", desc := "(I)V" } : Jvm.MethodName) jdk_33_method_23_code (2 : Nat) (Option.none : Option Jvm.ClassFile.FieldType)).before args0 about1 = true := code_word (m := ⟨8, 1⟩) (meth := k8m1) (c := k8c1) (by decide +kernel) rfl rfl rfl (by decide +kernel)
set_option maxRecDepth 65536 in
theorem w_c9 : (Jvm.Cond.code ({ cls := "java/lang/Number", name := "<init>", desc := "()V" } : Jvm.MethodName) jdk_18_method_1_code (1 : Nat) (Option.none : Option Jvm.ClassFile.FieldType)).before args0 about1 = true := code_word (m := ⟨4, 0⟩) (meth := k4m0) (c := k4c0) (by decide +kernel) rfl rfl rfl (by decide +kernel)
def codes1 : List Jvm.Cond := [Jvm.Cond.code x code maxLocals ret, Jvm.Cond.code ({ cls := "com/example/bloodwood/bloodwood/TreeReport", name := "<init>", desc := "(IIII)V" } : Jvm.MethodName) prog_2_method_1_code (6 : Nat) (Option.none : Option Jvm.ClassFile.FieldType), Jvm.Cond.code ({ cls := "java/lang/Object", name := "<init>", desc := "()V" } : Jvm.MethodName) object_method_1_code (1 : Nat) (Option.none : Option Jvm.ClassFile.FieldType), Jvm.Cond.code ({ cls := "com/example/bloodwood/bloodwood/TreeReport", name := "findProblem", desc := "(IIII)Ljava/lang/String;" } : Jvm.MethodName) prog_2_method_12_code (5 : Nat) (Option.some (Jvm.ClassFile.FieldType.object "java/lang/String")), Jvm.Cond.code ({ cls := "java/lang/Integer", name := "numberOfLeadingZeros", desc := "(I)I" } : Jvm.MethodName) jdk_33_method_47_code (2 : Nat) (Option.some Jvm.ClassFile.FieldType.int), Jvm.Cond.code ({ cls := "com/example/bloodwood/bloodwood/TreeReport", name := "equals", desc := "(Ljava/lang/Object;)Z" } : Jvm.MethodName) prog_2_method_8_code (3 : Nat) (Option.some Jvm.ClassFile.FieldType.boolean), Jvm.Cond.code ({ cls := "com/example/bloodwood/bloodwood/TreeReportEqualsPinLaw", name := "fits", desc := "(IIII)Z" } : Jvm.MethodName) method_2_code (4 : Nat) (Option.some Jvm.ClassFile.FieldType.boolean), Jvm.Cond.code ({ cls := "java/lang/Integer", name := "valueOf", desc := "(I)Ljava/lang/Integer;" } : Jvm.MethodName) jdk_33_method_22_code (1 : Nat) (Option.some (Jvm.ClassFile.FieldType.object "java/lang/Integer")), Jvm.Cond.code ({ cls := "java/lang/Integer", name := "<init>", desc := "(I)V" } : Jvm.MethodName) jdk_33_method_23_code (2 : Nat) (Option.none : Option Jvm.ClassFile.FieldType), Jvm.Cond.code ({ cls := "java/lang/Number", name := "<init>", desc := "()V" } : Jvm.MethodName) jdk_18_method_1_code (1 : Nat) (Option.none : Option Jvm.ClassFile.FieldType)]
set_option maxRecDepth 65536 in
theorem codes_eq : words1.filter isCode = codes1 := rfl
theorem w_codes : ∀ c ∈ words1.filter isCode, c.before args0 about1 = true := by
  rw [codes_eq]
  intro c hc
  simp only [codes1, List.mem_cons, List.not_mem_nil, or_false] at hc
  rcases hc with rfl | rfl | rfl | rfl | rfl | rfl | rfl | rfl | rfl | rfl
  · exact w_c0
  · exact w_c1
  · exact w_c2
  · exact w_c3
  · exact w_c4
  · exact w_c5
  · exact w_c6
  · exact w_c7
  · exact w_c8
  · exact w_c9
set_option maxRecDepth 65536 in
theorem w_t1 : (words1.take 24).all (fun c => isCode c || c.before args0 about1) = true := by decide +kernel
set_option maxRecDepth 65536 in
theorem w_t2 : ((words1.drop 24).take 24).all (fun c => isCode c || c.before args0 about1) = true := by decide +kernel
set_option maxRecDepth 65536 in
theorem w_t3 : ((words1.drop 24).drop 24).all (fun c => isCode c || c.before args0 about1) = true := by decide +kernel
theorem w_tables : (allAtoms (Jvm.Cond.code x code maxLocals ret :: tables_1)).before args0 about1 = true := by
  rw [allAtoms_all]
  show words1.all (fun c => c.before args0 about1) = true
  refine all_split ?_ w_codes
  rw [← List.take_append_drop 24 words1, List.all_append, w_t1, ← List.take_append_drop 24 (words1.drop 24), List.all_append, w_t2, w_t3]
  rfl
set_option maxRecDepth 65536 in
theorem w_rest : rest_1_c.before args0 about1 = true := by decide +kernel
set_option maxRecDepth 65536 in
theorem w_case : (Jvm.Cond.and given_1 narrow_1).before args0 about1 = true := by decide +kernel
theorem w_applies : (headSpec (Jvm.Cond.code x code maxLocals ret :: tables_1) room_1).applies x e0.platform about1 = true :=
  (Spec.applies_iff w_frames).mpr ⟨w_running, w_runnable, w_alone, w_named, w_hears, w_ripe, w_room, w_tables⟩
theorem atStart : AtStart classFile x code maxLocals ret World_1 tables_1 room_1 Calls_1 rest_1 Pre_1 launch0 p0 e0 about1 theMethod args0 below0 :=
  ⟨lists_1, trivial, launch0.admits_env _ _ _, launch0.least_env, fairChoices_fair.cas, fairChoices_fair.clock, w_frames, w_args, w_heap, w_applies, trivial, w_rest, w_case⟩
end start1
theorem witness_1 : WitnessClaimed_1 := ⟨start1.p0, start1.e0, start1.about1, start1.theMethod, start1.args0, start1.below0, start1.atStart⟩
end Jvm.Pilot.@@N@@
