import JvmDerived
import JvmDerived.Pilot.@@N@@Statement
import JvmDerived.Pilot.@@N@@Code
set_option linter.unusedVariables false
set_option linter.unusedSimpArgs false
namespace Jvm.RoadKit
open Sem ClassFile Op Lib Jvm.Stand Jvm.Free Jvm.LawKit
section New
variable {p : Program} {l : Launch} {e : Env} {R : Room} {s : State} {m : MethodId} {args : Array Value} {below : List Frame} {meth : Method} {c : Code} {T : State} {locs : List Loc} {cells slots : Nat}
theorem retI (X : Stand p l e R s m args below meth c T locs cells slots) (hx : p.tables.exec = Jvm.exec) {pc : Nat} {Ls : Array Slot} {z : Int32} {rest : List Value} (hret : meth.sig.returnType = some .int) (hd : decode c.code pc = .ok (.ireturn, 1)) {fs : List Frame}
    (hl : ∀ (f : JFrame) (acts : List Action), f.method = m → f.locked = none → f.entered = [] → (doReturn e (T.setTop f) acts (some (.int z))).1 = T.setFrames fs) : Steps p.tables e below (T.setTop (mkF m pc Ls (.int z :: rest))) (T.setFrames fs) :=
  retOut X hx hret rfl (Or.inl ⟨rfl, Or.inl rfl, _, rfl⟩) hd hl
theorem own_retJ (X : Stand p l e R s m args below meth c T locs cells slots) (hx : p.tables.exec = Jvm.exec) {pc : Nat} {Ls : Array Slot} {z : Int64} {rest : List Value} (hret : meth.sig.returnType = some .long) (hd : decode c.code pc = .ok (.lreturn, 1)) {fs : List Frame}
    (hl : ∀ (f : JFrame) (acts : List Action), f.method = m → f.locked = none → f.entered = [] → (doReturn e (T.setTop f) acts (some (.long z))).1 = T.setFrames fs) : Steps p.tables e below (T.setTop (mkF m pc Ls (.long z :: rest))) (T.setFrames fs) :=
  retOut X hx hret rfl (Or.inr (Or.inl ⟨rfl, rfl, _, rfl⟩)) hd hl
theorem own_retD (X : Stand p l e R s m args below meth c T locs cells slots) (hx : p.tables.exec = Jvm.exec) {pc : Nat} {Ls : Array Slot} {z : UInt64} {rest : List Value} (hret : meth.sig.returnType = some .double) (hd : decode c.code pc = .ok (.dreturn, 1)) {fs : List Frame}
    (hl : ∀ (f : JFrame) (acts : List Action), f.method = m → f.locked = none → f.entered = [] → (doReturn e (T.setTop f) acts (some (.double z))).1 = T.setFrames fs) : Steps p.tables e below (T.setTop (mkF m pc Ls (.double z :: rest))) (T.setFrames fs) :=
  retOut X hx hret rfl (Or.inr (Or.inr (Or.inl ⟨rfl, rfl, _, rfl⟩))) hd hl
theorem own_retR (X : Stand p l e R s m args below meth c T locs cells slots) (hx : p.tables.exec = Jvm.exec) {pc : Nat} {Ls : Array Slot} {w : Value} {t : FieldType} {rest : List Value} (hret : meth.sig.returnType = some t) (ht : t.isReference = true) (hv : w.isRef = true) (hd : decode c.code pc = .ok (.areturn, 1)) {fs : List Frame}
    (hl : ∀ (f : JFrame) (acts : List Action), f.method = m → f.locked = none → f.entered = [] → (doReturn e (T.setTop f) acts (some w)).1 = T.setFrames fs) : Steps p.tables e below (T.setTop (mkF m pc Ls (w :: rest))) (T.setFrames fs) :=
  retOut X hx hret (by rcases ref_cases hv with rfl | ⟨a, rfl⟩ <;> cases t <;> first | rfl | cases ht) (Or.inr (Or.inr (Or.inr (Or.inr ⟨rfl, ht, hv⟩)))) hd hl
end New
section Own
variable {p : Program} {e : Env} {below : List Frame}
/-- the run from S ends as P says -/
def own_Gl (p : Program) (e : Env) (below : List Frame) (P : Outcome → State → Prop) (S : State) : Prop := ∃ s₂ o, Steps p.tables e below S s₂ ∧ s₂.status = .running ∧ Ended s₂ below o ∧ P o s₂
theorem own_gl {P : Outcome → State → Prop} {S : State} (h : own_Gl p e below P S) : ∃ s₂ o, Steps p.tables e below S s₂ ∧ s₂.status = .running ∧ Ended s₂ below o ∧ P o s₂ := h
theorem own_st {P : Outcome → State → Prop} {S S' : State} (h : ∀ t, Steps p.tables e below S' t → Steps p.tables e below S t) (k : own_Gl p e below P S') : own_Gl p e below P S := by
  obtain ⟨s₂, o, h1, h2⟩ := k
  exact ⟨s₂, o, h _ h1, h2⟩
theorem own_cast {P : Outcome → State → Prop} {S S' : State} (h : S' = S) (k : own_Gl p e below P S') : own_Gl p e below P S := h ▸ k
theorem own_join {P : Outcome → State → Prop} {S : State} {α : Type} {F : α → State} {H : α → Prop} (J : ∀ x, H x → own_Gl p e below P (F x)) (k : (∀ x, H x → own_Gl p e below P (F x)) → own_Gl p e below P S) : own_Gl p e below P S := k J
theorem own_selfsel {s : State} {args : Array Value} {y : MethodName} {n : Nat} (wi : (Cond.instantiable y.cls n).before args s = true) (wp : (Cond.privateMethod y).before args s = true) (hinst : (Cond.instanceMethod y).before args s = true) (hy : y.cls ≠ "java/lang/invoke/MethodHandle" ∧ y.cls ≠ "java/lang/invoke/VarHandle") : (Cond.selects y.cls y y).before args s = true := by
  obtain ⟨c, k, h1, h2, -, h3, -⟩ := Cond.instantiable_spec wi
  exact selects_self_of_private h1 h2 (by simp only [Bool.or_eq_false_iff] at h3; exact h3.1) (Cond.privateMethod_at wp) hinst hy
/-- a place of an array is written, whatever it holds -/
theorem own_arv_any {Z : State} {h h' : Heap} {a : Addr} {c : Cell} {k : ClassId} {ty : FieldType} {z j : Int32} {vs : List Value} {dv v : Value} (A : Arr Z h a c ty) (q1 : c.cls = k) (S : c.slots.size = z.toNatClampNeg) (q3 : ¬ z < 0) (H : Has c vs dv) (G : ∀ i, i < c.slots.size → fits ty (vs.getD i dv) = true) (hv : fits ty v = true) (W : Wr h h' a j.toNatClampNeg v) (hj : ¬ (j < 0 ∨ c.slots.size ≤ j.toNatClampNeg)) : ∃ vs', Arv Z h' a k ty z vs' dv := by
  have F : Arv Z h a k ty z (vs ++ List.replicate z.toNatClampNeg dv) dv := Arv.pad ⟨c, A, q1, S, q3, H, G⟩ (pad_rep vs dv _)
  obtain ⟨c', A', r1, r2, r3, r4, r5⟩ := F
  cases A.1.symm.trans A'.1
  exact ⟨_, Arv.set A' r1 r2 r3 r4 r5 hv W j.toNatClampNeg rfl (by
    have q := Nat.lt_of_not_le fun y => hj (Or.inr y)
    rw [S] at q
    simp only [List.length_append, List.length_replicate]
    omega)⟩
end Own
end Jvm.RoadKit

namespace Jvm.Pilot.@@N@@
open Jvm Jvm.ClassFile Sem Op Lib Jvm.Free Jvm.Stand Jvm.LawKit Jvm.RoadKit Bundle Jvm.Pilot.@@N@@.Jvm.D

def own_lmin (x y : Int64) : Int64 := if y < x then y else x
def own_lmax (x y : Int64) : Int64 := if x < y then y else x
theorem own_n (x : Int32) : ¬ (x &&& (63 : Int32)) < 0 ∧ ¬ (63 : Int32) < (x &&& (63 : Int32)) := by
  have h := c_mask x 63 6 (by decide) (by decide)
  rw [Int32.lt_iff_toInt_lt, Int32.lt_iff_toInt_lt]
  have e : (0 : Int32).toInt = 0 ∧ (63 : Int32).toInt = 63 := by decide
  rw [e.1, e.2]
  omega
theorem own_nat {n : Int32} (h0 : ¬ n < 0) : n.toInt = n.toNatClampNeg := nat_of h0
theorem own_rng {n : Int32} (h0 : ¬ n < 0) (h1 : ¬ (63 : Int32) < n) : 0 ≤ n.toInt ∧ n.toInt ≤ 63 := by
  rw [Int32.lt_iff_toInt_lt] at h0 h1
  have e : (0 : Int32).toInt = 0 ∧ (63 : Int32).toInt = 63 := by decide
  omega
theorem own_cap {n : Int32} (h0 : ¬ n < 0) (h1 : ¬ (63 : Int32) < n) : n.toNatClampNeg ≤ 63 := by
  have a := own_nat h0
  have b := own_rng h0 h1
  omega
theorem own_big {n : Int32} (h0 : ¬ n < 0) (h1 : ¬ (63 : Int32) < n) : ¬ (1048576 : Int32) < n := by
  have b := own_rng h0 h1
  rw [Int32.lt_iff_toInt_lt]
  have e : (1048576 : Int32).toInt = 1048576 := by decide
  omega
theorem own_fit4 {n : Int32} (h0 : ¬ n < 0) (h : ¬ ((16 : Int32) - (12 : Int32)) < n) : 12 + n.toNatClampNeg ≤ 16 := by
  have a := own_nat h0
  rw [Int32.lt_iff_toInt_lt] at h
  have e : ((16 : Int32) - (12 : Int32)).toInt = 4 := by decide
  omega
/-- the length to which the writer grows -/
def own_len (n : Int32) : Int32 := (own_lmax ((12 : Int32).toInt64 + n.toInt64) (own_lmin ((2 : Int64) * (16 : Int32).toInt64) (2147483639 : Int64))).toInt32
theorem own_need {n : Int32} (h0 : ¬ n < 0) (h1 : ¬ (63 : Int32) < n) : ((12 : Int32).toInt64 + n.toInt64).toInt = 12 + n.toInt := by
  have b := own_rng h0 h1
  have c := c_ladd (12 : Int32).toInt64 n.toInt64
  have d := c_i2l n
  have e : ((12 : Int32).toInt64).toInt = 12 := by decide
  have r := rng64 ((12 : Int32).toInt64 + n.toInt64)
  omega
theorem own_small {n : Int32} (h0 : ¬ n < 0) (h1 : ¬ (63 : Int32) < n) : ¬ (2147483639 : Int64) < ((12 : Int32).toInt64 + n.toInt64) := by
  have a := own_need h0 h1
  have b := own_rng h0 h1
  rw [Int64.lt_iff_toInt_lt, a]
  have e : (2147483639 : Int64).toInt = 2147483639 := by decide
  omega
theorem own_lenI {n : Int32} (h0 : ¬ n < 0) (h1 : ¬ (63 : Int32) < n) : 32 ≤ (own_len n).toInt ∧ (own_len n).toInt ≤ 75 ∧ 12 + n.toInt ≤ (own_len n).toInt := by
  have a := own_need h0 h1
  have b := own_rng h0 h1
  have e : own_lmin ((2 : Int64) * (16 : Int32).toInt64) (2147483639 : Int64) = 32 := by decide
  have z : (32 : Int64).toInt = 32 := by decide
  unfold own_len
  rw [e]
  have c := c_l2i (own_lmax ((12 : Int32).toInt64 + n.toInt64) 32)
  have r := rng32 (own_lmax ((12 : Int32).toInt64 + n.toInt64) 32).toInt32
  have m : (own_lmax ((12 : Int32).toInt64 + n.toInt64) 32).toInt = if 12 + n.toInt < 32 then 32 else 12 + n.toInt := by
    unfold own_lmax
    by_cases h : 12 + n.toInt < 32
    · rw [if_pos (by rw [Int64.lt_iff_toInt_lt, a, z]; exact h), if_pos h, z]
    · rw [if_neg (by rw [Int64.lt_iff_toInt_lt, a, z]; exact h), if_neg h, a]
  rw [m] at c
  split at c <;> omega
theorem own_lenF {n : Int32} (h0 : ¬ n < 0) (h1 : ¬ (63 : Int32) < n) : ¬ own_len n = 16 ∧ ¬ own_len n < 0 ∧ ¬ (75 : Int32) < own_len n ∧ ¬ own_len n < 16 := by
  have a := own_lenI h0 h1
  rw [← Int32.toInt_inj, Int32.lt_iff_toInt_lt, Int32.lt_iff_toInt_lt, Int32.lt_iff_toInt_lt]
  have e : (0 : Int32).toInt = 0 ∧ (16 : Int32).toInt = 16 ∧ (75 : Int32).toInt = 75 := by decide
  omega
theorem own_fitN {n N : Int32} (h0 : ¬ n < 0) (h1 : ¬ (63 : Int32) < n) (hN : N = own_len n) : 12 + n.toNatClampNeg ≤ N.toNatClampNeg := by
  subst hN
  have a := own_lenI h0 h1
  have b := own_nat h0
  have c := own_nat (own_lenF h0 h1).2.1
  omega
theorem own_cap75 {n : Int32} (h0 : ¬ n < 0) (h1 : ¬ (75 : Int32) < n) : n.toNatClampNeg ≤ 75 := by
  have a := own_nat h0
  rw [Int32.lt_iff_toInt_lt] at h1
  have e : (75 : Int32).toInt = 75 := by decide
  omega

theorem d1_0 : decode prog_15_method_6_code 0 = .ok (.bipush 12, 2) := by decide +kernel
theorem d1_2 : decode prog_15_method_6_code 2 = .ok (.aload_n 0, 1) := by decide +kernel
theorem d1_3 : decode prog_15_method_6_code 3 = .ok (.ifnonnull 7, 3) := by decide +kernel
theorem d1_6 : decode prog_15_method_6_code 6 = .ok (.iconst 0, 1) := by decide +kernel
theorem d1_7 : decode prog_15_method_6_code 7 = .ok (.goto 5, 3) := by decide +kernel
theorem d1_12 : decode prog_15_method_6_code 12 = .ok (.iadd, 1) := by decide +kernel
theorem d1_13 : decode prog_15_method_6_code 13 = .ok (.ireturn, 1) := by decide +kernel
theorem pn_0 : plainName "quorumline/Entry" = true := by first | (simp [plainName, overriddenIn]; done) | decide +kernel
theorem ef_1a (m : MethodId)  : entryFrame m #[.null] 1 = mkF m 0 #[.val .null] [] := by first | (simp [entryFrame, mkF, argsToLocals, Value.category]; done) | rfl
def Q1a (Z : State)  (h0 : Heap) (n0 : Nat) (v_ : Option Value) (h_ : Heap) (L_ : List Loc) : Prop := v_ = some (.int (12 : Int32)) ∧ Fr n0 L_ ∧ h_ = h0
set_option maxRecDepth 65536 in
set_option maxHeartbeats 40000000 in
theorem rm1a (l : Launch) (Z : State) (a0 : Array Value) (hw : ∀ d ∈ tables_1, d.before a0 Z = true) (ws : List Jvm.Cond)  (h0 : Heap) (n0 : Nat) (Z0 : n0 ≤ h0.size)  :
    MetFree l (⟨"quorumline/Entry", "bytes", "([B)I"⟩ : MethodName) (head1 (Jvm.Cond.code (⟨"quorumline/Entry", "bytes", "([B)I"⟩ : MethodName) prog_15_method_6_code 1 (some .int) :: ws) ({ frames := 0, cells := 0, slots := 0, locals := 0 } : Room)) (fun ar_ U_ => ar_ = #[.null] ∧ Z.Warmed39 U_.vm ∧ U_.heap = h0) (fun _ _ _ _ _ => True) (fun _ U_ o_ U2_ => ∃ v_ L_, o_ = .returned v_ ∧ Q1a Z  h0 n0 v_ U2_.heap L_ ∧ FrameEnd U_ o_ U2_ L_ ({ frames := 0, cells := 0, slots := 0, locals := 0 } : Room).cells ({ frames := 0, cells := 0, slots := 0, locals := 0 } : Room).slots) := by
  refine MetFree.of_bodySF (plainFor_of_name pn_0) hisR ?_
  intro p e s m args below meth c s₁ Bd hml0 hP hK
  obtain ⟨rfl, hZ, hh⟩ := hP
  have hx := Bd.exec
  have hby := Bd.bytes
  have hml : c.maxLocals = 1 := hml0
  have hown : s.vm.findClass "quorumline/Entry" = some m.cls := findClass_of_methodNamed Bd.named
  have hnm := (name_of_methodNamed Bd.named Bd.method).1
  have X0 : Stand p l e ({ frames := 0, cells := 0, slots := 0, locals := 0 } : Room) s m #[.null] below meth c s₁ [] 0 0 := Stand.of_body Bd
  have e0 : s₁.heap = h0 := by rw [← hh, Bd.state]; rfl
  have N0 := Fr.nil n0
  refine own_gl ?_
  refine own_st (S' := s₁.setTop (mkF m 0 #[.val .null] [])) (fun t_ k_ => castTop (ef_1a m ) k_) ?_
  refine own_st (S' := s₁.setTop (mkF m 2 #[.val .null] [(.int (12 : Int32))])) (fun t_ k_ => XS.bipush X0.here hx rfl (hb hby d1_0) k_) ?_
  refine own_st (S' := s₁.setTop (mkF m 3 #[.val .null] [.null, (.int (12 : Int32))])) (fun t_ k_ => XS.aloadN X0.here hx rfl (hb hby d1_2) rfl rfl k_) ?_
  refine own_st (S' := s₁.setTop (mkF m 6 #[.val .null] [(.int (12 : Int32))])) (fun t_ k_ => XS.ifnonnullNo X0.here hx rfl (hb hby d1_3) rfl k_) ?_
  refine own_st (S' := s₁.setTop (mkF m 7 #[.val .null] [(.int (0 : Int32)), (.int (12 : Int32))])) (fun t_ k_ => XS.iconst X0.here hx rfl (hb hby d1_6) k_) ?_
  refine own_st (S' := s₁.setTop (mkF m 12 #[.val .null] [(.int (0 : Int32)), (.int (12 : Int32))])) (fun t_ k_ => XS.goto X0.here hx rfl (pc0 := 7) (pc' := 12) rfl (hb hby d1_7) (by decide) (by decide) k_) ?_
  refine own_st (S' := s₁.setTop (mkF m 13 #[.val .null] [(.int ((12 : Int32) + (0 : Int32)))])) (fun t_ k_ => XS.iadd X0.here hx rfl (hb hby d1_12) rfl k_) ?_
  obtain ⟨fs, hr, hrun, hended, hW, hsame⟩ := X0.leave (v := some (.int ((12 : Int32) + (0 : Int32)))) (fun h => by rw [Bd.returns] at h; cases h)
  refine ⟨_, _, retI X0 hx Bd.returns (hb hby d1_13) hr, hrun, hended, _, _, rfl, ?_, ⟨_, rfl⟩, hW, hsame.mono (by decide) (by decide)⟩
  show Q1a Z  h0 n0 _ s₁.heap _
  rw [e0]
  exact ⟨(congrArg (fun z => some (Value.int z)) (show ((12 : Int32) + (0 : Int32)) = (12 : Int32) from by decide)), N0, rfl⟩
theorem d1_10 : decode prog_15_method_6_code 10 = .ok (.aload_n 0, 1) := by decide +kernel
theorem d1_11 : decode prog_15_method_6_code 11 = .ok (.arraylength, 1) := by decide +kernel
theorem ef_1b (m : MethodId) (v : Addr) : entryFrame m #[(.ref v)] 1 = mkF m 0 #[.val (.ref v)] [] := by first | (simp [entryFrame, mkF, argsToLocals, Value.category]; done) | rfl
def Q1b (Z : State) (v : Addr) (k : ClassId) (z : Int32) (vs : List Value) (h0 : Heap) (n0 : Nat) (v_ : Option Value) (h_ : Heap) (L_ : List Loc) : Prop := v_ = some (.int ((12 : Int32) + z)) ∧ Fr n0 L_ ∧ h_ = h0
set_option maxRecDepth 65536 in
set_option maxHeartbeats 40000000 in
theorem rm1b (l : Launch) (Z : State) (a0 : Array Value) (hw : ∀ d ∈ tables_1, d.before a0 Z = true) (ws : List Jvm.Cond) (v : Addr) (k : ClassId) (z : Int32) (vs : List Value) (h0 : Heap) (n0 : Nat) (Z0 : n0 ≤ h0.size) (P0 : Arv Z h0 v k .byte z vs (.int (0 : Int32))) :
    MetFree l (⟨"quorumline/Entry", "bytes", "([B)I"⟩ : MethodName) (head1 (Jvm.Cond.code (⟨"quorumline/Entry", "bytes", "([B)I"⟩ : MethodName) prog_15_method_6_code 1 (some .int) :: ws) ({ frames := 0, cells := 0, slots := 0, locals := 0 } : Room)) (fun ar_ U_ => ar_ = #[(.ref v)] ∧ Z.Warmed39 U_.vm ∧ U_.heap = h0) (fun _ _ _ _ _ => True) (fun _ U_ o_ U2_ => ∃ v_ L_, o_ = .returned v_ ∧ Q1b Z v k z vs h0 n0 v_ U2_.heap L_ ∧ FrameEnd U_ o_ U2_ L_ ({ frames := 0, cells := 0, slots := 0, locals := 0 } : Room).cells ({ frames := 0, cells := 0, slots := 0, locals := 0 } : Room).slots) := by
  refine MetFree.of_bodySF (plainFor_of_name pn_0) hisR ?_
  intro p e s m args below meth c s₁ Bd hml0 hP hK
  obtain ⟨rfl, hZ, hh⟩ := hP
  have hx := Bd.exec
  have hby := Bd.bytes
  have hml : c.maxLocals = 1 := hml0
  have hown : s.vm.findClass "quorumline/Entry" = some m.cls := findClass_of_methodNamed Bd.named
  have hnm := (name_of_methodNamed Bd.named Bd.method).1
  have X0 : Stand p l e ({ frames := 0, cells := 0, slots := 0, locals := 0 } : Room) s m #[(.ref v)] below meth c s₁ [] 0 0 := Stand.of_body Bd
  have e0 : s₁.heap = h0 := by rw [← hh, Bd.state]; rfl
  have N0 := Fr.nil n0
  refine own_gl ?_
  refine own_st (S' := s₁.setTop (mkF m 0 #[.val (.ref v)] [])) (fun t_ k_ => castTop (ef_1b m v) k_) ?_
  refine own_st (S' := s₁.setTop (mkF m 2 #[.val (.ref v)] [(.int (12 : Int32))])) (fun t_ k_ => XS.bipush X0.here hx rfl (hb hby d1_0) k_) ?_
  refine own_st (S' := s₁.setTop (mkF m 3 #[.val (.ref v)] [(.ref v), (.int (12 : Int32))])) (fun t_ k_ => XS.aloadN X0.here hx rfl (hb hby d1_2) rfl rfl k_) ?_
  refine own_st (S' := s₁.setTop (mkF m 10 #[.val (.ref v)] [(.int (12 : Int32))])) (fun t_ k_ => XS.ifnonnullYes X0.here hx rfl (pc0 := 3) (pc' := 10) rfl (hb hby d1_3) rfl (by decide) (by decide) k_) ?_
  refine own_st (S' := s₁.setTop (mkF m 11 #[.val (.ref v)] [(.ref v), (.int (12 : Int32))])) (fun t_ k_ => XS.aloadN X0.here hx rfl (hb hby d1_10) rfl rfl k_) ?_
  obtain ⟨cl_1, Ar_1, q_1, S_1, M_1, H_1, G_1⟩ := id P0
  refine own_st (S' := s₁.setTop (mkF m 12 #[.val (.ref v)] [(.int z), (.int (12 : Int32))])) (fun t_ k_ => X0.arraylength hx (by rw [e0]; exact Ar_1.1) (State.isArrayOf_alike hZ.alike Ar_1.2.1) (g := (mkF m 11 #[.val (.ref v)] [(.ref v), (.int (12 : Int32))])) rfl rfl (hb hby d1_11) _ (by rw [len_of S_1 M_1]; exact k_)) ?_
  refine own_st (S' := s₁.setTop (mkF m 13 #[.val (.ref v)] [(.int ((12 : Int32) + z))])) (fun t_ k_ => XS.iadd X0.here hx rfl (hb hby d1_12) rfl k_) ?_
  obtain ⟨fs, hr, hrun, hended, hW, hsame⟩ := X0.leave (v := some (.int ((12 : Int32) + z))) (fun h => by rw [Bd.returns] at h; cases h)
  refine ⟨_, _, retI X0 hx Bd.returns (hb hby d1_13) hr, hrun, hended, _, _, rfl, ?_, ⟨_, rfl⟩, hW, hsame.mono (by decide) (by decide)⟩
  show Q1b Z v k z vs h0 n0 _ s₁.heap _
  rw [e0]
  exact ⟨rfl, N0, rfl⟩
theorem d2_0 : decode jdk_30_method_1_code 0 = .ok (.aload_n 0, 1) := by decide +kernel
theorem d2_1 : decode jdk_30_method_1_code 1 = .ok (.invokespecial 1, 3) := by decide +kernel
theorem d2_4 : decode jdk_30_method_1_code 4 = .ok (.return_, 1) := by decide +kernel
theorem pn_1 : plainName "java/lang/Record" = true := by first | (simp [plainName, overriddenIn]; done) | decide +kernel
theorem ef_2 (m : MethodId) (a : Addr) : entryFrame m #[(.ref a)] 1 = mkF m 0 #[.val (.ref a)] [] := by first | (simp [entryFrame, mkF, argsToLocals, Value.category]; done) | rfl
def Q2 (Z : State) (a : Addr) (h0 : Heap) (n0 : Nat) (v_ : Option Value) (h_ : Heap) (L_ : List Loc) : Prop := v_ = none ∧ Fr n0 L_ ∧ h_ = h0
set_option maxRecDepth 65536 in
set_option maxHeartbeats 40000000 in
theorem rm2 (l : Launch) (Z : State) (a0 : Array Value) (hw : ∀ d ∈ tables_1, d.before a0 Z = true) (ws : List Jvm.Cond) (a : Addr) (h0 : Heap) (n0 : Nat) (Z0 : n0 ≤ h0.size)  :
    MetFree l (⟨"java/lang/Record", "<init>", "()V"⟩ : MethodName) (head1 (Jvm.Cond.code (⟨"java/lang/Record", "<init>", "()V"⟩ : MethodName) jdk_30_method_1_code 1 none :: ws) ({ frames := 1, cells := 0, slots := 0, locals := 12 } : Room)) (fun ar_ U_ => ar_ = #[(.ref a)] ∧ Z.Warmed39 U_.vm ∧ U_.heap = h0) (fun _ _ _ _ _ => True) (fun _ U_ o_ U2_ => ∃ v_ L_, o_ = .returned v_ ∧ Q2 Z a h0 n0 v_ U2_.heap L_ ∧ FrameEnd U_ o_ U2_ L_ ({ frames := 1, cells := 0, slots := 0, locals := 12 } : Room).cells ({ frames := 1, cells := 0, slots := 0, locals := 12 } : Room).slots) := by
  refine MetFree.of_bodySF (plainFor_of_name pn_1) hisR ?_
  intro p e s m args below meth c s₁ Bd hml0 hP hK
  obtain ⟨rfl, hZ, hh⟩ := hP
  have hx := Bd.exec
  have hby := Bd.bytes
  have hml : c.maxLocals = 1 := hml0
  have hown : s.vm.findClass "java/lang/Record" = some m.cls := findClass_of_methodNamed Bd.named
  have hnm := (name_of_methodNamed Bd.named Bd.method).1
  have X0 : Stand p l e ({ frames := 1, cells := 0, slots := 0, locals := 12 } : Room) s m #[(.ref a)] below meth c s₁ [] 0 0 := Stand.of_body Bd
  have e0 : s₁.heap = h0 := by rw [← hh, Bd.state]; rfl
  have N0 := Fr.nil n0
  refine own_gl ?_
  refine own_st (S' := s₁.setTop (mkF m 0 #[.val (.ref a)] [])) (fun t_ k_ => castTop (ef_2 m a) k_) ?_
  refine own_st (S' := s₁.setTop (mkF m 1 #[.val (.ref a)] [(.ref a)])) (fun t_ k_ => XS.aloadN X0.here hx rfl (hb hby d2_0) rfl rfl k_) ?_
  obtain ⟨T_1, X_1, e_1, st_1⟩ := initO X0 hx hZ hown (hw _ (List.mem_of_getElem? (i := 14) rfl)) (hw _ (List.mem_of_getElem? (i := 15) rfl)) (hw _ (List.mem_of_getElem? (i := 16) rfl)) e0 (g := (mkF m 1 #[.val (.ref a)] [(.ref a)])) rfl (by rw [hml]; rfl) rfl (hb hby d2_1) (by decide) (W := 0) (by show 2 * 0 + _ ≤ _; exact Nat.le_of_eq rfl) (by decide)
  refine own_st (S' := T_1.setTop (mkF m 4 #[.val (.ref a)] [])) st_1 ?_
  obtain ⟨fs, hr, hrun, hended, hW, hsame⟩ := X_1.leave (v := none) (fun _ => rfl)
  refine ⟨_, _, X_1.returnOut hx Bd.returns (hb hby d2_4) hr, hrun, hended, _, _, rfl, ?_, ⟨_, rfl⟩, hW, hsame.mono (by decide) (by decide)⟩
  show Q2 Z a h0 n0 _ T_1.heap _
  rw [e_1]
  exact ⟨rfl, N0, rfl⟩
theorem d3_0 : decode prog_15_method_2_code 0 = .ok (.aload_n 0, 1) := by decide +kernel
theorem d3_1 : decode prog_15_method_2_code 1 = .ok (.arraylength, 1) := by decide +kernel
theorem d3_2 : decode prog_15_method_2_code 2 = .ok (.ldc 25, 2) := by decide +kernel
theorem d3_4 : decode prog_15_method_2_code 4 = .ok (.if_icmp .le 18, 3) := by decide +kernel
theorem d3_22 : decode prog_15_method_2_code 22 = .ok (.return_, 1) := by decide +kernel
theorem ef_3 (m : MethodId) (v : Addr) : entryFrame m #[(.ref v)] 1 = mkF m 0 #[.val (.ref v)] [] := by first | (simp [entryFrame, mkF, argsToLocals, Value.category]; done) | rfl
def Q3 (Z : State) (v : Addr) (k : ClassId) (z : Int32) (vs : List Value) (h0 : Heap) (n0 : Nat) (v_ : Option Value) (h_ : Heap) (L_ : List Loc) : Prop := v_ = none ∧ Fr n0 L_ ∧ h_ = h0
set_option maxRecDepth 65536 in
set_option maxHeartbeats 40000000 in
theorem rm3 (l : Launch) (Z : State) (a0 : Array Value) (hw : ∀ d ∈ tables_1, d.before a0 Z = true) (ws : List Jvm.Cond) (v : Addr) (k : ClassId) (z : Int32) (vs : List Value) (h0 : Heap) (n0 : Nat) (Z0 : n0 ≤ h0.size) (P0 : Arv Z h0 v k .byte z vs (.int (0 : Int32))) (hz : ¬ ((1048576 : Int32) < z)) :
    MetFree l (⟨"quorumline/Entry", "checkValue", "([B)V"⟩ : MethodName) (head1 (Jvm.Cond.code (⟨"quorumline/Entry", "checkValue", "([B)V"⟩ : MethodName) prog_15_method_2_code 1 none :: ws) ({ frames := 0, cells := 0, slots := 0, locals := 0 } : Room)) (fun ar_ U_ => ar_ = #[(.ref v)] ∧ Z.Warmed39 U_.vm ∧ U_.heap = h0) (fun _ _ _ _ _ => True) (fun _ U_ o_ U2_ => ∃ v_ L_, o_ = .returned v_ ∧ Q3 Z v k z vs h0 n0 v_ U2_.heap L_ ∧ FrameEnd U_ o_ U2_ L_ ({ frames := 0, cells := 0, slots := 0, locals := 0 } : Room).cells ({ frames := 0, cells := 0, slots := 0, locals := 0 } : Room).slots) := by
  refine MetFree.of_bodySF (plainFor_of_name pn_0) hisR ?_
  intro p e s m args below meth c s₁ Bd hml0 hP hK
  obtain ⟨rfl, hZ, hh⟩ := hP
  have hx := Bd.exec
  have hby := Bd.bytes
  have hml : c.maxLocals = 1 := hml0
  have hown : s.vm.findClass "quorumline/Entry" = some m.cls := findClass_of_methodNamed Bd.named
  have hnm := (name_of_methodNamed Bd.named Bd.method).1
  have X0 : Stand p l e ({ frames := 0, cells := 0, slots := 0, locals := 0 } : Room) s m #[(.ref v)] below meth c s₁ [] 0 0 := Stand.of_body Bd
  have e0 : s₁.heap = h0 := by rw [← hh, Bd.state]; rfl
  have N0 := Fr.nil n0
  refine own_gl ?_
  refine own_st (S' := s₁.setTop (mkF m 0 #[.val (.ref v)] [])) (fun t_ k_ => castTop (ef_3 m v) k_) ?_
  refine own_st (S' := s₁.setTop (mkF m 1 #[.val (.ref v)] [(.ref v)])) (fun t_ k_ => XS.aloadN X0.here hx rfl (hb hby d3_0) rfl rfl k_) ?_
  obtain ⟨cl_1, Ar_1, q_1, S_1, M_1, H_1, G_1⟩ := id P0
  refine own_st (S' := s₁.setTop (mkF m 2 #[.val (.ref v)] [(.int z)])) (fun t_ k_ => X0.arraylength hx (by rw [e0]; exact Ar_1.1) (State.isArrayOf_alike hZ.alike Ar_1.2.1) (g := (mkF m 1 #[.val (.ref v)] [(.ref v)])) rfl rfl (hb hby d3_1) _ (by rw [len_of S_1 M_1]; exact k_)) ?_
  refine own_st (S' := s₁.setTop (mkF m 4 #[.val (.ref v)] [(.int (1048576 : Int32)), (.int z)])) (fun t_ k_ => X0.ldcI hx hown (mvT hZ (hw _ (List.mem_of_getElem? (i := 71) rfl))) (g := (mkF m 2 #[.val (.ref v)] [(.int z)])) rfl (hb hby d3_2) k_) ?_
  refine own_st (S' := s₁.setTop (mkF m 22 #[.val (.ref v)] [])) (fun t_ k_ => XS.icmpYes X0.here hx rfl (pc0 := 4) (pc' := 22) rfl (hb hby d3_4) rfl (flt hz).2.2.2 (by decide) (by decide) k_) ?_
  obtain ⟨fs, hr, hrun, hended, hW, hsame⟩ := X0.leave (v := none) (fun _ => rfl)
  refine ⟨_, _, X0.returnOut hx Bd.returns (hb hby d3_22) hr, hrun, hended, _, _, rfl, ?_, ⟨_, rfl⟩, hW, hsame.mono (by decide) (by decide)⟩
  show Q3 Z v k z vs h0 n0 _ s₁.heap _
  rw [e0]
  exact ⟨rfl, N0, rfl⟩
theorem d4_0 : decode prog_15_method_1_code 0 = .ok (.aload_n 0, 1) := by decide +kernel
theorem d4_1 : decode prog_15_method_1_code 1 = .ok (.invokespecial 7, 3) := by decide +kernel
theorem d4_4 : decode prog_15_method_1_code 4 = .ok (.aload_n 3, 1) := by decide +kernel
theorem d4_5 : decode prog_15_method_1_code 5 = .ok (.ifnull 7, 3) := by decide +kernel
theorem d4_12 : decode prog_15_method_1_code 12 = .ok (.aload_n 0, 1) := by decide +kernel
theorem d4_13 : decode prog_15_method_1_code 13 = .ok (.lload_n 1, 1) := by decide +kernel
theorem d4_14 : decode prog_15_method_1_code 14 = .ok (.putfield 17, 3) := by decide +kernel
theorem d4_17 : decode prog_15_method_1_code 17 = .ok (.aload_n 0, 1) := by decide +kernel
theorem d4_18 : decode prog_15_method_1_code 18 = .ok (.aload_n 3, 1) := by decide +kernel
theorem d4_19 : decode prog_15_method_1_code 19 = .ok (.putfield 21, 3) := by decide +kernel
theorem d4_22 : decode prog_15_method_1_code 22 = .ok (.return_, 1) := by decide +kernel
theorem ef_4a (m : MethodId) (a : Addr) (q : Int64) : entryFrame m #[(.ref a), (.long q), .null] 4 = mkF m 0 #[.val (.ref a), .val (.long q), .second, .val .null] [] := by first | (simp [entryFrame, mkF, argsToLocals, Value.category]; done) | rfl
theorem pd_0 : parseMethodDescriptor "()V" = some ⟨[], none⟩ := by decide +kernel
def Q4a (Z : State) (a : Addr) (q : Int64) (h0 : Heap) (n0 : Nat) (v_ : Option Value) (h_ : Heap) (L_ : List Loc) : Prop := v_ = none ∧ Fr n0 L_ ∧ Keep h0 h_ [a] ∧ Exa Z h_ a "quorumline/Entry" ∧ Fld Z h_ a "quorumline/Entry" "term" "J" (.long q) ∧ Fld Z h_ a "quorumline/Entry" "value" "[B" .null
set_option maxRecDepth 65536 in
set_option maxHeartbeats 40000000 in
theorem rm4a (l : Launch) (Z : State) (a0 : Array Value) (hw : ∀ d ∈ tables_1, d.before a0 Z = true) (ws : List Jvm.Cond) (a : Addr) (q : Int64) (h0 : Heap) (n0 : Nat) (Z0 : n0 ≤ h0.size) (P0 : Exa Z h0 a "quorumline/Entry") (P1 : Fld Z h0 a "quorumline/Entry" "term" "J" (.long (0 : Int64))) (P2 : Fld Z h0 a "quorumline/Entry" "value" "[B" .null) (g_a : n0 ≤ a) :
    MetFree l (⟨"quorumline/Entry", "<init>", "(J[B)V"⟩ : MethodName) (head1 (Jvm.Cond.code (⟨"quorumline/Entry", "<init>", "(J[B)V"⟩ : MethodName) prog_15_method_1_code 4 none :: ws) ({ frames := 2, cells := 0, slots := 0, locals := 24 } : Room)) (fun ar_ U_ => ar_ = #[(.ref a), (.long q), .null] ∧ Z.Warmed39 U_.vm ∧ U_.heap = h0) (fun _ _ _ _ _ => True) (fun _ U_ o_ U2_ => ∃ v_ L_, o_ = .returned v_ ∧ Q4a Z a q h0 n0 v_ U2_.heap L_ ∧ FrameEnd U_ o_ U2_ L_ ({ frames := 2, cells := 0, slots := 0, locals := 24 } : Room).cells ({ frames := 2, cells := 0, slots := 0, locals := 24 } : Room).slots) := by
  refine MetFree.of_bodySF (plainFor_of_name pn_0) hisR ?_
  intro p e s m args below meth c s₁ Bd hml0 hP hK
  obtain ⟨rfl, hZ, hh⟩ := hP
  have hx := Bd.exec
  have hby := Bd.bytes
  have hml : c.maxLocals = 4 := hml0
  have hown : s.vm.findClass "quorumline/Entry" = some m.cls := findClass_of_methodNamed Bd.named
  have hnm := (name_of_methodNamed Bd.named Bd.method).1
  have X0 : Stand p l e ({ frames := 2, cells := 0, slots := 0, locals := 24 } : Room) s m #[(.ref a), (.long q), .null] below meth c s₁ [] 0 0 := Stand.of_body Bd
  have e0 : s₁.heap = h0 := by rw [← hh, Bd.state]; rfl
  have N0 := Fr.nil n0
  refine own_gl ?_
  refine own_st (S' := s₁.setTop (mkF m 0 #[.val (.ref a), .val (.long q), .second, .val .null] [])) (fun t_ k_ => castTop (ef_4a m a q) k_) ?_
  refine own_st (S' := s₁.setTop (mkF m 1 #[.val (.ref a), .val (.long q), .second, .val .null] [(.ref a)])) (fun t_ k_ => XS.aloadN X0.here hx rfl (hb hby d4_0) rfl rfl k_) ?_
  obtain ⟨_, _, ⟨T_1, L_1, k_1, n_1⟩, -, X_1, ⟨Lc_1, hQ_1, l_1, y_1, z_1⟩, st_1⟩ := X0.specialBack hx (y := (⟨"java/lang/Record", "<init>", "()V"⟩ : MethodName)) rfl hown (mvT hZ (hw _ (List.mem_of_getElem? (i := 9) rfl))) (mvT hZ (hw _ (List.mem_of_getElem? (i := 10) rfl))) (mvT hZ (hw _ (List.mem_of_getElem? (i := 13) rfl))) (by decide) (backOf (W := 0) (rm2 l Z a0 hw [] a h0 n0 Z0 ) hZ (hw _ (List.mem_of_getElem? (i := 13) rfl)) (hw _ (List.mem_of_getElem? (i := 12) rfl)) (by decide) (by decide)) (g := (mkF m 1 #[.val (.ref a), .val (.long q), .second, .val .null] [(.ref a)])) rfl (by rw [hml]; rfl) (Steps.refl _) (a := a) (argsL := []) (rest := []) (lenOf pd_0 rfl) rfl (by show 2 * 0 + _ ≤ _; exact Nat.le_of_eq rfl) (hb hby d4_1) (fun _ _ => ⟨rfl, e0, (by decide : 0 + 0 ≤ _), (by decide : 0 + 0 ≤ _)⟩)
  dsimp only [Pt.U, Pt.locs, Pt.cells, Pt.slots] at X_1 l_1 y_1 z_1 st_1 hQ_1
  subst l_1 y_1 z_1
  obtain ⟨rfl, M_1, q_1⟩ := hQ_1
  have N_1 := Fr.app N0 M_1
  refine own_st (S' := T_1.setTop (mkF m 4 #[.val (.ref a), .val (.long q), .second, .val .null] [])) (fun t_ k_ => st_1.trans k_) ?_
  refine own_st (S' := T_1.setTop (mkF m 5 #[.val (.ref a), .val (.long q), .second, .val .null] [.null])) (fun t_ k_ => XS.aloadN X_1.here hx rfl (hb hby d4_4) rfl rfl k_) ?_
  refine own_st (S' := T_1.setTop (mkF m 12 #[.val (.ref a), .val (.long q), .second, .val .null] [])) (fun t_ k_ => XS.ifnullYes X_1.here hx rfl (pc0 := 5) (pc' := 12) rfl (hb hby d4_5) rfl (by decide) (by decide) k_) ?_
  refine own_st (S' := T_1.setTop (mkF m 13 #[.val (.ref a), .val (.long q), .second, .val .null] [(.ref a)])) (fun t_ k_ => XS.aloadN X_1.here hx rfl (hb hby d4_12) rfl rfl k_) ?_
  refine own_st (S' := T_1.setTop (mkF m 14 #[.val (.ref a), .val (.long q), .second, .val .null] [(.long q), (.ref a)])) (fun t_ k_ => XS.lloadN X_1.here hx rfl (hb hby d4_13) rfl k_) ?_
  obtain ⟨T_2, h_2, X_2, e_2, W_2, st_2⟩ := putF X_1 hx hZ hown (host := "") (Or.inl (hw _ (List.mem_of_getElem? (i := 17) rfl))) Via.refl q_1 P1 P0 (Or.inr ⟨(hw _ (List.mem_of_getElem? (i := 18) rfl)), rfl, hnm⟩) (hw _ (List.mem_of_getElem? (i := 5) rfl)) (ty := .long) (by decide) rfl rfl (g := (mkF m 14 #[.val (.ref a), .val (.long q), .second, .val .null] [(.long q), (.ref a)])) rfl rfl (hb hby d4_14)
  have Z_2 : n0 ≤ h_2.size := Nat.le_trans Z0 (Keep.of_wr W_2).1
  have N_2 := Fr.snoc X_2 N_1 g_a
  have K_2 : Keep h0 h_2 [a] := (Keep.refl h0 [a]).wr W_2 (Or.inl (List.mem_of_getElem? (i := 0) rfl))
  have f_2 : Fld Z h_2 a "quorumline/Entry" "term" "J" (.long q) := Fld.same W_2 P1
  refine own_st (S' := T_2.setTop (mkF m 17 #[.val (.ref a), .val (.long q), .second, .val .null] [])) st_2 ?_
  refine own_st (S' := T_2.setTop (mkF m 18 #[.val (.ref a), .val (.long q), .second, .val .null] [(.ref a)])) (fun t_ k_ => XS.aloadN X_2.here hx rfl (hb hby d4_17) rfl rfl k_) ?_
  refine own_st (S' := T_2.setTop (mkF m 19 #[.val (.ref a), .val (.long q), .second, .val .null] [.null, (.ref a)])) (fun t_ k_ => XS.aloadN X_2.here hx rfl (hb hby d4_18) rfl rfl k_) ?_
  have f_3 : Fld Z h_2 a "quorumline/Entry" "value" "[B" .null := (Fld.other W_2 P2 (Or.inr (slot_ne (Or.inr (hw _ (List.mem_of_getElem? (i := 20) rfl))) (Or.inr (hw _ (List.mem_of_getElem? (i := 18) rfl))) (by decide) (t := (.array .byte)) (t' := .long) (by decide) (by decide))))
  have f_4 : Exa Z h_2 a "quorumline/Entry" := (Exa.wr W_2 P0)
  obtain ⟨T_5, h_5, X_5, e_5, W_5, st_5⟩ := putF X_2 hx hZ hown (host := "") (Or.inl (hw _ (List.mem_of_getElem? (i := 19) rfl))) Via.refl e_2 f_3 f_4 (Or.inr ⟨(hw _ (List.mem_of_getElem? (i := 20) rfl)), rfl, hnm⟩) (hw _ (List.mem_of_getElem? (i := 5) rfl)) (ty := (.array .byte)) (by decide) rfl rfl (g := (mkF m 19 #[.val (.ref a), .val (.long q), .second, .val .null] [.null, (.ref a)])) rfl rfl (hb hby d4_19)
  have Z_5 : n0 ≤ h_5.size := Nat.le_trans Z_2 (Keep.of_wr W_5).1
  have N_5 := Fr.snoc X_5 N_2 g_a
  have K_5 : Keep h0 h_5 [a] := K_2.wr W_5 (Or.inl (List.mem_of_getElem? (i := 0) rfl))
  have f_5 : Fld Z h_5 a "quorumline/Entry" "value" "[B" .null := Fld.same W_5 f_3
  refine own_st (S' := T_5.setTop (mkF m 22 #[.val (.ref a), .val (.long q), .second, .val .null] [])) st_5 ?_
  obtain ⟨fs, hr, hrun, hended, hW, hsame⟩ := X_5.leave (v := none) (fun _ => rfl)
  have f_6 : Exa Z h_5 a "quorumline/Entry" := (Exa.wr W_5 f_4)
  have f_7 : Fld Z h_5 a "quorumline/Entry" "term" "J" (.long q) := (Fld.other W_5 f_2 (Or.inr (slot_ne (Or.inr (hw _ (List.mem_of_getElem? (i := 18) rfl))) (Or.inr (hw _ (List.mem_of_getElem? (i := 20) rfl))) (by decide) (t := .long) (t' := (.array .byte)) (by decide) (by decide))))
  refine ⟨_, _, X_5.returnOut hx Bd.returns (hb hby d4_22) hr, hrun, hended, _, _, rfl, ?_, ⟨_, rfl⟩, hW, hsame.mono (by decide) (by decide)⟩
  show Q4a Z a q h0 n0 _ T_5.heap _
  rw [e_5]
  exact ⟨rfl, N_5, K_5, f_6, f_7, f_5⟩
theorem d4_8 : decode prog_15_method_1_code 8 = .ok (.aload_n 3, 1) := by decide +kernel
theorem d4_9 : decode prog_15_method_1_code 9 = .ok (.invokestatic 13, 3) := by decide +kernel
theorem ef_4b (m : MethodId) (a : Addr) (q : Int64) (v : Addr) : entryFrame m #[(.ref a), (.long q), (.ref v)] 4 = mkF m 0 #[.val (.ref a), .val (.long q), .second, .val (.ref v)] [] := by first | (simp [entryFrame, mkF, argsToLocals, Value.category]; done) | rfl
theorem pd_1 : parseMethodDescriptor "([B)V" = some ⟨[(.array .byte)], none⟩ := by decide +kernel
def Q4b (Z : State) (a : Addr) (q : Int64) (v : Addr) (k : ClassId) (z : Int32) (vs : List Value) (h0 : Heap) (n0 : Nat) (v_ : Option Value) (h_ : Heap) (L_ : List Loc) : Prop := v_ = none ∧ Fr n0 L_ ∧ Keep h0 h_ [a] ∧ Exa Z h_ a "quorumline/Entry" ∧ Fld Z h_ a "quorumline/Entry" "term" "J" (.long q) ∧ Fld Z h_ a "quorumline/Entry" "value" "[B" (.ref v)
set_option maxRecDepth 65536 in
set_option maxHeartbeats 40000000 in
theorem rm4b (l : Launch) (Z : State) (a0 : Array Value) (hw : ∀ d ∈ tables_1, d.before a0 Z = true) (ws : List Jvm.Cond) (a : Addr) (q : Int64) (v : Addr) (k : ClassId) (z : Int32) (vs : List Value) (h0 : Heap) (n0 : Nat) (Z0 : n0 ≤ h0.size) (P0 : Exa Z h0 a "quorumline/Entry") (P1 : Fld Z h0 a "quorumline/Entry" "term" "J" (.long (0 : Int64))) (P2 : Fld Z h0 a "quorumline/Entry" "value" "[B" .null) (P3 : Arv Z h0 v k .byte z vs (.int (0 : Int32))) (g_a : n0 ≤ a) (hz : ¬ ((1048576 : Int32) < z)) :
    MetFree l (⟨"quorumline/Entry", "<init>", "(J[B)V"⟩ : MethodName) (head1 (Jvm.Cond.code (⟨"quorumline/Entry", "<init>", "(J[B)V"⟩ : MethodName) prog_15_method_1_code 4 none :: ws) ({ frames := 2, cells := 0, slots := 0, locals := 24 } : Room)) (fun ar_ U_ => ar_ = #[(.ref a), (.long q), (.ref v)] ∧ Z.Warmed39 U_.vm ∧ U_.heap = h0) (fun _ _ _ _ _ => True) (fun _ U_ o_ U2_ => ∃ v_ L_, o_ = .returned v_ ∧ Q4b Z a q v k z vs h0 n0 v_ U2_.heap L_ ∧ FrameEnd U_ o_ U2_ L_ ({ frames := 2, cells := 0, slots := 0, locals := 24 } : Room).cells ({ frames := 2, cells := 0, slots := 0, locals := 24 } : Room).slots) := by
  refine MetFree.of_bodySF (plainFor_of_name pn_0) hisR ?_
  intro p e s m args below meth c s₁ Bd hml0 hP hK
  obtain ⟨rfl, hZ, hh⟩ := hP
  have hx := Bd.exec
  have hby := Bd.bytes
  have hml : c.maxLocals = 4 := hml0
  have hown : s.vm.findClass "quorumline/Entry" = some m.cls := findClass_of_methodNamed Bd.named
  have hnm := (name_of_methodNamed Bd.named Bd.method).1
  have X0 : Stand p l e ({ frames := 2, cells := 0, slots := 0, locals := 24 } : Room) s m #[(.ref a), (.long q), (.ref v)] below meth c s₁ [] 0 0 := Stand.of_body Bd
  have e0 : s₁.heap = h0 := by rw [← hh, Bd.state]; rfl
  have N0 := Fr.nil n0
  refine own_gl ?_
  refine own_st (S' := s₁.setTop (mkF m 0 #[.val (.ref a), .val (.long q), .second, .val (.ref v)] [])) (fun t_ k_ => castTop (ef_4b m a q v) k_) ?_
  refine own_st (S' := s₁.setTop (mkF m 1 #[.val (.ref a), .val (.long q), .second, .val (.ref v)] [(.ref a)])) (fun t_ k_ => XS.aloadN X0.here hx rfl (hb hby d4_0) rfl rfl k_) ?_
  obtain ⟨_, _, ⟨T_1, L_1, k_1, n_1⟩, -, X_1, ⟨Lc_1, hQ_1, l_1, y_1, z_1⟩, st_1⟩ := X0.specialBack hx (y := (⟨"java/lang/Record", "<init>", "()V"⟩ : MethodName)) rfl hown (mvT hZ (hw _ (List.mem_of_getElem? (i := 9) rfl))) (mvT hZ (hw _ (List.mem_of_getElem? (i := 10) rfl))) (mvT hZ (hw _ (List.mem_of_getElem? (i := 13) rfl))) (by decide) (backOf (W := 0) (rm2 l Z a0 hw [] a h0 n0 Z0 ) hZ (hw _ (List.mem_of_getElem? (i := 13) rfl)) (hw _ (List.mem_of_getElem? (i := 12) rfl)) (by decide) (by decide)) (g := (mkF m 1 #[.val (.ref a), .val (.long q), .second, .val (.ref v)] [(.ref a)])) rfl (by rw [hml]; rfl) (Steps.refl _) (a := a) (argsL := []) (rest := []) (lenOf pd_0 rfl) rfl (by show 2 * 0 + _ ≤ _; exact Nat.le_of_eq rfl) (hb hby d4_1) (fun _ _ => ⟨rfl, e0, (by decide : 0 + 0 ≤ _), (by decide : 0 + 0 ≤ _)⟩)
  dsimp only [Pt.U, Pt.locs, Pt.cells, Pt.slots] at X_1 l_1 y_1 z_1 st_1 hQ_1
  subst l_1 y_1 z_1
  obtain ⟨rfl, M_1, q_1⟩ := hQ_1
  have N_1 := Fr.app N0 M_1
  refine own_st (S' := T_1.setTop (mkF m 4 #[.val (.ref a), .val (.long q), .second, .val (.ref v)] [])) (fun t_ k_ => st_1.trans k_) ?_
  refine own_st (S' := T_1.setTop (mkF m 5 #[.val (.ref a), .val (.long q), .second, .val (.ref v)] [(.ref v)])) (fun t_ k_ => XS.aloadN X_1.here hx rfl (hb hby d4_4) rfl rfl k_) ?_
  refine own_st (S' := T_1.setTop (mkF m 8 #[.val (.ref a), .val (.long q), .second, .val (.ref v)] [])) (fun t_ k_ => XS.ifnullNo X_1.here hx rfl (hb hby d4_5) rfl k_) ?_
  refine own_st (S' := T_1.setTop (mkF m 9 #[.val (.ref a), .val (.long q), .second, .val (.ref v)] [(.ref v)])) (fun t_ k_ => XS.aloadN X_1.here hx rfl (hb hby d4_8) rfl rfl k_) ?_
  obtain ⟨_, _, ⟨T_2, L_2, k_2, n_2⟩, -, X_2, ⟨Lc_2, hQ_2, l_2, y_2, z_2⟩, st_2⟩ := Jvm.LawKit.callS X_1 hx (y := (⟨"quorumline/Entry", "checkValue", "([B)V"⟩ : MethodName)) hown (mvT hZ (hw _ (List.mem_of_getElem? (i := 68) rfl))) (mvT hZ (hw _ (List.mem_of_getElem? (i := 69) rfl))) (mvT hZ (hw _ (List.mem_of_getElem? (i := 2) rfl))) (mvT hZ (hw _ (List.mem_of_getElem? (i := 70) rfl))) (by decide) (backOf (W := 0) (rm3 l Z a0 hw [] v k z vs h0 n0 Z0 P3 hz) hZ (hw _ (List.mem_of_getElem? (i := 70) rfl)) (hw _ (List.mem_of_getElem? (i := 2) rfl)) (by decide) (by decide)) (g := (mkF m 9 #[.val (.ref a), .val (.long q), .second, .val (.ref v)] [(.ref v)])) rfl (by rw [hml]; rfl) (argsL := [(.ref v)]) (rest := []) (lenOf pd_1 rfl) rfl (by show 2 * 0 + _ ≤ _; exact Nat.le_of_eq rfl) (hb hby d4_9) (fun _ _ => ⟨rfl, q_1, (by decide : 0 + 0 ≤ _), (by decide : 0 + 0 ≤ _)⟩)
  dsimp only [Pt.U, Pt.locs, Pt.cells, Pt.slots] at X_2 l_2 y_2 z_2 st_2 hQ_2
  subst l_2 y_2 z_2
  obtain ⟨rfl, M_2, q_2⟩ := hQ_2
  have N_2 := Fr.app N_1 M_2
  refine own_st (S' := T_2.setTop (mkF m 12 #[.val (.ref a), .val (.long q), .second, .val (.ref v)] [])) st_2 ?_
  refine own_st (S' := T_2.setTop (mkF m 13 #[.val (.ref a), .val (.long q), .second, .val (.ref v)] [(.ref a)])) (fun t_ k_ => XS.aloadN X_2.here hx rfl (hb hby d4_12) rfl rfl k_) ?_
  refine own_st (S' := T_2.setTop (mkF m 14 #[.val (.ref a), .val (.long q), .second, .val (.ref v)] [(.long q), (.ref a)])) (fun t_ k_ => XS.lloadN X_2.here hx rfl (hb hby d4_13) rfl k_) ?_
  obtain ⟨T_3, h_3, X_3, e_3, W_3, st_3⟩ := putF X_2 hx hZ hown (host := "") (Or.inl (hw _ (List.mem_of_getElem? (i := 17) rfl))) Via.refl q_2 P1 P0 (Or.inr ⟨(hw _ (List.mem_of_getElem? (i := 18) rfl)), rfl, hnm⟩) (hw _ (List.mem_of_getElem? (i := 5) rfl)) (ty := .long) (by decide) rfl rfl (g := (mkF m 14 #[.val (.ref a), .val (.long q), .second, .val (.ref v)] [(.long q), (.ref a)])) rfl rfl (hb hby d4_14)
  have Z_3 : n0 ≤ h_3.size := Nat.le_trans Z0 (Keep.of_wr W_3).1
  have N_3 := Fr.snoc X_3 N_2 g_a
  have K_3 : Keep h0 h_3 [a] := (Keep.refl h0 [a]).wr W_3 (Or.inl (List.mem_of_getElem? (i := 0) rfl))
  have f_3 : Fld Z h_3 a "quorumline/Entry" "term" "J" (.long q) := Fld.same W_3 P1
  refine own_st (S' := T_3.setTop (mkF m 17 #[.val (.ref a), .val (.long q), .second, .val (.ref v)] [])) st_3 ?_
  refine own_st (S' := T_3.setTop (mkF m 18 #[.val (.ref a), .val (.long q), .second, .val (.ref v)] [(.ref a)])) (fun t_ k_ => XS.aloadN X_3.here hx rfl (hb hby d4_17) rfl rfl k_) ?_
  refine own_st (S' := T_3.setTop (mkF m 19 #[.val (.ref a), .val (.long q), .second, .val (.ref v)] [(.ref v), (.ref a)])) (fun t_ k_ => XS.aloadN X_3.here hx rfl (hb hby d4_18) rfl rfl k_) ?_
  have f_4 : Fld Z h_3 a "quorumline/Entry" "value" "[B" .null := (Fld.other W_3 P2 (Or.inr (slot_ne (Or.inr (hw _ (List.mem_of_getElem? (i := 20) rfl))) (Or.inr (hw _ (List.mem_of_getElem? (i := 18) rfl))) (by decide) (t := (.array .byte)) (t' := .long) (by decide) (by decide))))
  have f_5 : Exa Z h_3 a "quorumline/Entry" := (Exa.wr W_3 P0)
  obtain ⟨T_6, h_6, X_6, e_6, W_6, st_6⟩ := putF X_3 hx hZ hown (host := "") (Or.inl (hw _ (List.mem_of_getElem? (i := 19) rfl))) Via.refl e_3 f_4 f_5 (Or.inr ⟨(hw _ (List.mem_of_getElem? (i := 20) rfl)), rfl, hnm⟩) (hw _ (List.mem_of_getElem? (i := 5) rfl)) (ty := (.array .byte)) (by decide) rfl rfl (g := (mkF m 19 #[.val (.ref a), .val (.long q), .second, .val (.ref v)] [(.ref v), (.ref a)])) rfl rfl (hb hby d4_19)
  have Z_6 : n0 ≤ h_6.size := Nat.le_trans Z_3 (Keep.of_wr W_6).1
  have N_6 := Fr.snoc X_6 N_3 g_a
  have K_6 : Keep h0 h_6 [a] := K_3.wr W_6 (Or.inl (List.mem_of_getElem? (i := 0) rfl))
  have f_6 : Fld Z h_6 a "quorumline/Entry" "value" "[B" (.ref v) := Fld.same W_6 f_4
  refine own_st (S' := T_6.setTop (mkF m 22 #[.val (.ref a), .val (.long q), .second, .val (.ref v)] [])) st_6 ?_
  obtain ⟨fs, hr, hrun, hended, hW, hsame⟩ := X_6.leave (v := none) (fun _ => rfl)
  have f_7 : Exa Z h_6 a "quorumline/Entry" := (Exa.wr W_6 f_5)
  have f_8 : Fld Z h_6 a "quorumline/Entry" "term" "J" (.long q) := (Fld.other W_6 f_3 (Or.inr (slot_ne (Or.inr (hw _ (List.mem_of_getElem? (i := 18) rfl))) (Or.inr (hw _ (List.mem_of_getElem? (i := 20) rfl))) (by decide) (t := .long) (t' := (.array .byte)) (by decide) (by decide))))
  refine ⟨_, _, X_6.returnOut hx Bd.returns (hb hby d4_22) hr, hrun, hended, _, _, rfl, ?_, ⟨_, rfl⟩, hW, hsame.mono (by decide) (by decide)⟩
  show Q4b Z a q v k z vs h0 n0 _ T_6.heap _
  rw [e_6]
  exact ⟨rfl, N_6, K_6, f_7, f_8, f_6⟩
theorem d5_0 : decode jdk_29_method_65_code 0 = .ok (.iload_n 0, 1) := by decide +kernel
theorem d5_1 : decode jdk_29_method_65_code 1 = .ok (.iload_n 1, 1) := by decide +kernel
theorem d5_2 : decode jdk_29_method_65_code 2 = .ok (.if_icmp .lt 7, 3) := by decide +kernel
theorem d5_9 : decode jdk_29_method_65_code 9 = .ok (.iload_n 1, 1) := by decide +kernel
theorem d5_10 : decode jdk_29_method_65_code 10 = .ok (.ireturn, 1) := by decide +kernel
theorem ef_5 (m : MethodId) (x : Int32) (y : Int32) : entryFrame m #[(.int x), (.int y)] 2 = mkF m 0 #[.val (.int x), .val (.int y)] [] := by first | (simp [entryFrame, mkF, argsToLocals, Value.category]; done) | rfl
def Q5 (Z : State) (x : Int32) (y : Int32) (h0 : Heap) (n0 : Nat) (v_ : Option Value) (h_ : Heap) (L_ : List Loc) : Prop := v_ = some (.int y) ∧ Fr n0 L_ ∧ h_ = h0
set_option maxRecDepth 65536 in
set_option maxHeartbeats 40000000 in
theorem rm5 (l : Launch) (Z : State) (a0 : Array Value) (hw : ∀ d ∈ tables_1, d.before a0 Z = true) (ws : List Jvm.Cond) (x : Int32) (y : Int32) (h0 : Heap) (n0 : Nat) (Z0 : n0 ≤ h0.size) (h : x < y) :
    MetFree l (⟨"java/lang/Math", "max", "(II)I"⟩ : MethodName) (head1 (Jvm.Cond.code (⟨"java/lang/Math", "max", "(II)I"⟩ : MethodName) jdk_29_method_65_code 2 (some .int) :: ws) ({ frames := 0, cells := 0, slots := 0, locals := 0 } : Room)) (fun ar_ U_ => ar_ = #[(.int x), (.int y)] ∧ Z.Warmed39 U_.vm ∧ U_.heap = h0) (fun _ _ _ _ _ => True) (fun _ U_ o_ U2_ => ∃ v_ L_, o_ = .returned v_ ∧ Q5 Z x y h0 n0 v_ U2_.heap L_ ∧ FrameEnd U_ o_ U2_ L_ ({ frames := 0, cells := 0, slots := 0, locals := 0 } : Room).cells ({ frames := 0, cells := 0, slots := 0, locals := 0 } : Room).slots) := by
  refine MetFree.of_bodySF (Jvm.Free.JP.mathPlain rfl (by decide +kernel)) hisR ?_
  intro p e s m args below meth c s₁ Bd hml0 hP hK
  obtain ⟨rfl, hZ, hh⟩ := hP
  have hx := Bd.exec
  have hby := Bd.bytes
  have hml : c.maxLocals = 2 := hml0
  have hown : s.vm.findClass "java/lang/Math" = some m.cls := findClass_of_methodNamed Bd.named
  have hnm := (name_of_methodNamed Bd.named Bd.method).1
  have X0 : Stand p l e ({ frames := 0, cells := 0, slots := 0, locals := 0 } : Room) s m #[(.int x), (.int y)] below meth c s₁ [] 0 0 := Stand.of_body Bd
  have e0 : s₁.heap = h0 := by rw [← hh, Bd.state]; rfl
  have N0 := Fr.nil n0
  refine own_gl ?_
  refine own_st (S' := s₁.setTop (mkF m 0 #[.val (.int x), .val (.int y)] [])) (fun t_ k_ => castTop (ef_5 m x y) k_) ?_
  refine own_st (S' := s₁.setTop (mkF m 1 #[.val (.int x), .val (.int y)] [(.int x)])) (fun t_ k_ => XS.iloadN X0.here hx rfl (hb hby d5_0) rfl k_) ?_
  refine own_st (S' := s₁.setTop (mkF m 2 #[.val (.int x), .val (.int y)] [(.int y), (.int x)])) (fun t_ k_ => XS.iloadN X0.here hx rfl (hb hby d5_1) rfl k_) ?_
  refine own_st (S' := s₁.setTop (mkF m 9 #[.val (.int x), .val (.int y)] [])) (fun t_ k_ => XS.icmpYes X0.here hx rfl (pc0 := 2) (pc' := 9) rfl (hb hby d5_2) rfl (tlt h).1 (by decide) (by decide) k_) ?_
  refine own_st (S' := s₁.setTop (mkF m 10 #[.val (.int x), .val (.int y)] [(.int y)])) (fun t_ k_ => XS.iloadN X0.here hx rfl (hb hby d5_9) rfl k_) ?_
  obtain ⟨fs, hr, hrun, hended, hW, hsame⟩ := X0.leave (v := some (.int y)) (fun h => by rw [Bd.returns] at h; cases h)
  refine ⟨_, _, retI X0 hx Bd.returns (hb hby d5_10) hr, hrun, hended, _, _, rfl, ?_, ⟨_, rfl⟩, hW, hsame.mono (by decide) (by decide)⟩
  show Q5 Z x y h0 n0 _ s₁.heap _
  rw [e0]
  exact ⟨rfl, N0, rfl⟩
theorem d6_0 : decode jdk_29_method_69_code 0 = .ok (.iload_n 0, 1) := by decide +kernel
theorem d6_1 : decode jdk_29_method_69_code 1 = .ok (.iload_n 1, 1) := by decide +kernel
theorem d6_2 : decode jdk_29_method_69_code 2 = .ok (.if_icmp .gt 7, 3) := by decide +kernel
theorem d6_5 : decode jdk_29_method_69_code 5 = .ok (.iload_n 0, 1) := by decide +kernel
theorem d6_6 : decode jdk_29_method_69_code 6 = .ok (.goto 4, 3) := by decide +kernel
theorem d6_10 : decode jdk_29_method_69_code 10 = .ok (.ireturn, 1) := by decide +kernel
theorem ef_6 (m : MethodId) (x : Int32) (y : Int32) : entryFrame m #[(.int x), (.int y)] 2 = mkF m 0 #[.val (.int x), .val (.int y)] [] := by first | (simp [entryFrame, mkF, argsToLocals, Value.category]; done) | rfl
def Q6 (Z : State) (x : Int32) (y : Int32) (h0 : Heap) (n0 : Nat) (v_ : Option Value) (h_ : Heap) (L_ : List Loc) : Prop := v_ = some (.int x) ∧ Fr n0 L_ ∧ h_ = h0
set_option maxRecDepth 65536 in
set_option maxHeartbeats 40000000 in
theorem rm6 (l : Launch) (Z : State) (a0 : Array Value) (hw : ∀ d ∈ tables_1, d.before a0 Z = true) (ws : List Jvm.Cond) (x : Int32) (y : Int32) (h0 : Heap) (n0 : Nat) (Z0 : n0 ≤ h0.size) (h : ¬ (y < x)) :
    MetFree l (⟨"java/lang/Math", "min", "(II)I"⟩ : MethodName) (head1 (Jvm.Cond.code (⟨"java/lang/Math", "min", "(II)I"⟩ : MethodName) jdk_29_method_69_code 2 (some .int) :: ws) ({ frames := 0, cells := 0, slots := 0, locals := 0 } : Room)) (fun ar_ U_ => ar_ = #[(.int x), (.int y)] ∧ Z.Warmed39 U_.vm ∧ U_.heap = h0) (fun _ _ _ _ _ => True) (fun _ U_ o_ U2_ => ∃ v_ L_, o_ = .returned v_ ∧ Q6 Z x y h0 n0 v_ U2_.heap L_ ∧ FrameEnd U_ o_ U2_ L_ ({ frames := 0, cells := 0, slots := 0, locals := 0 } : Room).cells ({ frames := 0, cells := 0, slots := 0, locals := 0 } : Room).slots) := by
  refine MetFree.of_bodySF (Jvm.Free.JP.mathPlain rfl (by decide +kernel)) hisR ?_
  intro p e s m args below meth c s₁ Bd hml0 hP hK
  obtain ⟨rfl, hZ, hh⟩ := hP
  have hx := Bd.exec
  have hby := Bd.bytes
  have hml : c.maxLocals = 2 := hml0
  have hown : s.vm.findClass "java/lang/Math" = some m.cls := findClass_of_methodNamed Bd.named
  have hnm := (name_of_methodNamed Bd.named Bd.method).1
  have X0 : Stand p l e ({ frames := 0, cells := 0, slots := 0, locals := 0 } : Room) s m #[(.int x), (.int y)] below meth c s₁ [] 0 0 := Stand.of_body Bd
  have e0 : s₁.heap = h0 := by rw [← hh, Bd.state]; rfl
  have N0 := Fr.nil n0
  refine own_gl ?_
  refine own_st (S' := s₁.setTop (mkF m 0 #[.val (.int x), .val (.int y)] [])) (fun t_ k_ => castTop (ef_6 m x y) k_) ?_
  refine own_st (S' := s₁.setTop (mkF m 1 #[.val (.int x), .val (.int y)] [(.int x)])) (fun t_ k_ => XS.iloadN X0.here hx rfl (hb hby d6_0) rfl k_) ?_
  refine own_st (S' := s₁.setTop (mkF m 2 #[.val (.int x), .val (.int y)] [(.int y), (.int x)])) (fun t_ k_ => XS.iloadN X0.here hx rfl (hb hby d6_1) rfl k_) ?_
  refine own_st (S' := s₁.setTop (mkF m 5 #[.val (.int x), .val (.int y)] [])) (fun t_ k_ => XS.icmpNo X0.here hx rfl (hb hby d6_2) rfl (flt h).2.2.1 k_) ?_
  refine own_st (S' := s₁.setTop (mkF m 6 #[.val (.int x), .val (.int y)] [(.int x)])) (fun t_ k_ => XS.iloadN X0.here hx rfl (hb hby d6_5) rfl k_) ?_
  refine own_st (S' := s₁.setTop (mkF m 10 #[.val (.int x), .val (.int y)] [(.int x)])) (fun t_ k_ => XS.goto X0.here hx rfl (pc0 := 6) (pc' := 10) rfl (hb hby d6_6) (by decide) (by decide) k_) ?_
  obtain ⟨fs, hr, hrun, hended, hW, hsame⟩ := X0.leave (v := some (.int x)) (fun h => by rw [Bd.returns] at h; cases h)
  refine ⟨_, _, retI X0 hx Bd.returns (hb hby d6_10) hr, hrun, hended, _, _, rfl, ?_, ⟨_, rfl⟩, hW, hsame.mono (by decide) (by decide)⟩
  show Q6 Z x y h0 n0 _ s₁.heap _
  rw [e0]
  exact ⟨rfl, N0, rfl⟩
theorem d7_0 : decode jdk_29_method_70_code 0 = .ok (.lload_n 0, 1) := by decide +kernel
theorem d7_1 : decode jdk_29_method_70_code 1 = .ok (.lload_n 2, 1) := by decide +kernel
theorem d7_2 : decode jdk_29_method_70_code 2 = .ok (.lcmp, 1) := by decide +kernel
theorem d7_3 : decode jdk_29_method_70_code 3 = .ok (.ifCond .gt 7, 3) := by decide +kernel
theorem d7_6 : decode jdk_29_method_70_code 6 = .ok (.lload_n 0, 1) := by decide +kernel
theorem d7_7 : decode jdk_29_method_70_code 7 = .ok (.goto 4, 3) := by decide +kernel
theorem d7_10 : decode jdk_29_method_70_code 10 = .ok (.lload_n 2, 1) := by decide +kernel
theorem d7_11 : decode jdk_29_method_70_code 11 = .ok (.lreturn, 1) := by decide +kernel
theorem ef_7 (m : MethodId) (x : Int64) (y : Int64) : entryFrame m #[(.long x), (.long y)] 4 = mkF m 0 #[.val (.long x), .second, .val (.long y), .second] [] := by first | (simp [entryFrame, mkF, argsToLocals, Value.category]; done) | rfl
def Q7 (Z : State) (x : Int64) (y : Int64) (h0 : Heap) (n0 : Nat) (v_ : Option Value) (h_ : Heap) (L_ : List Loc) : Prop := v_ = some (.long (own_lmin x y)) ∧ Fr n0 L_ ∧ h_ = h0
set_option maxRecDepth 65536 in
set_option maxHeartbeats 40000000 in
theorem rm7 (l : Launch) (Z : State) (a0 : Array Value) (hw : ∀ d ∈ tables_1, d.before a0 Z = true) (ws : List Jvm.Cond) (x : Int64) (y : Int64) (h0 : Heap) (n0 : Nat) (Z0 : n0 ≤ h0.size)  :
    MetFree l (⟨"java/lang/Math", "min", "(JJ)J"⟩ : MethodName) (head1 (Jvm.Cond.code (⟨"java/lang/Math", "min", "(JJ)J"⟩ : MethodName) jdk_29_method_70_code 4 (some .long) :: ws) ({ frames := 0, cells := 0, slots := 0, locals := 0 } : Room)) (fun ar_ U_ => ar_ = #[(.long x), (.long y)] ∧ Z.Warmed39 U_.vm ∧ U_.heap = h0) (fun _ _ _ _ _ => True) (fun _ U_ o_ U2_ => ∃ v_ L_, o_ = .returned v_ ∧ Q7 Z x y h0 n0 v_ U2_.heap L_ ∧ FrameEnd U_ o_ U2_ L_ ({ frames := 0, cells := 0, slots := 0, locals := 0 } : Room).cells ({ frames := 0, cells := 0, slots := 0, locals := 0 } : Room).slots) := by
  refine MetFree.of_bodySF (Jvm.Free.JP.mathPlain rfl (by decide +kernel)) hisR ?_
  intro p e s m args below meth c s₁ Bd hml0 hP hK
  obtain ⟨rfl, hZ, hh⟩ := hP
  have hx := Bd.exec
  have hby := Bd.bytes
  have hml : c.maxLocals = 4 := hml0
  have hown : s.vm.findClass "java/lang/Math" = some m.cls := findClass_of_methodNamed Bd.named
  have hnm := (name_of_methodNamed Bd.named Bd.method).1
  have X0 : Stand p l e ({ frames := 0, cells := 0, slots := 0, locals := 0 } : Room) s m #[(.long x), (.long y)] below meth c s₁ [] 0 0 := Stand.of_body Bd
  have e0 : s₁.heap = h0 := by rw [← hh, Bd.state]; rfl
  have N0 := Fr.nil n0
  refine own_gl ?_
  refine own_st (S' := s₁.setTop (mkF m 0 #[.val (.long x), .second, .val (.long y), .second] [])) (fun t_ k_ => castTop (ef_7 m x y) k_) ?_
  refine own_st (S' := s₁.setTop (mkF m 1 #[.val (.long x), .second, .val (.long y), .second] [(.long x)])) (fun t_ k_ => XS.lloadN X0.here hx rfl (hb hby d7_0) rfl k_) ?_
  refine own_st (S' := s₁.setTop (mkF m 2 #[.val (.long x), .second, .val (.long y), .second] [(.long y), (.long x)])) (fun t_ k_ => XS.lloadN X0.here hx rfl (hb hby d7_1) rfl k_) ?_
  refine own_st (S' := s₁.setTop (mkF m 3 #[.val (.long x), .second, .val (.long y), .second] [(.int (lcmpW x y))])) (fun t_ k_ => XS.lcmp X0.here hx rfl (hb hby d7_2) rfl k_) ?_
  by_cases hc3 : y < x
  · refine own_st (S' := s₁.setTop (mkF m 10 #[.val (.long x), .second, .val (.long y), .second] [])) (fun t_ k_ => XS.ifYes X0.here hx rfl (pc0 := 3) (pc' := 10) rfl (hb hby d7_3) rfl ((if0 _ _).trans (tlt ((lw_gt _ _).mpr hc3)).2.2.1) (by decide) (by decide) k_) ?_
    refine own_st (S' := s₁.setTop (mkF m 11 #[.val (.long x), .second, .val (.long y), .second] [(.long y)])) (fun t_ k_ => XS.lloadN X0.here hx rfl (hb hby d7_10) rfl k_) ?_
    obtain ⟨fs, hr, hrun, hended, hW, hsame⟩ := X0.leave (v := some (.long y)) (fun h => by rw [Bd.returns] at h; cases h)
    refine ⟨_, _, own_retJ X0 hx Bd.returns (hb hby d7_11) hr, hrun, hended, _, _, rfl, ?_, ⟨_, rfl⟩, hW, hsame.mono (by decide) (by decide)⟩
    show Q7 Z x y h0 n0 _ s₁.heap _
    rw [e0]
    exact ⟨(congrArg (fun z => some (Value.long z)) (show y = (own_lmin x y) from by simp [own_lmin, hc3])), N0, rfl⟩
  · refine own_st (S' := s₁.setTop (mkF m 6 #[.val (.long x), .second, .val (.long y), .second] [])) (fun t_ k_ => XS.ifNo X0.here hx rfl (hb hby d7_3) rfl ((if0 _ _).trans (flt (fun q => hc3 ((lw_gt _ _).mp q))).2.2.1) k_) ?_
    refine own_st (S' := s₁.setTop (mkF m 7 #[.val (.long x), .second, .val (.long y), .second] [(.long x)])) (fun t_ k_ => XS.lloadN X0.here hx rfl (hb hby d7_6) rfl k_) ?_
    refine own_st (S' := s₁.setTop (mkF m 11 #[.val (.long x), .second, .val (.long y), .second] [(.long x)])) (fun t_ k_ => XS.goto X0.here hx rfl (pc0 := 7) (pc' := 11) rfl (hb hby d7_7) (by decide) (by decide) k_) ?_
    obtain ⟨fs, hr, hrun, hended, hW, hsame⟩ := X0.leave (v := some (.long x)) (fun h => by rw [Bd.returns] at h; cases h)
    refine ⟨_, _, own_retJ X0 hx Bd.returns (hb hby d7_11) hr, hrun, hended, _, _, rfl, ?_, ⟨_, rfl⟩, hW, hsame.mono (by decide) (by decide)⟩
    show Q7 Z x y h0 n0 _ s₁.heap _
    rw [e0]
    exact ⟨(congrArg (fun z => some (Value.long z)) (show x = (own_lmin x y) from by simp [own_lmin, hc3])), N0, rfl⟩
theorem d8_0 : decode jdk_29_method_66_code 0 = .ok (.lload_n 0, 1) := by decide +kernel
theorem d8_1 : decode jdk_29_method_66_code 1 = .ok (.lload_n 2, 1) := by decide +kernel
theorem d8_2 : decode jdk_29_method_66_code 2 = .ok (.lcmp, 1) := by decide +kernel
theorem d8_3 : decode jdk_29_method_66_code 3 = .ok (.ifCond .lt 7, 3) := by decide +kernel
theorem d8_6 : decode jdk_29_method_66_code 6 = .ok (.lload_n 0, 1) := by decide +kernel
theorem d8_7 : decode jdk_29_method_66_code 7 = .ok (.goto 4, 3) := by decide +kernel
theorem d8_10 : decode jdk_29_method_66_code 10 = .ok (.lload_n 2, 1) := by decide +kernel
theorem d8_11 : decode jdk_29_method_66_code 11 = .ok (.lreturn, 1) := by decide +kernel
theorem ef_8 (m : MethodId) (x : Int64) (y : Int64) : entryFrame m #[(.long x), (.long y)] 4 = mkF m 0 #[.val (.long x), .second, .val (.long y), .second] [] := by first | (simp [entryFrame, mkF, argsToLocals, Value.category]; done) | rfl
def Q8 (Z : State) (x : Int64) (y : Int64) (h0 : Heap) (n0 : Nat) (v_ : Option Value) (h_ : Heap) (L_ : List Loc) : Prop := v_ = some (.long (own_lmax x y)) ∧ Fr n0 L_ ∧ h_ = h0
set_option maxRecDepth 65536 in
set_option maxHeartbeats 40000000 in
theorem rm8 (l : Launch) (Z : State) (a0 : Array Value) (hw : ∀ d ∈ tables_1, d.before a0 Z = true) (ws : List Jvm.Cond) (x : Int64) (y : Int64) (h0 : Heap) (n0 : Nat) (Z0 : n0 ≤ h0.size)  :
    MetFree l (⟨"java/lang/Math", "max", "(JJ)J"⟩ : MethodName) (head1 (Jvm.Cond.code (⟨"java/lang/Math", "max", "(JJ)J"⟩ : MethodName) jdk_29_method_66_code 4 (some .long) :: ws) ({ frames := 0, cells := 0, slots := 0, locals := 0 } : Room)) (fun ar_ U_ => ar_ = #[(.long x), (.long y)] ∧ Z.Warmed39 U_.vm ∧ U_.heap = h0) (fun _ _ _ _ _ => True) (fun _ U_ o_ U2_ => ∃ v_ L_, o_ = .returned v_ ∧ Q8 Z x y h0 n0 v_ U2_.heap L_ ∧ FrameEnd U_ o_ U2_ L_ ({ frames := 0, cells := 0, slots := 0, locals := 0 } : Room).cells ({ frames := 0, cells := 0, slots := 0, locals := 0 } : Room).slots) := by
  refine MetFree.of_bodySF (Jvm.Free.JP.mathPlain rfl (by decide +kernel)) hisR ?_
  intro p e s m args below meth c s₁ Bd hml0 hP hK
  obtain ⟨rfl, hZ, hh⟩ := hP
  have hx := Bd.exec
  have hby := Bd.bytes
  have hml : c.maxLocals = 4 := hml0
  have hown : s.vm.findClass "java/lang/Math" = some m.cls := findClass_of_methodNamed Bd.named
  have hnm := (name_of_methodNamed Bd.named Bd.method).1
  have X0 : Stand p l e ({ frames := 0, cells := 0, slots := 0, locals := 0 } : Room) s m #[(.long x), (.long y)] below meth c s₁ [] 0 0 := Stand.of_body Bd
  have e0 : s₁.heap = h0 := by rw [← hh, Bd.state]; rfl
  have N0 := Fr.nil n0
  refine own_gl ?_
  refine own_st (S' := s₁.setTop (mkF m 0 #[.val (.long x), .second, .val (.long y), .second] [])) (fun t_ k_ => castTop (ef_8 m x y) k_) ?_
  refine own_st (S' := s₁.setTop (mkF m 1 #[.val (.long x), .second, .val (.long y), .second] [(.long x)])) (fun t_ k_ => XS.lloadN X0.here hx rfl (hb hby d8_0) rfl k_) ?_
  refine own_st (S' := s₁.setTop (mkF m 2 #[.val (.long x), .second, .val (.long y), .second] [(.long y), (.long x)])) (fun t_ k_ => XS.lloadN X0.here hx rfl (hb hby d8_1) rfl k_) ?_
  refine own_st (S' := s₁.setTop (mkF m 3 #[.val (.long x), .second, .val (.long y), .second] [(.int (lcmpW x y))])) (fun t_ k_ => XS.lcmp X0.here hx rfl (hb hby d8_2) rfl k_) ?_
  by_cases hc3 : x < y
  · refine own_st (S' := s₁.setTop (mkF m 10 #[.val (.long x), .second, .val (.long y), .second] [])) (fun t_ k_ => XS.ifYes X0.here hx rfl (pc0 := 3) (pc' := 10) rfl (hb hby d8_3) rfl ((if0 _ _).trans (tlt ((lw_lt _ _).mpr hc3)).1) (by decide) (by decide) k_) ?_
    refine own_st (S' := s₁.setTop (mkF m 11 #[.val (.long x), .second, .val (.long y), .second] [(.long y)])) (fun t_ k_ => XS.lloadN X0.here hx rfl (hb hby d8_10) rfl k_) ?_
    obtain ⟨fs, hr, hrun, hended, hW, hsame⟩ := X0.leave (v := some (.long y)) (fun h => by rw [Bd.returns] at h; cases h)
    refine ⟨_, _, own_retJ X0 hx Bd.returns (hb hby d8_11) hr, hrun, hended, _, _, rfl, ?_, ⟨_, rfl⟩, hW, hsame.mono (by decide) (by decide)⟩
    show Q8 Z x y h0 n0 _ s₁.heap _
    rw [e0]
    exact ⟨(congrArg (fun z => some (Value.long z)) (show y = (own_lmax x y) from by simp [own_lmax, hc3])), N0, rfl⟩
  · refine own_st (S' := s₁.setTop (mkF m 6 #[.val (.long x), .second, .val (.long y), .second] [])) (fun t_ k_ => XS.ifNo X0.here hx rfl (hb hby d8_3) rfl ((if0 _ _).trans (flt (fun q => hc3 ((lw_lt _ _).mp q))).1) k_) ?_
    refine own_st (S' := s₁.setTop (mkF m 7 #[.val (.long x), .second, .val (.long y), .second] [(.long x)])) (fun t_ k_ => XS.lloadN X0.here hx rfl (hb hby d8_6) rfl k_) ?_
    refine own_st (S' := s₁.setTop (mkF m 11 #[.val (.long x), .second, .val (.long y), .second] [(.long x)])) (fun t_ k_ => XS.goto X0.here hx rfl (pc0 := 7) (pc' := 11) rfl (hb hby d8_7) (by decide) (by decide) k_) ?_
    obtain ⟨fs, hr, hrun, hended, hW, hsame⟩ := X0.leave (v := some (.long x)) (fun h => by rw [Bd.returns] at h; cases h)
    refine ⟨_, _, own_retJ X0 hx Bd.returns (hb hby d8_11) hr, hrun, hended, _, _, rfl, ?_, ⟨_, rfl⟩, hW, hsame.mono (by decide) (by decide)⟩
    show Q8 Z x y h0 n0 _ s₁.heap _
    rw [e0]
    exact ⟨(congrArg (fun z => some (Value.long z)) (show x = (own_lmax x y) from by simp [own_lmax, hc3])), N0, rfl⟩
theorem d9_0 : decode prog_20_method_1_code 0 = .ok (.aload_n 0, 1) := by decide +kernel
theorem d9_1 : decode prog_20_method_1_code 1 = .ok (.invokespecial 1, 3) := by decide +kernel
theorem d9_4 : decode prog_20_method_1_code 4 = .ok (.aload_n 0, 1) := by decide +kernel
theorem d9_5 : decode prog_20_method_1_code 5 = .ok (.iload_n 1, 1) := by decide +kernel
theorem d9_6 : decode prog_20_method_1_code 6 = .ok (.bipush 16, 2) := by decide +kernel
theorem d9_8 : decode prog_20_method_1_code 8 = .ok (.invokestatic 7, 3) := by decide +kernel
theorem d9_11 : decode prog_20_method_1_code 11 = .ok (.newarray .byte, 2) := by decide +kernel
theorem d9_13 : decode prog_20_method_1_code 13 = .ok (.putfield 13, 3) := by decide +kernel
theorem d9_16 : decode prog_20_method_1_code 16 = .ok (.return_, 1) := by decide +kernel
theorem pn_2 : plainName "quorumline/FieldWriter" = true := by first | (simp [plainName, overriddenIn]; done) | decide +kernel
theorem ef_9 (m : MethodId) (a : Addr) : entryFrame m #[(.ref a), (.int (0 : Int32))] 2 = mkF m 0 #[.val (.ref a), .val (.int (0 : Int32))] [] := by first | (simp [entryFrame, mkF, argsToLocals, Value.category]; done) | rfl
theorem pd_2 : parseMethodDescriptor "(II)I" = some ⟨[.int, .int], some .int⟩ := by decide +kernel
def Q9 (Z : State) (a : Addr) (h0 : Heap) (n0 : Nat) (v_ : Option Value) (h_ : Heap) (L_ : List Loc) : Prop := ∃ b : Addr, ∃ k : ClassId, ∃ vs : List Value, v_ = none ∧ Fr n0 L_ ∧ Keep h0 h_ [a] ∧ h0.size ≤ b ∧ Exa Z h_ a "quorumline/FieldWriter" ∧ Fld Z h_ a "quorumline/FieldWriter" "bytes" "[B" (.ref b) ∧ Fld Z h_ a "quorumline/FieldWriter" "size" "I" (.int (0 : Int32)) ∧ Arv Z h_ b k .byte (16 : Int32) vs (.int (0 : Int32))
set_option maxRecDepth 65536 in
set_option maxHeartbeats 40000000 in
theorem rm9 (l : Launch) (Z : State) (a0 : Array Value) (hw : ∀ d ∈ tables_1, d.before a0 Z = true) (ws : List Jvm.Cond) (a : Addr) (h0 : Heap) (n0 : Nat) (Z0 : n0 ≤ h0.size) (P0 : Exa Z h0 a "quorumline/FieldWriter") (P1 : Fld Z h0 a "quorumline/FieldWriter" "bytes" "[B" .null) (P2 : Fld Z h0 a "quorumline/FieldWriter" "size" "I" (.int (0 : Int32))) (g_a : n0 ≤ a) :
    MetFree l (⟨"quorumline/FieldWriter", "<init>", "(I)V"⟩ : MethodName) (head1 (Jvm.Cond.code (⟨"quorumline/FieldWriter", "<init>", "(I)V"⟩ : MethodName) prog_20_method_1_code 2 none :: ws) ({ frames := 1, cells := 1, slots := 16, locals := 14 } : Room)) (fun ar_ U_ => ar_ = #[(.ref a), (.int (0 : Int32))] ∧ Z.Warmed39 U_.vm ∧ U_.heap = h0) (fun _ _ _ _ _ => True) (fun _ U_ o_ U2_ => ∃ v_ L_, o_ = .returned v_ ∧ Q9 Z a h0 n0 v_ U2_.heap L_ ∧ FrameEnd U_ o_ U2_ L_ ({ frames := 1, cells := 1, slots := 16, locals := 14 } : Room).cells ({ frames := 1, cells := 1, slots := 16, locals := 14 } : Room).slots) := by
  refine MetFree.of_bodySF (plainFor_of_name pn_2) hisR ?_
  intro p e s m args below meth c s₁ Bd hml0 hP hK
  obtain ⟨rfl, hZ, hh⟩ := hP
  have hx := Bd.exec
  have hby := Bd.bytes
  have hml : c.maxLocals = 2 := hml0
  have hown : s.vm.findClass "quorumline/FieldWriter" = some m.cls := findClass_of_methodNamed Bd.named
  have hnm := (name_of_methodNamed Bd.named Bd.method).1
  have X0 : Stand p l e ({ frames := 1, cells := 1, slots := 16, locals := 14 } : Room) s m #[(.ref a), (.int (0 : Int32))] below meth c s₁ [] 0 0 := Stand.of_body Bd
  have e0 : s₁.heap = h0 := by rw [← hh, Bd.state]; rfl
  have N0 := Fr.nil n0
  refine own_gl ?_
  refine own_st (S' := s₁.setTop (mkF m 0 #[.val (.ref a), .val (.int (0 : Int32))] [])) (fun t_ k_ => castTop (ef_9 m a) k_) ?_
  refine own_st (S' := s₁.setTop (mkF m 1 #[.val (.ref a), .val (.int (0 : Int32))] [(.ref a)])) (fun t_ k_ => XS.aloadN X0.here hx rfl (hb hby d9_0) rfl rfl k_) ?_
  obtain ⟨T_1, X_1, e_1, st_1⟩ := initO X0 hx hZ hown (hw _ (List.mem_of_getElem? (i := 27) rfl)) (hw _ (List.mem_of_getElem? (i := 15) rfl)) (hw _ (List.mem_of_getElem? (i := 16) rfl)) e0 (g := (mkF m 1 #[.val (.ref a), .val (.int (0 : Int32))] [(.ref a)])) rfl (by rw [hml]; rfl) rfl (hb hby d9_1) (by decide) (W := 0) (by show 2 * 0 + _ ≤ _; exact Nat.le_of_eq rfl) (by decide)
  refine own_st (S' := T_1.setTop (mkF m 4 #[.val (.ref a), .val (.int (0 : Int32))] [])) st_1 ?_
  refine own_st (S' := T_1.setTop (mkF m 5 #[.val (.ref a), .val (.int (0 : Int32))] [(.ref a)])) (fun t_ k_ => XS.aloadN X_1.here hx rfl (hb hby d9_4) rfl rfl k_) ?_
  refine own_st (S' := T_1.setTop (mkF m 6 #[.val (.ref a), .val (.int (0 : Int32))] [(.int (0 : Int32)), (.ref a)])) (fun t_ k_ => XS.iloadN X_1.here hx rfl (hb hby d9_5) rfl k_) ?_
  refine own_st (S' := T_1.setTop (mkF m 8 #[.val (.ref a), .val (.int (0 : Int32))] [(.int (16 : Int32)), (.int (0 : Int32)), (.ref a)])) (fun t_ k_ => XS.bipush X_1.here hx rfl (hb hby d9_6) k_) ?_
  obtain ⟨_, _, ⟨T_2, L_2, k_2, n_2⟩, -, X_2, ⟨Lc_2, hQ_2, l_2, y_2, z_2⟩, st_2⟩ := Jvm.LawKit.callS X_1 hx (y := (⟨"java/lang/Math", "max", "(II)I"⟩ : MethodName)) hown (mvT hZ (hw _ (List.mem_of_getElem? (i := 28) rfl))) (mvT hZ (hw _ (List.mem_of_getElem? (i := 29) rfl))) (mvT hZ (hw _ (List.mem_of_getElem? (i := 30) rfl))) (mvT hZ (hw _ (List.mem_of_getElem? (i := 31) rfl))) (by decide) (backOf (W := 1) (rm5 l Z a0 hw [] (0 : Int32) (16 : Int32) h0 n0 Z0 (by decide)) hZ (hw _ (List.mem_of_getElem? (i := 31) rfl)) (hw _ (List.mem_of_getElem? (i := 30) rfl)) (by decide) (by decide)) (g := (mkF m 8 #[.val (.ref a), .val (.int (0 : Int32))] [(.int (16 : Int32)), (.int (0 : Int32)), (.ref a)])) rfl (by rw [hml]; rfl) (argsL := [(.int (0 : Int32)), (.int (16 : Int32))]) (rest := [(.ref a)]) (lenOf pd_2 rfl) rfl (by show 2 * 0 + _ ≤ _; exact Nat.le_of_eq rfl) (hb hby d9_8) (fun _ _ => ⟨rfl, e_1, (by decide : 0 + 0 ≤ _), (by decide : 0 + 0 ≤ _)⟩)
  dsimp only [Pt.U, Pt.locs, Pt.cells, Pt.slots] at X_2 l_2 y_2 z_2 st_2 hQ_2
  subst l_2 y_2 z_2
  obtain ⟨rfl, M_2, q_2⟩ := hQ_2
  have N_2 := Fr.app N0 M_2
  refine own_st (S' := T_2.setTop (mkF m 11 #[.val (.ref a), .val (.int (0 : Int32))] [(.int (16 : Int32)), (.ref a)])) st_2 ?_
  obtain ⟨T_3, h_3, k_3, X_3, e_3, E_3, A_3, st_3⟩ := newP X_2 hx hZ (hw _ (List.mem_of_getElem? (i := 32) rfl)) q_2 (g := (mkF m 11 #[.val (.ref a), .val (.int (0 : Int32))] [(.int (16 : Int32)), (.ref a)])) rfl (hb hby d9_11) rfl (by decide) (cap := 16) (by decide) (by decide) (by decide) (by decide)
  obtain ⟨b_3, gg_3⟩ : ∃ z, z = h0.size := ⟨_, rfl⟩
  rw [← gg_3] at A_3 st_3
  have ne_a_b_3 : a ≠ b_3 := Nat.ne_of_lt (Nat.lt_of_lt_of_le P0.lt (Nat.le_of_eq gg_3.symm))
  have g_b_3 : n0 ≤ b_3 := Nat.le_trans Z0 (Nat.le_of_eq gg_3.symm)
  have sz_b_3 : h0.size ≤ b_3 := Nat.le_trans (Keep.refl h0 [a]).1 (Nat.le_of_eq gg_3.symm)
  have Z_3 : n0 ≤ h_3.size := Nat.le_trans Z0 E_3.1
  have K_3 : Keep h0 h_3 [a] := (Keep.refl h0 [a]).ext E_3
  have V_3 : Arv Z h_3 b_3 k_3 .byte (16 : Int32) [(.int (0 : Int32)), (.int (0 : Int32)), (.int (0 : Int32)), (.int (0 : Int32)), (.int (0 : Int32)), (.int (0 : Int32)), (.int (0 : Int32)), (.int (0 : Int32)), (.int (0 : Int32)), (.int (0 : Int32)), (.int (0 : Int32)), (.int (0 : Int32)), (.int (0 : Int32)), (.int (0 : Int32)), (.int (0 : Int32)), (.int (0 : Int32))] (.int (0 : Int32)) := (Arv.new A_3 (by decide)).pad (pad_rep [] (.int (0 : Int32)) 16)
  refine own_st (S' := T_3.setTop (mkF m 13 #[.val (.ref a), .val (.int (0 : Int32))] [(.ref b_3), (.ref a)])) st_3 ?_
  have f_4 : Fld Z h_3 a "quorumline/FieldWriter" "bytes" "[B" .null := (Fld.ext E_3 P1)
  have f_5 : Exa Z h_3 a "quorumline/FieldWriter" := (Exa.ext E_3 P0)
  obtain ⟨T_6, h_6, X_6, e_6, W_6, st_6⟩ := putF X_3 hx hZ hown (host := "") (Or.inl (hw _ (List.mem_of_getElem? (i := 33) rfl))) Via.refl e_3 f_4 f_5 (Or.inl (hw _ (List.mem_of_getElem? (i := 34) rfl))) (hw _ (List.mem_of_getElem? (i := 22) rfl)) (ty := (.array .byte)) (by decide) rfl rfl (g := (mkF m 13 #[.val (.ref a), .val (.int (0 : Int32))] [(.ref b_3), (.ref a)])) rfl rfl (hb hby d9_13)
  have Z_6 : n0 ≤ h_6.size := Nat.le_trans Z_3 (Keep.of_wr W_6).1
  have N_6 := Fr.snoc X_6 N_2 g_a
  have K_6 : Keep h0 h_6 [a] := K_3.wr W_6 (Or.inl (List.mem_of_getElem? (i := 0) rfl))
  have f_6 : Fld Z h_6 a "quorumline/FieldWriter" "bytes" "[B" (.ref b_3) := Fld.same W_6 f_4
  refine own_st (S' := T_6.setTop (mkF m 16 #[.val (.ref a), .val (.int (0 : Int32))] [])) st_6 ?_
  obtain ⟨fs, hr, hrun, hended, hW, hsame⟩ := X_6.leave (v := none) (fun _ => rfl)
  have f_7 : Exa Z h_6 a "quorumline/FieldWriter" := (Exa.wr W_6 f_5)
  have f_8 : Fld Z h_6 a "quorumline/FieldWriter" "size" "I" (.int (0 : Int32)) := (Fld.other W_6 (Fld.ext E_3 P2) (Or.inr (slot_ne (Or.inl (hw _ (List.mem_of_getElem? (i := 50) rfl))) (Or.inl (hw _ (List.mem_of_getElem? (i := 34) rfl))) (by decide) (t := .int) (t' := (.array .byte)) (by decide) (by decide))))
  have f_9 : Arv Z h_6 b_3 k_3 .byte (16 : Int32) [(.int (0 : Int32)), (.int (0 : Int32)), (.int (0 : Int32)), (.int (0 : Int32)), (.int (0 : Int32)), (.int (0 : Int32)), (.int (0 : Int32)), (.int (0 : Int32)), (.int (0 : Int32)), (.int (0 : Int32)), (.int (0 : Int32)), (.int (0 : Int32)), (.int (0 : Int32)), (.int (0 : Int32)), (.int (0 : Int32)), (.int (0 : Int32))] (.int (0 : Int32)) := (V_3.other W_6 (Ne.symm ne_a_b_3))
  refine ⟨_, _, X_6.returnOut hx Bd.returns (hb hby d9_16) hr, hrun, hended, _, _, rfl, ?_, ⟨_, rfl⟩, hW, hsame.mono (by decide) (by decide)⟩
  show Q9 Z a h0 n0 _ T_6.heap _
  rw [e_6]
  exact ⟨b_3, k_3, [(.int (0 : Int32)), (.int (0 : Int32)), (.int (0 : Int32)), (.int (0 : Int32)), (.int (0 : Int32)), (.int (0 : Int32)), (.int (0 : Int32)), (.int (0 : Int32)), (.int (0 : Int32)), (.int (0 : Int32)), (.int (0 : Int32)), (.int (0 : Int32)), (.int (0 : Int32)), (.int (0 : Int32)), (.int (0 : Int32)), (.int (0 : Int32))], rfl, N_6, K_6, sz_b_3, f_7, f_6, f_8, f_9⟩
theorem d10_0 : decode jdk_65_method_121_code 0 = .ok (.iload_n 1, 1) := by decide +kernel
theorem d10_1 : decode jdk_65_method_121_code 1 = .ok (.aload_n 0, 1) := by decide +kernel
theorem d10_2 : decode jdk_65_method_121_code 2 = .ok (.arraylength, 1) := by decide +kernel
theorem d10_3 : decode jdk_65_method_121_code 3 = .ok (.if_icmp .ne 11, 3) := by decide +kernel
theorem d10_14 : decode jdk_65_method_121_code 14 = .ok (.iload_n 1, 1) := by decide +kernel
theorem d10_15 : decode jdk_65_method_121_code 15 = .ok (.newarray .byte, 2) := by decide +kernel
theorem d10_17 : decode jdk_65_method_121_code 17 = .ok (.astore_n 2, 1) := by decide +kernel
theorem d10_18 : decode jdk_65_method_121_code 18 = .ok (.aload_n 0, 1) := by decide +kernel
theorem d10_19 : decode jdk_65_method_121_code 19 = .ok (.iconst 0, 1) := by decide +kernel
theorem d10_20 : decode jdk_65_method_121_code 20 = .ok (.aload_n 2, 1) := by decide +kernel
theorem d10_21 : decode jdk_65_method_121_code 21 = .ok (.iconst 0, 1) := by decide +kernel
theorem d10_22 : decode jdk_65_method_121_code 22 = .ok (.aload_n 0, 1) := by decide +kernel
theorem d10_23 : decode jdk_65_method_121_code 23 = .ok (.arraylength, 1) := by decide +kernel
theorem d10_24 : decode jdk_65_method_121_code 24 = .ok (.iload_n 1, 1) := by decide +kernel
theorem d10_25 : decode jdk_65_method_121_code 25 = .ok (.invokestatic 304, 3) := by decide +kernel
theorem d10_28 : decode jdk_65_method_121_code 28 = .ok (.invokestatic 150, 3) := by decide +kernel
theorem d10_31 : decode jdk_65_method_121_code 31 = .ok (.aload_n 2, 1) := by decide +kernel
theorem d10_32 : decode jdk_65_method_121_code 32 = .ok (.areturn, 1) := by decide +kernel
theorem pn_3 : plainName "java/util/Arrays" = true := by first | (simp [plainName, overriddenIn]; done) | decide +kernel
theorem ef_10 (m : MethodId) (d : Addr) (n2 : Int32) : entryFrame m #[(.ref d), (.int n2)] 3 = mkF m 0 #[.val (.ref d), .val (.int n2), .unset] [] := by first | (simp [entryFrame, mkF, argsToLocals, Value.category]; done) | rfl
def Q10 (Z : State) (d : Addr) (n2 : Int32) (k : ClassId) (vs : List Value) (h0 : Heap) (n0 : Nat) (v_ : Option Value) (h_ : Heap) (L_ : List Loc) : Prop := ∃ b2 : Addr, ∃ k2 : ClassId, ∃ vs2 : List Value, v_ = some (.ref b2) ∧ Fr n0 L_ ∧ Keep h0 h_ [] ∧ h0.size ≤ b2 ∧ Arv Z h_ b2 k2 .byte n2 vs2 (.int (0 : Int32))
set_option maxRecDepth 65536 in
set_option maxHeartbeats 40000000 in
theorem rm10 (l : Launch) (Z : State) (a0 : Array Value) (hw : ∀ d ∈ tables_1, d.before a0 Z = true) (ws : List Jvm.Cond) (d : Addr) (n2 : Int32) (k : ClassId) (vs : List Value) (h0 : Heap) (n0 : Nat) (Z0 : n0 ≤ h0.size) (P0 : Arv Z h0 d k .byte (16 : Int32) vs (.int (0 : Int32))) (hne : ¬ (n2 = (16 : Int32))) (hn0 : ¬ (n2 < (0 : Int32))) (h75 : ¬ ((75 : Int32) < n2)) (h16 : ¬ (n2 < (16 : Int32))) :
    MetFree l (⟨"java/util/Arrays", "copyOf", "([BI)[B"⟩ : MethodName) (head1 (Jvm.Cond.code (⟨"java/util/Arrays", "copyOf", "([BI)[B"⟩ : MethodName) jdk_65_method_121_code 3 (some (.array .byte)) :: ws) ({ frames := 1, cells := 1, slots := 75, locals := 18 } : Room)) (fun ar_ U_ => ar_ = #[(.ref d), (.int n2)] ∧ Z.Warmed39 U_.vm ∧ U_.heap = h0) (fun _ _ _ _ _ => True) (fun _ U_ o_ U2_ => ∃ v_ L_, o_ = .returned v_ ∧ Q10 Z d n2 k vs h0 n0 v_ U2_.heap L_ ∧ FrameEnd U_ o_ U2_ L_ ({ frames := 1, cells := 1, slots := 75, locals := 18 } : Room).cells ({ frames := 1, cells := 1, slots := 75, locals := 18 } : Room).slots) := by
  refine MetFree.of_bodySF (plainFor_of_name pn_3) hisR ?_
  intro p e s m args below meth c s₁ Bd hml0 hP hK
  obtain ⟨rfl, hZ, hh⟩ := hP
  have hx := Bd.exec
  have hby := Bd.bytes
  have hml : c.maxLocals = 3 := hml0
  have hown : s.vm.findClass "java/util/Arrays" = some m.cls := findClass_of_methodNamed Bd.named
  have hnm := (name_of_methodNamed Bd.named Bd.method).1
  have X0 : Stand p l e ({ frames := 1, cells := 1, slots := 75, locals := 18 } : Room) s m #[(.ref d), (.int n2)] below meth c s₁ [] 0 0 := Stand.of_body Bd
  have e0 : s₁.heap = h0 := by rw [← hh, Bd.state]; rfl
  have N0 := Fr.nil n0
  refine own_gl ?_
  refine own_st (S' := s₁.setTop (mkF m 0 #[.val (.ref d), .val (.int n2), .unset] [])) (fun t_ k_ => castTop (ef_10 m d n2) k_) ?_
  refine own_st (S' := s₁.setTop (mkF m 1 #[.val (.ref d), .val (.int n2), .unset] [(.int n2)])) (fun t_ k_ => XS.iloadN X0.here hx rfl (hb hby d10_0) rfl k_) ?_
  refine own_st (S' := s₁.setTop (mkF m 2 #[.val (.ref d), .val (.int n2), .unset] [(.ref d), (.int n2)])) (fun t_ k_ => XS.aloadN X0.here hx rfl (hb hby d10_1) rfl rfl k_) ?_
  obtain ⟨cl_1, Ar_1, q_1, S_1, M_1, H_1, G_1⟩ := id P0
  refine own_st (S' := s₁.setTop (mkF m 3 #[.val (.ref d), .val (.int n2), .unset] [(.int (16 : Int32)), (.int n2)])) (fun t_ k_ => X0.arraylength hx (by rw [e0]; exact Ar_1.1) (State.isArrayOf_alike hZ.alike Ar_1.2.1) (g := (mkF m 2 #[.val (.ref d), .val (.int n2), .unset] [(.ref d), (.int n2)])) rfl rfl (hb hby d10_2) _ (by rw [len_of S_1 M_1]; exact k_)) ?_
  refine own_st (S' := s₁.setTop (mkF m 14 #[.val (.ref d), .val (.int n2), .unset] [])) (fun t_ k_ => XS.icmpYes X0.here hx rfl (pc0 := 3) (pc' := 14) rfl (hb hby d10_3) rfl (feq hne).2 (by decide) (by decide) k_) ?_
  refine own_st (S' := s₁.setTop (mkF m 15 #[.val (.ref d), .val (.int n2), .unset] [(.int n2)])) (fun t_ k_ => XS.iloadN X0.here hx rfl (hb hby d10_14) rfl k_) ?_
  obtain ⟨T_2, h_2, k_2, X_2, e_2, E_2, A_2, st_2⟩ := newP X0 hx hZ (hw _ (List.mem_of_getElem? (i := 32) rfl)) e0 (g := (mkF m 15 #[.val (.ref d), .val (.int n2), .unset] [(.int n2)])) rfl (hb hby d10_15) rfl hn0 (cap := 75) (own_cap75 hn0 h75) (by decide) (by decide) (by decide)
  obtain ⟨b_2, gg_2⟩ : ∃ z, z = h0.size := ⟨_, rfl⟩
  rw [← gg_2] at A_2 st_2
  have ne_d_b_2 : d ≠ b_2 := Nat.ne_of_lt (Nat.lt_of_lt_of_le P0.lt (Nat.le_of_eq gg_2.symm))
  have g_b_2 : n0 ≤ b_2 := Nat.le_trans Z0 (Nat.le_of_eq gg_2.symm)
  have sz_b_2 : h0.size ≤ b_2 := Nat.le_trans (Keep.refl h0 []).1 (Nat.le_of_eq gg_2.symm)
  have Z_2 : n0 ≤ h_2.size := Nat.le_trans Z0 E_2.1
  have K_2 : Keep h0 h_2 [] := (Keep.refl h0 []).ext E_2
  have V_2 : Arv Z h_2 b_2 k_2 .byte n2 [] (.int (0 : Int32)) := Arv.new A_2 hn0
  refine own_st (S' := T_2.setTop (mkF m 17 #[.val (.ref d), .val (.int n2), .unset] [(.ref b_2)])) st_2 ?_
  refine own_st (S' := T_2.setTop (mkF m 18 #[.val (.ref d), .val (.int n2), .val (.ref b_2)] [])) (fun t_ k_ => XS.astoreN X_2.here hx rfl (hb hby d10_17) rfl rfl (l' := #[.val (.ref d), .val (.int n2), .val (.ref b_2)]) rfl k_) ?_
  refine own_st (S' := T_2.setTop (mkF m 19 #[.val (.ref d), .val (.int n2), .val (.ref b_2)] [(.ref d)])) (fun t_ k_ => XS.aloadN X_2.here hx rfl (hb hby d10_18) rfl rfl k_) ?_
  refine own_st (S' := T_2.setTop (mkF m 20 #[.val (.ref d), .val (.int n2), .val (.ref b_2)] [(.int (0 : Int32)), (.ref d)])) (fun t_ k_ => XS.iconst X_2.here hx rfl (hb hby d10_19) k_) ?_
  refine own_st (S' := T_2.setTop (mkF m 21 #[.val (.ref d), .val (.int n2), .val (.ref b_2)] [(.ref b_2), (.int (0 : Int32)), (.ref d)])) (fun t_ k_ => XS.aloadN X_2.here hx rfl (hb hby d10_20) rfl rfl k_) ?_
  refine own_st (S' := T_2.setTop (mkF m 22 #[.val (.ref d), .val (.int n2), .val (.ref b_2)] [(.int (0 : Int32)), (.ref b_2), (.int (0 : Int32)), (.ref d)])) (fun t_ k_ => XS.iconst X_2.here hx rfl (hb hby d10_21) k_) ?_
  refine own_st (S' := T_2.setTop (mkF m 23 #[.val (.ref d), .val (.int n2), .val (.ref b_2)] [(.ref d), (.int (0 : Int32)), (.ref b_2), (.int (0 : Int32)), (.ref d)])) (fun t_ k_ => XS.aloadN X_2.here hx rfl (hb hby d10_22) rfl rfl k_) ?_
  have f_4 : Arv Z h_2 d k .byte (16 : Int32) vs (.int (0 : Int32)) := (P0.ext E_2)
  obtain ⟨cl_3, Ar_3, q_3, S_3, M_3, H_3, G_3⟩ := id f_4
  refine own_st (S' := T_2.setTop (mkF m 24 #[.val (.ref d), .val (.int n2), .val (.ref b_2)] [(.int (16 : Int32)), (.int (0 : Int32)), (.ref b_2), (.int (0 : Int32)), (.ref d)])) (fun t_ k_ => X_2.arraylength hx (by rw [e_2]; exact Ar_3.1) (State.isArrayOf_alike hZ.alike Ar_3.2.1) (g := (mkF m 23 #[.val (.ref d), .val (.int n2), .val (.ref b_2)] [(.ref d), (.int (0 : Int32)), (.ref b_2), (.int (0 : Int32)), (.ref d)])) rfl rfl (hb hby d10_23) _ (by rw [len_of S_3 M_3]; exact k_)) ?_
  refine own_st (S' := T_2.setTop (mkF m 25 #[.val (.ref d), .val (.int n2), .val (.ref b_2)] [(.int n2), (.int (16 : Int32)), (.int (0 : Int32)), (.ref b_2), (.int (0 : Int32)), (.ref d)])) (fun t_ k_ => XS.iloadN X_2.here hx rfl (hb hby d10_24) rfl k_) ?_
  obtain ⟨_, _, ⟨T_5, L_5, k_5, n_5⟩, -, X_5, ⟨Lc_5, hQ_5, l_5, y_5, z_5⟩, st_5⟩ := Jvm.LawKit.callS X_2 hx (y := (⟨"java/lang/Math", "min", "(II)I"⟩ : MethodName)) hown (mvT hZ (hw _ (List.mem_of_getElem? (i := 98) rfl))) (mvT hZ (hw _ (List.mem_of_getElem? (i := 99) rfl))) (mvT hZ (hw _ (List.mem_of_getElem? (i := 30) rfl))) (mvT hZ (hw _ (List.mem_of_getElem? (i := 100) rfl))) (by decide) (backOf (W := 4) (rm6 l Z a0 hw [] (16 : Int32) n2 h_2 n0 Z_2 h16) hZ (hw _ (List.mem_of_getElem? (i := 100) rfl)) (hw _ (List.mem_of_getElem? (i := 30) rfl)) (by decide) (by decide)) (g := (mkF m 25 #[.val (.ref d), .val (.int n2), .val (.ref b_2)] [(.int n2), (.int (16 : Int32)), (.int (0 : Int32)), (.ref b_2), (.int (0 : Int32)), (.ref d)])) rfl (by rw [hml]; rfl) (argsL := [(.int (16 : Int32)), (.int n2)]) (rest := [(.int (0 : Int32)), (.ref b_2), (.int (0 : Int32)), (.ref d)]) (lenOf pd_2 rfl) rfl (by show 2 * 0 + _ ≤ _; exact Nat.le_of_eq rfl) (hb hby d10_25) (fun _ _ => ⟨rfl, e_2, (by decide : 1 + 0 ≤ _), (by decide : 75 + 0 ≤ _)⟩)
  dsimp only [Pt.U, Pt.locs, Pt.cells, Pt.slots] at X_5 l_5 y_5 z_5 st_5 hQ_5
  subst l_5 y_5 z_5
  obtain ⟨rfl, M_5, q_5⟩ := hQ_5
  have N_5 := Fr.app N0 M_5
  refine own_st (S' := T_5.setTop (mkF m 28 #[.val (.ref d), .val (.int n2), .val (.ref b_2)] [(.int (16 : Int32)), (.int (0 : Int32)), (.ref b_2), (.int (0 : Int32)), (.ref d)])) st_5 ?_
  obtain ⟨T_6, h_6, L_6, X_6, e_6, N_6, K_6c, V_6x, st_6⟩ := cpA X_5 hx hZ hown (hw _ (List.mem_of_getElem? (i := 101) rfl)) (hw _ (List.mem_of_getElem? (i := 85) rfl)) (hw _ (List.mem_of_getElem? (i := 83) rfl)) (hw _ (List.mem_of_getElem? (i := 84) rfl)) q_5 f_4 (Arv.pad V_2 (pad_rep _ _ 200)) (Or.inl ⟨rfl, rfl⟩) (sp := (0 : Int32)) (dp := (0 : Int32)) (nn := (16 : Int32)) (by decide) (by decide) (by decide) (by decide) (by show 0 + 16 ≤ _; exact le_nat h16 (by decide) (by decide)) rfl (by simp only [List.length_append, List.length_replicate]; show 0 + 16 ≤ _; omega) N_5 g_b_2 (g := (mkF m 28 #[.val (.ref d), .val (.int n2), .val (.ref b_2)] [(.int (16 : Int32)), (.int (0 : Int32)), (.ref b_2), (.int (0 : Int32)), (.ref d)])) rfl (by rw [hml]; rfl) rfl (hb hby d10_28) (by decide) (W := 0) (by show 2 * 0 + _ ≤ _; exact Nat.le_of_eq rfl) (by decide)
  obtain ⟨vs_6, V_6⟩ : ∃ vs, Arv Z h_6 b_2 k_2 .byte n2 vs (.int (0 : Int32)) := ⟨_, V_6x⟩
  have K_6 : Keep h0 h_6 [] := K_2.trans K_6c (allS (Or.inr sz_b_2) all0)
  have Z_6 : n0 ≤ h_6.size := Nat.le_trans Z_2 K_6c.1
  refine own_st (S' := T_6.setTop (mkF m 31 #[.val (.ref d), .val (.int n2), .val (.ref b_2)] [])) st_6 ?_
  refine own_st (S' := T_6.setTop (mkF m 32 #[.val (.ref d), .val (.int n2), .val (.ref b_2)] [(.ref b_2)])) (fun t_ k_ => XS.aloadN X_6.here hx rfl (hb hby d10_31) rfl rfl k_) ?_
  obtain ⟨fs, hr, hrun, hended, hW, hsame⟩ := X_6.leave (v := some (.ref b_2)) (fun h => by rw [Bd.returns] at h; cases h)
  refine ⟨_, _, own_retR X_6 hx Bd.returns rfl rfl (hb hby d10_32) hr, hrun, hended, _, _, rfl, ?_, ⟨_, rfl⟩, hW, hsame.mono (by decide) (by decide)⟩
  show Q10 Z d n2 k vs h0 n0 _ T_6.heap _
  rw [e_6]
  exact ⟨b_2, k_2, vs_6, rfl, N_6, K_6, sz_b_2, V_6⟩
theorem d11_0 : decode prog_20_method_16_code 0 = .ok (.iload_n 1, 1) := by decide +kernel
theorem d11_1 : decode prog_20_method_16_code 1 = .ok (.aload_n 0, 1) := by decide +kernel
theorem d11_2 : decode prog_20_method_16_code 2 = .ok (.getfield 13, 3) := by decide +kernel
theorem d11_5 : decode prog_20_method_16_code 5 = .ok (.arraylength, 1) := by decide +kernel
theorem d11_6 : decode prog_20_method_16_code 6 = .ok (.aload_n 0, 1) := by decide +kernel
theorem d11_7 : decode prog_20_method_16_code 7 = .ok (.getfield 19, 3) := by decide +kernel
theorem d11_10 : decode prog_20_method_16_code 10 = .ok (.isub, 1) := by decide +kernel
theorem d11_11 : decode prog_20_method_16_code 11 = .ok (.if_icmp .le 70, 3) := by decide +kernel
theorem d11_81 : decode prog_20_method_16_code 81 = .ok (.return_, 1) := by decide +kernel
theorem ef_11a (m : MethodId) (a : Addr) (p1 : Int32) : entryFrame m #[(.ref a), (.int p1)] 6 = mkF m 0 #[.val (.ref a), .val (.int p1), .unset, .unset, .unset, .unset] [] := by first | (simp [entryFrame, mkF, argsToLocals, Value.category]; done) | rfl
def Q11a (Z : State) (a : Addr) (p1 : Int32) (b : Addr) (k : ClassId) (vs : List Value) (sz : Int32) (h0 : Heap) (n0 : Nat) (v_ : Option Value) (h_ : Heap) (L_ : List Loc) : Prop := v_ = none ∧ Fr n0 L_ ∧ h_ = h0
set_option maxRecDepth 65536 in
set_option maxHeartbeats 40000000 in
theorem rm11a (l : Launch) (Z : State) (a0 : Array Value) (hw : ∀ d ∈ tables_1, d.before a0 Z = true) (ws : List Jvm.Cond) (a : Addr) (p1 : Int32) (b : Addr) (k : ClassId) (vs : List Value) (sz : Int32) (h0 : Heap) (n0 : Nat) (Z0 : n0 ≤ h0.size) (P0 : Fld Z h0 a "quorumline/FieldWriter" "bytes" "[B" (.ref b)) (P1 : Arv Z h0 b k .byte (16 : Int32) vs (.int (0 : Int32))) (P2 : Fld Z h0 a "quorumline/FieldWriter" "size" "I" (.int sz)) (hok : ¬ (((16 : Int32) - sz) < p1)) :
    MetFree l (⟨"quorumline/FieldWriter", "room", "(I)V"⟩ : MethodName) (head1 (Jvm.Cond.code (⟨"quorumline/FieldWriter", "room", "(I)V"⟩ : MethodName) prog_20_method_16_code 6 none :: ws) ({ frames := 0, cells := 0, slots := 0, locals := 0 } : Room)) (fun ar_ U_ => ar_ = #[(.ref a), (.int p1)] ∧ Z.Warmed39 U_.vm ∧ U_.heap = h0) (fun _ _ _ _ _ => True) (fun _ U_ o_ U2_ => ∃ v_ L_, o_ = .returned v_ ∧ Q11a Z a p1 b k vs sz h0 n0 v_ U2_.heap L_ ∧ FrameEnd U_ o_ U2_ L_ ({ frames := 0, cells := 0, slots := 0, locals := 0 } : Room).cells ({ frames := 0, cells := 0, slots := 0, locals := 0 } : Room).slots) := by
  refine MetFree.of_bodySF (plainFor_of_name pn_2) hisR ?_
  intro p e s m args below meth c s₁ Bd hml0 hP hK
  obtain ⟨rfl, hZ, hh⟩ := hP
  have hx := Bd.exec
  have hby := Bd.bytes
  have hml : c.maxLocals = 6 := hml0
  have hown : s.vm.findClass "quorumline/FieldWriter" = some m.cls := findClass_of_methodNamed Bd.named
  have hnm := (name_of_methodNamed Bd.named Bd.method).1
  have X0 : Stand p l e ({ frames := 0, cells := 0, slots := 0, locals := 0 } : Room) s m #[(.ref a), (.int p1)] below meth c s₁ [] 0 0 := Stand.of_body Bd
  have e0 : s₁.heap = h0 := by rw [← hh, Bd.state]; rfl
  have N0 := Fr.nil n0
  refine own_gl ?_
  refine own_st (S' := s₁.setTop (mkF m 0 #[.val (.ref a), .val (.int p1), .unset, .unset, .unset, .unset] [])) (fun t_ k_ => castTop (ef_11a m a p1) k_) ?_
  refine own_st (S' := s₁.setTop (mkF m 1 #[.val (.ref a), .val (.int p1), .unset, .unset, .unset, .unset] [(.int p1)])) (fun t_ k_ => XS.iloadN X0.here hx rfl (hb hby d11_0) rfl k_) ?_
  refine own_st (S' := s₁.setTop (mkF m 2 #[.val (.ref a), .val (.int p1), .unset, .unset, .unset, .unset] [(.ref a), (.int p1)])) (fun t_ k_ => XS.aloadN X0.here hx rfl (hb hby d11_1) rfl rfl k_) ?_
  obtain ⟨T_1, X_1, e_1, st_1⟩ := getF X0 hx hZ hown (host := "") (Or.inl (hw _ (List.mem_of_getElem? (i := 33) rfl))) Via.refl e0 P0 (g := (mkF m 2 #[.val (.ref a), .val (.int p1), .unset, .unset, .unset, .unset] [(.ref a), (.int p1)])) rfl rfl (hb hby d11_2)
  refine own_st (S' := T_1.setTop (mkF m 5 #[.val (.ref a), .val (.int p1), .unset, .unset, .unset, .unset] [(.ref b), (.int p1)])) st_1 ?_
  obtain ⟨cl_2, Ar_2, q_2, S_2, M_2, H_2, G_2⟩ := id P1
  refine own_st (S' := T_1.setTop (mkF m 6 #[.val (.ref a), .val (.int p1), .unset, .unset, .unset, .unset] [(.int (16 : Int32)), (.int p1)])) (fun t_ k_ => X_1.arraylength hx (by rw [e_1]; exact Ar_2.1) (State.isArrayOf_alike hZ.alike Ar_2.2.1) (g := (mkF m 5 #[.val (.ref a), .val (.int p1), .unset, .unset, .unset, .unset] [(.ref b), (.int p1)])) rfl rfl (hb hby d11_5) _ (by rw [len_of S_2 M_2]; exact k_)) ?_
  refine own_st (S' := T_1.setTop (mkF m 7 #[.val (.ref a), .val (.int p1), .unset, .unset, .unset, .unset] [(.ref a), (.int (16 : Int32)), (.int p1)])) (fun t_ k_ => XS.aloadN X_1.here hx rfl (hb hby d11_6) rfl rfl k_) ?_
  obtain ⟨T_3, X_3, e_3, st_3⟩ := getF X_1 hx hZ hown (host := "") (Or.inl (hw _ (List.mem_of_getElem? (i := 49) rfl))) Via.refl e_1 P2 (g := (mkF m 7 #[.val (.ref a), .val (.int p1), .unset, .unset, .unset, .unset] [(.ref a), (.int (16 : Int32)), (.int p1)])) rfl rfl (hb hby d11_7)
  refine own_st (S' := T_3.setTop (mkF m 10 #[.val (.ref a), .val (.int p1), .unset, .unset, .unset, .unset] [(.int sz), (.int (16 : Int32)), (.int p1)])) st_3 ?_
  refine own_st (S' := T_3.setTop (mkF m 11 #[.val (.ref a), .val (.int p1), .unset, .unset, .unset, .unset] [(.int ((16 : Int32) - sz)), (.int p1)])) (fun t_ k_ => XS.isub X_3.here hx rfl (hb hby d11_10) rfl k_) ?_
  refine own_st (S' := T_3.setTop (mkF m 81 #[.val (.ref a), .val (.int p1), .unset, .unset, .unset, .unset] [])) (fun t_ k_ => XS.icmpYes X_3.here hx rfl (pc0 := 11) (pc' := 81) rfl (hb hby d11_11) rfl (flt hok).2.2.2 (by decide) (by decide) k_) ?_
  obtain ⟨fs, hr, hrun, hended, hW, hsame⟩ := X_3.leave (v := none) (fun _ => rfl)
  refine ⟨_, _, X_3.returnOut hx Bd.returns (hb hby d11_81) hr, hrun, hended, _, _, rfl, ?_, ⟨_, rfl⟩, hW, hsame.mono (by decide) (by decide)⟩
  show Q11a Z a p1 b k vs sz h0 n0 _ T_3.heap _
  rw [e_3]
  exact ⟨rfl, N0, rfl⟩
theorem d11_14 : decode prog_20_method_16_code 14 = .ok (.aload_n 0, 1) := by decide +kernel
theorem d11_15 : decode prog_20_method_16_code 15 = .ok (.getfield 19, 3) := by decide +kernel
theorem d11_18 : decode prog_20_method_16_code 18 = .ok (.i2l, 1) := by decide +kernel
theorem d11_19 : decode prog_20_method_16_code 19 = .ok (.iload_n 1, 1) := by decide +kernel
theorem d11_20 : decode prog_20_method_16_code 20 = .ok (.i2l, 1) := by decide +kernel
theorem d11_21 : decode prog_20_method_16_code 21 = .ok (.ladd, 1) := by decide +kernel
theorem d11_22 : decode prog_20_method_16_code 22 = .ok (.lstore_n 2, 1) := by decide +kernel
theorem d11_23 : decode prog_20_method_16_code 23 = .ok (.lload_n 2, 1) := by decide +kernel
theorem d11_24 : decode prog_20_method_16_code 24 = .ok (.ldc2_w 90, 3) := by decide +kernel
theorem d11_27 : decode prog_20_method_16_code 27 = .ok (.lcmp, 1) := by decide +kernel
theorem d11_28 : decode prog_20_method_16_code 28 = .ok (.ifCond .le 17, 3) := by decide +kernel
theorem d11_45 : decode prog_20_method_16_code 45 = .ok (.ldc2_w 100, 3) := by decide +kernel
theorem d11_48 : decode prog_20_method_16_code 48 = .ok (.aload_n 0, 1) := by decide +kernel
theorem d11_49 : decode prog_20_method_16_code 49 = .ok (.getfield 13, 3) := by decide +kernel
theorem d11_52 : decode prog_20_method_16_code 52 = .ok (.arraylength, 1) := by decide +kernel
theorem d11_53 : decode prog_20_method_16_code 53 = .ok (.i2l, 1) := by decide +kernel
theorem d11_54 : decode prog_20_method_16_code 54 = .ok (.lmul, 1) := by decide +kernel
theorem d11_55 : decode prog_20_method_16_code 55 = .ok (.ldc2_w 90, 3) := by decide +kernel
theorem d11_58 : decode prog_20_method_16_code 58 = .ok (.invokestatic 102, 3) := by decide +kernel
theorem d11_61 : decode prog_20_method_16_code 61 = .ok (.lstore 4, 2) := by decide +kernel
theorem d11_63 : decode prog_20_method_16_code 63 = .ok (.aload_n 0, 1) := by decide +kernel
theorem d11_64 : decode prog_20_method_16_code 64 = .ok (.aload_n 0, 1) := by decide +kernel
theorem d11_65 : decode prog_20_method_16_code 65 = .ok (.getfield 13, 3) := by decide +kernel
theorem d11_68 : decode prog_20_method_16_code 68 = .ok (.lload_n 2, 1) := by decide +kernel
theorem d11_69 : decode prog_20_method_16_code 69 = .ok (.lload 4, 2) := by decide +kernel
theorem d11_71 : decode prog_20_method_16_code 71 = .ok (.invokestatic 106, 3) := by decide +kernel
theorem d11_74 : decode prog_20_method_16_code 74 = .ok (.l2i, 1) := by decide +kernel
theorem d11_75 : decode prog_20_method_16_code 75 = .ok (.invokestatic 23, 3) := by decide +kernel
theorem d11_78 : decode prog_20_method_16_code 78 = .ok (.putfield 13, 3) := by decide +kernel
theorem ef_11b (m : MethodId) (a : Addr) (p1 : Int32) : entryFrame m #[(.ref a), (.int p1)] 6 = mkF m 0 #[.val (.ref a), .val (.int p1), .unset, .unset, .unset, .unset] [] := by first | (simp [entryFrame, mkF, argsToLocals, Value.category]; done) | rfl
theorem pd_3 : parseMethodDescriptor "(JJ)J" = some ⟨[.long, .long], some .long⟩ := by decide +kernel
theorem pd_4 : parseMethodDescriptor "([BI)[B" = some ⟨[(.array .byte), .int], some (.array .byte)⟩ := by decide +kernel
def Q11b (Z : State) (a : Addr) (p1 : Int32) (b : Addr) (k : ClassId) (vs : List Value) (h0 : Heap) (n0 : Nat) (v_ : Option Value) (h_ : Heap) (L_ : List Loc) : Prop := ∃ b2 : Addr, ∃ k2 : ClassId, ∃ vs2 : List Value, ∃ N : Int32, v_ = none ∧ Fr n0 L_ ∧ Keep h0 h_ [a] ∧ h0.size ≤ b2 ∧ Exa Z h_ a "quorumline/FieldWriter" ∧ Fld Z h_ a "quorumline/FieldWriter" "bytes" "[B" (.ref b2) ∧ Fld Z h_ a "quorumline/FieldWriter" "size" "I" (.int (12 : Int32)) ∧ Arv Z h_ b2 k2 .byte N vs2 (.int (0 : Int32)) ∧ N = own_len p1
set_option maxRecDepth 65536 in
set_option maxHeartbeats 40000000 in
theorem rm11b (l : Launch) (Z : State) (a0 : Array Value) (hw : ∀ d ∈ tables_1, d.before a0 Z = true) (ws : List Jvm.Cond) (a : Addr) (p1 : Int32) (b : Addr) (k : ClassId) (vs : List Value) (h0 : Heap) (n0 : Nat) (Z0 : n0 ≤ h0.size) (P0 : Exa Z h0 a "quorumline/FieldWriter") (P1 : Fld Z h0 a "quorumline/FieldWriter" "bytes" "[B" (.ref b)) (P2 : Arv Z h0 b k .byte (16 : Int32) vs (.int (0 : Int32))) (P3 : Fld Z h0 a "quorumline/FieldWriter" "size" "I" (.int (12 : Int32))) (g_a : n0 ≤ a) (hlt : ((16 : Int32) - (12 : Int32)) < p1) (hn0 : ¬ (p1 < (0 : Int32))) (h63 : ¬ ((63 : Int32) < p1)) :
    MetFree l (⟨"quorumline/FieldWriter", "room", "(I)V"⟩ : MethodName) (head1 (Jvm.Cond.code (⟨"quorumline/FieldWriter", "room", "(I)V"⟩ : MethodName) prog_20_method_16_code 6 none :: ws) ({ frames := 2, cells := 1, slots := 75, locals := 33 } : Room)) (fun ar_ U_ => ar_ = #[(.ref a), (.int p1)] ∧ Z.Warmed39 U_.vm ∧ U_.heap = h0) (fun _ _ _ _ _ => True) (fun _ U_ o_ U2_ => ∃ v_ L_, o_ = .returned v_ ∧ Q11b Z a p1 b k vs h0 n0 v_ U2_.heap L_ ∧ FrameEnd U_ o_ U2_ L_ ({ frames := 2, cells := 1, slots := 75, locals := 33 } : Room).cells ({ frames := 2, cells := 1, slots := 75, locals := 33 } : Room).slots) := by
  refine MetFree.of_bodySF (plainFor_of_name pn_2) hisR ?_
  intro p e s m args below meth c s₁ Bd hml0 hP hK
  obtain ⟨rfl, hZ, hh⟩ := hP
  have hx := Bd.exec
  have hby := Bd.bytes
  have hml : c.maxLocals = 6 := hml0
  have hown : s.vm.findClass "quorumline/FieldWriter" = some m.cls := findClass_of_methodNamed Bd.named
  have hnm := (name_of_methodNamed Bd.named Bd.method).1
  have X0 : Stand p l e ({ frames := 2, cells := 1, slots := 75, locals := 33 } : Room) s m #[(.ref a), (.int p1)] below meth c s₁ [] 0 0 := Stand.of_body Bd
  have e0 : s₁.heap = h0 := by rw [← hh, Bd.state]; rfl
  have N0 := Fr.nil n0
  refine own_gl ?_
  refine own_st (S' := s₁.setTop (mkF m 0 #[.val (.ref a), .val (.int p1), .unset, .unset, .unset, .unset] [])) (fun t_ k_ => castTop (ef_11b m a p1) k_) ?_
  refine own_st (S' := s₁.setTop (mkF m 1 #[.val (.ref a), .val (.int p1), .unset, .unset, .unset, .unset] [(.int p1)])) (fun t_ k_ => XS.iloadN X0.here hx rfl (hb hby d11_0) rfl k_) ?_
  refine own_st (S' := s₁.setTop (mkF m 2 #[.val (.ref a), .val (.int p1), .unset, .unset, .unset, .unset] [(.ref a), (.int p1)])) (fun t_ k_ => XS.aloadN X0.here hx rfl (hb hby d11_1) rfl rfl k_) ?_
  obtain ⟨T_1, X_1, e_1, st_1⟩ := getF X0 hx hZ hown (host := "") (Or.inl (hw _ (List.mem_of_getElem? (i := 33) rfl))) Via.refl e0 P1 (g := (mkF m 2 #[.val (.ref a), .val (.int p1), .unset, .unset, .unset, .unset] [(.ref a), (.int p1)])) rfl rfl (hb hby d11_2)
  refine own_st (S' := T_1.setTop (mkF m 5 #[.val (.ref a), .val (.int p1), .unset, .unset, .unset, .unset] [(.ref b), (.int p1)])) st_1 ?_
  obtain ⟨cl_2, Ar_2, q_2, S_2, M_2, H_2, G_2⟩ := id P2
  refine own_st (S' := T_1.setTop (mkF m 6 #[.val (.ref a), .val (.int p1), .unset, .unset, .unset, .unset] [(.int (16 : Int32)), (.int p1)])) (fun t_ k_ => X_1.arraylength hx (by rw [e_1]; exact Ar_2.1) (State.isArrayOf_alike hZ.alike Ar_2.2.1) (g := (mkF m 5 #[.val (.ref a), .val (.int p1), .unset, .unset, .unset, .unset] [(.ref b), (.int p1)])) rfl rfl (hb hby d11_5) _ (by rw [len_of S_2 M_2]; exact k_)) ?_
  refine own_st (S' := T_1.setTop (mkF m 7 #[.val (.ref a), .val (.int p1), .unset, .unset, .unset, .unset] [(.ref a), (.int (16 : Int32)), (.int p1)])) (fun t_ k_ => XS.aloadN X_1.here hx rfl (hb hby d11_6) rfl rfl k_) ?_
  obtain ⟨T_3, X_3, e_3, st_3⟩ := getF X_1 hx hZ hown (host := "") (Or.inl (hw _ (List.mem_of_getElem? (i := 49) rfl))) Via.refl e_1 P3 (g := (mkF m 7 #[.val (.ref a), .val (.int p1), .unset, .unset, .unset, .unset] [(.ref a), (.int (16 : Int32)), (.int p1)])) rfl rfl (hb hby d11_7)
  refine own_st (S' := T_3.setTop (mkF m 10 #[.val (.ref a), .val (.int p1), .unset, .unset, .unset, .unset] [(.int (12 : Int32)), (.int (16 : Int32)), (.int p1)])) st_3 ?_
  refine own_st (S' := T_3.setTop (mkF m 11 #[.val (.ref a), .val (.int p1), .unset, .unset, .unset, .unset] [(.int ((16 : Int32) - (12 : Int32))), (.int p1)])) (fun t_ k_ => XS.isub X_3.here hx rfl (hb hby d11_10) rfl k_) ?_
  refine own_st (S' := T_3.setTop (mkF m 14 #[.val (.ref a), .val (.int p1), .unset, .unset, .unset, .unset] [])) (fun t_ k_ => XS.icmpNo X_3.here hx rfl (hb hby d11_11) rfl (tlt hlt).2.2.2 k_) ?_
  refine own_st (S' := T_3.setTop (mkF m 15 #[.val (.ref a), .val (.int p1), .unset, .unset, .unset, .unset] [(.ref a)])) (fun t_ k_ => XS.aloadN X_3.here hx rfl (hb hby d11_14) rfl rfl k_) ?_
  obtain ⟨T_4, X_4, e_4, st_4⟩ := getF X_3 hx hZ hown (host := "") (Or.inl (hw _ (List.mem_of_getElem? (i := 49) rfl))) Via.refl e_3 P3 (g := (mkF m 15 #[.val (.ref a), .val (.int p1), .unset, .unset, .unset, .unset] [(.ref a)])) rfl rfl (hb hby d11_15)
  refine own_st (S' := T_4.setTop (mkF m 18 #[.val (.ref a), .val (.int p1), .unset, .unset, .unset, .unset] [(.int (12 : Int32))])) st_4 ?_
  refine own_st (S' := T_4.setTop (mkF m 19 #[.val (.ref a), .val (.int p1), .unset, .unset, .unset, .unset] [(.long ((12 : Int32).toInt64))])) (fun t_ k_ => XS.i2l X_4.here hx rfl (hb hby d11_18) rfl k_) ?_
  refine own_st (S' := T_4.setTop (mkF m 20 #[.val (.ref a), .val (.int p1), .unset, .unset, .unset, .unset] [(.int p1), (.long ((12 : Int32).toInt64))])) (fun t_ k_ => XS.iloadN X_4.here hx rfl (hb hby d11_19) rfl k_) ?_
  refine own_st (S' := T_4.setTop (mkF m 21 #[.val (.ref a), .val (.int p1), .unset, .unset, .unset, .unset] [(.long (p1.toInt64)), (.long ((12 : Int32).toInt64))])) (fun t_ k_ => XS.i2l X_4.here hx rfl (hb hby d11_20) rfl k_) ?_
  refine own_st (S' := T_4.setTop (mkF m 22 #[.val (.ref a), .val (.int p1), .unset, .unset, .unset, .unset] [(.long (((12 : Int32).toInt64) + (p1.toInt64)))])) (fun t_ k_ => XS.ladd X_4.here hx rfl (hb hby d11_21) rfl k_) ?_
  refine own_st (S' := T_4.setTop (mkF m 23 #[.val (.ref a), .val (.int p1), .val (.long (((12 : Int32).toInt64) + (p1.toInt64))), .second, .unset, .unset] [])) (fun t_ k_ => XS.lstoreN X_4.here hx rfl (hb hby d11_22) rfl (l' := #[.val (.ref a), .val (.int p1), .val (.long (((12 : Int32).toInt64) + (p1.toInt64))), .second, .unset, .unset]) rfl k_) ?_
  refine own_st (S' := T_4.setTop (mkF m 24 #[.val (.ref a), .val (.int p1), .val (.long (((12 : Int32).toInt64) + (p1.toInt64))), .second, .unset, .unset] [(.long (((12 : Int32).toInt64) + (p1.toInt64)))])) (fun t_ k_ => XS.lloadN X_4.here hx rfl (hb hby d11_23) rfl k_) ?_
  refine own_st (S' := T_4.setTop (mkF m 27 #[.val (.ref a), .val (.int p1), .val (.long (((12 : Int32).toInt64) + (p1.toInt64))), .second, .unset, .unset] [(.long (2147483639 : Int64)), (.long (((12 : Int32).toInt64) + (p1.toInt64)))])) (fun t_ k_ => X_4.ldc2J hx hown (mvT hZ (hw _ (List.mem_of_getElem? (i := 86) rfl))) (g := (mkF m 24 #[.val (.ref a), .val (.int p1), .val (.long (((12 : Int32).toInt64) + (p1.toInt64))), .second, .unset, .unset] [(.long (((12 : Int32).toInt64) + (p1.toInt64)))])) rfl (hb hby d11_24) k_) ?_
  refine own_st (S' := T_4.setTop (mkF m 28 #[.val (.ref a), .val (.int p1), .val (.long (((12 : Int32).toInt64) + (p1.toInt64))), .second, .unset, .unset] [(.int (lcmpW (((12 : Int32).toInt64) + (p1.toInt64)) (2147483639 : Int64)))])) (fun t_ k_ => XS.lcmp X_4.here hx rfl (hb hby d11_27) rfl k_) ?_
  by_cases hc28 : (2147483639 : Int64) < (((12 : Int32).toInt64) + (p1.toInt64))
  · exact absurd hc28 (own_small hn0 h63)
  · refine own_st (S' := T_4.setTop (mkF m 45 #[.val (.ref a), .val (.int p1), .val (.long (((12 : Int32).toInt64) + (p1.toInt64))), .second, .unset, .unset] [])) (fun t_ k_ => XS.ifYes X_4.here hx rfl (pc0 := 28) (pc' := 45) rfl (hb hby d11_28) rfl ((if0 _ _).trans (flt (fun q => hc28 ((lw_gt _ _).mp q))).2.2.2) (by decide) (by decide) k_) ?_
    refine own_st (S' := T_4.setTop (mkF m 48 #[.val (.ref a), .val (.int p1), .val (.long (((12 : Int32).toInt64) + (p1.toInt64))), .second, .unset, .unset] [(.long (2 : Int64))])) (fun t_ k_ => X_4.ldc2J hx hown (mvT hZ (hw _ (List.mem_of_getElem? (i := 87) rfl))) (g := (mkF m 45 #[.val (.ref a), .val (.int p1), .val (.long (((12 : Int32).toInt64) + (p1.toInt64))), .second, .unset, .unset] [])) rfl (hb hby d11_45) k_) ?_
    refine own_st (S' := T_4.setTop (mkF m 49 #[.val (.ref a), .val (.int p1), .val (.long (((12 : Int32).toInt64) + (p1.toInt64))), .second, .unset, .unset] [(.ref a), (.long (2 : Int64))])) (fun t_ k_ => XS.aloadN X_4.here hx rfl (hb hby d11_48) rfl rfl k_) ?_
    obtain ⟨T_5, X_5, e_5, st_5⟩ := getF X_4 hx hZ hown (host := "") (Or.inl (hw _ (List.mem_of_getElem? (i := 33) rfl))) Via.refl e_4 P1 (g := (mkF m 49 #[.val (.ref a), .val (.int p1), .val (.long (((12 : Int32).toInt64) + (p1.toInt64))), .second, .unset, .unset] [(.ref a), (.long (2 : Int64))])) rfl rfl (hb hby d11_49)
    refine own_st (S' := T_5.setTop (mkF m 52 #[.val (.ref a), .val (.int p1), .val (.long (((12 : Int32).toInt64) + (p1.toInt64))), .second, .unset, .unset] [(.ref b), (.long (2 : Int64))])) st_5 ?_
    obtain ⟨cl_6, Ar_6, q_6, S_6, M_6, H_6, G_6⟩ := id P2
    refine own_st (S' := T_5.setTop (mkF m 53 #[.val (.ref a), .val (.int p1), .val (.long (((12 : Int32).toInt64) + (p1.toInt64))), .second, .unset, .unset] [(.int (16 : Int32)), (.long (2 : Int64))])) (fun t_ k_ => X_5.arraylength hx (by rw [e_5]; exact Ar_6.1) (State.isArrayOf_alike hZ.alike Ar_6.2.1) (g := (mkF m 52 #[.val (.ref a), .val (.int p1), .val (.long (((12 : Int32).toInt64) + (p1.toInt64))), .second, .unset, .unset] [(.ref b), (.long (2 : Int64))])) rfl rfl (hb hby d11_52) _ (by rw [len_of S_6 M_6]; exact k_)) ?_
    refine own_st (S' := T_5.setTop (mkF m 54 #[.val (.ref a), .val (.int p1), .val (.long (((12 : Int32).toInt64) + (p1.toInt64))), .second, .unset, .unset] [(.long ((16 : Int32).toInt64)), (.long (2 : Int64))])) (fun t_ k_ => XS.i2l X_5.here hx rfl (hb hby d11_53) rfl k_) ?_
    refine own_st (S' := T_5.setTop (mkF m 55 #[.val (.ref a), .val (.int p1), .val (.long (((12 : Int32).toInt64) + (p1.toInt64))), .second, .unset, .unset] [(.long ((2 : Int64) * ((16 : Int32).toInt64)))])) (fun t_ k_ => XS.lmul X_5.here hx rfl (hb hby d11_54) rfl k_) ?_
    refine own_st (S' := T_5.setTop (mkF m 58 #[.val (.ref a), .val (.int p1), .val (.long (((12 : Int32).toInt64) + (p1.toInt64))), .second, .unset, .unset] [(.long (2147483639 : Int64)), (.long ((2 : Int64) * ((16 : Int32).toInt64)))])) (fun t_ k_ => X_5.ldc2J hx hown (mvT hZ (hw _ (List.mem_of_getElem? (i := 86) rfl))) (g := (mkF m 55 #[.val (.ref a), .val (.int p1), .val (.long (((12 : Int32).toInt64) + (p1.toInt64))), .second, .unset, .unset] [(.long ((2 : Int64) * ((16 : Int32).toInt64)))])) rfl (hb hby d11_55) k_) ?_
    obtain ⟨_, _, ⟨T_7, L_7, k_7, n_7⟩, -, X_7, ⟨Lc_7, hQ_7, l_7, y_7, z_7⟩, st_7⟩ := Jvm.LawKit.callS X_5 hx (y := (⟨"java/lang/Math", "min", "(JJ)J"⟩ : MethodName)) hown (mvT hZ (hw _ (List.mem_of_getElem? (i := 88) rfl))) (mvT hZ (hw _ (List.mem_of_getElem? (i := 89) rfl))) (mvT hZ (hw _ (List.mem_of_getElem? (i := 30) rfl))) (mvT hZ (hw _ (List.mem_of_getElem? (i := 90) rfl))) (by decide) (backOf (W := 0) (rm7 l Z a0 hw [] ((2 : Int64) * ((16 : Int32).toInt64)) (2147483639 : Int64) h0 n0 Z0 ) hZ (hw _ (List.mem_of_getElem? (i := 90) rfl)) (hw _ (List.mem_of_getElem? (i := 30) rfl)) (by decide) (by decide)) (g := (mkF m 58 #[.val (.ref a), .val (.int p1), .val (.long (((12 : Int32).toInt64) + (p1.toInt64))), .second, .unset, .unset] [(.long (2147483639 : Int64)), (.long ((2 : Int64) * ((16 : Int32).toInt64)))])) rfl (by rw [hml]; rfl) (argsL := [(.long ((2 : Int64) * ((16 : Int32).toInt64))), (.long (2147483639 : Int64))]) (rest := []) (lenOf pd_3 rfl) rfl (by show 2 * 0 + _ ≤ _; exact Nat.le_of_eq rfl) (hb hby d11_58) (fun _ _ => ⟨rfl, e_5, (by decide : 0 + 0 ≤ _), (by decide : 0 + 0 ≤ _)⟩)
    dsimp only [Pt.U, Pt.locs, Pt.cells, Pt.slots] at X_7 l_7 y_7 z_7 st_7 hQ_7
    subst l_7 y_7 z_7
    obtain ⟨rfl, M_7, q_7⟩ := hQ_7
    have N_7 := Fr.app N0 M_7
    refine own_st (S' := T_7.setTop (mkF m 61 #[.val (.ref a), .val (.int p1), .val (.long (((12 : Int32).toInt64) + (p1.toInt64))), .second, .unset, .unset] [(.long (own_lmin ((2 : Int64) * ((16 : Int32).toInt64)) (2147483639 : Int64)))])) st_7 ?_
    refine own_st (S' := T_7.setTop (mkF m 63 #[.val (.ref a), .val (.int p1), .val (.long (((12 : Int32).toInt64) + (p1.toInt64))), .second, .val (.long (own_lmin ((2 : Int64) * ((16 : Int32).toInt64)) (2147483639 : Int64))), .second] [])) (fun t_ k_ => XS.lstore X_7.here hx rfl (hb hby d11_61) rfl (l' := #[.val (.ref a), .val (.int p1), .val (.long (((12 : Int32).toInt64) + (p1.toInt64))), .second, .val (.long (own_lmin ((2 : Int64) * ((16 : Int32).toInt64)) (2147483639 : Int64))), .second]) rfl k_) ?_
    refine own_st (S' := T_7.setTop (mkF m 64 #[.val (.ref a), .val (.int p1), .val (.long (((12 : Int32).toInt64) + (p1.toInt64))), .second, .val (.long (own_lmin ((2 : Int64) * ((16 : Int32).toInt64)) (2147483639 : Int64))), .second] [(.ref a)])) (fun t_ k_ => XS.aloadN X_7.here hx rfl (hb hby d11_63) rfl rfl k_) ?_
    refine own_st (S' := T_7.setTop (mkF m 65 #[.val (.ref a), .val (.int p1), .val (.long (((12 : Int32).toInt64) + (p1.toInt64))), .second, .val (.long (own_lmin ((2 : Int64) * ((16 : Int32).toInt64)) (2147483639 : Int64))), .second] [(.ref a), (.ref a)])) (fun t_ k_ => XS.aloadN X_7.here hx rfl (hb hby d11_64) rfl rfl k_) ?_
    obtain ⟨T_8, X_8, e_8, st_8⟩ := getF X_7 hx hZ hown (host := "") (Or.inl (hw _ (List.mem_of_getElem? (i := 33) rfl))) Via.refl q_7 P1 (g := (mkF m 65 #[.val (.ref a), .val (.int p1), .val (.long (((12 : Int32).toInt64) + (p1.toInt64))), .second, .val (.long (own_lmin ((2 : Int64) * ((16 : Int32).toInt64)) (2147483639 : Int64))), .second] [(.ref a), (.ref a)])) rfl rfl (hb hby d11_65)
    refine own_st (S' := T_8.setTop (mkF m 68 #[.val (.ref a), .val (.int p1), .val (.long (((12 : Int32).toInt64) + (p1.toInt64))), .second, .val (.long (own_lmin ((2 : Int64) * ((16 : Int32).toInt64)) (2147483639 : Int64))), .second] [(.ref b), (.ref a)])) st_8 ?_
    refine own_st (S' := T_8.setTop (mkF m 69 #[.val (.ref a), .val (.int p1), .val (.long (((12 : Int32).toInt64) + (p1.toInt64))), .second, .val (.long (own_lmin ((2 : Int64) * ((16 : Int32).toInt64)) (2147483639 : Int64))), .second] [(.long (((12 : Int32).toInt64) + (p1.toInt64))), (.ref b), (.ref a)])) (fun t_ k_ => XS.lloadN X_8.here hx rfl (hb hby d11_68) rfl k_) ?_
    refine own_st (S' := T_8.setTop (mkF m 71 #[.val (.ref a), .val (.int p1), .val (.long (((12 : Int32).toInt64) + (p1.toInt64))), .second, .val (.long (own_lmin ((2 : Int64) * ((16 : Int32).toInt64)) (2147483639 : Int64))), .second] [(.long (own_lmin ((2 : Int64) * ((16 : Int32).toInt64)) (2147483639 : Int64))), (.long (((12 : Int32).toInt64) + (p1.toInt64))), (.ref b), (.ref a)])) (fun t_ k_ => XS.lload X_8.here hx rfl (hb hby d11_69) rfl k_) ?_
    obtain ⟨_, _, ⟨T_9, L_9, k_9, n_9⟩, -, X_9, ⟨Lc_9, hQ_9, l_9, y_9, z_9⟩, st_9⟩ := Jvm.LawKit.callS X_8 hx (y := (⟨"java/lang/Math", "max", "(JJ)J"⟩ : MethodName)) hown (mvT hZ (hw _ (List.mem_of_getElem? (i := 91) rfl))) (mvT hZ (hw _ (List.mem_of_getElem? (i := 92) rfl))) (mvT hZ (hw _ (List.mem_of_getElem? (i := 30) rfl))) (mvT hZ (hw _ (List.mem_of_getElem? (i := 93) rfl))) (by decide) (backOf (W := 2) (rm8 l Z a0 hw [] (((12 : Int32).toInt64) + (p1.toInt64)) (own_lmin ((2 : Int64) * ((16 : Int32).toInt64)) (2147483639 : Int64)) h0 n0 Z0 ) hZ (hw _ (List.mem_of_getElem? (i := 93) rfl)) (hw _ (List.mem_of_getElem? (i := 30) rfl)) (by decide) (by decide)) (g := (mkF m 71 #[.val (.ref a), .val (.int p1), .val (.long (((12 : Int32).toInt64) + (p1.toInt64))), .second, .val (.long (own_lmin ((2 : Int64) * ((16 : Int32).toInt64)) (2147483639 : Int64))), .second] [(.long (own_lmin ((2 : Int64) * ((16 : Int32).toInt64)) (2147483639 : Int64))), (.long (((12 : Int32).toInt64) + (p1.toInt64))), (.ref b), (.ref a)])) rfl (by rw [hml]; rfl) (argsL := [(.long (((12 : Int32).toInt64) + (p1.toInt64))), (.long (own_lmin ((2 : Int64) * ((16 : Int32).toInt64)) (2147483639 : Int64)))]) (rest := [(.ref b), (.ref a)]) (lenOf pd_3 rfl) rfl (by show 2 * 0 + _ ≤ _; exact Nat.le_of_eq rfl) (hb hby d11_71) (fun _ _ => ⟨rfl, e_8, (by decide : 0 + 0 ≤ _), (by decide : 0 + 0 ≤ _)⟩)
    dsimp only [Pt.U, Pt.locs, Pt.cells, Pt.slots] at X_9 l_9 y_9 z_9 st_9 hQ_9
    subst l_9 y_9 z_9
    obtain ⟨rfl, M_9, q_9⟩ := hQ_9
    have N_9 := Fr.app N_7 M_9
    refine own_st (S' := T_9.setTop (mkF m 74 #[.val (.ref a), .val (.int p1), .val (.long (((12 : Int32).toInt64) + (p1.toInt64))), .second, .val (.long (own_lmin ((2 : Int64) * ((16 : Int32).toInt64)) (2147483639 : Int64))), .second] [(.long (own_lmax (((12 : Int32).toInt64) + (p1.toInt64)) (own_lmin ((2 : Int64) * ((16 : Int32).toInt64)) (2147483639 : Int64)))), (.ref b), (.ref a)])) st_9 ?_
    refine own_st (S' := T_9.setTop (mkF m 75 #[.val (.ref a), .val (.int p1), .val (.long (((12 : Int32).toInt64) + (p1.toInt64))), .second, .val (.long (own_lmin ((2 : Int64) * ((16 : Int32).toInt64)) (2147483639 : Int64))), .second] [(.int ((own_lmax (((12 : Int32).toInt64) + (p1.toInt64)) (own_lmin ((2 : Int64) * ((16 : Int32).toInt64)) (2147483639 : Int64))).toInt32)), (.ref b), (.ref a)])) (fun t_ k_ => XS.l2i X_9.here hx rfl (hb hby d11_74) rfl k_) ?_
    obtain ⟨N, hN⟩ : ∃ z : Int32, z = own_len p1 := ⟨_, rfl⟩
    refine own_cast (S' := T_9.setTop (mkF m 75 #[.val (.ref a), .val (.int p1), .val (.long (((12 : Int32).toInt64) + (p1.toInt64))), .second, .val (.long (own_lmin ((2 : Int64) * ((16 : Int32).toInt64)) (2147483639 : Int64))), .second] [(.int N), (.ref b), (.ref a)])) (by rw [hN]; rfl) ?_
    have lenF := own_lenF hn0 h63
    rw [← hN] at lenF
    obtain ⟨_, _, ⟨T_10, L_10, k_10, n_10⟩, -, X_10, ⟨Lc_10, hQ_10, l_10, y_10, z_10⟩, st_10⟩ := Jvm.LawKit.callS X_9 hx (y := (⟨"java/util/Arrays", "copyOf", "([BI)[B"⟩ : MethodName)) hown (mvT hZ (hw _ (List.mem_of_getElem? (i := 94) rfl))) (mvT hZ (hw _ (List.mem_of_getElem? (i := 95) rfl))) (mvT hZ (hw _ (List.mem_of_getElem? (i := 96) rfl))) (mvT hZ (hw _ (List.mem_of_getElem? (i := 97) rfl))) (by decide) (backOf (W := 1) (rm10 l Z a0 hw [] b N k vs h0 n0 Z0 P2 lenF.1 lenF.2.1 lenF.2.2.1 lenF.2.2.2) hZ (hw _ (List.mem_of_getElem? (i := 97) rfl)) (hw _ (List.mem_of_getElem? (i := 96) rfl)) (by decide) (by decide)) (g := (mkF m 75 #[.val (.ref a), .val (.int p1), .val (.long (((12 : Int32).toInt64) + (p1.toInt64))), .second, .val (.long (own_lmin ((2 : Int64) * ((16 : Int32).toInt64)) (2147483639 : Int64))), .second] [(.int N), (.ref b), (.ref a)])) rfl (by rw [hml]; rfl) (argsL := [(.ref b), (.int N)]) (rest := [(.ref a)]) (lenOf pd_4 rfl) rfl (by show 2 * 0 + _ ≤ _; exact Nat.le_of_eq rfl) (hb hby d11_75) (fun _ _ => ⟨rfl, q_9, (by decide : 0 + 1 ≤ _), (by decide : 0 + 75 ≤ _)⟩)
    dsimp only [Pt.U, Pt.locs, Pt.cells, Pt.slots] at X_10 l_10 y_10 z_10 st_10 hQ_10
    subst l_10 y_10 z_10
    obtain ⟨x_10_b2, x_10_k2, x_10_vs2, rfl, M_10, K_10c, z_10_0, c_10_0⟩ := hQ_10
    have N_10 := Fr.app N_9 M_10
    have K_10 : Keep h0 T_10.heap [a] := (Keep.refl h0 [a]).trans K_10c all0
    have ne_a_x_10_b2 : a ≠ x_10_b2 := Nat.ne_of_lt (Nat.lt_of_lt_of_le P0.lt z_10_0)
    have ne_b_x_10_b2 : b ≠ x_10_b2 := Nat.ne_of_lt (Nat.lt_of_lt_of_le P2.lt z_10_0)
    have g_x_10_b2 : n0 ≤ x_10_b2 := Nat.le_trans Z0 z_10_0
    have sz_x_10_b2 : h0.size ≤ x_10_b2 := Nat.le_trans ((Keep.refl h0 [a])).1 z_10_0
    have Z_10 : n0 ≤ T_10.heap.size := Nat.le_trans Z0 K_10c.1
    refine own_st (S' := T_10.setTop (mkF m 78 #[.val (.ref a), .val (.int p1), .val (.long (((12 : Int32).toInt64) + (p1.toInt64))), .second, .val (.long (own_lmin ((2 : Int64) * ((16 : Int32).toInt64)) (2147483639 : Int64))), .second] [(.ref x_10_b2), (.ref a)])) st_10 ?_
    have f_11 : Fld Z T_10.heap a "quorumline/FieldWriter" "bytes" "[B" (.ref b) := (P1.keep K_10c nin0)
    have f_12 : Exa Z T_10.heap a "quorumline/FieldWriter" := (P0.keep K_10c)
    obtain ⟨T_13, h_13, X_13, e_13, W_13, st_13⟩ := putF X_10 hx hZ hown (host := "") (Or.inl (hw _ (List.mem_of_getElem? (i := 33) rfl))) Via.refl rfl f_11 f_12 (Or.inl (hw _ (List.mem_of_getElem? (i := 34) rfl))) (hw _ (List.mem_of_getElem? (i := 22) rfl)) (ty := (.array .byte)) (by decide) rfl rfl (g := (mkF m 78 #[.val (.ref a), .val (.int p1), .val (.long (((12 : Int32).toInt64) + (p1.toInt64))), .second, .val (.long (own_lmin ((2 : Int64) * ((16 : Int32).toInt64)) (2147483639 : Int64))), .second] [(.ref x_10_b2), (.ref a)])) rfl rfl (hb hby d11_78)
    have Z_13 : n0 ≤ h_13.size := Nat.le_trans Z_10 (Keep.of_wr W_13).1
    have N_13 := Fr.snoc X_13 N_10 g_a
    have K_13 : Keep h0 h_13 [a] := K_10.wr W_13 (Or.inl (List.mem_of_getElem? (i := 0) rfl))
    have f_13 : Fld Z h_13 a "quorumline/FieldWriter" "bytes" "[B" (.ref x_10_b2) := Fld.same W_13 f_11
    refine own_st (S' := T_13.setTop (mkF m 81 #[.val (.ref a), .val (.int p1), .val (.long (((12 : Int32).toInt64) + (p1.toInt64))), .second, .val (.long (own_lmin ((2 : Int64) * ((16 : Int32).toInt64)) (2147483639 : Int64))), .second] [])) st_13 ?_
    obtain ⟨fs, hr, hrun, hended, hW, hsame⟩ := X_13.leave (v := none) (fun _ => rfl)
    have f_14 : Exa Z h_13 a "quorumline/FieldWriter" := (Exa.wr W_13 f_12)
    have f_15 : Fld Z h_13 a "quorumline/FieldWriter" "size" "I" (.int (12 : Int32)) := (Fld.other W_13 (P3.keep K_10c nin0) (Or.inr (slot_ne (Or.inl (hw _ (List.mem_of_getElem? (i := 50) rfl))) (Or.inl (hw _ (List.mem_of_getElem? (i := 34) rfl))) (by decide) (t := .int) (t' := (.array .byte)) (by decide) (by decide))))
    have f_16 : Arv Z h_13 x_10_b2 x_10_k2 .byte N x_10_vs2 (.int (0 : Int32)) := (c_10_0.other W_13 (Ne.symm ne_a_x_10_b2))
    refine ⟨_, _, X_13.returnOut hx Bd.returns (hb hby d11_81) hr, hrun, hended, _, _, rfl, ?_, ⟨_, rfl⟩, hW, hsame.mono (by decide) (by decide)⟩
    show Q11b Z a p1 b k vs h0 n0 _ T_13.heap _
    rw [e_13]
    exact ⟨x_10_b2, x_10_k2, x_10_vs2, N, rfl, N_13, K_13, sz_x_10_b2, f_14, f_13, f_15, f_16, hN⟩
theorem d12_0 : decode prog_20_method_15_code 0 = .ok (.aload_n 0, 1) := by decide +kernel
theorem d12_1 : decode prog_20_method_15_code 1 = .ok (.getfield 13, 3) := by decide +kernel
theorem d12_4 : decode prog_20_method_15_code 4 = .ok (.iload_n 1, 1) := by decide +kernel
theorem d12_5 : decode prog_20_method_15_code 5 = .ok (.iload_n 2, 1) := by decide +kernel
theorem d12_6 : decode prog_20_method_15_code 6 = .ok (.bipush 24, 2) := by decide +kernel
theorem d12_8 : decode prog_20_method_15_code 8 = .ok (.iushr, 1) := by decide +kernel
theorem d12_9 : decode prog_20_method_15_code 9 = .ok (.i2b, 1) := by decide +kernel
theorem d12_10 : decode prog_20_method_15_code 10 = .ok (.bastore, 1) := by decide +kernel
theorem d12_11 : decode prog_20_method_15_code 11 = .ok (.aload_n 0, 1) := by decide +kernel
theorem d12_12 : decode prog_20_method_15_code 12 = .ok (.getfield 13, 3) := by decide +kernel
theorem d12_15 : decode prog_20_method_15_code 15 = .ok (.iload_n 1, 1) := by decide +kernel
theorem d12_16 : decode prog_20_method_15_code 16 = .ok (.iconst 1, 1) := by decide +kernel
theorem d12_17 : decode prog_20_method_15_code 17 = .ok (.iadd, 1) := by decide +kernel
theorem d12_18 : decode prog_20_method_15_code 18 = .ok (.iload_n 2, 1) := by decide +kernel
theorem d12_19 : decode prog_20_method_15_code 19 = .ok (.bipush 16, 2) := by decide +kernel
theorem d12_21 : decode prog_20_method_15_code 21 = .ok (.iushr, 1) := by decide +kernel
theorem d12_22 : decode prog_20_method_15_code 22 = .ok (.i2b, 1) := by decide +kernel
theorem d12_23 : decode prog_20_method_15_code 23 = .ok (.bastore, 1) := by decide +kernel
theorem d12_24 : decode prog_20_method_15_code 24 = .ok (.aload_n 0, 1) := by decide +kernel
theorem d12_25 : decode prog_20_method_15_code 25 = .ok (.getfield 13, 3) := by decide +kernel
theorem d12_28 : decode prog_20_method_15_code 28 = .ok (.iload_n 1, 1) := by decide +kernel
theorem d12_29 : decode prog_20_method_15_code 29 = .ok (.iconst 2, 1) := by decide +kernel
theorem d12_30 : decode prog_20_method_15_code 30 = .ok (.iadd, 1) := by decide +kernel
theorem d12_31 : decode prog_20_method_15_code 31 = .ok (.iload_n 2, 1) := by decide +kernel
theorem d12_32 : decode prog_20_method_15_code 32 = .ok (.bipush 8, 2) := by decide +kernel
theorem d12_34 : decode prog_20_method_15_code 34 = .ok (.iushr, 1) := by decide +kernel
theorem d12_35 : decode prog_20_method_15_code 35 = .ok (.i2b, 1) := by decide +kernel
theorem d12_36 : decode prog_20_method_15_code 36 = .ok (.bastore, 1) := by decide +kernel
theorem d12_37 : decode prog_20_method_15_code 37 = .ok (.aload_n 0, 1) := by decide +kernel
theorem d12_38 : decode prog_20_method_15_code 38 = .ok (.getfield 13, 3) := by decide +kernel
theorem d12_41 : decode prog_20_method_15_code 41 = .ok (.iload_n 1, 1) := by decide +kernel
theorem d12_42 : decode prog_20_method_15_code 42 = .ok (.iconst 3, 1) := by decide +kernel
theorem d12_43 : decode prog_20_method_15_code 43 = .ok (.iadd, 1) := by decide +kernel
theorem d12_44 : decode prog_20_method_15_code 44 = .ok (.iload_n 2, 1) := by decide +kernel
theorem d12_45 : decode prog_20_method_15_code 45 = .ok (.i2b, 1) := by decide +kernel
theorem d12_46 : decode prog_20_method_15_code 46 = .ok (.bastore, 1) := by decide +kernel
theorem d12_47 : decode prog_20_method_15_code 47 = .ok (.return_, 1) := by decide +kernel
theorem ef_12 (m : MethodId) (a : Addr) (i : Int32) (v : Int32) : entryFrame m #[(.ref a), (.int i), (.int v)] 3 = mkF m 0 #[.val (.ref a), .val (.int i), .val (.int v)] [] := by first | (simp [entryFrame, mkF, argsToLocals, Value.category]; done) | rfl
def Q12 (Z : State) (a : Addr) (i : Int32) (v : Int32) (b : Addr) (k : ClassId) (vs : List Value) (h0 : Heap) (n0 : Nat) (v_ : Option Value) (h_ : Heap) (L_ : List Loc) : Prop := ∃ vs2 : List Value, v_ = none ∧ Fr n0 L_ ∧ Keep h0 h_ [b] ∧ Arv Z h_ b k .byte (16 : Int32) vs2 (.int (0 : Int32))
set_option maxRecDepth 65536 in
set_option maxHeartbeats 40000000 in
theorem rm12 (l : Launch) (Z : State) (a0 : Array Value) (hw : ∀ d ∈ tables_1, d.before a0 Z = true) (ws : List Jvm.Cond) (a : Addr) (i : Int32) (v : Int32) (b : Addr) (k : ClassId) (vs : List Value) (h0 : Heap) (n0 : Nat) (Z0 : n0 ≤ h0.size) (P0 : Fld Z h0 a "quorumline/FieldWriter" "bytes" "[B" (.ref b)) (P1 : Arv Z h0 b k .byte (16 : Int32) vs (.int (0 : Int32))) (g_b : n0 ≤ b) (ne_a_b : a ≠ b) (hb0 : ¬ i < (0 : Int32) ∧ i < (16 : Int32)) (hb1 : ¬ (i + (1 : Int32)) < (0 : Int32) ∧ (i + (1 : Int32)) < (16 : Int32)) (hb2 : ¬ (i + (2 : Int32)) < (0 : Int32) ∧ (i + (2 : Int32)) < (16 : Int32)) (hb3 : ¬ (i + (3 : Int32)) < (0 : Int32) ∧ (i + (3 : Int32)) < (16 : Int32)) :
    MetFree l (⟨"quorumline/FieldWriter", "putInt", "(II)V"⟩ : MethodName) (head1 (Jvm.Cond.code (⟨"quorumline/FieldWriter", "putInt", "(II)V"⟩ : MethodName) prog_20_method_15_code 3 none :: ws) ({ frames := 0, cells := 0, slots := 0, locals := 0 } : Room)) (fun ar_ U_ => ar_ = #[(.ref a), (.int i), (.int v)] ∧ Z.Warmed39 U_.vm ∧ U_.heap = h0) (fun _ _ _ _ _ => True) (fun _ U_ o_ U2_ => ∃ v_ L_, o_ = .returned v_ ∧ Q12 Z a i v b k vs h0 n0 v_ U2_.heap L_ ∧ FrameEnd U_ o_ U2_ L_ ({ frames := 0, cells := 0, slots := 0, locals := 0 } : Room).cells ({ frames := 0, cells := 0, slots := 0, locals := 0 } : Room).slots) := by
  refine MetFree.of_bodySF (plainFor_of_name pn_2) hisR ?_
  intro p e s m args below meth c s₁ Bd hml0 hP hK
  obtain ⟨rfl, hZ, hh⟩ := hP
  have hx := Bd.exec
  have hby := Bd.bytes
  have hml : c.maxLocals = 3 := hml0
  have hown : s.vm.findClass "quorumline/FieldWriter" = some m.cls := findClass_of_methodNamed Bd.named
  have hnm := (name_of_methodNamed Bd.named Bd.method).1
  have X0 : Stand p l e ({ frames := 0, cells := 0, slots := 0, locals := 0 } : Room) s m #[(.ref a), (.int i), (.int v)] below meth c s₁ [] 0 0 := Stand.of_body Bd
  have e0 : s₁.heap = h0 := by rw [← hh, Bd.state]; rfl
  have N0 := Fr.nil n0
  refine own_gl ?_
  refine own_st (S' := s₁.setTop (mkF m 0 #[.val (.ref a), .val (.int i), .val (.int v)] [])) (fun t_ k_ => castTop (ef_12 m a i v) k_) ?_
  refine own_st (S' := s₁.setTop (mkF m 1 #[.val (.ref a), .val (.int i), .val (.int v)] [(.ref a)])) (fun t_ k_ => XS.aloadN X0.here hx rfl (hb hby d12_0) rfl rfl k_) ?_
  obtain ⟨T_1, X_1, e_1, st_1⟩ := getF X0 hx hZ hown (host := "") (Or.inl (hw _ (List.mem_of_getElem? (i := 33) rfl))) Via.refl e0 P0 (g := (mkF m 1 #[.val (.ref a), .val (.int i), .val (.int v)] [(.ref a)])) rfl rfl (hb hby d12_1)
  refine own_st (S' := T_1.setTop (mkF m 4 #[.val (.ref a), .val (.int i), .val (.int v)] [(.ref b)])) st_1 ?_
  refine own_st (S' := T_1.setTop (mkF m 5 #[.val (.ref a), .val (.int i), .val (.int v)] [(.int i), (.ref b)])) (fun t_ k_ => XS.iloadN X_1.here hx rfl (hb hby d12_4) rfl k_) ?_
  refine own_st (S' := T_1.setTop (mkF m 6 #[.val (.ref a), .val (.int i), .val (.int v)] [(.int v), (.int i), (.ref b)])) (fun t_ k_ => XS.iloadN X_1.here hx rfl (hb hby d12_5) rfl k_) ?_
  refine own_st (S' := T_1.setTop (mkF m 8 #[.val (.ref a), .val (.int i), .val (.int v)] [(.int (24 : Int32)), (.int v), (.int i), (.ref b)])) (fun t_ k_ => XS.bipush X_1.here hx rfl (hb hby d12_6) k_) ?_
  refine own_st (S' := T_1.setTop (mkF m 9 #[.val (.ref a), .val (.int i), .val (.int v)] [(.int ((v.toUInt32 >>> ((24 : Int32) &&& 31).toUInt32).toInt32)), (.int i), (.ref b)])) (fun t_ k_ => XS.iushr X_1.here hx rfl (hb hby d12_8) rfl k_) ?_
  refine own_st (S' := T_1.setTop (mkF m 10 #[.val (.ref a), .val (.int i), .val (.int v)] [(.int (((v.toUInt32 >>> ((24 : Int32) &&& 31).toUInt32).toInt32).toInt8.toInt32)), (.int i), (.ref b)])) (fun t_ k_ => XS.i2b X_1.here hx rfl (hb hby d12_9) rfl k_) ?_
  obtain ⟨cl_2, Ar_2, q_2, S_2, M_2, H_2, G_2⟩ := id P1
  have hin_2 : ¬ (i < 0 ∨ cl_2.slots.size ≤ (i).toNatClampNeg) := inb_of S_2 hb0
  obtain ⟨T_2, h_2, X_2, e_2, W_2, st_2⟩ := stB X_1 hx hZ e_1 Ar_2 (j := i) hin_2 (g := (mkF m 10 #[.val (.ref a), .val (.int i), .val (.int v)] [(.int (((v.toUInt32 >>> ((24 : Int32) &&& 31).toUInt32).toInt32).toInt8.toInt32)), (.int i), (.ref b)])) rfl rfl (hb hby d12_10)
  have Z_2 : n0 ≤ h_2.size := Nat.le_trans Z0 (Keep.of_wr W_2).1
  have N_2 := Fr.snoc X_2 N0 g_b
  have K_2 : Keep h0 h_2 [b] := (Keep.refl h0 [b]).wr W_2 (Or.inl (List.mem_of_getElem? (i := 0) rfl))
  obtain ⟨vs_2, V_2⟩ := own_arv_any Ar_2 q_2 S_2 M_2 H_2 G_2 (fits_nar_byte _) W_2 hin_2
  refine own_st (S' := T_2.setTop (mkF m 11 #[.val (.ref a), .val (.int i), .val (.int v)] [])) st_2 ?_
  refine own_st (S' := T_2.setTop (mkF m 12 #[.val (.ref a), .val (.int i), .val (.int v)] [(.ref a)])) (fun t_ k_ => XS.aloadN X_2.here hx rfl (hb hby d12_11) rfl rfl k_) ?_
  have f_3 : Fld Z h_2 a "quorumline/FieldWriter" "bytes" "[B" (.ref b) := (Fld.other W_2 P0 (Or.inl ne_a_b))
  obtain ⟨T_4, X_4, e_4, st_4⟩ := getF X_2 hx hZ hown (host := "") (Or.inl (hw _ (List.mem_of_getElem? (i := 33) rfl))) Via.refl e_2 f_3 (g := (mkF m 12 #[.val (.ref a), .val (.int i), .val (.int v)] [(.ref a)])) rfl rfl (hb hby d12_12)
  refine own_st (S' := T_4.setTop (mkF m 15 #[.val (.ref a), .val (.int i), .val (.int v)] [(.ref b)])) st_4 ?_
  refine own_st (S' := T_4.setTop (mkF m 16 #[.val (.ref a), .val (.int i), .val (.int v)] [(.int i), (.ref b)])) (fun t_ k_ => XS.iloadN X_4.here hx rfl (hb hby d12_15) rfl k_) ?_
  refine own_st (S' := T_4.setTop (mkF m 17 #[.val (.ref a), .val (.int i), .val (.int v)] [(.int (1 : Int32)), (.int i), (.ref b)])) (fun t_ k_ => XS.iconst X_4.here hx rfl (hb hby d12_16) k_) ?_
  refine own_st (S' := T_4.setTop (mkF m 18 #[.val (.ref a), .val (.int i), .val (.int v)] [(.int (i + (1 : Int32))), (.ref b)])) (fun t_ k_ => XS.iadd X_4.here hx rfl (hb hby d12_17) rfl k_) ?_
  refine own_st (S' := T_4.setTop (mkF m 19 #[.val (.ref a), .val (.int i), .val (.int v)] [(.int v), (.int (i + (1 : Int32))), (.ref b)])) (fun t_ k_ => XS.iloadN X_4.here hx rfl (hb hby d12_18) rfl k_) ?_
  refine own_st (S' := T_4.setTop (mkF m 21 #[.val (.ref a), .val (.int i), .val (.int v)] [(.int (16 : Int32)), (.int v), (.int (i + (1 : Int32))), (.ref b)])) (fun t_ k_ => XS.bipush X_4.here hx rfl (hb hby d12_19) k_) ?_
  refine own_st (S' := T_4.setTop (mkF m 22 #[.val (.ref a), .val (.int i), .val (.int v)] [(.int ((v.toUInt32 >>> ((16 : Int32) &&& 31).toUInt32).toInt32)), (.int (i + (1 : Int32))), (.ref b)])) (fun t_ k_ => XS.iushr X_4.here hx rfl (hb hby d12_21) rfl k_) ?_
  refine own_st (S' := T_4.setTop (mkF m 23 #[.val (.ref a), .val (.int i), .val (.int v)] [(.int (((v.toUInt32 >>> ((16 : Int32) &&& 31).toUInt32).toInt32).toInt8.toInt32)), (.int (i + (1 : Int32))), (.ref b)])) (fun t_ k_ => XS.i2b X_4.here hx rfl (hb hby d12_22) rfl k_) ?_
  obtain ⟨cl_5, Ar_5, q_5, S_5, M_5, H_5, G_5⟩ := id V_2
  have hin_5 : ¬ ((i + (1 : Int32)) < 0 ∨ cl_5.slots.size ≤ ((i + (1 : Int32))).toNatClampNeg) := inb_of S_5 hb1
  obtain ⟨T_5, h_5, X_5, e_5, W_5, st_5⟩ := stB X_4 hx hZ e_4 Ar_5 (j := (i + (1 : Int32))) hin_5 (g := (mkF m 23 #[.val (.ref a), .val (.int i), .val (.int v)] [(.int (((v.toUInt32 >>> ((16 : Int32) &&& 31).toUInt32).toInt32).toInt8.toInt32)), (.int (i + (1 : Int32))), (.ref b)])) rfl rfl (hb hby d12_23)
  have Z_5 : n0 ≤ h_5.size := Nat.le_trans Z_2 (Keep.of_wr W_5).1
  have N_5 := Fr.snoc X_5 N_2 g_b
  have K_5 : Keep h0 h_5 [b] := K_2.wr W_5 (Or.inl (List.mem_of_getElem? (i := 0) rfl))
  obtain ⟨vs_5, V_5⟩ := own_arv_any Ar_5 q_5 S_5 M_5 H_5 G_5 (fits_nar_byte _) W_5 hin_5
  refine own_st (S' := T_5.setTop (mkF m 24 #[.val (.ref a), .val (.int i), .val (.int v)] [])) st_5 ?_
  refine own_st (S' := T_5.setTop (mkF m 25 #[.val (.ref a), .val (.int i), .val (.int v)] [(.ref a)])) (fun t_ k_ => XS.aloadN X_5.here hx rfl (hb hby d12_24) rfl rfl k_) ?_
  have f_6 : Fld Z h_5 a "quorumline/FieldWriter" "bytes" "[B" (.ref b) := (Fld.other W_5 f_3 (Or.inl ne_a_b))
  obtain ⟨T_7, X_7, e_7, st_7⟩ := getF X_5 hx hZ hown (host := "") (Or.inl (hw _ (List.mem_of_getElem? (i := 33) rfl))) Via.refl e_5 f_6 (g := (mkF m 25 #[.val (.ref a), .val (.int i), .val (.int v)] [(.ref a)])) rfl rfl (hb hby d12_25)
  refine own_st (S' := T_7.setTop (mkF m 28 #[.val (.ref a), .val (.int i), .val (.int v)] [(.ref b)])) st_7 ?_
  refine own_st (S' := T_7.setTop (mkF m 29 #[.val (.ref a), .val (.int i), .val (.int v)] [(.int i), (.ref b)])) (fun t_ k_ => XS.iloadN X_7.here hx rfl (hb hby d12_28) rfl k_) ?_
  refine own_st (S' := T_7.setTop (mkF m 30 #[.val (.ref a), .val (.int i), .val (.int v)] [(.int (2 : Int32)), (.int i), (.ref b)])) (fun t_ k_ => XS.iconst X_7.here hx rfl (hb hby d12_29) k_) ?_
  refine own_st (S' := T_7.setTop (mkF m 31 #[.val (.ref a), .val (.int i), .val (.int v)] [(.int (i + (2 : Int32))), (.ref b)])) (fun t_ k_ => XS.iadd X_7.here hx rfl (hb hby d12_30) rfl k_) ?_
  refine own_st (S' := T_7.setTop (mkF m 32 #[.val (.ref a), .val (.int i), .val (.int v)] [(.int v), (.int (i + (2 : Int32))), (.ref b)])) (fun t_ k_ => XS.iloadN X_7.here hx rfl (hb hby d12_31) rfl k_) ?_
  refine own_st (S' := T_7.setTop (mkF m 34 #[.val (.ref a), .val (.int i), .val (.int v)] [(.int (8 : Int32)), (.int v), (.int (i + (2 : Int32))), (.ref b)])) (fun t_ k_ => XS.bipush X_7.here hx rfl (hb hby d12_32) k_) ?_
  refine own_st (S' := T_7.setTop (mkF m 35 #[.val (.ref a), .val (.int i), .val (.int v)] [(.int ((v.toUInt32 >>> ((8 : Int32) &&& 31).toUInt32).toInt32)), (.int (i + (2 : Int32))), (.ref b)])) (fun t_ k_ => XS.iushr X_7.here hx rfl (hb hby d12_34) rfl k_) ?_
  refine own_st (S' := T_7.setTop (mkF m 36 #[.val (.ref a), .val (.int i), .val (.int v)] [(.int (((v.toUInt32 >>> ((8 : Int32) &&& 31).toUInt32).toInt32).toInt8.toInt32)), (.int (i + (2 : Int32))), (.ref b)])) (fun t_ k_ => XS.i2b X_7.here hx rfl (hb hby d12_35) rfl k_) ?_
  obtain ⟨cl_8, Ar_8, q_8, S_8, M_8, H_8, G_8⟩ := id V_5
  have hin_8 : ¬ ((i + (2 : Int32)) < 0 ∨ cl_8.slots.size ≤ ((i + (2 : Int32))).toNatClampNeg) := inb_of S_8 hb2
  obtain ⟨T_8, h_8, X_8, e_8, W_8, st_8⟩ := stB X_7 hx hZ e_7 Ar_8 (j := (i + (2 : Int32))) hin_8 (g := (mkF m 36 #[.val (.ref a), .val (.int i), .val (.int v)] [(.int (((v.toUInt32 >>> ((8 : Int32) &&& 31).toUInt32).toInt32).toInt8.toInt32)), (.int (i + (2 : Int32))), (.ref b)])) rfl rfl (hb hby d12_36)
  have Z_8 : n0 ≤ h_8.size := Nat.le_trans Z_5 (Keep.of_wr W_8).1
  have N_8 := Fr.snoc X_8 N_5 g_b
  have K_8 : Keep h0 h_8 [b] := K_5.wr W_8 (Or.inl (List.mem_of_getElem? (i := 0) rfl))
  obtain ⟨vs_8, V_8⟩ := own_arv_any Ar_8 q_8 S_8 M_8 H_8 G_8 (fits_nar_byte _) W_8 hin_8
  refine own_st (S' := T_8.setTop (mkF m 37 #[.val (.ref a), .val (.int i), .val (.int v)] [])) st_8 ?_
  refine own_st (S' := T_8.setTop (mkF m 38 #[.val (.ref a), .val (.int i), .val (.int v)] [(.ref a)])) (fun t_ k_ => XS.aloadN X_8.here hx rfl (hb hby d12_37) rfl rfl k_) ?_
  have f_9 : Fld Z h_8 a "quorumline/FieldWriter" "bytes" "[B" (.ref b) := (Fld.other W_8 f_6 (Or.inl ne_a_b))
  obtain ⟨T_10, X_10, e_10, st_10⟩ := getF X_8 hx hZ hown (host := "") (Or.inl (hw _ (List.mem_of_getElem? (i := 33) rfl))) Via.refl e_8 f_9 (g := (mkF m 38 #[.val (.ref a), .val (.int i), .val (.int v)] [(.ref a)])) rfl rfl (hb hby d12_38)
  refine own_st (S' := T_10.setTop (mkF m 41 #[.val (.ref a), .val (.int i), .val (.int v)] [(.ref b)])) st_10 ?_
  refine own_st (S' := T_10.setTop (mkF m 42 #[.val (.ref a), .val (.int i), .val (.int v)] [(.int i), (.ref b)])) (fun t_ k_ => XS.iloadN X_10.here hx rfl (hb hby d12_41) rfl k_) ?_
  refine own_st (S' := T_10.setTop (mkF m 43 #[.val (.ref a), .val (.int i), .val (.int v)] [(.int (3 : Int32)), (.int i), (.ref b)])) (fun t_ k_ => XS.iconst X_10.here hx rfl (hb hby d12_42) k_) ?_
  refine own_st (S' := T_10.setTop (mkF m 44 #[.val (.ref a), .val (.int i), .val (.int v)] [(.int (i + (3 : Int32))), (.ref b)])) (fun t_ k_ => XS.iadd X_10.here hx rfl (hb hby d12_43) rfl k_) ?_
  refine own_st (S' := T_10.setTop (mkF m 45 #[.val (.ref a), .val (.int i), .val (.int v)] [(.int v), (.int (i + (3 : Int32))), (.ref b)])) (fun t_ k_ => XS.iloadN X_10.here hx rfl (hb hby d12_44) rfl k_) ?_
  refine own_st (S' := T_10.setTop (mkF m 46 #[.val (.ref a), .val (.int i), .val (.int v)] [(.int (v.toInt8.toInt32)), (.int (i + (3 : Int32))), (.ref b)])) (fun t_ k_ => XS.i2b X_10.here hx rfl (hb hby d12_45) rfl k_) ?_
  obtain ⟨cl_11, Ar_11, q_11, S_11, M_11, H_11, G_11⟩ := id V_8
  have hin_11 : ¬ ((i + (3 : Int32)) < 0 ∨ cl_11.slots.size ≤ ((i + (3 : Int32))).toNatClampNeg) := inb_of S_11 hb3
  obtain ⟨T_11, h_11, X_11, e_11, W_11, st_11⟩ := stB X_10 hx hZ e_10 Ar_11 (j := (i + (3 : Int32))) hin_11 (g := (mkF m 46 #[.val (.ref a), .val (.int i), .val (.int v)] [(.int (v.toInt8.toInt32)), (.int (i + (3 : Int32))), (.ref b)])) rfl rfl (hb hby d12_46)
  have Z_11 : n0 ≤ h_11.size := Nat.le_trans Z_8 (Keep.of_wr W_11).1
  have N_11 := Fr.snoc X_11 N_8 g_b
  have K_11 : Keep h0 h_11 [b] := K_8.wr W_11 (Or.inl (List.mem_of_getElem? (i := 0) rfl))
  obtain ⟨vs_11, V_11⟩ := own_arv_any Ar_11 q_11 S_11 M_11 H_11 G_11 (fits_nar_byte _) W_11 hin_11
  refine own_st (S' := T_11.setTop (mkF m 47 #[.val (.ref a), .val (.int i), .val (.int v)] [])) st_11 ?_
  obtain ⟨fs, hr, hrun, hended, hW, hsame⟩ := X_11.leave (v := none) (fun _ => rfl)
  refine ⟨_, _, X_11.returnOut hx Bd.returns (hb hby d12_47) hr, hrun, hended, _, _, rfl, ?_, ⟨_, rfl⟩, hW, hsame.mono (by decide) (by decide)⟩
  show Q12 Z a i v b k vs h0 n0 _ T_11.heap _
  rw [e_11]
  exact ⟨vs_11, rfl, N_11, K_11, V_11⟩
theorem d13_0 : decode prog_20_method_9_code 0 = .ok (.aload_n 0, 1) := by decide +kernel
theorem d13_1 : decode prog_20_method_9_code 1 = .ok (.bipush 8, 2) := by decide +kernel
theorem d13_3 : decode prog_20_method_9_code 3 = .ok (.invokevirtual 29, 3) := by decide +kernel
theorem d13_6 : decode prog_20_method_9_code 6 = .ok (.aload_n 0, 1) := by decide +kernel
theorem d13_7 : decode prog_20_method_9_code 7 = .ok (.aload_n 0, 1) := by decide +kernel
theorem d13_8 : decode prog_20_method_9_code 8 = .ok (.getfield 19, 3) := by decide +kernel
theorem d13_11 : decode prog_20_method_9_code 11 = .ok (.lload_n 1, 1) := by decide +kernel
theorem d13_12 : decode prog_20_method_9_code 12 = .ok (.bipush 32, 2) := by decide +kernel
theorem d13_14 : decode prog_20_method_9_code 14 = .ok (.lushr, 1) := by decide +kernel
theorem d13_15 : decode prog_20_method_9_code 15 = .ok (.l2i, 1) := by decide +kernel
theorem d13_16 : decode prog_20_method_9_code 16 = .ok (.invokevirtual 38, 3) := by decide +kernel
theorem d13_19 : decode prog_20_method_9_code 19 = .ok (.aload_n 0, 1) := by decide +kernel
theorem d13_20 : decode prog_20_method_9_code 20 = .ok (.aload_n 0, 1) := by decide +kernel
theorem d13_21 : decode prog_20_method_9_code 21 = .ok (.getfield 19, 3) := by decide +kernel
theorem d13_24 : decode prog_20_method_9_code 24 = .ok (.iconst 4, 1) := by decide +kernel
theorem d13_25 : decode prog_20_method_9_code 25 = .ok (.iadd, 1) := by decide +kernel
theorem d13_26 : decode prog_20_method_9_code 26 = .ok (.lload_n 1, 1) := by decide +kernel
theorem d13_27 : decode prog_20_method_9_code 27 = .ok (.l2i, 1) := by decide +kernel
theorem d13_28 : decode prog_20_method_9_code 28 = .ok (.invokevirtual 38, 3) := by decide +kernel
theorem d13_31 : decode prog_20_method_9_code 31 = .ok (.aload_n 0, 1) := by decide +kernel
theorem d13_32 : decode prog_20_method_9_code 32 = .ok (.dup, 1) := by decide +kernel
theorem d13_33 : decode prog_20_method_9_code 33 = .ok (.getfield 19, 3) := by decide +kernel
theorem d13_36 : decode prog_20_method_9_code 36 = .ok (.bipush 8, 2) := by decide +kernel
theorem d13_38 : decode prog_20_method_9_code 38 = .ok (.iadd, 1) := by decide +kernel
theorem d13_39 : decode prog_20_method_9_code 39 = .ok (.putfield 19, 3) := by decide +kernel
theorem d13_42 : decode prog_20_method_9_code 42 = .ok (.return_, 1) := by decide +kernel
theorem ef_13 (m : MethodId) (a : Addr) (q : Int64) : entryFrame m #[(.ref a), (.long q)] 3 = mkF m 0 #[.val (.ref a), .val (.long q), .second] [] := by first | (simp [entryFrame, mkF, argsToLocals, Value.category]; done) | rfl
theorem pd_5 : parseMethodDescriptor "(I)V" = some ⟨[.int], none⟩ := by decide +kernel
theorem pd_6 : parseMethodDescriptor "(II)V" = some ⟨[.int, .int], none⟩ := by decide +kernel
def Q13 (Z : State) (a : Addr) (q : Int64) (b : Addr) (k : ClassId) (vs : List Value) (h0 : Heap) (n0 : Nat) (v_ : Option Value) (h_ : Heap) (L_ : List Loc) : Prop := ∃ vs2 : List Value, v_ = none ∧ Fr n0 L_ ∧ Keep h0 h_ [a, b] ∧ Exa Z h_ a "quorumline/FieldWriter" ∧ Fld Z h_ a "quorumline/FieldWriter" "bytes" "[B" (.ref b) ∧ Arv Z h_ b k .byte (16 : Int32) vs2 (.int (0 : Int32)) ∧ Fld Z h_ a "quorumline/FieldWriter" "size" "I" (.int (8 : Int32))
set_option maxRecDepth 65536 in
set_option maxHeartbeats 40000000 in
theorem rm13 (l : Launch) (Z : State) (a0 : Array Value) (hw : ∀ d ∈ tables_1, d.before a0 Z = true) (ws : List Jvm.Cond) (a : Addr) (q : Int64) (b : Addr) (k : ClassId) (vs : List Value) (h0 : Heap) (n0 : Nat) (Z0 : n0 ≤ h0.size) (P0 : Exa Z h0 a "quorumline/FieldWriter") (P1 : Fld Z h0 a "quorumline/FieldWriter" "bytes" "[B" (.ref b)) (P2 : Arv Z h0 b k .byte (16 : Int32) vs (.int (0 : Int32))) (P3 : Fld Z h0 a "quorumline/FieldWriter" "size" "I" (.int (0 : Int32))) (g_a : n0 ≤ a) (g_b : n0 ≤ b) (ne_a_b : a ≠ b) :
    MetFree l (⟨"quorumline/FieldWriter", "writeLong", "(J)V"⟩ : MethodName) (head1 (Jvm.Cond.code (⟨"quorumline/FieldWriter", "writeLong", "(J)V"⟩ : MethodName) prog_20_method_9_code 3 none :: ws) ({ frames := 1, cells := 0, slots := 0, locals := 17 } : Room)) (fun ar_ U_ => ar_ = #[(.ref a), (.long q)] ∧ Z.Warmed39 U_.vm ∧ U_.heap = h0) (fun _ _ _ _ _ => True) (fun _ U_ o_ U2_ => ∃ v_ L_, o_ = .returned v_ ∧ Q13 Z a q b k vs h0 n0 v_ U2_.heap L_ ∧ FrameEnd U_ o_ U2_ L_ ({ frames := 1, cells := 0, slots := 0, locals := 17 } : Room).cells ({ frames := 1, cells := 0, slots := 0, locals := 17 } : Room).slots) := by
  refine MetFree.of_bodySF (plainFor_of_name pn_2) hisR ?_
  intro p e s m args below meth c s₁ Bd hml0 hP hK
  obtain ⟨rfl, hZ, hh⟩ := hP
  have hx := Bd.exec
  have hby := Bd.bytes
  have hml : c.maxLocals = 3 := hml0
  have hown : s.vm.findClass "quorumline/FieldWriter" = some m.cls := findClass_of_methodNamed Bd.named
  have hnm := (name_of_methodNamed Bd.named Bd.method).1
  have X0 : Stand p l e ({ frames := 1, cells := 0, slots := 0, locals := 17 } : Room) s m #[(.ref a), (.long q)] below meth c s₁ [] 0 0 := Stand.of_body Bd
  have e0 : s₁.heap = h0 := by rw [← hh, Bd.state]; rfl
  have N0 := Fr.nil n0
  refine own_gl ?_
  refine own_st (S' := s₁.setTop (mkF m 0 #[.val (.ref a), .val (.long q), .second] [])) (fun t_ k_ => castTop (ef_13 m a q) k_) ?_
  refine own_st (S' := s₁.setTop (mkF m 1 #[.val (.ref a), .val (.long q), .second] [(.ref a)])) (fun t_ k_ => XS.aloadN X0.here hx rfl (hb hby d13_0) rfl rfl k_) ?_
  refine own_st (S' := s₁.setTop (mkF m 3 #[.val (.ref a), .val (.long q), .second] [(.int (8 : Int32)), (.ref a)])) (fun t_ k_ => XS.bipush X0.here hx rfl (hb hby d13_1) k_) ?_
  obtain ⟨cq_1, qa_1, qb_1⟩ := P0.cell
  obtain ⟨_, _, ⟨T_1, L_1, k_1, n_1⟩, -, X_1, ⟨Lc_1, hQ_1, l_1, y_1, z_1⟩, st_1⟩ := X0.privateBack hx (y := (⟨"quorumline/FieldWriter", "room", "(I)V"⟩ : MethodName)) hown (mvT hZ (hw _ (List.mem_of_getElem? (i := 45) rfl))) (mvT hZ (hw _ (List.mem_of_getElem? (i := 46) rfl))) (own_selfsel (y := (⟨"quorumline/FieldWriter", "room", "(I)V"⟩ : MethodName)) (mvT hZ (hw _ (List.mem_of_getElem? (i := 22) rfl))) (mvP hZ (hw _ (List.mem_of_getElem? (i := 47) rfl))) (mvT hZ (hw _ (List.mem_of_getElem? (i := 46) rfl))) (by decide)) (Cond.privateMethod_at (mvP hZ (hw _ (List.mem_of_getElem? (i := 47) rfl)) (args := #[]))) (mvT hZ (hw _ (List.mem_of_getElem? (i := 48) rfl))) (by decide) (backOf (W := 0) (rm11a l Z a0 hw [] a (8 : Int32) b k vs (0 : Int32) h0 n0 Z0 P1 P2 P3 (by decide)) hZ (hw _ (List.mem_of_getElem? (i := 48) rfl)) (hw _ (List.mem_of_getElem? (i := 23) rfl)) (by decide) (by decide)) (g := (mkF m 3 #[.val (.ref a), .val (.long q), .second] [(.int (8 : Int32)), (.ref a)])) rfl (by rw [hml]; rfl) (Steps.refl _) (a := a) (by rw [e0]; exact qa_1) qb_1 (argsL := [(.int (8 : Int32))]) (rest := []) (lenOf pd_5 rfl) rfl (by show 2 * 0 + _ ≤ _; exact Nat.le_of_eq rfl) (hb hby d13_3) (fun _ _ => ⟨rfl, e0, (by decide : 0 + 0 ≤ _), (by decide : 0 + 0 ≤ _)⟩)
  dsimp only [Pt.U, Pt.locs, Pt.cells, Pt.slots] at X_1 l_1 y_1 z_1 st_1 hQ_1
  subst l_1 y_1 z_1
  obtain ⟨rfl, M_1, q_1⟩ := hQ_1
  have N_1 := Fr.app N0 M_1
  refine own_st (S' := T_1.setTop (mkF m 6 #[.val (.ref a), .val (.long q), .second] [])) (fun t_ k_ => st_1.trans k_) ?_
  refine own_st (S' := T_1.setTop (mkF m 7 #[.val (.ref a), .val (.long q), .second] [(.ref a)])) (fun t_ k_ => XS.aloadN X_1.here hx rfl (hb hby d13_6) rfl rfl k_) ?_
  refine own_st (S' := T_1.setTop (mkF m 8 #[.val (.ref a), .val (.long q), .second] [(.ref a), (.ref a)])) (fun t_ k_ => XS.aloadN X_1.here hx rfl (hb hby d13_7) rfl rfl k_) ?_
  obtain ⟨T_2, X_2, e_2, st_2⟩ := getF X_1 hx hZ hown (host := "") (Or.inl (hw _ (List.mem_of_getElem? (i := 49) rfl))) Via.refl q_1 P3 (g := (mkF m 8 #[.val (.ref a), .val (.long q), .second] [(.ref a), (.ref a)])) rfl rfl (hb hby d13_8)
  refine own_st (S' := T_2.setTop (mkF m 11 #[.val (.ref a), .val (.long q), .second] [(.int (0 : Int32)), (.ref a)])) st_2 ?_
  refine own_st (S' := T_2.setTop (mkF m 12 #[.val (.ref a), .val (.long q), .second] [(.long q), (.int (0 : Int32)), (.ref a)])) (fun t_ k_ => XS.lloadN X_2.here hx rfl (hb hby d13_11) rfl k_) ?_
  refine own_st (S' := T_2.setTop (mkF m 14 #[.val (.ref a), .val (.long q), .second] [(.int (32 : Int32)), (.long q), (.int (0 : Int32)), (.ref a)])) (fun t_ k_ => XS.bipush X_2.here hx rfl (hb hby d13_12) k_) ?_
  refine own_st (S' := T_2.setTop (mkF m 15 #[.val (.ref a), .val (.long q), .second] [(.long ((q.toUInt64 >>> ((32 : Int32) &&& 0x3f).toInt64.toUInt64).toInt64)), (.int (0 : Int32)), (.ref a)])) (fun t_ k_ => XS.lushr X_2.here hx rfl (hb hby d13_14) rfl k_) ?_
  refine own_st (S' := T_2.setTop (mkF m 16 #[.val (.ref a), .val (.long q), .second] [(.int (((q.toUInt64 >>> ((32 : Int32) &&& 0x3f).toInt64.toUInt64).toInt64).toInt32)), (.int (0 : Int32)), (.ref a)])) (fun t_ k_ => XS.l2i X_2.here hx rfl (hb hby d13_15) rfl k_) ?_
  obtain ⟨cq_3, qa_3, qb_3⟩ := P0.cell
  obtain ⟨_, _, ⟨T_3, L_3, k_3, n_3⟩, -, X_3, ⟨Lc_3, hQ_3, l_3, y_3, z_3⟩, st_3⟩ := X_2.privateBack hx (y := (⟨"quorumline/FieldWriter", "putInt", "(II)V"⟩ : MethodName)) hown (mvT hZ (hw _ (List.mem_of_getElem? (i := 51) rfl))) (mvT hZ (hw _ (List.mem_of_getElem? (i := 52) rfl))) (own_selfsel (y := (⟨"quorumline/FieldWriter", "putInt", "(II)V"⟩ : MethodName)) (mvT hZ (hw _ (List.mem_of_getElem? (i := 22) rfl))) (mvP hZ (hw _ (List.mem_of_getElem? (i := 53) rfl))) (mvT hZ (hw _ (List.mem_of_getElem? (i := 52) rfl))) (by decide)) (Cond.privateMethod_at (mvP hZ (hw _ (List.mem_of_getElem? (i := 53) rfl)) (args := #[]))) (mvT hZ (hw _ (List.mem_of_getElem? (i := 54) rfl))) (by decide) (backOf (W := 0) (rm12 l Z a0 hw [] a (0 : Int32) (((q.toUInt64 >>> ((32 : Int32) &&& 0x3f).toInt64.toUInt64).toInt64).toInt32) b k vs h0 n0 Z0 P1 P2 g_b ne_a_b (by decide) (by decide) (by decide) (by decide)) hZ (hw _ (List.mem_of_getElem? (i := 54) rfl)) (hw _ (List.mem_of_getElem? (i := 23) rfl)) (by decide) (by decide)) (g := (mkF m 16 #[.val (.ref a), .val (.long q), .second] [(.int (((q.toUInt64 >>> ((32 : Int32) &&& 0x3f).toInt64.toUInt64).toInt64).toInt32)), (.int (0 : Int32)), (.ref a)])) rfl (by rw [hml]; rfl) (Steps.refl _) (a := a) (by rw [e_2]; exact qa_3) qb_3 (argsL := [(.int (0 : Int32)), (.int (((q.toUInt64 >>> ((32 : Int32) &&& 0x3f).toInt64.toUInt64).toInt64).toInt32))]) (rest := []) (lenOf pd_6 rfl) rfl (by show 2 * 0 + _ ≤ _; exact Nat.le_of_eq rfl) (hb hby d13_16) (fun _ _ => ⟨rfl, e_2, (by decide : 0 + 0 ≤ _), (by decide : 0 + 0 ≤ _)⟩)
  dsimp only [Pt.U, Pt.locs, Pt.cells, Pt.slots] at X_3 l_3 y_3 z_3 st_3 hQ_3
  subst l_3 y_3 z_3
  obtain ⟨x_3_vs2, rfl, M_3, K_3c, c_3_0⟩ := hQ_3
  have N_3 := Fr.app N_1 M_3
  have K_3 : Keep h0 T_3.heap [a, b] := (Keep.refl h0 [a, b]).trans K_3c (allS (Or.inl (List.mem_of_getElem? (i := 1) rfl)) all0)
  have Z_3 : n0 ≤ T_3.heap.size := Nat.le_trans Z0 K_3c.1
  refine own_st (S' := T_3.setTop (mkF m 19 #[.val (.ref a), .val (.long q), .second] [])) (fun t_ k_ => st_3.trans k_) ?_
  refine own_st (S' := T_3.setTop (mkF m 20 #[.val (.ref a), .val (.long q), .second] [(.ref a)])) (fun t_ k_ => XS.aloadN X_3.here hx rfl (hb hby d13_19) rfl rfl k_) ?_
  refine own_st (S' := T_3.setTop (mkF m 21 #[.val (.ref a), .val (.long q), .second] [(.ref a), (.ref a)])) (fun t_ k_ => XS.aloadN X_3.here hx rfl (hb hby d13_20) rfl rfl k_) ?_
  have f_4 : Fld Z T_3.heap a "quorumline/FieldWriter" "size" "I" (.int (0 : Int32)) := (P3.keep K_3c (ninS ne_a_b nin0))
  obtain ⟨T_5, X_5, e_5, st_5⟩ := getF X_3 hx hZ hown (host := "") (Or.inl (hw _ (List.mem_of_getElem? (i := 49) rfl))) Via.refl rfl f_4 (g := (mkF m 21 #[.val (.ref a), .val (.long q), .second] [(.ref a), (.ref a)])) rfl rfl (hb hby d13_21)
  refine own_st (S' := T_5.setTop (mkF m 24 #[.val (.ref a), .val (.long q), .second] [(.int (0 : Int32)), (.ref a)])) st_5 ?_
  refine own_st (S' := T_5.setTop (mkF m 25 #[.val (.ref a), .val (.long q), .second] [(.int (4 : Int32)), (.int (0 : Int32)), (.ref a)])) (fun t_ k_ => XS.iconst X_5.here hx rfl (hb hby d13_24) k_) ?_
  refine own_st (S' := T_5.setTop (mkF m 26 #[.val (.ref a), .val (.long q), .second] [(.int ((0 : Int32) + (4 : Int32))), (.ref a)])) (fun t_ k_ => XS.iadd X_5.here hx rfl (hb hby d13_25) rfl k_) ?_
  refine own_st (S' := T_5.setTop (mkF m 27 #[.val (.ref a), .val (.long q), .second] [(.long q), (.int ((0 : Int32) + (4 : Int32))), (.ref a)])) (fun t_ k_ => XS.lloadN X_5.here hx rfl (hb hby d13_26) rfl k_) ?_
  refine own_st (S' := T_5.setTop (mkF m 28 #[.val (.ref a), .val (.long q), .second] [(.int (q.toInt32)), (.int ((0 : Int32) + (4 : Int32))), (.ref a)])) (fun t_ k_ => XS.l2i X_5.here hx rfl (hb hby d13_27) rfl k_) ?_
  have f_6 : Fld Z T_3.heap a "quorumline/FieldWriter" "bytes" "[B" (.ref b) := (P1.keep K_3c (ninS ne_a_b nin0))
  have f_8 : Exa Z T_3.heap a "quorumline/FieldWriter" := (P0.keep K_3c)
  obtain ⟨cq_7, qa_7, qb_7⟩ := f_8.cell
  obtain ⟨_, _, ⟨T_7, L_7, k_7, n_7⟩, -, X_7, ⟨Lc_7, hQ_7, l_7, y_7, z_7⟩, st_7⟩ := X_5.privateBack hx (y := (⟨"quorumline/FieldWriter", "putInt", "(II)V"⟩ : MethodName)) hown (mvT hZ (hw _ (List.mem_of_getElem? (i := 51) rfl))) (mvT hZ (hw _ (List.mem_of_getElem? (i := 52) rfl))) (own_selfsel (y := (⟨"quorumline/FieldWriter", "putInt", "(II)V"⟩ : MethodName)) (mvT hZ (hw _ (List.mem_of_getElem? (i := 22) rfl))) (mvP hZ (hw _ (List.mem_of_getElem? (i := 53) rfl))) (mvT hZ (hw _ (List.mem_of_getElem? (i := 52) rfl))) (by decide)) (Cond.privateMethod_at (mvP hZ (hw _ (List.mem_of_getElem? (i := 53) rfl)) (args := #[]))) (mvT hZ (hw _ (List.mem_of_getElem? (i := 54) rfl))) (by decide) (backOf (W := 0) (rm12 l Z a0 hw [] a ((0 : Int32) + (4 : Int32)) (q.toInt32) b k x_3_vs2 T_3.heap n0 Z_3 f_6 c_3_0 g_b ne_a_b (by decide) (by decide) (by decide) (by decide)) hZ (hw _ (List.mem_of_getElem? (i := 54) rfl)) (hw _ (List.mem_of_getElem? (i := 23) rfl)) (by decide) (by decide)) (g := (mkF m 28 #[.val (.ref a), .val (.long q), .second] [(.int (q.toInt32)), (.int ((0 : Int32) + (4 : Int32))), (.ref a)])) rfl (by rw [hml]; rfl) (Steps.refl _) (a := a) (by rw [e_5]; exact qa_7) qb_7 (argsL := [(.int ((0 : Int32) + (4 : Int32))), (.int (q.toInt32))]) (rest := []) (lenOf pd_6 rfl) rfl (by show 2 * 0 + _ ≤ _; exact Nat.le_of_eq rfl) (hb hby d13_28) (fun _ _ => ⟨rfl, e_5, (by decide : 0 + 0 ≤ _), (by decide : 0 + 0 ≤ _)⟩)
  dsimp only [Pt.U, Pt.locs, Pt.cells, Pt.slots] at X_7 l_7 y_7 z_7 st_7 hQ_7
  subst l_7 y_7 z_7
  obtain ⟨x_7_vs2, rfl, M_7, K_7c, c_7_0⟩ := hQ_7
  have N_7 := Fr.app N_3 M_7
  have K_7 : Keep h0 T_7.heap [a, b] := K_3.trans K_7c (allS (Or.inl (List.mem_of_getElem? (i := 1) rfl)) all0)
  have Z_7 : n0 ≤ T_7.heap.size := Nat.le_trans Z_3 K_7c.1
  refine own_st (S' := T_7.setTop (mkF m 31 #[.val (.ref a), .val (.long q), .second] [])) (fun t_ k_ => st_7.trans k_) ?_
  refine own_st (S' := T_7.setTop (mkF m 32 #[.val (.ref a), .val (.long q), .second] [(.ref a)])) (fun t_ k_ => XS.aloadN X_7.here hx rfl (hb hby d13_31) rfl rfl k_) ?_
  refine own_st (S' := T_7.setTop (mkF m 33 #[.val (.ref a), .val (.long q), .second] [(.ref a), (.ref a)])) (fun t_ k_ => XS.dup X_7.here hx rfl (hb hby d13_32) rfl rfl k_) ?_
  have f_9 : Fld Z T_7.heap a "quorumline/FieldWriter" "size" "I" (.int (0 : Int32)) := (f_4.keep K_7c (ninS ne_a_b nin0))
  obtain ⟨T_10, X_10, e_10, st_10⟩ := getF X_7 hx hZ hown (host := "") (Or.inl (hw _ (List.mem_of_getElem? (i := 49) rfl))) Via.refl rfl f_9 (g := (mkF m 33 #[.val (.ref a), .val (.long q), .second] [(.ref a), (.ref a)])) rfl rfl (hb hby d13_33)
  refine own_st (S' := T_10.setTop (mkF m 36 #[.val (.ref a), .val (.long q), .second] [(.int (0 : Int32)), (.ref a)])) st_10 ?_
  refine own_st (S' := T_10.setTop (mkF m 38 #[.val (.ref a), .val (.long q), .second] [(.int (8 : Int32)), (.int (0 : Int32)), (.ref a)])) (fun t_ k_ => XS.bipush X_10.here hx rfl (hb hby d13_36) k_) ?_
  refine own_st (S' := T_10.setTop (mkF m 39 #[.val (.ref a), .val (.long q), .second] [(.int ((0 : Int32) + (8 : Int32))), (.ref a)])) (fun t_ k_ => XS.iadd X_10.here hx rfl (hb hby d13_38) rfl k_) ?_
  have f_11 : Exa Z T_7.heap a "quorumline/FieldWriter" := (f_8.keep K_7c)
  obtain ⟨T_12, h_12, X_12, e_12, W_12, st_12⟩ := putF X_10 hx hZ hown (host := "") (Or.inl (hw _ (List.mem_of_getElem? (i := 49) rfl))) Via.refl e_10 f_9 f_11 (Or.inl (hw _ (List.mem_of_getElem? (i := 50) rfl))) (hw _ (List.mem_of_getElem? (i := 22) rfl)) (ty := .int) (by decide) rfl rfl (g := (mkF m 39 #[.val (.ref a), .val (.long q), .second] [(.int ((0 : Int32) + (8 : Int32))), (.ref a)])) rfl rfl (hb hby d13_39)
  have Z_12 : n0 ≤ h_12.size := Nat.le_trans Z_7 (Keep.of_wr W_12).1
  have N_12 := Fr.snoc X_12 N_7 g_a
  have K_12 : Keep h0 h_12 [a, b] := K_7.wr W_12 (Or.inl (List.mem_of_getElem? (i := 0) rfl))
  have f_12 : Fld Z h_12 a "quorumline/FieldWriter" "size" "I" (.int ((0 : Int32) + (8 : Int32))) := Fld.same W_12 f_9
  refine own_st (S' := T_12.setTop (mkF m 42 #[.val (.ref a), .val (.long q), .second] [])) st_12 ?_
  obtain ⟨fs, hr, hrun, hended, hW, hsame⟩ := X_12.leave (v := none) (fun _ => rfl)
  have f_13 : Exa Z h_12 a "quorumline/FieldWriter" := (Exa.wr W_12 f_11)
  have f_14 : Fld Z h_12 a "quorumline/FieldWriter" "bytes" "[B" (.ref b) := (Fld.other W_12 (f_6.keep K_7c (ninS ne_a_b nin0)) (Or.inr (slot_ne (Or.inl (hw _ (List.mem_of_getElem? (i := 34) rfl))) (Or.inl (hw _ (List.mem_of_getElem? (i := 50) rfl))) (by decide) (t := (.array .byte)) (t' := .int) (by decide) (by decide))))
  have f_15 : Arv Z h_12 b k .byte (16 : Int32) x_7_vs2 (.int (0 : Int32)) := (c_7_0.other W_12 (Ne.symm ne_a_b))
  refine ⟨_, _, X_12.returnOut hx Bd.returns (hb hby d13_42) hr, hrun, hended, _, _, rfl, ?_, ⟨_, rfl⟩, hW, hsame.mono (by decide) (by decide)⟩
  show Q13 Z a q b k vs h0 n0 _ T_12.heap _
  rw [e_12]
  exact ⟨x_7_vs2, rfl, N_12, K_12, f_13, f_14, f_15, ((show ((0 : Int32) + (8 : Int32)) = (8 : Int32) from by decide) ▸ f_12)⟩
theorem d14_0 : decode prog_20_method_8_code 0 = .ok (.aload_n 0, 1) := by decide +kernel
theorem d14_1 : decode prog_20_method_8_code 1 = .ok (.iconst 4, 1) := by decide +kernel
theorem d14_2 : decode prog_20_method_8_code 2 = .ok (.invokevirtual 29, 3) := by decide +kernel
theorem d14_5 : decode prog_20_method_8_code 5 = .ok (.aload_n 0, 1) := by decide +kernel
theorem d14_6 : decode prog_20_method_8_code 6 = .ok (.aload_n 0, 1) := by decide +kernel
theorem d14_7 : decode prog_20_method_8_code 7 = .ok (.getfield 19, 3) := by decide +kernel
theorem d14_10 : decode prog_20_method_8_code 10 = .ok (.iload_n 1, 1) := by decide +kernel
theorem d14_11 : decode prog_20_method_8_code 11 = .ok (.invokevirtual 38, 3) := by decide +kernel
theorem d14_14 : decode prog_20_method_8_code 14 = .ok (.aload_n 0, 1) := by decide +kernel
theorem d14_15 : decode prog_20_method_8_code 15 = .ok (.dup, 1) := by decide +kernel
theorem d14_16 : decode prog_20_method_8_code 16 = .ok (.getfield 19, 3) := by decide +kernel
theorem d14_19 : decode prog_20_method_8_code 19 = .ok (.iconst 4, 1) := by decide +kernel
theorem d14_20 : decode prog_20_method_8_code 20 = .ok (.iadd, 1) := by decide +kernel
theorem d14_21 : decode prog_20_method_8_code 21 = .ok (.putfield 19, 3) := by decide +kernel
theorem d14_24 : decode prog_20_method_8_code 24 = .ok (.return_, 1) := by decide +kernel
theorem ef_14 (m : MethodId) (a : Addr) (p1 : Int32) : entryFrame m #[(.ref a), (.int p1)] 2 = mkF m 0 #[.val (.ref a), .val (.int p1)] [] := by first | (simp [entryFrame, mkF, argsToLocals, Value.category]; done) | rfl
def Q14 (Z : State) (a : Addr) (p1 : Int32) (b : Addr) (k : ClassId) (vs : List Value) (h0 : Heap) (n0 : Nat) (v_ : Option Value) (h_ : Heap) (L_ : List Loc) : Prop := ∃ vs2 : List Value, v_ = none ∧ Fr n0 L_ ∧ Keep h0 h_ [a, b] ∧ Exa Z h_ a "quorumline/FieldWriter" ∧ Fld Z h_ a "quorumline/FieldWriter" "bytes" "[B" (.ref b) ∧ Arv Z h_ b k .byte (16 : Int32) vs2 (.int (0 : Int32)) ∧ Fld Z h_ a "quorumline/FieldWriter" "size" "I" (.int (12 : Int32))
set_option maxRecDepth 65536 in
set_option maxHeartbeats 40000000 in
theorem rm14 (l : Launch) (Z : State) (a0 : Array Value) (hw : ∀ d ∈ tables_1, d.before a0 Z = true) (ws : List Jvm.Cond) (a : Addr) (p1 : Int32) (b : Addr) (k : ClassId) (vs : List Value) (h0 : Heap) (n0 : Nat) (Z0 : n0 ≤ h0.size) (P0 : Exa Z h0 a "quorumline/FieldWriter") (P1 : Fld Z h0 a "quorumline/FieldWriter" "bytes" "[B" (.ref b)) (P2 : Arv Z h0 b k .byte (16 : Int32) vs (.int (0 : Int32))) (P3 : Fld Z h0 a "quorumline/FieldWriter" "size" "I" (.int (8 : Int32))) (g_a : n0 ≤ a) (g_b : n0 ≤ b) (ne_a_b : a ≠ b) :
    MetFree l (⟨"quorumline/FieldWriter", "writeInt", "(I)V"⟩ : MethodName) (head1 (Jvm.Cond.code (⟨"quorumline/FieldWriter", "writeInt", "(I)V"⟩ : MethodName) prog_20_method_8_code 2 none :: ws) ({ frames := 1, cells := 0, slots := 0, locals := 17 } : Room)) (fun ar_ U_ => ar_ = #[(.ref a), (.int p1)] ∧ Z.Warmed39 U_.vm ∧ U_.heap = h0) (fun _ _ _ _ _ => True) (fun _ U_ o_ U2_ => ∃ v_ L_, o_ = .returned v_ ∧ Q14 Z a p1 b k vs h0 n0 v_ U2_.heap L_ ∧ FrameEnd U_ o_ U2_ L_ ({ frames := 1, cells := 0, slots := 0, locals := 17 } : Room).cells ({ frames := 1, cells := 0, slots := 0, locals := 17 } : Room).slots) := by
  refine MetFree.of_bodySF (plainFor_of_name pn_2) hisR ?_
  intro p e s m args below meth c s₁ Bd hml0 hP hK
  obtain ⟨rfl, hZ, hh⟩ := hP
  have hx := Bd.exec
  have hby := Bd.bytes
  have hml : c.maxLocals = 2 := hml0
  have hown : s.vm.findClass "quorumline/FieldWriter" = some m.cls := findClass_of_methodNamed Bd.named
  have hnm := (name_of_methodNamed Bd.named Bd.method).1
  have X0 : Stand p l e ({ frames := 1, cells := 0, slots := 0, locals := 17 } : Room) s m #[(.ref a), (.int p1)] below meth c s₁ [] 0 0 := Stand.of_body Bd
  have e0 : s₁.heap = h0 := by rw [← hh, Bd.state]; rfl
  have N0 := Fr.nil n0
  refine own_gl ?_
  refine own_st (S' := s₁.setTop (mkF m 0 #[.val (.ref a), .val (.int p1)] [])) (fun t_ k_ => castTop (ef_14 m a p1) k_) ?_
  refine own_st (S' := s₁.setTop (mkF m 1 #[.val (.ref a), .val (.int p1)] [(.ref a)])) (fun t_ k_ => XS.aloadN X0.here hx rfl (hb hby d14_0) rfl rfl k_) ?_
  refine own_st (S' := s₁.setTop (mkF m 2 #[.val (.ref a), .val (.int p1)] [(.int (4 : Int32)), (.ref a)])) (fun t_ k_ => XS.iconst X0.here hx rfl (hb hby d14_1) k_) ?_
  obtain ⟨cq_1, qa_1, qb_1⟩ := P0.cell
  obtain ⟨_, _, ⟨T_1, L_1, k_1, n_1⟩, -, X_1, ⟨Lc_1, hQ_1, l_1, y_1, z_1⟩, st_1⟩ := X0.privateBack hx (y := (⟨"quorumline/FieldWriter", "room", "(I)V"⟩ : MethodName)) hown (mvT hZ (hw _ (List.mem_of_getElem? (i := 45) rfl))) (mvT hZ (hw _ (List.mem_of_getElem? (i := 46) rfl))) (own_selfsel (y := (⟨"quorumline/FieldWriter", "room", "(I)V"⟩ : MethodName)) (mvT hZ (hw _ (List.mem_of_getElem? (i := 22) rfl))) (mvP hZ (hw _ (List.mem_of_getElem? (i := 47) rfl))) (mvT hZ (hw _ (List.mem_of_getElem? (i := 46) rfl))) (by decide)) (Cond.privateMethod_at (mvP hZ (hw _ (List.mem_of_getElem? (i := 47) rfl)) (args := #[]))) (mvT hZ (hw _ (List.mem_of_getElem? (i := 48) rfl))) (by decide) (backOf (W := 0) (rm11a l Z a0 hw [] a (4 : Int32) b k vs (8 : Int32) h0 n0 Z0 P1 P2 P3 (by decide)) hZ (hw _ (List.mem_of_getElem? (i := 48) rfl)) (hw _ (List.mem_of_getElem? (i := 23) rfl)) (by decide) (by decide)) (g := (mkF m 2 #[.val (.ref a), .val (.int p1)] [(.int (4 : Int32)), (.ref a)])) rfl (by rw [hml]; rfl) (Steps.refl _) (a := a) (by rw [e0]; exact qa_1) qb_1 (argsL := [(.int (4 : Int32))]) (rest := []) (lenOf pd_5 rfl) rfl (by show 2 * 0 + _ ≤ _; exact Nat.le_of_eq rfl) (hb hby d14_2) (fun _ _ => ⟨rfl, e0, (by decide : 0 + 0 ≤ _), (by decide : 0 + 0 ≤ _)⟩)
  dsimp only [Pt.U, Pt.locs, Pt.cells, Pt.slots] at X_1 l_1 y_1 z_1 st_1 hQ_1
  subst l_1 y_1 z_1
  obtain ⟨rfl, M_1, q_1⟩ := hQ_1
  have N_1 := Fr.app N0 M_1
  refine own_st (S' := T_1.setTop (mkF m 5 #[.val (.ref a), .val (.int p1)] [])) (fun t_ k_ => st_1.trans k_) ?_
  refine own_st (S' := T_1.setTop (mkF m 6 #[.val (.ref a), .val (.int p1)] [(.ref a)])) (fun t_ k_ => XS.aloadN X_1.here hx rfl (hb hby d14_5) rfl rfl k_) ?_
  refine own_st (S' := T_1.setTop (mkF m 7 #[.val (.ref a), .val (.int p1)] [(.ref a), (.ref a)])) (fun t_ k_ => XS.aloadN X_1.here hx rfl (hb hby d14_6) rfl rfl k_) ?_
  obtain ⟨T_2, X_2, e_2, st_2⟩ := getF X_1 hx hZ hown (host := "") (Or.inl (hw _ (List.mem_of_getElem? (i := 49) rfl))) Via.refl q_1 P3 (g := (mkF m 7 #[.val (.ref a), .val (.int p1)] [(.ref a), (.ref a)])) rfl rfl (hb hby d14_7)
  refine own_st (S' := T_2.setTop (mkF m 10 #[.val (.ref a), .val (.int p1)] [(.int (8 : Int32)), (.ref a)])) st_2 ?_
  refine own_st (S' := T_2.setTop (mkF m 11 #[.val (.ref a), .val (.int p1)] [(.int p1), (.int (8 : Int32)), (.ref a)])) (fun t_ k_ => XS.iloadN X_2.here hx rfl (hb hby d14_10) rfl k_) ?_
  obtain ⟨cq_3, qa_3, qb_3⟩ := P0.cell
  obtain ⟨_, _, ⟨T_3, L_3, k_3, n_3⟩, -, X_3, ⟨Lc_3, hQ_3, l_3, y_3, z_3⟩, st_3⟩ := X_2.privateBack hx (y := (⟨"quorumline/FieldWriter", "putInt", "(II)V"⟩ : MethodName)) hown (mvT hZ (hw _ (List.mem_of_getElem? (i := 51) rfl))) (mvT hZ (hw _ (List.mem_of_getElem? (i := 52) rfl))) (own_selfsel (y := (⟨"quorumline/FieldWriter", "putInt", "(II)V"⟩ : MethodName)) (mvT hZ (hw _ (List.mem_of_getElem? (i := 22) rfl))) (mvP hZ (hw _ (List.mem_of_getElem? (i := 53) rfl))) (mvT hZ (hw _ (List.mem_of_getElem? (i := 52) rfl))) (by decide)) (Cond.privateMethod_at (mvP hZ (hw _ (List.mem_of_getElem? (i := 53) rfl)) (args := #[]))) (mvT hZ (hw _ (List.mem_of_getElem? (i := 54) rfl))) (by decide) (backOf (W := 0) (rm12 l Z a0 hw [] a (8 : Int32) p1 b k vs h0 n0 Z0 P1 P2 g_b ne_a_b (by decide) (by decide) (by decide) (by decide)) hZ (hw _ (List.mem_of_getElem? (i := 54) rfl)) (hw _ (List.mem_of_getElem? (i := 23) rfl)) (by decide) (by decide)) (g := (mkF m 11 #[.val (.ref a), .val (.int p1)] [(.int p1), (.int (8 : Int32)), (.ref a)])) rfl (by rw [hml]; rfl) (Steps.refl _) (a := a) (by rw [e_2]; exact qa_3) qb_3 (argsL := [(.int (8 : Int32)), (.int p1)]) (rest := []) (lenOf pd_6 rfl) rfl (by show 2 * 0 + _ ≤ _; exact Nat.le_of_eq rfl) (hb hby d14_11) (fun _ _ => ⟨rfl, e_2, (by decide : 0 + 0 ≤ _), (by decide : 0 + 0 ≤ _)⟩)
  dsimp only [Pt.U, Pt.locs, Pt.cells, Pt.slots] at X_3 l_3 y_3 z_3 st_3 hQ_3
  subst l_3 y_3 z_3
  obtain ⟨x_3_vs2, rfl, M_3, K_3c, c_3_0⟩ := hQ_3
  have N_3 := Fr.app N_1 M_3
  have K_3 : Keep h0 T_3.heap [a, b] := (Keep.refl h0 [a, b]).trans K_3c (allS (Or.inl (List.mem_of_getElem? (i := 1) rfl)) all0)
  have Z_3 : n0 ≤ T_3.heap.size := Nat.le_trans Z0 K_3c.1
  refine own_st (S' := T_3.setTop (mkF m 14 #[.val (.ref a), .val (.int p1)] [])) (fun t_ k_ => st_3.trans k_) ?_
  refine own_st (S' := T_3.setTop (mkF m 15 #[.val (.ref a), .val (.int p1)] [(.ref a)])) (fun t_ k_ => XS.aloadN X_3.here hx rfl (hb hby d14_14) rfl rfl k_) ?_
  refine own_st (S' := T_3.setTop (mkF m 16 #[.val (.ref a), .val (.int p1)] [(.ref a), (.ref a)])) (fun t_ k_ => XS.dup X_3.here hx rfl (hb hby d14_15) rfl rfl k_) ?_
  have f_4 : Fld Z T_3.heap a "quorumline/FieldWriter" "size" "I" (.int (8 : Int32)) := (P3.keep K_3c (ninS ne_a_b nin0))
  obtain ⟨T_5, X_5, e_5, st_5⟩ := getF X_3 hx hZ hown (host := "") (Or.inl (hw _ (List.mem_of_getElem? (i := 49) rfl))) Via.refl rfl f_4 (g := (mkF m 16 #[.val (.ref a), .val (.int p1)] [(.ref a), (.ref a)])) rfl rfl (hb hby d14_16)
  refine own_st (S' := T_5.setTop (mkF m 19 #[.val (.ref a), .val (.int p1)] [(.int (8 : Int32)), (.ref a)])) st_5 ?_
  refine own_st (S' := T_5.setTop (mkF m 20 #[.val (.ref a), .val (.int p1)] [(.int (4 : Int32)), (.int (8 : Int32)), (.ref a)])) (fun t_ k_ => XS.iconst X_5.here hx rfl (hb hby d14_19) k_) ?_
  refine own_st (S' := T_5.setTop (mkF m 21 #[.val (.ref a), .val (.int p1)] [(.int ((8 : Int32) + (4 : Int32))), (.ref a)])) (fun t_ k_ => XS.iadd X_5.here hx rfl (hb hby d14_20) rfl k_) ?_
  have f_6 : Exa Z T_3.heap a "quorumline/FieldWriter" := (P0.keep K_3c)
  obtain ⟨T_7, h_7, X_7, e_7, W_7, st_7⟩ := putF X_5 hx hZ hown (host := "") (Or.inl (hw _ (List.mem_of_getElem? (i := 49) rfl))) Via.refl e_5 f_4 f_6 (Or.inl (hw _ (List.mem_of_getElem? (i := 50) rfl))) (hw _ (List.mem_of_getElem? (i := 22) rfl)) (ty := .int) (by decide) rfl rfl (g := (mkF m 21 #[.val (.ref a), .val (.int p1)] [(.int ((8 : Int32) + (4 : Int32))), (.ref a)])) rfl rfl (hb hby d14_21)
  have Z_7 : n0 ≤ h_7.size := Nat.le_trans Z_3 (Keep.of_wr W_7).1
  have N_7 := Fr.snoc X_7 N_3 g_a
  have K_7 : Keep h0 h_7 [a, b] := K_3.wr W_7 (Or.inl (List.mem_of_getElem? (i := 0) rfl))
  have f_7 : Fld Z h_7 a "quorumline/FieldWriter" "size" "I" (.int ((8 : Int32) + (4 : Int32))) := Fld.same W_7 f_4
  refine own_st (S' := T_7.setTop (mkF m 24 #[.val (.ref a), .val (.int p1)] [])) st_7 ?_
  obtain ⟨fs, hr, hrun, hended, hW, hsame⟩ := X_7.leave (v := none) (fun _ => rfl)
  have f_8 : Exa Z h_7 a "quorumline/FieldWriter" := (Exa.wr W_7 f_6)
  have f_9 : Fld Z h_7 a "quorumline/FieldWriter" "bytes" "[B" (.ref b) := (Fld.other W_7 (P1.keep K_3c (ninS ne_a_b nin0)) (Or.inr (slot_ne (Or.inl (hw _ (List.mem_of_getElem? (i := 34) rfl))) (Or.inl (hw _ (List.mem_of_getElem? (i := 50) rfl))) (by decide) (t := (.array .byte)) (t' := .int) (by decide) (by decide))))
  have f_10 : Arv Z h_7 b k .byte (16 : Int32) x_3_vs2 (.int (0 : Int32)) := (c_3_0.other W_7 (Ne.symm ne_a_b))
  refine ⟨_, _, X_7.returnOut hx Bd.returns (hb hby d14_24) hr, hrun, hended, _, _, rfl, ?_, ⟨_, rfl⟩, hW, hsame.mono (by decide) (by decide)⟩
  show Q14 Z a p1 b k vs h0 n0 _ T_7.heap _
  rw [e_7]
  exact ⟨x_3_vs2, rfl, N_7, K_7, f_8, f_9, f_10, ((show ((8 : Int32) + (4 : Int32)) = (12 : Int32) from by decide) ▸ f_7)⟩
theorem d15_0 : decode prog_20_method_11_code 0 = .ok (.aload_n 0, 1) := by decide +kernel
theorem d15_1 : decode prog_20_method_11_code 1 = .ok (.iload_n 3, 1) := by decide +kernel
theorem d15_2 : decode prog_20_method_11_code 2 = .ok (.invokevirtual 29, 3) := by decide +kernel
theorem d15_5 : decode prog_20_method_11_code 5 = .ok (.aload_n 1, 1) := by decide +kernel
theorem d15_6 : decode prog_20_method_11_code 6 = .ok (.iload_n 2, 1) := by decide +kernel
theorem d15_7 : decode prog_20_method_11_code 7 = .ok (.aload_n 0, 1) := by decide +kernel
theorem d15_8 : decode prog_20_method_11_code 8 = .ok (.getfield 13, 3) := by decide +kernel
theorem d15_11 : decode prog_20_method_11_code 11 = .ok (.aload_n 0, 1) := by decide +kernel
theorem d15_12 : decode prog_20_method_11_code 12 = .ok (.getfield 19, 3) := by decide +kernel
theorem d15_15 : decode prog_20_method_11_code 15 = .ok (.iload_n 3, 1) := by decide +kernel
theorem d15_16 : decode prog_20_method_11_code 16 = .ok (.invokestatic 48, 3) := by decide +kernel
theorem d15_19 : decode prog_20_method_11_code 19 = .ok (.aload_n 0, 1) := by decide +kernel
theorem d15_20 : decode prog_20_method_11_code 20 = .ok (.dup, 1) := by decide +kernel
theorem d15_21 : decode prog_20_method_11_code 21 = .ok (.getfield 19, 3) := by decide +kernel
theorem d15_24 : decode prog_20_method_11_code 24 = .ok (.iload_n 3, 1) := by decide +kernel
theorem d15_25 : decode prog_20_method_11_code 25 = .ok (.iadd, 1) := by decide +kernel
theorem d15_26 : decode prog_20_method_11_code 26 = .ok (.putfield 19, 3) := by decide +kernel
theorem d15_29 : decode prog_20_method_11_code 29 = .ok (.return_, 1) := by decide +kernel
theorem ef_15 (m : MethodId) (a : Addr) (v : Addr) (n : Int32) : entryFrame m #[(.ref a), (.ref v), (.int (0 : Int32)), (.int n)] 4 = mkF m 0 #[.val (.ref a), .val (.ref v), .val (.int (0 : Int32)), .val (.int n)] [] := by first | (simp [entryFrame, mkF, argsToLocals, Value.category]; done) | rfl
def Q15 (Z : State) (a : Addr) (v : Addr) (n : Int32) (b : Addr) (k : ClassId) (vs : List Value) (kv : ClassId) (us : List Value) (h0 : Heap) (n0 : Nat) (v_ : Option Value) (h_ : Heap) (L_ : List Loc) : Prop := v_ = none ∧ Fr n0 L_ ∧ Keep h0 h_ [a, b] ∧ Exa Z h_ a "quorumline/FieldWriter" ∧ Fld Z h_ a "quorumline/FieldWriter" "size" "I" (.int ((12 : Int32) + n))
set_option maxRecDepth 65536 in
set_option maxHeartbeats 40000000 in
theorem rm15 (l : Launch) (Z : State) (a0 : Array Value) (hw : ∀ d ∈ tables_1, d.before a0 Z = true) (ws : List Jvm.Cond) (a : Addr) (v : Addr) (n : Int32) (b : Addr) (k : ClassId) (vs : List Value) (kv : ClassId) (us : List Value) (h0 : Heap) (n0 : Nat) (Z0 : n0 ≤ h0.size) (P0 : Exa Z h0 a "quorumline/FieldWriter") (P1 : Fld Z h0 a "quorumline/FieldWriter" "bytes" "[B" (.ref b)) (P2 : Arv Z h0 b k .byte (16 : Int32) vs (.int (0 : Int32))) (P3 : Fld Z h0 a "quorumline/FieldWriter" "size" "I" (.int (12 : Int32))) (P4 : Arv Z h0 v kv .byte n us (.int (0 : Int32))) (g_a : n0 ≤ a) (g_b : n0 ≤ b) (ne_a_b : a ≠ b) (ne_a_v : a ≠ v) (hn0 : ¬ (n < (0 : Int32))) (h63 : ¬ ((63 : Int32) < n)) :
    MetFree l (⟨"quorumline/FieldWriter", "write", "([BII)V"⟩ : MethodName) (head1 (Jvm.Cond.code (⟨"quorumline/FieldWriter", "write", "([BII)V"⟩ : MethodName) prog_20_method_11_code 4 none :: ws) ({ frames := 3, cells := 1, slots := 75, locals := 50 } : Room)) (fun ar_ U_ => ar_ = #[(.ref a), (.ref v), (.int (0 : Int32)), (.int n)] ∧ Z.Warmed39 U_.vm ∧ U_.heap = h0) (fun _ _ _ _ _ => True) (fun _ U_ o_ U2_ => ∃ v_ L_, o_ = .returned v_ ∧ Q15 Z a v n b k vs kv us h0 n0 v_ U2_.heap L_ ∧ FrameEnd U_ o_ U2_ L_ ({ frames := 3, cells := 1, slots := 75, locals := 50 } : Room).cells ({ frames := 3, cells := 1, slots := 75, locals := 50 } : Room).slots) := by
  refine MetFree.of_bodySF (plainFor_of_name pn_2) hisR ?_
  intro p e s m args below meth c s₁ Bd hml0 hP hK
  obtain ⟨rfl, hZ, hh⟩ := hP
  have hx := Bd.exec
  have hby := Bd.bytes
  have hml : c.maxLocals = 4 := hml0
  have hown : s.vm.findClass "quorumline/FieldWriter" = some m.cls := findClass_of_methodNamed Bd.named
  have hnm := (name_of_methodNamed Bd.named Bd.method).1
  have X0 : Stand p l e ({ frames := 3, cells := 1, slots := 75, locals := 50 } : Room) s m #[(.ref a), (.ref v), (.int (0 : Int32)), (.int n)] below meth c s₁ [] 0 0 := Stand.of_body Bd
  have e0 : s₁.heap = h0 := by rw [← hh, Bd.state]; rfl
  have N0 := Fr.nil n0
  refine own_gl ?_
  refine own_st (S' := s₁.setTop (mkF m 0 #[.val (.ref a), .val (.ref v), .val (.int (0 : Int32)), .val (.int n)] [])) (fun t_ k_ => castTop (ef_15 m a v n) k_) ?_
  refine own_st (S' := s₁.setTop (mkF m 1 #[.val (.ref a), .val (.ref v), .val (.int (0 : Int32)), .val (.int n)] [(.ref a)])) (fun t_ k_ => XS.aloadN X0.here hx rfl (hb hby d15_0) rfl rfl k_) ?_
  refine own_st (S' := s₁.setTop (mkF m 2 #[.val (.ref a), .val (.ref v), .val (.int (0 : Int32)), .val (.int n)] [(.int n), (.ref a)])) (fun t_ k_ => XS.iloadN X0.here hx rfl (hb hby d15_1) rfl k_) ?_
  by_cases hroom : ((16 : Int32) - (12 : Int32)) < n
  · obtain ⟨cq_1, qa_1, qb_1⟩ := P0.cell
    obtain ⟨_, _, ⟨T_1, L_1, k_1, n_1⟩, -, X_1, ⟨Lc_1, hQ_1, l_1, y_1, z_1⟩, st_1⟩ := X0.privateBack hx (y := (⟨"quorumline/FieldWriter", "room", "(I)V"⟩ : MethodName)) hown (mvT hZ (hw _ (List.mem_of_getElem? (i := 45) rfl))) (mvT hZ (hw _ (List.mem_of_getElem? (i := 46) rfl))) (own_selfsel (y := (⟨"quorumline/FieldWriter", "room", "(I)V"⟩ : MethodName)) (mvT hZ (hw _ (List.mem_of_getElem? (i := 22) rfl))) (mvP hZ (hw _ (List.mem_of_getElem? (i := 47) rfl))) (mvT hZ (hw _ (List.mem_of_getElem? (i := 46) rfl))) (by decide)) (Cond.privateMethod_at (mvP hZ (hw _ (List.mem_of_getElem? (i := 47) rfl)) (args := #[]))) (mvT hZ (hw _ (List.mem_of_getElem? (i := 48) rfl))) (by decide) (backOf (W := 0) (rm11b l Z a0 hw [] a n b k vs h0 n0 Z0 P0 P1 P2 P3 g_a hroom hn0 h63) hZ (hw _ (List.mem_of_getElem? (i := 48) rfl)) (hw _ (List.mem_of_getElem? (i := 23) rfl)) (by decide) (by decide)) (g := (mkF m 2 #[.val (.ref a), .val (.ref v), .val (.int (0 : Int32)), .val (.int n)] [(.int n), (.ref a)])) rfl (by rw [hml]; rfl) (Steps.refl _) (a := a) (by rw [e0]; exact qa_1) qb_1 (argsL := [(.int n)]) (rest := []) (lenOf pd_5 rfl) rfl (by show 2 * 0 + _ ≤ _; exact Nat.le_of_eq rfl) (hb hby d15_2) (fun _ _ => ⟨rfl, e0, (by decide : 0 + 1 ≤ _), (by decide : 0 + 75 ≤ _)⟩)
    dsimp only [Pt.U, Pt.locs, Pt.cells, Pt.slots] at X_1 l_1 y_1 z_1 st_1 hQ_1
    subst l_1 y_1 z_1
    obtain ⟨x_1_b2, x_1_k2, x_1_vs2, x_1_N, rfl, M_1, K_1c, z_1_0, c_1_0, c_1_1, c_1_2, c_1_3, d_1_0⟩ := hQ_1
    have N_1 := Fr.app N0 M_1
    have K_1 : Keep h0 T_1.heap [a, b] := (Keep.refl h0 [a, b]).trans K_1c (allS (Or.inl (List.mem_of_getElem? (i := 0) rfl)) all0)
    have ne_a_x_1_b2 : a ≠ x_1_b2 := Nat.ne_of_lt (Nat.lt_of_lt_of_le P0.lt z_1_0)
    have ne_b_x_1_b2 : b ≠ x_1_b2 := Nat.ne_of_lt (Nat.lt_of_lt_of_le P2.lt z_1_0)
    have ne_v_x_1_b2 : v ≠ x_1_b2 := Nat.ne_of_lt (Nat.lt_of_lt_of_le P4.lt z_1_0)
    have g_x_1_b2 : n0 ≤ x_1_b2 := Nat.le_trans Z0 z_1_0
    have sz_x_1_b2 : h0.size ≤ x_1_b2 := Nat.le_trans ((Keep.refl h0 [a, b])).1 z_1_0
    have Z_1 : n0 ≤ T_1.heap.size := Nat.le_trans Z0 K_1c.1
    refine own_st (S' := T_1.setTop (mkF m 5 #[.val (.ref a), .val (.ref v), .val (.int (0 : Int32)), .val (.int n)] [])) (fun t_ k_ => st_1.trans k_) ?_
    refine own_st (S' := T_1.setTop (mkF m 6 #[.val (.ref a), .val (.ref v), .val (.int (0 : Int32)), .val (.int n)] [(.ref v)])) (fun t_ k_ => XS.aloadN X_1.here hx rfl (hb hby d15_5) rfl rfl k_) ?_
    refine own_st (S' := T_1.setTop (mkF m 7 #[.val (.ref a), .val (.ref v), .val (.int (0 : Int32)), .val (.int n)] [(.int (0 : Int32)), (.ref v)])) (fun t_ k_ => XS.iloadN X_1.here hx rfl (hb hby d15_6) rfl k_) ?_
    refine own_st (S' := T_1.setTop (mkF m 8 #[.val (.ref a), .val (.ref v), .val (.int (0 : Int32)), .val (.int n)] [(.ref a), (.int (0 : Int32)), (.ref v)])) (fun t_ k_ => XS.aloadN X_1.here hx rfl (hb hby d15_7) rfl rfl k_) ?_
    obtain ⟨T_2, X_2, e_2, st_2⟩ := getF X_1 hx hZ hown (host := "") (Or.inl (hw _ (List.mem_of_getElem? (i := 33) rfl))) Via.refl rfl c_1_1 (g := (mkF m 8 #[.val (.ref a), .val (.ref v), .val (.int (0 : Int32)), .val (.int n)] [(.ref a), (.int (0 : Int32)), (.ref v)])) rfl rfl (hb hby d15_8)
    refine own_st (S' := T_2.setTop (mkF m 11 #[.val (.ref a), .val (.ref v), .val (.int (0 : Int32)), .val (.int n)] [(.ref x_1_b2), (.int (0 : Int32)), (.ref v)])) st_2 ?_
    refine own_st (S' := T_2.setTop (mkF m 12 #[.val (.ref a), .val (.ref v), .val (.int (0 : Int32)), .val (.int n)] [(.ref a), (.ref x_1_b2), (.int (0 : Int32)), (.ref v)])) (fun t_ k_ => XS.aloadN X_2.here hx rfl (hb hby d15_11) rfl rfl k_) ?_
    obtain ⟨T_3, X_3, e_3, st_3⟩ := getF X_2 hx hZ hown (host := "") (Or.inl (hw _ (List.mem_of_getElem? (i := 49) rfl))) Via.refl e_2 c_1_2 (g := (mkF m 12 #[.val (.ref a), .val (.ref v), .val (.int (0 : Int32)), .val (.int n)] [(.ref a), (.ref x_1_b2), (.int (0 : Int32)), (.ref v)])) rfl rfl (hb hby d15_12)
    refine own_st (S' := T_3.setTop (mkF m 15 #[.val (.ref a), .val (.ref v), .val (.int (0 : Int32)), .val (.int n)] [(.int (12 : Int32)), (.ref x_1_b2), (.int (0 : Int32)), (.ref v)])) st_3 ?_
    refine own_st (S' := T_3.setTop (mkF m 16 #[.val (.ref a), .val (.ref v), .val (.int (0 : Int32)), .val (.int n)] [(.int n), (.int (12 : Int32)), (.ref x_1_b2), (.int (0 : Int32)), (.ref v)])) (fun t_ k_ => XS.iloadN X_3.here hx rfl (hb hby d15_15) rfl k_) ?_
    have f_4 : Arv Z T_1.heap v kv .byte n us (.int (0 : Int32)) := (P4.keep K_1c (ninS (Ne.symm ne_a_v) nin0))
    obtain ⟨T_5, h_5, L_5, X_5, e_5, N_5, K_5c, V_5x, st_5⟩ := cpA X_3 hx hZ hown (hw _ (List.mem_of_getElem? (i := 82) rfl)) (hw _ (List.mem_of_getElem? (i := 85) rfl)) (hw _ (List.mem_of_getElem? (i := 83) rfl)) (hw _ (List.mem_of_getElem? (i := 84) rfl)) e_3 f_4 (Arv.pad c_1_3 (pad_rep _ _ 200)) (Or.inl ⟨rfl, rfl⟩) (sp := (0 : Int32)) (dp := (12 : Int32)) (nn := n) (by decide) (by decide) hn0 (by show 0 + _ ≤ _; rw [Nat.zero_add]; exact Nat.le_refl _) (own_fitN hn0 h63 d_1_0) rfl (by have := own_cap hn0 h63; simp only [List.length_append, List.length_replicate]; show 12 + _ ≤ _; omega) N_1 g_x_1_b2 (g := (mkF m 16 #[.val (.ref a), .val (.ref v), .val (.int (0 : Int32)), .val (.int n)] [(.int n), (.int (12 : Int32)), (.ref x_1_b2), (.int (0 : Int32)), (.ref v)])) rfl (by rw [hml]; rfl) rfl (hb hby d15_16) (by decide) (W := 0) (by show 2 * 0 + _ ≤ _; exact Nat.le_of_eq rfl) (by decide)
    obtain ⟨vs_5, V_5⟩ : ∃ vs, Arv Z h_5 x_1_b2 x_1_k2 .byte x_1_N vs (.int (0 : Int32)) := ⟨_, V_5x⟩
    have K_5 : Keep h0 h_5 [a, b] := K_1.trans K_5c (allS (Or.inr sz_x_1_b2) all0)
    have Z_5 : n0 ≤ h_5.size := Nat.le_trans Z_1 K_5c.1
    refine own_st (S' := T_5.setTop (mkF m 19 #[.val (.ref a), .val (.ref v), .val (.int (0 : Int32)), .val (.int n)] [])) st_5 ?_
    refine own_st (S' := T_5.setTop (mkF m 20 #[.val (.ref a), .val (.ref v), .val (.int (0 : Int32)), .val (.int n)] [(.ref a)])) (fun t_ k_ => XS.aloadN X_5.here hx rfl (hb hby d15_19) rfl rfl k_) ?_
    refine own_st (S' := T_5.setTop (mkF m 21 #[.val (.ref a), .val (.ref v), .val (.int (0 : Int32)), .val (.int n)] [(.ref a), (.ref a)])) (fun t_ k_ => XS.dup X_5.here hx rfl (hb hby d15_20) rfl rfl k_) ?_
    have f_6 : Fld Z h_5 a "quorumline/FieldWriter" "size" "I" (.int (12 : Int32)) := (c_1_2.keep K_5c (ninS ne_a_x_1_b2 nin0))
    obtain ⟨T_7, X_7, e_7, st_7⟩ := getF X_5 hx hZ hown (host := "") (Or.inl (hw _ (List.mem_of_getElem? (i := 49) rfl))) Via.refl e_5 f_6 (g := (mkF m 21 #[.val (.ref a), .val (.ref v), .val (.int (0 : Int32)), .val (.int n)] [(.ref a), (.ref a)])) rfl rfl (hb hby d15_21)
    refine own_st (S' := T_7.setTop (mkF m 24 #[.val (.ref a), .val (.ref v), .val (.int (0 : Int32)), .val (.int n)] [(.int (12 : Int32)), (.ref a)])) st_7 ?_
    refine own_st (S' := T_7.setTop (mkF m 25 #[.val (.ref a), .val (.ref v), .val (.int (0 : Int32)), .val (.int n)] [(.int n), (.int (12 : Int32)), (.ref a)])) (fun t_ k_ => XS.iloadN X_7.here hx rfl (hb hby d15_24) rfl k_) ?_
    refine own_st (S' := T_7.setTop (mkF m 26 #[.val (.ref a), .val (.ref v), .val (.int (0 : Int32)), .val (.int n)] [(.int ((12 : Int32) + n)), (.ref a)])) (fun t_ k_ => XS.iadd X_7.here hx rfl (hb hby d15_25) rfl k_) ?_
    have f_8 : Exa Z h_5 a "quorumline/FieldWriter" := (c_1_0.keep K_5c)
    obtain ⟨T_9, h_9, X_9, e_9, W_9, st_9⟩ := putF X_7 hx hZ hown (host := "") (Or.inl (hw _ (List.mem_of_getElem? (i := 49) rfl))) Via.refl e_7 f_6 f_8 (Or.inl (hw _ (List.mem_of_getElem? (i := 50) rfl))) (hw _ (List.mem_of_getElem? (i := 22) rfl)) (ty := .int) (by decide) rfl rfl (g := (mkF m 26 #[.val (.ref a), .val (.ref v), .val (.int (0 : Int32)), .val (.int n)] [(.int ((12 : Int32) + n)), (.ref a)])) rfl rfl (hb hby d15_26)
    have Z_9 : n0 ≤ h_9.size := Nat.le_trans Z_5 (Keep.of_wr W_9).1
    have N_9 := Fr.snoc X_9 N_5 g_a
    have K_9 : Keep h0 h_9 [a, b] := K_5.wr W_9 (Or.inl (List.mem_of_getElem? (i := 0) rfl))
    have f_9 : Fld Z h_9 a "quorumline/FieldWriter" "size" "I" (.int ((12 : Int32) + n)) := Fld.same W_9 f_6
    refine own_st (S' := T_9.setTop (mkF m 29 #[.val (.ref a), .val (.ref v), .val (.int (0 : Int32)), .val (.int n)] [])) st_9 ?_
    obtain ⟨fs, hr, hrun, hended, hW, hsame⟩ := X_9.leave (v := none) (fun _ => rfl)
    have f_10 : Exa Z h_9 a "quorumline/FieldWriter" := (Exa.wr W_9 f_8)
    refine ⟨_, _, X_9.returnOut hx Bd.returns (hb hby d15_29) hr, hrun, hended, _, _, rfl, ?_, ⟨_, rfl⟩, hW, hsame.mono (by decide) (by decide)⟩
    show Q15 Z a v n b k vs kv us h0 n0 _ T_9.heap _
    rw [e_9]
    exact ⟨rfl, N_9, K_9, f_10, f_9⟩
  · obtain ⟨cq_11, qa_11, qb_11⟩ := P0.cell
    obtain ⟨_, _, ⟨T_11, L_11, k_11, n_11⟩, -, X_11, ⟨Lc_11, hQ_11, l_11, y_11, z_11⟩, st_11⟩ := X0.privateBack hx (y := (⟨"quorumline/FieldWriter", "room", "(I)V"⟩ : MethodName)) hown (mvT hZ (hw _ (List.mem_of_getElem? (i := 45) rfl))) (mvT hZ (hw _ (List.mem_of_getElem? (i := 46) rfl))) (own_selfsel (y := (⟨"quorumline/FieldWriter", "room", "(I)V"⟩ : MethodName)) (mvT hZ (hw _ (List.mem_of_getElem? (i := 22) rfl))) (mvP hZ (hw _ (List.mem_of_getElem? (i := 47) rfl))) (mvT hZ (hw _ (List.mem_of_getElem? (i := 46) rfl))) (by decide)) (Cond.privateMethod_at (mvP hZ (hw _ (List.mem_of_getElem? (i := 47) rfl)) (args := #[]))) (mvT hZ (hw _ (List.mem_of_getElem? (i := 48) rfl))) (by decide) (backOf (W := 0) (rm11a l Z a0 hw [] a n b k vs (12 : Int32) h0 n0 Z0 P1 P2 P3 hroom) hZ (hw _ (List.mem_of_getElem? (i := 48) rfl)) (hw _ (List.mem_of_getElem? (i := 23) rfl)) (by decide) (by decide)) (g := (mkF m 2 #[.val (.ref a), .val (.ref v), .val (.int (0 : Int32)), .val (.int n)] [(.int n), (.ref a)])) rfl (by rw [hml]; rfl) (Steps.refl _) (a := a) (by rw [e0]; exact qa_11) qb_11 (argsL := [(.int n)]) (rest := []) (lenOf pd_5 rfl) rfl (by show 2 * 0 + _ ≤ _; exact Nat.le_of_eq rfl) (hb hby d15_2) (fun _ _ => ⟨rfl, e0, (by decide : 0 + 0 ≤ _), (by decide : 0 + 0 ≤ _)⟩)
    dsimp only [Pt.U, Pt.locs, Pt.cells, Pt.slots] at X_11 l_11 y_11 z_11 st_11 hQ_11
    subst l_11 y_11 z_11
    obtain ⟨rfl, M_11, q_11⟩ := hQ_11
    have N_11 := Fr.app N0 M_11
    refine own_st (S' := T_11.setTop (mkF m 5 #[.val (.ref a), .val (.ref v), .val (.int (0 : Int32)), .val (.int n)] [])) (fun t_ k_ => st_11.trans k_) ?_
    refine own_st (S' := T_11.setTop (mkF m 6 #[.val (.ref a), .val (.ref v), .val (.int (0 : Int32)), .val (.int n)] [(.ref v)])) (fun t_ k_ => XS.aloadN X_11.here hx rfl (hb hby d15_5) rfl rfl k_) ?_
    refine own_st (S' := T_11.setTop (mkF m 7 #[.val (.ref a), .val (.ref v), .val (.int (0 : Int32)), .val (.int n)] [(.int (0 : Int32)), (.ref v)])) (fun t_ k_ => XS.iloadN X_11.here hx rfl (hb hby d15_6) rfl k_) ?_
    refine own_st (S' := T_11.setTop (mkF m 8 #[.val (.ref a), .val (.ref v), .val (.int (0 : Int32)), .val (.int n)] [(.ref a), (.int (0 : Int32)), (.ref v)])) (fun t_ k_ => XS.aloadN X_11.here hx rfl (hb hby d15_7) rfl rfl k_) ?_
    obtain ⟨T_12, X_12, e_12, st_12⟩ := getF X_11 hx hZ hown (host := "") (Or.inl (hw _ (List.mem_of_getElem? (i := 33) rfl))) Via.refl q_11 P1 (g := (mkF m 8 #[.val (.ref a), .val (.ref v), .val (.int (0 : Int32)), .val (.int n)] [(.ref a), (.int (0 : Int32)), (.ref v)])) rfl rfl (hb hby d15_8)
    refine own_st (S' := T_12.setTop (mkF m 11 #[.val (.ref a), .val (.ref v), .val (.int (0 : Int32)), .val (.int n)] [(.ref b), (.int (0 : Int32)), (.ref v)])) st_12 ?_
    refine own_st (S' := T_12.setTop (mkF m 12 #[.val (.ref a), .val (.ref v), .val (.int (0 : Int32)), .val (.int n)] [(.ref a), (.ref b), (.int (0 : Int32)), (.ref v)])) (fun t_ k_ => XS.aloadN X_12.here hx rfl (hb hby d15_11) rfl rfl k_) ?_
    obtain ⟨T_13, X_13, e_13, st_13⟩ := getF X_12 hx hZ hown (host := "") (Or.inl (hw _ (List.mem_of_getElem? (i := 49) rfl))) Via.refl e_12 P3 (g := (mkF m 12 #[.val (.ref a), .val (.ref v), .val (.int (0 : Int32)), .val (.int n)] [(.ref a), (.ref b), (.int (0 : Int32)), (.ref v)])) rfl rfl (hb hby d15_12)
    refine own_st (S' := T_13.setTop (mkF m 15 #[.val (.ref a), .val (.ref v), .val (.int (0 : Int32)), .val (.int n)] [(.int (12 : Int32)), (.ref b), (.int (0 : Int32)), (.ref v)])) st_13 ?_
    refine own_st (S' := T_13.setTop (mkF m 16 #[.val (.ref a), .val (.ref v), .val (.int (0 : Int32)), .val (.int n)] [(.int n), (.int (12 : Int32)), (.ref b), (.int (0 : Int32)), (.ref v)])) (fun t_ k_ => XS.iloadN X_13.here hx rfl (hb hby d15_15) rfl k_) ?_
    obtain ⟨T_14, h_14, L_14, X_14, e_14, N_14, K_14c, V_14x, st_14⟩ := cpA X_13 hx hZ hown (hw _ (List.mem_of_getElem? (i := 82) rfl)) (hw _ (List.mem_of_getElem? (i := 85) rfl)) (hw _ (List.mem_of_getElem? (i := 83) rfl)) (hw _ (List.mem_of_getElem? (i := 84) rfl)) e_13 P4 (Arv.pad P2 (pad_rep _ _ 200)) (Or.inl ⟨rfl, rfl⟩) (sp := (0 : Int32)) (dp := (12 : Int32)) (nn := n) (by decide) (by decide) hn0 (by show 0 + _ ≤ _; rw [Nat.zero_add]; exact Nat.le_refl _) (own_fit4 hn0 hroom) rfl (by have := own_cap hn0 h63; simp only [List.length_append, List.length_replicate]; show 12 + _ ≤ _; omega) N_11 g_b (g := (mkF m 16 #[.val (.ref a), .val (.ref v), .val (.int (0 : Int32)), .val (.int n)] [(.int n), (.int (12 : Int32)), (.ref b), (.int (0 : Int32)), (.ref v)])) rfl (by rw [hml]; rfl) rfl (hb hby d15_16) (by decide) (W := 0) (by show 2 * 0 + _ ≤ _; exact Nat.le_of_eq rfl) (by decide)
    obtain ⟨vs_14, V_14⟩ : ∃ vs, Arv Z h_14 b k .byte (16 : Int32) vs (.int (0 : Int32)) := ⟨_, V_14x⟩
    have K_14 : Keep h0 h_14 [a, b] := (Keep.refl h0 [a, b]).trans K_14c (allS (Or.inl (List.mem_of_getElem? (i := 1) rfl)) all0)
    have Z_14 : n0 ≤ h_14.size := Nat.le_trans Z0 K_14c.1
    refine own_st (S' := T_14.setTop (mkF m 19 #[.val (.ref a), .val (.ref v), .val (.int (0 : Int32)), .val (.int n)] [])) st_14 ?_
    refine own_st (S' := T_14.setTop (mkF m 20 #[.val (.ref a), .val (.ref v), .val (.int (0 : Int32)), .val (.int n)] [(.ref a)])) (fun t_ k_ => XS.aloadN X_14.here hx rfl (hb hby d15_19) rfl rfl k_) ?_
    refine own_st (S' := T_14.setTop (mkF m 21 #[.val (.ref a), .val (.ref v), .val (.int (0 : Int32)), .val (.int n)] [(.ref a), (.ref a)])) (fun t_ k_ => XS.dup X_14.here hx rfl (hb hby d15_20) rfl rfl k_) ?_
    have f_15 : Fld Z h_14 a "quorumline/FieldWriter" "size" "I" (.int (12 : Int32)) := (P3.keep K_14c (ninS ne_a_b nin0))
    obtain ⟨T_16, X_16, e_16, st_16⟩ := getF X_14 hx hZ hown (host := "") (Or.inl (hw _ (List.mem_of_getElem? (i := 49) rfl))) Via.refl e_14 f_15 (g := (mkF m 21 #[.val (.ref a), .val (.ref v), .val (.int (0 : Int32)), .val (.int n)] [(.ref a), (.ref a)])) rfl rfl (hb hby d15_21)
    refine own_st (S' := T_16.setTop (mkF m 24 #[.val (.ref a), .val (.ref v), .val (.int (0 : Int32)), .val (.int n)] [(.int (12 : Int32)), (.ref a)])) st_16 ?_
    refine own_st (S' := T_16.setTop (mkF m 25 #[.val (.ref a), .val (.ref v), .val (.int (0 : Int32)), .val (.int n)] [(.int n), (.int (12 : Int32)), (.ref a)])) (fun t_ k_ => XS.iloadN X_16.here hx rfl (hb hby d15_24) rfl k_) ?_
    refine own_st (S' := T_16.setTop (mkF m 26 #[.val (.ref a), .val (.ref v), .val (.int (0 : Int32)), .val (.int n)] [(.int ((12 : Int32) + n)), (.ref a)])) (fun t_ k_ => XS.iadd X_16.here hx rfl (hb hby d15_25) rfl k_) ?_
    have f_17 : Exa Z h_14 a "quorumline/FieldWriter" := (P0.keep K_14c)
    obtain ⟨T_18, h_18, X_18, e_18, W_18, st_18⟩ := putF X_16 hx hZ hown (host := "") (Or.inl (hw _ (List.mem_of_getElem? (i := 49) rfl))) Via.refl e_16 f_15 f_17 (Or.inl (hw _ (List.mem_of_getElem? (i := 50) rfl))) (hw _ (List.mem_of_getElem? (i := 22) rfl)) (ty := .int) (by decide) rfl rfl (g := (mkF m 26 #[.val (.ref a), .val (.ref v), .val (.int (0 : Int32)), .val (.int n)] [(.int ((12 : Int32) + n)), (.ref a)])) rfl rfl (hb hby d15_26)
    have Z_18 : n0 ≤ h_18.size := Nat.le_trans Z_14 (Keep.of_wr W_18).1
    have N_18 := Fr.snoc X_18 N_14 g_a
    have K_18 : Keep h0 h_18 [a, b] := K_14.wr W_18 (Or.inl (List.mem_of_getElem? (i := 0) rfl))
    have f_18 : Fld Z h_18 a "quorumline/FieldWriter" "size" "I" (.int ((12 : Int32) + n)) := Fld.same W_18 f_15
    refine own_st (S' := T_18.setTop (mkF m 29 #[.val (.ref a), .val (.ref v), .val (.int (0 : Int32)), .val (.int n)] [])) st_18 ?_
    obtain ⟨fs, hr, hrun, hended, hW, hsame⟩ := X_18.leave (v := none) (fun _ => rfl)
    have f_19 : Exa Z h_18 a "quorumline/FieldWriter" := (Exa.wr W_18 f_17)
    refine ⟨_, _, X_18.returnOut hx Bd.returns (hb hby d15_29) hr, hrun, hended, _, _, rfl, ?_, ⟨_, rfl⟩, hW, hsame.mono (by decide) (by decide)⟩
    show Q15 Z a v n b k vs kv us h0 n0 _ T_18.heap _
    rw [e_18]
    exact ⟨rfl, N_18, K_18, f_19, f_18⟩
theorem d16_0 : decode prog_20_method_10_code 0 = .ok (.aload_n 0, 1) := by decide +kernel
theorem d16_1 : decode prog_20_method_10_code 1 = .ok (.aload_n 1, 1) := by decide +kernel
theorem d16_2 : decode prog_20_method_10_code 2 = .ok (.iconst 0, 1) := by decide +kernel
theorem d16_3 : decode prog_20_method_10_code 3 = .ok (.aload_n 1, 1) := by decide +kernel
theorem d16_4 : decode prog_20_method_10_code 4 = .ok (.arraylength, 1) := by decide +kernel
theorem d16_5 : decode prog_20_method_10_code 5 = .ok (.invokevirtual 44, 3) := by decide +kernel
theorem d16_8 : decode prog_20_method_10_code 8 = .ok (.return_, 1) := by decide +kernel
theorem ef_16 (m : MethodId) (a : Addr) (v : Addr) : entryFrame m #[(.ref a), (.ref v)] 2 = mkF m 0 #[.val (.ref a), .val (.ref v)] [] := by first | (simp [entryFrame, mkF, argsToLocals, Value.category]; done) | rfl
theorem pd_7 : parseMethodDescriptor "([BII)V" = some ⟨[(.array .byte), .int, .int], none⟩ := by decide +kernel
def Q16 (Z : State) (a : Addr) (v : Addr) (b : Addr) (k : ClassId) (vs : List Value) (kv : ClassId) (us : List Value) (n : Int32) (h0 : Heap) (n0 : Nat) (v_ : Option Value) (h_ : Heap) (L_ : List Loc) : Prop := v_ = none ∧ Fr n0 L_ ∧ Keep h0 h_ [a, b] ∧ Exa Z h_ a "quorumline/FieldWriter" ∧ Fld Z h_ a "quorumline/FieldWriter" "size" "I" (.int ((12 : Int32) + n))
set_option maxRecDepth 65536 in
set_option maxHeartbeats 40000000 in
theorem rm16 (l : Launch) (Z : State) (a0 : Array Value) (hw : ∀ d ∈ tables_1, d.before a0 Z = true) (ws : List Jvm.Cond) (a : Addr) (v : Addr) (b : Addr) (k : ClassId) (vs : List Value) (kv : ClassId) (us : List Value) (n : Int32) (h0 : Heap) (n0 : Nat) (Z0 : n0 ≤ h0.size) (P0 : Exa Z h0 a "quorumline/FieldWriter") (P1 : Fld Z h0 a "quorumline/FieldWriter" "bytes" "[B" (.ref b)) (P2 : Arv Z h0 b k .byte (16 : Int32) vs (.int (0 : Int32))) (P3 : Fld Z h0 a "quorumline/FieldWriter" "size" "I" (.int (12 : Int32))) (P4 : Arv Z h0 v kv .byte n us (.int (0 : Int32))) (g_a : n0 ≤ a) (g_b : n0 ≤ b) (ne_a_b : a ≠ b) (ne_a_v : a ≠ v) (hn0 : ¬ (n < (0 : Int32))) (h63 : ¬ ((63 : Int32) < n)) :
    MetFree l (⟨"quorumline/FieldWriter", "write", "([B)V"⟩ : MethodName) (head1 (Jvm.Cond.code (⟨"quorumline/FieldWriter", "write", "([B)V"⟩ : MethodName) prog_20_method_10_code 2 none :: ws) ({ frames := 4, cells := 1, slots := 75, locals := 65 } : Room)) (fun ar_ U_ => ar_ = #[(.ref a), (.ref v)] ∧ Z.Warmed39 U_.vm ∧ U_.heap = h0) (fun _ _ _ _ _ => True) (fun _ U_ o_ U2_ => ∃ v_ L_, o_ = .returned v_ ∧ Q16 Z a v b k vs kv us n h0 n0 v_ U2_.heap L_ ∧ FrameEnd U_ o_ U2_ L_ ({ frames := 4, cells := 1, slots := 75, locals := 65 } : Room).cells ({ frames := 4, cells := 1, slots := 75, locals := 65 } : Room).slots) := by
  refine MetFree.of_bodySF (plainFor_of_name pn_2) hisR ?_
  intro p e s m args below meth c s₁ Bd hml0 hP hK
  obtain ⟨rfl, hZ, hh⟩ := hP
  have hx := Bd.exec
  have hby := Bd.bytes
  have hml : c.maxLocals = 2 := hml0
  have hown : s.vm.findClass "quorumline/FieldWriter" = some m.cls := findClass_of_methodNamed Bd.named
  have hnm := (name_of_methodNamed Bd.named Bd.method).1
  have X0 : Stand p l e ({ frames := 4, cells := 1, slots := 75, locals := 65 } : Room) s m #[(.ref a), (.ref v)] below meth c s₁ [] 0 0 := Stand.of_body Bd
  have e0 : s₁.heap = h0 := by rw [← hh, Bd.state]; rfl
  have N0 := Fr.nil n0
  refine own_gl ?_
  refine own_st (S' := s₁.setTop (mkF m 0 #[.val (.ref a), .val (.ref v)] [])) (fun t_ k_ => castTop (ef_16 m a v) k_) ?_
  refine own_st (S' := s₁.setTop (mkF m 1 #[.val (.ref a), .val (.ref v)] [(.ref a)])) (fun t_ k_ => XS.aloadN X0.here hx rfl (hb hby d16_0) rfl rfl k_) ?_
  refine own_st (S' := s₁.setTop (mkF m 2 #[.val (.ref a), .val (.ref v)] [(.ref v), (.ref a)])) (fun t_ k_ => XS.aloadN X0.here hx rfl (hb hby d16_1) rfl rfl k_) ?_
  refine own_st (S' := s₁.setTop (mkF m 3 #[.val (.ref a), .val (.ref v)] [(.int (0 : Int32)), (.ref v), (.ref a)])) (fun t_ k_ => XS.iconst X0.here hx rfl (hb hby d16_2) k_) ?_
  refine own_st (S' := s₁.setTop (mkF m 4 #[.val (.ref a), .val (.ref v)] [(.ref v), (.int (0 : Int32)), (.ref v), (.ref a)])) (fun t_ k_ => XS.aloadN X0.here hx rfl (hb hby d16_3) rfl rfl k_) ?_
  obtain ⟨cl_1, Ar_1, q_1, S_1, M_1, H_1, G_1⟩ := id P4
  refine own_st (S' := s₁.setTop (mkF m 5 #[.val (.ref a), .val (.ref v)] [(.int n), (.int (0 : Int32)), (.ref v), (.ref a)])) (fun t_ k_ => X0.arraylength hx (by rw [e0]; exact Ar_1.1) (State.isArrayOf_alike hZ.alike Ar_1.2.1) (g := (mkF m 4 #[.val (.ref a), .val (.ref v)] [(.ref v), (.int (0 : Int32)), (.ref v), (.ref a)])) rfl rfl (hb hby d16_4) _ (by rw [len_of S_1 M_1]; exact k_)) ?_
  obtain ⟨cq_2, kq_2, q_2a, q_2b, q_2c⟩ := isOf hZ e0 P0
  obtain ⟨_, _, ⟨T_2, L_2, k_2, n_2⟩, -, X_2, ⟨Lc_2, hQ_2, l_2, y_2, z_2⟩, st_2⟩ := X0.virtualBack hx (y := (⟨"quorumline/FieldWriter", "write", "([BII)V"⟩ : MethodName)) (z := (⟨"quorumline/FieldWriter", "write", "([BII)V"⟩ : MethodName)) hown (mvT hZ (hw _ (List.mem_of_getElem? (i := 77) rfl))) (mvT hZ (hw _ (List.mem_of_getElem? (i := 78) rfl))) (notFace_of_selects (args := #[]) (mvT hZ (hw _ (List.mem_of_getElem? (i := 80) rfl)))) (mvT hZ (hw _ (List.mem_of_getElem? (i := 80) rfl))) (mvT hZ (hw _ (List.mem_of_getElem? (i := 79) rfl))) (by decide) (backOf (W := 0) (rm15 l Z a0 hw [] a v n b k vs kv us h0 n0 Z0 P0 P1 P2 P3 P4 g_a g_b ne_a_b ne_a_v hn0 h63) hZ (hw _ (List.mem_of_getElem? (i := 81) rfl)) (hw _ (List.mem_of_getElem? (i := 23) rfl)) (by decide) (by decide)) q_2a q_2c (g := (mkF m 5 #[.val (.ref a), .val (.ref v)] [(.int n), (.int (0 : Int32)), (.ref v), (.ref a)])) rfl (by rw [hml]; rfl) (Steps.refl _) (argsL := [(.ref v), (.int (0 : Int32)), (.int n)]) (rest := []) (lenOf pd_7 rfl) rfl (by show 2 * 0 + _ ≤ _; exact Nat.le_of_eq rfl) (hb hby d16_5) (fun _ _ => ⟨rfl, e0, (by decide : 0 + 1 ≤ _), (by decide : 0 + 75 ≤ _)⟩)
  dsimp only [Pt.U, Pt.locs, Pt.cells, Pt.slots] at X_2 l_2 y_2 z_2 st_2 hQ_2
  subst l_2 y_2 z_2
  obtain ⟨rfl, M_2, K_2c, c_2_0, c_2_1⟩ := hQ_2
  have N_2 := Fr.app N0 M_2
  have K_2 : Keep h0 T_2.heap [a, b] := (Keep.refl h0 [a, b]).trans K_2c (allS (Or.inl (List.mem_of_getElem? (i := 0) rfl)) (allS (Or.inl (List.mem_of_getElem? (i := 1) rfl)) all0))
  have Z_2 : n0 ≤ T_2.heap.size := Nat.le_trans Z0 K_2c.1
  refine own_st (S' := T_2.setTop (mkF m 8 #[.val (.ref a), .val (.ref v)] [])) (fun t_ k_ => st_2.trans k_) ?_
  obtain ⟨fs, hr, hrun, hended, hW, hsame⟩ := X_2.leave (v := none) (fun _ => rfl)
  refine ⟨_, _, X_2.returnOut hx Bd.returns (hb hby d16_8) hr, hrun, hended, _, _, rfl, ?_, ⟨_, rfl⟩, hW, hsame.mono (by decide) (by decide)⟩
  show Q16 Z a v b k vs kv us n h0 n0 _ T_2.heap _
  exact ⟨rfl, N_2, K_2, c_2_0, c_2_1⟩
theorem d17_0 : decode prog_15_method_9_code 0 = .ok (.aload_n 1, 1) := by decide +kernel
theorem d17_1 : decode prog_15_method_9_code 1 = .ok (.ifnonnull 11, 3) := by decide +kernel
theorem d17_4 : decode prog_15_method_9_code 4 = .ok (.aload_n 0, 1) := by decide +kernel
theorem d17_5 : decode prog_15_method_9_code 5 = .ok (.iconst (-1), 1) := by decide +kernel
theorem d17_6 : decode prog_15_method_9_code 6 = .ok (.invokevirtual 76, 3) := by decide +kernel
theorem d17_9 : decode prog_15_method_9_code 9 = .ok (.goto 14, 3) := by decide +kernel
theorem d17_23 : decode prog_15_method_9_code 23 = .ok (.return_, 1) := by decide +kernel
theorem ef_17a (m : MethodId) (a : Addr) : entryFrame m #[(.ref a), .null] 2 = mkF m 0 #[.val (.ref a), .val .null] [] := by first | (simp [entryFrame, mkF, argsToLocals, Value.category]; done) | rfl
def Q17a (Z : State) (a : Addr) (b : Addr) (k : ClassId) (vs : List Value) (h0 : Heap) (n0 : Nat) (v_ : Option Value) (h_ : Heap) (L_ : List Loc) : Prop := v_ = none ∧ Fr n0 L_ ∧ Keep h0 h_ [a, b] ∧ Exa Z h_ a "quorumline/FieldWriter" ∧ Fld Z h_ a "quorumline/FieldWriter" "size" "I" (.int (12 : Int32))
set_option maxRecDepth 65536 in
set_option maxHeartbeats 40000000 in
theorem rm17a (l : Launch) (Z : State) (a0 : Array Value) (hw : ∀ d ∈ tables_1, d.before a0 Z = true) (ws : List Jvm.Cond) (a : Addr) (b : Addr) (k : ClassId) (vs : List Value) (h0 : Heap) (n0 : Nat) (Z0 : n0 ≤ h0.size) (P0 : Exa Z h0 a "quorumline/FieldWriter") (P1 : Fld Z h0 a "quorumline/FieldWriter" "bytes" "[B" (.ref b)) (P2 : Arv Z h0 b k .byte (16 : Int32) vs (.int (0 : Int32))) (P3 : Fld Z h0 a "quorumline/FieldWriter" "size" "I" (.int (8 : Int32))) (g_a : n0 ≤ a) (g_b : n0 ≤ b) (ne_a_b : a ≠ b) :
    MetFree l (⟨"quorumline/Entry", "writeValue", "(Lquorumline/FieldWriter;[B)V"⟩ : MethodName) (head1 (Jvm.Cond.code (⟨"quorumline/Entry", "writeValue", "(Lquorumline/FieldWriter;[B)V"⟩ : MethodName) prog_15_method_9_code 2 none :: ws) ({ frames := 2, cells := 0, slots := 0, locals := 30 } : Room)) (fun ar_ U_ => ar_ = #[(.ref a), .null] ∧ Z.Warmed39 U_.vm ∧ U_.heap = h0) (fun _ _ _ _ _ => True) (fun _ U_ o_ U2_ => ∃ v_ L_, o_ = .returned v_ ∧ Q17a Z a b k vs h0 n0 v_ U2_.heap L_ ∧ FrameEnd U_ o_ U2_ L_ ({ frames := 2, cells := 0, slots := 0, locals := 30 } : Room).cells ({ frames := 2, cells := 0, slots := 0, locals := 30 } : Room).slots) := by
  refine MetFree.of_bodySF (plainFor_of_name pn_0) hisR ?_
  intro p e s m args below meth c s₁ Bd hml0 hP hK
  obtain ⟨rfl, hZ, hh⟩ := hP
  have hx := Bd.exec
  have hby := Bd.bytes
  have hml : c.maxLocals = 2 := hml0
  have hown : s.vm.findClass "quorumline/Entry" = some m.cls := findClass_of_methodNamed Bd.named
  have hnm := (name_of_methodNamed Bd.named Bd.method).1
  have X0 : Stand p l e ({ frames := 2, cells := 0, slots := 0, locals := 30 } : Room) s m #[(.ref a), .null] below meth c s₁ [] 0 0 := Stand.of_body Bd
  have e0 : s₁.heap = h0 := by rw [← hh, Bd.state]; rfl
  have N0 := Fr.nil n0
  refine own_gl ?_
  refine own_st (S' := s₁.setTop (mkF m 0 #[.val (.ref a), .val .null] [])) (fun t_ k_ => castTop (ef_17a m a) k_) ?_
  refine own_st (S' := s₁.setTop (mkF m 1 #[.val (.ref a), .val .null] [.null])) (fun t_ k_ => XS.aloadN X0.here hx rfl (hb hby d17_0) rfl rfl k_) ?_
  refine own_st (S' := s₁.setTop (mkF m 4 #[.val (.ref a), .val .null] [])) (fun t_ k_ => XS.ifnonnullNo X0.here hx rfl (hb hby d17_1) rfl k_) ?_
  refine own_st (S' := s₁.setTop (mkF m 5 #[.val (.ref a), .val .null] [(.ref a)])) (fun t_ k_ => XS.aloadN X0.here hx rfl (hb hby d17_4) rfl rfl k_) ?_
  refine own_st (S' := s₁.setTop (mkF m 6 #[.val (.ref a), .val .null] [(.int (-1 : Int32)), (.ref a)])) (fun t_ k_ => XS.iconst X0.here hx rfl (hb hby d17_5) k_) ?_
  obtain ⟨cq_1, kq_1, q_1a, q_1b, q_1c⟩ := isOf hZ e0 P0
  obtain ⟨_, _, ⟨T_1, L_1, k_1, n_1⟩, -, X_1, ⟨Lc_1, hQ_1, l_1, y_1, z_1⟩, st_1⟩ := X0.virtualBack hx (y := (⟨"quorumline/FieldWriter", "writeInt", "(I)V"⟩ : MethodName)) (z := (⟨"quorumline/FieldWriter", "writeInt", "(I)V"⟩ : MethodName)) hown (mvT hZ (hw _ (List.mem_of_getElem? (i := 58) rfl))) (mvT hZ (hw _ (List.mem_of_getElem? (i := 59) rfl))) (notFace_of_selects (args := #[]) (mvT hZ (hw _ (List.mem_of_getElem? (i := 61) rfl)))) (mvT hZ (hw _ (List.mem_of_getElem? (i := 61) rfl))) (mvT hZ (hw _ (List.mem_of_getElem? (i := 60) rfl))) (by decide) (backOf (W := 0) (rm14 l Z a0 hw [] a (-1 : Int32) b k vs h0 n0 Z0 P0 P1 P2 P3 g_a g_b ne_a_b) hZ (hw _ (List.mem_of_getElem? (i := 62) rfl)) (hw _ (List.mem_of_getElem? (i := 23) rfl)) (by decide) (by decide)) q_1a q_1c (g := (mkF m 6 #[.val (.ref a), .val .null] [(.int (-1 : Int32)), (.ref a)])) rfl (by rw [hml]; rfl) (Steps.refl _) (argsL := [(.int (-1 : Int32))]) (rest := []) (lenOf pd_5 rfl) rfl (by show 2 * 0 + _ ≤ _; exact Nat.le_of_eq rfl) (hb hby d17_6) (fun _ _ => ⟨rfl, e0, (by decide : 0 + 0 ≤ _), (by decide : 0 + 0 ≤ _)⟩)
  dsimp only [Pt.U, Pt.locs, Pt.cells, Pt.slots] at X_1 l_1 y_1 z_1 st_1 hQ_1
  subst l_1 y_1 z_1
  obtain ⟨x_1_vs2, rfl, M_1, K_1c, c_1_0, c_1_1, c_1_2, c_1_3⟩ := hQ_1
  have N_1 := Fr.app N0 M_1
  have K_1 : Keep h0 T_1.heap [a, b] := (Keep.refl h0 [a, b]).trans K_1c (allS (Or.inl (List.mem_of_getElem? (i := 0) rfl)) (allS (Or.inl (List.mem_of_getElem? (i := 1) rfl)) all0))
  have Z_1 : n0 ≤ T_1.heap.size := Nat.le_trans Z0 K_1c.1
  refine own_st (S' := T_1.setTop (mkF m 9 #[.val (.ref a), .val .null] [])) (fun t_ k_ => st_1.trans k_) ?_
  refine own_st (S' := T_1.setTop (mkF m 23 #[.val (.ref a), .val .null] [])) (fun t_ k_ => XS.goto X_1.here hx rfl (pc0 := 9) (pc' := 23) rfl (hb hby d17_9) (by decide) (by decide) k_) ?_
  obtain ⟨fs, hr, hrun, hended, hW, hsame⟩ := X_1.leave (v := none) (fun _ => rfl)
  refine ⟨_, _, X_1.returnOut hx Bd.returns (hb hby d17_23) hr, hrun, hended, _, _, rfl, ?_, ⟨_, rfl⟩, hW, hsame.mono (by decide) (by decide)⟩
  show Q17a Z a b k vs h0 n0 _ T_1.heap _
  exact ⟨rfl, N_1, K_1, c_1_0, c_1_3⟩
theorem d17_12 : decode prog_15_method_9_code 12 = .ok (.aload_n 0, 1) := by decide +kernel
theorem d17_13 : decode prog_15_method_9_code 13 = .ok (.aload_n 1, 1) := by decide +kernel
theorem d17_14 : decode prog_15_method_9_code 14 = .ok (.arraylength, 1) := by decide +kernel
theorem d17_15 : decode prog_15_method_9_code 15 = .ok (.invokevirtual 76, 3) := by decide +kernel
theorem d17_18 : decode prog_15_method_9_code 18 = .ok (.aload_n 0, 1) := by decide +kernel
theorem d17_19 : decode prog_15_method_9_code 19 = .ok (.aload_n 1, 1) := by decide +kernel
theorem d17_20 : decode prog_15_method_9_code 20 = .ok (.invokevirtual 80, 3) := by decide +kernel
theorem ef_17b (m : MethodId) (a : Addr) (v : Addr) : entryFrame m #[(.ref a), (.ref v)] 2 = mkF m 0 #[.val (.ref a), .val (.ref v)] [] := by first | (simp [entryFrame, mkF, argsToLocals, Value.category]; done) | rfl
def Q17b (Z : State) (a : Addr) (v : Addr) (b : Addr) (k : ClassId) (vs : List Value) (kv : ClassId) (us : List Value) (n : Int32) (h0 : Heap) (n0 : Nat) (v_ : Option Value) (h_ : Heap) (L_ : List Loc) : Prop := v_ = none ∧ Fr n0 L_ ∧ Keep h0 h_ [a, b] ∧ Exa Z h_ a "quorumline/FieldWriter" ∧ Fld Z h_ a "quorumline/FieldWriter" "size" "I" (.int ((12 : Int32) + n))
set_option maxRecDepth 65536 in
set_option maxHeartbeats 40000000 in
theorem rm17b (l : Launch) (Z : State) (a0 : Array Value) (hw : ∀ d ∈ tables_1, d.before a0 Z = true) (ws : List Jvm.Cond) (a : Addr) (v : Addr) (b : Addr) (k : ClassId) (vs : List Value) (kv : ClassId) (us : List Value) (n : Int32) (h0 : Heap) (n0 : Nat) (Z0 : n0 ≤ h0.size) (P0 : Exa Z h0 a "quorumline/FieldWriter") (P1 : Fld Z h0 a "quorumline/FieldWriter" "bytes" "[B" (.ref b)) (P2 : Arv Z h0 b k .byte (16 : Int32) vs (.int (0 : Int32))) (P3 : Fld Z h0 a "quorumline/FieldWriter" "size" "I" (.int (8 : Int32))) (P4 : Arv Z h0 v kv .byte n us (.int (0 : Int32))) (g_a : n0 ≤ a) (g_b : n0 ≤ b) (ne_a_b : a ≠ b) (ne_a_v : a ≠ v) (ne_v_b : v ≠ b) (hn0 : ¬ (n < (0 : Int32))) (h63 : ¬ ((63 : Int32) < n)) :
    MetFree l (⟨"quorumline/Entry", "writeValue", "(Lquorumline/FieldWriter;[B)V"⟩ : MethodName) (head1 (Jvm.Cond.code (⟨"quorumline/Entry", "writeValue", "(Lquorumline/FieldWriter;[B)V"⟩ : MethodName) prog_15_method_9_code 2 none :: ws) ({ frames := 5, cells := 1, slots := 75, locals := 78 } : Room)) (fun ar_ U_ => ar_ = #[(.ref a), (.ref v)] ∧ Z.Warmed39 U_.vm ∧ U_.heap = h0) (fun _ _ _ _ _ => True) (fun _ U_ o_ U2_ => ∃ v_ L_, o_ = .returned v_ ∧ Q17b Z a v b k vs kv us n h0 n0 v_ U2_.heap L_ ∧ FrameEnd U_ o_ U2_ L_ ({ frames := 5, cells := 1, slots := 75, locals := 78 } : Room).cells ({ frames := 5, cells := 1, slots := 75, locals := 78 } : Room).slots) := by
  refine MetFree.of_bodySF (plainFor_of_name pn_0) hisR ?_
  intro p e s m args below meth c s₁ Bd hml0 hP hK
  obtain ⟨rfl, hZ, hh⟩ := hP
  have hx := Bd.exec
  have hby := Bd.bytes
  have hml : c.maxLocals = 2 := hml0
  have hown : s.vm.findClass "quorumline/Entry" = some m.cls := findClass_of_methodNamed Bd.named
  have hnm := (name_of_methodNamed Bd.named Bd.method).1
  have X0 : Stand p l e ({ frames := 5, cells := 1, slots := 75, locals := 78 } : Room) s m #[(.ref a), (.ref v)] below meth c s₁ [] 0 0 := Stand.of_body Bd
  have e0 : s₁.heap = h0 := by rw [← hh, Bd.state]; rfl
  have N0 := Fr.nil n0
  refine own_gl ?_
  refine own_st (S' := s₁.setTop (mkF m 0 #[.val (.ref a), .val (.ref v)] [])) (fun t_ k_ => castTop (ef_17b m a v) k_) ?_
  refine own_st (S' := s₁.setTop (mkF m 1 #[.val (.ref a), .val (.ref v)] [(.ref v)])) (fun t_ k_ => XS.aloadN X0.here hx rfl (hb hby d17_0) rfl rfl k_) ?_
  refine own_st (S' := s₁.setTop (mkF m 12 #[.val (.ref a), .val (.ref v)] [])) (fun t_ k_ => XS.ifnonnullYes X0.here hx rfl (pc0 := 1) (pc' := 12) rfl (hb hby d17_1) rfl (by decide) (by decide) k_) ?_
  refine own_st (S' := s₁.setTop (mkF m 13 #[.val (.ref a), .val (.ref v)] [(.ref a)])) (fun t_ k_ => XS.aloadN X0.here hx rfl (hb hby d17_12) rfl rfl k_) ?_
  refine own_st (S' := s₁.setTop (mkF m 14 #[.val (.ref a), .val (.ref v)] [(.ref v), (.ref a)])) (fun t_ k_ => XS.aloadN X0.here hx rfl (hb hby d17_13) rfl rfl k_) ?_
  obtain ⟨cl_1, Ar_1, q_1, S_1, M_1, H_1, G_1⟩ := id P4
  refine own_st (S' := s₁.setTop (mkF m 15 #[.val (.ref a), .val (.ref v)] [(.int n), (.ref a)])) (fun t_ k_ => X0.arraylength hx (by rw [e0]; exact Ar_1.1) (State.isArrayOf_alike hZ.alike Ar_1.2.1) (g := (mkF m 14 #[.val (.ref a), .val (.ref v)] [(.ref v), (.ref a)])) rfl rfl (hb hby d17_14) _ (by rw [len_of S_1 M_1]; exact k_)) ?_
  obtain ⟨cq_2, kq_2, q_2a, q_2b, q_2c⟩ := isOf hZ e0 P0
  obtain ⟨_, _, ⟨T_2, L_2, k_2, n_2⟩, -, X_2, ⟨Lc_2, hQ_2, l_2, y_2, z_2⟩, st_2⟩ := X0.virtualBack hx (y := (⟨"quorumline/FieldWriter", "writeInt", "(I)V"⟩ : MethodName)) (z := (⟨"quorumline/FieldWriter", "writeInt", "(I)V"⟩ : MethodName)) hown (mvT hZ (hw _ (List.mem_of_getElem? (i := 58) rfl))) (mvT hZ (hw _ (List.mem_of_getElem? (i := 59) rfl))) (notFace_of_selects (args := #[]) (mvT hZ (hw _ (List.mem_of_getElem? (i := 61) rfl)))) (mvT hZ (hw _ (List.mem_of_getElem? (i := 61) rfl))) (mvT hZ (hw _ (List.mem_of_getElem? (i := 60) rfl))) (by decide) (backOf (W := 0) (rm14 l Z a0 hw [] a n b k vs h0 n0 Z0 P0 P1 P2 P3 g_a g_b ne_a_b) hZ (hw _ (List.mem_of_getElem? (i := 62) rfl)) (hw _ (List.mem_of_getElem? (i := 23) rfl)) (by decide) (by decide)) q_2a q_2c (g := (mkF m 15 #[.val (.ref a), .val (.ref v)] [(.int n), (.ref a)])) rfl (by rw [hml]; rfl) (Steps.refl _) (argsL := [(.int n)]) (rest := []) (lenOf pd_5 rfl) rfl (by show 2 * 0 + _ ≤ _; exact Nat.le_of_eq rfl) (hb hby d17_15) (fun _ _ => ⟨rfl, e0, (by decide : 0 + 0 ≤ _), (by decide : 0 + 0 ≤ _)⟩)
  dsimp only [Pt.U, Pt.locs, Pt.cells, Pt.slots] at X_2 l_2 y_2 z_2 st_2 hQ_2
  subst l_2 y_2 z_2
  obtain ⟨x_2_vs2, rfl, M_2, K_2c, c_2_0, c_2_1, c_2_2, c_2_3⟩ := hQ_2
  have N_2 := Fr.app N0 M_2
  have K_2 : Keep h0 T_2.heap [a, b] := (Keep.refl h0 [a, b]).trans K_2c (allS (Or.inl (List.mem_of_getElem? (i := 0) rfl)) (allS (Or.inl (List.mem_of_getElem? (i := 1) rfl)) all0))
  have Z_2 : n0 ≤ T_2.heap.size := Nat.le_trans Z0 K_2c.1
  refine own_st (S' := T_2.setTop (mkF m 18 #[.val (.ref a), .val (.ref v)] [])) (fun t_ k_ => st_2.trans k_) ?_
  refine own_st (S' := T_2.setTop (mkF m 19 #[.val (.ref a), .val (.ref v)] [(.ref a)])) (fun t_ k_ => XS.aloadN X_2.here hx rfl (hb hby d17_18) rfl rfl k_) ?_
  refine own_st (S' := T_2.setTop (mkF m 20 #[.val (.ref a), .val (.ref v)] [(.ref v), (.ref a)])) (fun t_ k_ => XS.aloadN X_2.here hx rfl (hb hby d17_19) rfl rfl k_) ?_
  have f_3 : Arv Z T_2.heap v kv .byte n us (.int (0 : Int32)) := (P4.keep K_2c (ninS (Ne.symm ne_a_v) (ninS ne_v_b nin0)))
  obtain ⟨cq_4, kq_4, q_4a, q_4b, q_4c⟩ := isOf hZ rfl c_2_0
  obtain ⟨_, _, ⟨T_4, L_4, k_4, n_4⟩, -, X_4, ⟨Lc_4, hQ_4, l_4, y_4, z_4⟩, st_4⟩ := X_2.virtualBack hx (y := (⟨"quorumline/FieldWriter", "write", "([B)V"⟩ : MethodName)) (z := (⟨"quorumline/FieldWriter", "write", "([B)V"⟩ : MethodName)) hown (mvT hZ (hw _ (List.mem_of_getElem? (i := 72) rfl))) (mvT hZ (hw _ (List.mem_of_getElem? (i := 73) rfl))) (notFace_of_selects (args := #[]) (mvT hZ (hw _ (List.mem_of_getElem? (i := 75) rfl)))) (mvT hZ (hw _ (List.mem_of_getElem? (i := 75) rfl))) (mvT hZ (hw _ (List.mem_of_getElem? (i := 74) rfl))) (by decide) (backOf (W := 0) (rm16 l Z a0 hw [] a v b k x_2_vs2 kv us n T_2.heap n0 Z_2 c_2_0 c_2_1 c_2_2 c_2_3 f_3 g_a g_b ne_a_b ne_a_v hn0 h63) hZ (hw _ (List.mem_of_getElem? (i := 76) rfl)) (hw _ (List.mem_of_getElem? (i := 23) rfl)) (by decide) (by decide)) q_4a q_4c (g := (mkF m 20 #[.val (.ref a), .val (.ref v)] [(.ref v), (.ref a)])) rfl (by rw [hml]; rfl) (Steps.refl _) (argsL := [(.ref v)]) (rest := []) (lenOf pd_1 rfl) rfl (by show 2 * 0 + _ ≤ _; exact Nat.le_of_eq rfl) (hb hby d17_20) (fun _ _ => ⟨rfl, rfl, (by decide : 0 + 1 ≤ _), (by decide : 0 + 75 ≤ _)⟩)
  dsimp only [Pt.U, Pt.locs, Pt.cells, Pt.slots] at X_4 l_4 y_4 z_4 st_4 hQ_4
  subst l_4 y_4 z_4
  obtain ⟨rfl, M_4, K_4c, c_4_0, c_4_1⟩ := hQ_4
  have N_4 := Fr.app N_2 M_4
  have K_4 : Keep h0 T_4.heap [a, b] := K_2.trans K_4c (allS (Or.inl (List.mem_of_getElem? (i := 0) rfl)) (allS (Or.inl (List.mem_of_getElem? (i := 1) rfl)) all0))
  have Z_4 : n0 ≤ T_4.heap.size := Nat.le_trans Z_2 K_4c.1
  refine own_st (S' := T_4.setTop (mkF m 23 #[.val (.ref a), .val (.ref v)] [])) (fun t_ k_ => st_4.trans k_) ?_
  obtain ⟨fs, hr, hrun, hended, hW, hsame⟩ := X_4.leave (v := none) (fun _ => rfl)
  refine ⟨_, _, X_4.returnOut hx Bd.returns (hb hby d17_23) hr, hrun, hended, _, _, rfl, ?_, ⟨_, rfl⟩, hW, hsame.mono (by decide) (by decide)⟩
  show Q17b Z a v b k vs kv us n h0 n0 _ T_4.heap _
  exact ⟨rfl, N_4, K_4, c_4_0, c_4_1⟩
theorem d18_0 : decode prog_15_method_7_code 0 = .ok (.aload_n 1, 1) := by decide +kernel
theorem d18_1 : decode prog_15_method_7_code 1 = .ok (.aload_n 0, 1) := by decide +kernel
theorem d18_2 : decode prog_15_method_7_code 2 = .ok (.getfield 17, 3) := by decide +kernel
theorem d18_5 : decode prog_15_method_7_code 5 = .ok (.invokevirtual 54, 3) := by decide +kernel
theorem d18_8 : decode prog_15_method_7_code 8 = .ok (.aload_n 1, 1) := by decide +kernel
theorem d18_9 : decode prog_15_method_7_code 9 = .ok (.aload_n 0, 1) := by decide +kernel
theorem d18_10 : decode prog_15_method_7_code 10 = .ok (.getfield 21, 3) := by decide +kernel
theorem d18_13 : decode prog_15_method_7_code 13 = .ok (.invokestatic 59, 3) := by decide +kernel
theorem d18_16 : decode prog_15_method_7_code 16 = .ok (.return_, 1) := by decide +kernel
theorem ef_18a (m : MethodId) (e0_ : Addr) (a : Addr) : entryFrame m #[(.ref e0_), (.ref a)] 2 = mkF m 0 #[.val (.ref e0_), .val (.ref a)] [] := by first | (simp [entryFrame, mkF, argsToLocals, Value.category]; done) | rfl
theorem pd_8 : parseMethodDescriptor "(J)V" = some ⟨[.long], none⟩ := by decide +kernel
theorem pd_9 : parseMethodDescriptor "(Lquorumline/FieldWriter;[B)V" = some ⟨[(.object "quorumline/FieldWriter"), (.array .byte)], none⟩ := by decide +kernel
def Q18a (Z : State) (e0_ : Addr) (a : Addr) (b : Addr) (k : ClassId) (vs : List Value) (q : Int64) (h0 : Heap) (n0 : Nat) (v_ : Option Value) (h_ : Heap) (L_ : List Loc) : Prop := v_ = none ∧ Fr n0 L_ ∧ Keep h0 h_ [a, b] ∧ Exa Z h_ a "quorumline/FieldWriter" ∧ Fld Z h_ a "quorumline/FieldWriter" "size" "I" (.int (12 : Int32))
set_option maxRecDepth 65536 in
set_option maxHeartbeats 40000000 in
theorem rm18a (l : Launch) (Z : State) (a0 : Array Value) (hw : ∀ d ∈ tables_1, d.before a0 Z = true) (ws : List Jvm.Cond) (e0_ : Addr) (a : Addr) (b : Addr) (k : ClassId) (vs : List Value) (q : Int64) (h0 : Heap) (n0 : Nat) (Z0 : n0 ≤ h0.size) (P0 : Exa Z h0 a "quorumline/FieldWriter") (P1 : Fld Z h0 a "quorumline/FieldWriter" "bytes" "[B" (.ref b)) (P2 : Arv Z h0 b k .byte (16 : Int32) vs (.int (0 : Int32))) (P3 : Fld Z h0 a "quorumline/FieldWriter" "size" "I" (.int (0 : Int32))) (P4 : Fld Z h0 e0_ "quorumline/Entry" "term" "J" (.long q)) (P5 : Fld Z h0 e0_ "quorumline/Entry" "value" "[B" .null) (g_a : n0 ≤ a) (g_b : n0 ≤ b) (ne_a_b : a ≠ b) (ne_e0__a : e0_ ≠ a) (ne_e0__b : e0_ ≠ b) :
    MetFree l (⟨"quorumline/Entry", "write", "(Lquorumline/FieldWriter;)V"⟩ : MethodName) (head1 (Jvm.Cond.code (⟨"quorumline/Entry", "write", "(Lquorumline/FieldWriter;)V"⟩ : MethodName) prog_15_method_7_code 2 none :: ws) ({ frames := 3, cells := 0, slots := 0, locals := 43 } : Room)) (fun ar_ U_ => ar_ = #[(.ref e0_), (.ref a)] ∧ Z.Warmed39 U_.vm ∧ U_.heap = h0) (fun _ _ _ _ _ => True) (fun _ U_ o_ U2_ => ∃ v_ L_, o_ = .returned v_ ∧ Q18a Z e0_ a b k vs q h0 n0 v_ U2_.heap L_ ∧ FrameEnd U_ o_ U2_ L_ ({ frames := 3, cells := 0, slots := 0, locals := 43 } : Room).cells ({ frames := 3, cells := 0, slots := 0, locals := 43 } : Room).slots) := by
  refine MetFree.of_bodySF (plainFor_of_name pn_0) hisR ?_
  intro p e s m args below meth c s₁ Bd hml0 hP hK
  obtain ⟨rfl, hZ, hh⟩ := hP
  have hx := Bd.exec
  have hby := Bd.bytes
  have hml : c.maxLocals = 2 := hml0
  have hown : s.vm.findClass "quorumline/Entry" = some m.cls := findClass_of_methodNamed Bd.named
  have hnm := (name_of_methodNamed Bd.named Bd.method).1
  have X0 : Stand p l e ({ frames := 3, cells := 0, slots := 0, locals := 43 } : Room) s m #[(.ref e0_), (.ref a)] below meth c s₁ [] 0 0 := Stand.of_body Bd
  have e0 : s₁.heap = h0 := by rw [← hh, Bd.state]; rfl
  have N0 := Fr.nil n0
  refine own_gl ?_
  refine own_st (S' := s₁.setTop (mkF m 0 #[.val (.ref e0_), .val (.ref a)] [])) (fun t_ k_ => castTop (ef_18a m e0_ a) k_) ?_
  refine own_st (S' := s₁.setTop (mkF m 1 #[.val (.ref e0_), .val (.ref a)] [(.ref a)])) (fun t_ k_ => XS.aloadN X0.here hx rfl (hb hby d18_0) rfl rfl k_) ?_
  refine own_st (S' := s₁.setTop (mkF m 2 #[.val (.ref e0_), .val (.ref a)] [(.ref e0_), (.ref a)])) (fun t_ k_ => XS.aloadN X0.here hx rfl (hb hby d18_1) rfl rfl k_) ?_
  obtain ⟨T_1, X_1, e_1, st_1⟩ := getF X0 hx hZ hown (host := "") (Or.inl (hw _ (List.mem_of_getElem? (i := 17) rfl))) Via.refl e0 P4 (g := (mkF m 2 #[.val (.ref e0_), .val (.ref a)] [(.ref e0_), (.ref a)])) rfl rfl (hb hby d18_2)
  refine own_st (S' := T_1.setTop (mkF m 5 #[.val (.ref e0_), .val (.ref a)] [(.long q), (.ref a)])) st_1 ?_
  obtain ⟨cq_2, kq_2, q_2a, q_2b, q_2c⟩ := isOf hZ e_1 P0
  obtain ⟨_, _, ⟨T_2, L_2, k_2, n_2⟩, -, X_2, ⟨Lc_2, hQ_2, l_2, y_2, z_2⟩, st_2⟩ := X_1.virtualBack hx (y := (⟨"quorumline/FieldWriter", "writeLong", "(J)V"⟩ : MethodName)) (z := (⟨"quorumline/FieldWriter", "writeLong", "(J)V"⟩ : MethodName)) hown (mvT hZ (hw _ (List.mem_of_getElem? (i := 40) rfl))) (mvT hZ (hw _ (List.mem_of_getElem? (i := 41) rfl))) (notFace_of_selects (args := #[]) (mvT hZ (hw _ (List.mem_of_getElem? (i := 43) rfl)))) (mvT hZ (hw _ (List.mem_of_getElem? (i := 43) rfl))) (mvT hZ (hw _ (List.mem_of_getElem? (i := 42) rfl))) (by decide) (backOf (W := 0) (rm13 l Z a0 hw [] a q b k vs h0 n0 Z0 P0 P1 P2 P3 g_a g_b ne_a_b) hZ (hw _ (List.mem_of_getElem? (i := 44) rfl)) (hw _ (List.mem_of_getElem? (i := 23) rfl)) (by decide) (by decide)) q_2a q_2c (g := (mkF m 5 #[.val (.ref e0_), .val (.ref a)] [(.long q), (.ref a)])) rfl (by rw [hml]; rfl) (Steps.refl _) (argsL := [(.long q)]) (rest := []) (lenOf pd_8 rfl) rfl (by show 2 * 0 + _ ≤ _; exact Nat.le_of_eq rfl) (hb hby d18_5) (fun _ _ => ⟨rfl, e_1, (by decide : 0 + 0 ≤ _), (by decide : 0 + 0 ≤ _)⟩)
  dsimp only [Pt.U, Pt.locs, Pt.cells, Pt.slots] at X_2 l_2 y_2 z_2 st_2 hQ_2
  subst l_2 y_2 z_2
  obtain ⟨x_2_vs2, rfl, M_2, K_2c, c_2_0, c_2_1, c_2_2, c_2_3⟩ := hQ_2
  have N_2 := Fr.app N0 M_2
  have K_2 : Keep h0 T_2.heap [a, b] := (Keep.refl h0 [a, b]).trans K_2c (allS (Or.inl (List.mem_of_getElem? (i := 0) rfl)) (allS (Or.inl (List.mem_of_getElem? (i := 1) rfl)) all0))
  have Z_2 : n0 ≤ T_2.heap.size := Nat.le_trans Z0 K_2c.1
  refine own_st (S' := T_2.setTop (mkF m 8 #[.val (.ref e0_), .val (.ref a)] [])) (fun t_ k_ => st_2.trans k_) ?_
  refine own_st (S' := T_2.setTop (mkF m 9 #[.val (.ref e0_), .val (.ref a)] [(.ref a)])) (fun t_ k_ => XS.aloadN X_2.here hx rfl (hb hby d18_8) rfl rfl k_) ?_
  refine own_st (S' := T_2.setTop (mkF m 10 #[.val (.ref e0_), .val (.ref a)] [(.ref e0_), (.ref a)])) (fun t_ k_ => XS.aloadN X_2.here hx rfl (hb hby d18_9) rfl rfl k_) ?_
  have f_3 : Fld Z T_2.heap e0_ "quorumline/Entry" "value" "[B" .null := (P5.keep K_2c (ninS ne_e0__a (ninS ne_e0__b nin0)))
  obtain ⟨T_4, X_4, e_4, st_4⟩ := getF X_2 hx hZ hown (host := "") (Or.inl (hw _ (List.mem_of_getElem? (i := 19) rfl))) Via.refl rfl f_3 (g := (mkF m 10 #[.val (.ref e0_), .val (.ref a)] [(.ref e0_), (.ref a)])) rfl rfl (hb hby d18_10)
  refine own_st (S' := T_4.setTop (mkF m 13 #[.val (.ref e0_), .val (.ref a)] [.null, (.ref a)])) st_4 ?_
  obtain ⟨_, _, ⟨T_5, L_5, k_5, n_5⟩, -, X_5, ⟨Lc_5, hQ_5, l_5, y_5, z_5⟩, st_5⟩ := Jvm.LawKit.callS X_4 hx (y := (⟨"quorumline/Entry", "writeValue", "(Lquorumline/FieldWriter;[B)V"⟩ : MethodName)) hown (mvT hZ (hw _ (List.mem_of_getElem? (i := 55) rfl))) (mvT hZ (hw _ (List.mem_of_getElem? (i := 56) rfl))) (mvT hZ (hw _ (List.mem_of_getElem? (i := 2) rfl))) (mvT hZ (hw _ (List.mem_of_getElem? (i := 57) rfl))) (by decide) (backOf (W := 0) (rm17a l Z a0 hw [] a b k x_2_vs2 T_2.heap n0 Z_2 c_2_0 c_2_1 c_2_2 c_2_3 g_a g_b ne_a_b) hZ (hw _ (List.mem_of_getElem? (i := 57) rfl)) (hw _ (List.mem_of_getElem? (i := 2) rfl)) (by decide) (by decide)) (g := (mkF m 13 #[.val (.ref e0_), .val (.ref a)] [.null, (.ref a)])) rfl (by rw [hml]; rfl) (argsL := [(.ref a), .null]) (rest := []) (lenOf pd_9 rfl) rfl (by show 2 * 0 + _ ≤ _; exact Nat.le_of_eq rfl) (hb hby d18_13) (fun _ _ => ⟨rfl, e_4, (by decide : 0 + 0 ≤ _), (by decide : 0 + 0 ≤ _)⟩)
  dsimp only [Pt.U, Pt.locs, Pt.cells, Pt.slots] at X_5 l_5 y_5 z_5 st_5 hQ_5
  subst l_5 y_5 z_5
  obtain ⟨rfl, M_5, K_5c, c_5_0, c_5_1⟩ := hQ_5
  have N_5 := Fr.app N_2 M_5
  have K_5 : Keep h0 T_5.heap [a, b] := K_2.trans K_5c (allS (Or.inl (List.mem_of_getElem? (i := 0) rfl)) (allS (Or.inl (List.mem_of_getElem? (i := 1) rfl)) all0))
  have Z_5 : n0 ≤ T_5.heap.size := Nat.le_trans Z_2 K_5c.1
  refine own_st (S' := T_5.setTop (mkF m 16 #[.val (.ref e0_), .val (.ref a)] [])) st_5 ?_
  obtain ⟨fs, hr, hrun, hended, hW, hsame⟩ := X_5.leave (v := none) (fun _ => rfl)
  refine ⟨_, _, X_5.returnOut hx Bd.returns (hb hby d18_16) hr, hrun, hended, _, _, rfl, ?_, ⟨_, rfl⟩, hW, hsame.mono (by decide) (by decide)⟩
  show Q18a Z e0_ a b k vs q h0 n0 _ T_5.heap _
  exact ⟨rfl, N_5, K_5, c_5_0, c_5_1⟩
theorem ef_18b (m : MethodId) (e0_ : Addr) (a : Addr) : entryFrame m #[(.ref e0_), (.ref a)] 2 = mkF m 0 #[.val (.ref e0_), .val (.ref a)] [] := by first | (simp [entryFrame, mkF, argsToLocals, Value.category]; done) | rfl
def Q18b (Z : State) (e0_ : Addr) (a : Addr) (b : Addr) (k : ClassId) (vs : List Value) (q : Int64) (v : Addr) (kv : ClassId) (us : List Value) (n : Int32) (h0 : Heap) (n0 : Nat) (v_ : Option Value) (h_ : Heap) (L_ : List Loc) : Prop := v_ = none ∧ Fr n0 L_ ∧ Keep h0 h_ [a, b] ∧ Exa Z h_ a "quorumline/FieldWriter" ∧ Fld Z h_ a "quorumline/FieldWriter" "size" "I" (.int ((12 : Int32) + n))
set_option maxRecDepth 65536 in
set_option maxHeartbeats 40000000 in
theorem rm18b (l : Launch) (Z : State) (a0 : Array Value) (hw : ∀ d ∈ tables_1, d.before a0 Z = true) (ws : List Jvm.Cond) (e0_ : Addr) (a : Addr) (b : Addr) (k : ClassId) (vs : List Value) (q : Int64) (v : Addr) (kv : ClassId) (us : List Value) (n : Int32) (h0 : Heap) (n0 : Nat) (Z0 : n0 ≤ h0.size) (P0 : Exa Z h0 a "quorumline/FieldWriter") (P1 : Fld Z h0 a "quorumline/FieldWriter" "bytes" "[B" (.ref b)) (P2 : Arv Z h0 b k .byte (16 : Int32) vs (.int (0 : Int32))) (P3 : Fld Z h0 a "quorumline/FieldWriter" "size" "I" (.int (0 : Int32))) (P4 : Fld Z h0 e0_ "quorumline/Entry" "term" "J" (.long q)) (P5 : Fld Z h0 e0_ "quorumline/Entry" "value" "[B" (.ref v)) (P6 : Arv Z h0 v kv .byte n us (.int (0 : Int32))) (g_a : n0 ≤ a) (g_b : n0 ≤ b) (ne_a_b : a ≠ b) (ne_e0__a : e0_ ≠ a) (ne_e0__b : e0_ ≠ b) (ne_a_v : a ≠ v) (ne_v_b : v ≠ b) (hn0 : ¬ (n < (0 : Int32))) (h63 : ¬ ((63 : Int32) < n)) :
    MetFree l (⟨"quorumline/Entry", "write", "(Lquorumline/FieldWriter;)V"⟩ : MethodName) (head1 (Jvm.Cond.code (⟨"quorumline/Entry", "write", "(Lquorumline/FieldWriter;)V"⟩ : MethodName) prog_15_method_7_code 2 none :: ws) ({ frames := 6, cells := 1, slots := 75, locals := 91 } : Room)) (fun ar_ U_ => ar_ = #[(.ref e0_), (.ref a)] ∧ Z.Warmed39 U_.vm ∧ U_.heap = h0) (fun _ _ _ _ _ => True) (fun _ U_ o_ U2_ => ∃ v_ L_, o_ = .returned v_ ∧ Q18b Z e0_ a b k vs q v kv us n h0 n0 v_ U2_.heap L_ ∧ FrameEnd U_ o_ U2_ L_ ({ frames := 6, cells := 1, slots := 75, locals := 91 } : Room).cells ({ frames := 6, cells := 1, slots := 75, locals := 91 } : Room).slots) := by
  refine MetFree.of_bodySF (plainFor_of_name pn_0) hisR ?_
  intro p e s m args below meth c s₁ Bd hml0 hP hK
  obtain ⟨rfl, hZ, hh⟩ := hP
  have hx := Bd.exec
  have hby := Bd.bytes
  have hml : c.maxLocals = 2 := hml0
  have hown : s.vm.findClass "quorumline/Entry" = some m.cls := findClass_of_methodNamed Bd.named
  have hnm := (name_of_methodNamed Bd.named Bd.method).1
  have X0 : Stand p l e ({ frames := 6, cells := 1, slots := 75, locals := 91 } : Room) s m #[(.ref e0_), (.ref a)] below meth c s₁ [] 0 0 := Stand.of_body Bd
  have e0 : s₁.heap = h0 := by rw [← hh, Bd.state]; rfl
  have N0 := Fr.nil n0
  refine own_gl ?_
  refine own_st (S' := s₁.setTop (mkF m 0 #[.val (.ref e0_), .val (.ref a)] [])) (fun t_ k_ => castTop (ef_18b m e0_ a) k_) ?_
  refine own_st (S' := s₁.setTop (mkF m 1 #[.val (.ref e0_), .val (.ref a)] [(.ref a)])) (fun t_ k_ => XS.aloadN X0.here hx rfl (hb hby d18_0) rfl rfl k_) ?_
  refine own_st (S' := s₁.setTop (mkF m 2 #[.val (.ref e0_), .val (.ref a)] [(.ref e0_), (.ref a)])) (fun t_ k_ => XS.aloadN X0.here hx rfl (hb hby d18_1) rfl rfl k_) ?_
  obtain ⟨T_1, X_1, e_1, st_1⟩ := getF X0 hx hZ hown (host := "") (Or.inl (hw _ (List.mem_of_getElem? (i := 17) rfl))) Via.refl e0 P4 (g := (mkF m 2 #[.val (.ref e0_), .val (.ref a)] [(.ref e0_), (.ref a)])) rfl rfl (hb hby d18_2)
  refine own_st (S' := T_1.setTop (mkF m 5 #[.val (.ref e0_), .val (.ref a)] [(.long q), (.ref a)])) st_1 ?_
  obtain ⟨cq_2, kq_2, q_2a, q_2b, q_2c⟩ := isOf hZ e_1 P0
  obtain ⟨_, _, ⟨T_2, L_2, k_2, n_2⟩, -, X_2, ⟨Lc_2, hQ_2, l_2, y_2, z_2⟩, st_2⟩ := X_1.virtualBack hx (y := (⟨"quorumline/FieldWriter", "writeLong", "(J)V"⟩ : MethodName)) (z := (⟨"quorumline/FieldWriter", "writeLong", "(J)V"⟩ : MethodName)) hown (mvT hZ (hw _ (List.mem_of_getElem? (i := 40) rfl))) (mvT hZ (hw _ (List.mem_of_getElem? (i := 41) rfl))) (notFace_of_selects (args := #[]) (mvT hZ (hw _ (List.mem_of_getElem? (i := 43) rfl)))) (mvT hZ (hw _ (List.mem_of_getElem? (i := 43) rfl))) (mvT hZ (hw _ (List.mem_of_getElem? (i := 42) rfl))) (by decide) (backOf (W := 0) (rm13 l Z a0 hw [] a q b k vs h0 n0 Z0 P0 P1 P2 P3 g_a g_b ne_a_b) hZ (hw _ (List.mem_of_getElem? (i := 44) rfl)) (hw _ (List.mem_of_getElem? (i := 23) rfl)) (by decide) (by decide)) q_2a q_2c (g := (mkF m 5 #[.val (.ref e0_), .val (.ref a)] [(.long q), (.ref a)])) rfl (by rw [hml]; rfl) (Steps.refl _) (argsL := [(.long q)]) (rest := []) (lenOf pd_8 rfl) rfl (by show 2 * 0 + _ ≤ _; exact Nat.le_of_eq rfl) (hb hby d18_5) (fun _ _ => ⟨rfl, e_1, (by decide : 0 + 0 ≤ _), (by decide : 0 + 0 ≤ _)⟩)
  dsimp only [Pt.U, Pt.locs, Pt.cells, Pt.slots] at X_2 l_2 y_2 z_2 st_2 hQ_2
  subst l_2 y_2 z_2
  obtain ⟨x_2_vs2, rfl, M_2, K_2c, c_2_0, c_2_1, c_2_2, c_2_3⟩ := hQ_2
  have N_2 := Fr.app N0 M_2
  have K_2 : Keep h0 T_2.heap [a, b] := (Keep.refl h0 [a, b]).trans K_2c (allS (Or.inl (List.mem_of_getElem? (i := 0) rfl)) (allS (Or.inl (List.mem_of_getElem? (i := 1) rfl)) all0))
  have Z_2 : n0 ≤ T_2.heap.size := Nat.le_trans Z0 K_2c.1
  refine own_st (S' := T_2.setTop (mkF m 8 #[.val (.ref e0_), .val (.ref a)] [])) (fun t_ k_ => st_2.trans k_) ?_
  refine own_st (S' := T_2.setTop (mkF m 9 #[.val (.ref e0_), .val (.ref a)] [(.ref a)])) (fun t_ k_ => XS.aloadN X_2.here hx rfl (hb hby d18_8) rfl rfl k_) ?_
  refine own_st (S' := T_2.setTop (mkF m 10 #[.val (.ref e0_), .val (.ref a)] [(.ref e0_), (.ref a)])) (fun t_ k_ => XS.aloadN X_2.here hx rfl (hb hby d18_9) rfl rfl k_) ?_
  have f_3 : Fld Z T_2.heap e0_ "quorumline/Entry" "value" "[B" (.ref v) := (P5.keep K_2c (ninS ne_e0__a (ninS ne_e0__b nin0)))
  obtain ⟨T_4, X_4, e_4, st_4⟩ := getF X_2 hx hZ hown (host := "") (Or.inl (hw _ (List.mem_of_getElem? (i := 19) rfl))) Via.refl rfl f_3 (g := (mkF m 10 #[.val (.ref e0_), .val (.ref a)] [(.ref e0_), (.ref a)])) rfl rfl (hb hby d18_10)
  refine own_st (S' := T_4.setTop (mkF m 13 #[.val (.ref e0_), .val (.ref a)] [(.ref v), (.ref a)])) st_4 ?_
  have f_5 : Arv Z T_2.heap v kv .byte n us (.int (0 : Int32)) := (P6.keep K_2c (ninS (Ne.symm ne_a_v) (ninS ne_v_b nin0)))
  obtain ⟨_, _, ⟨T_6, L_6, k_6, n_6⟩, -, X_6, ⟨Lc_6, hQ_6, l_6, y_6, z_6⟩, st_6⟩ := Jvm.LawKit.callS X_4 hx (y := (⟨"quorumline/Entry", "writeValue", "(Lquorumline/FieldWriter;[B)V"⟩ : MethodName)) hown (mvT hZ (hw _ (List.mem_of_getElem? (i := 55) rfl))) (mvT hZ (hw _ (List.mem_of_getElem? (i := 56) rfl))) (mvT hZ (hw _ (List.mem_of_getElem? (i := 2) rfl))) (mvT hZ (hw _ (List.mem_of_getElem? (i := 57) rfl))) (by decide) (backOf (W := 0) (rm17b l Z a0 hw [] a v b k x_2_vs2 kv us n T_2.heap n0 Z_2 c_2_0 c_2_1 c_2_2 c_2_3 f_5 g_a g_b ne_a_b ne_a_v ne_v_b hn0 h63) hZ (hw _ (List.mem_of_getElem? (i := 57) rfl)) (hw _ (List.mem_of_getElem? (i := 2) rfl)) (by decide) (by decide)) (g := (mkF m 13 #[.val (.ref e0_), .val (.ref a)] [(.ref v), (.ref a)])) rfl (by rw [hml]; rfl) (argsL := [(.ref a), (.ref v)]) (rest := []) (lenOf pd_9 rfl) rfl (by show 2 * 0 + _ ≤ _; exact Nat.le_of_eq rfl) (hb hby d18_13) (fun _ _ => ⟨rfl, e_4, (by decide : 0 + 1 ≤ _), (by decide : 0 + 75 ≤ _)⟩)
  dsimp only [Pt.U, Pt.locs, Pt.cells, Pt.slots] at X_6 l_6 y_6 z_6 st_6 hQ_6
  subst l_6 y_6 z_6
  obtain ⟨rfl, M_6, K_6c, c_6_0, c_6_1⟩ := hQ_6
  have N_6 := Fr.app N_2 M_6
  have K_6 : Keep h0 T_6.heap [a, b] := K_2.trans K_6c (allS (Or.inl (List.mem_of_getElem? (i := 0) rfl)) (allS (Or.inl (List.mem_of_getElem? (i := 1) rfl)) all0))
  have Z_6 : n0 ≤ T_6.heap.size := Nat.le_trans Z_2 K_6c.1
  refine own_st (S' := T_6.setTop (mkF m 16 #[.val (.ref e0_), .val (.ref a)] [])) st_6 ?_
  obtain ⟨fs, hr, hrun, hended, hW, hsame⟩ := X_6.leave (v := none) (fun _ => rfl)
  refine ⟨_, _, X_6.returnOut hx Bd.returns (hb hby d18_16) hr, hrun, hended, _, _, rfl, ?_, ⟨_, rfl⟩, hW, hsame.mono (by decide) (by decide)⟩
  show Q18b Z e0_ a b k vs q v kv us n h0 n0 _ T_6.heap _
  exact ⟨rfl, N_6, K_6, c_6_0, c_6_1⟩
theorem d19_0 : decode prog_20_method_2_code 0 = .ok (.aload_n 0, 1) := by decide +kernel
theorem d19_1 : decode prog_20_method_2_code 1 = .ok (.getfield 19, 3) := by decide +kernel
theorem d19_4 : decode prog_20_method_2_code 4 = .ok (.ireturn, 1) := by decide +kernel
theorem ef_19 (m : MethodId) (a : Addr) : entryFrame m #[(.ref a)] 1 = mkF m 0 #[.val (.ref a)] [] := by first | (simp [entryFrame, mkF, argsToLocals, Value.category]; done) | rfl
def Q19 (Z : State) (a : Addr) (sz : Int32) (h0 : Heap) (n0 : Nat) (v_ : Option Value) (h_ : Heap) (L_ : List Loc) : Prop := v_ = some (.int sz) ∧ Fr n0 L_ ∧ h_ = h0
set_option maxRecDepth 65536 in
set_option maxHeartbeats 40000000 in
theorem rm19 (l : Launch) (Z : State) (a0 : Array Value) (hw : ∀ d ∈ tables_1, d.before a0 Z = true) (ws : List Jvm.Cond) (a : Addr) (sz : Int32) (h0 : Heap) (n0 : Nat) (Z0 : n0 ≤ h0.size) (P0 : Fld Z h0 a "quorumline/FieldWriter" "size" "I" (.int sz)) :
    MetFree l (⟨"quorumline/FieldWriter", "size", "()I"⟩ : MethodName) (head1 (Jvm.Cond.code (⟨"quorumline/FieldWriter", "size", "()I"⟩ : MethodName) prog_20_method_2_code 1 (some .int) :: ws) ({ frames := 0, cells := 0, slots := 0, locals := 0 } : Room)) (fun ar_ U_ => ar_ = #[(.ref a)] ∧ Z.Warmed39 U_.vm ∧ U_.heap = h0) (fun _ _ _ _ _ => True) (fun _ U_ o_ U2_ => ∃ v_ L_, o_ = .returned v_ ∧ Q19 Z a sz h0 n0 v_ U2_.heap L_ ∧ FrameEnd U_ o_ U2_ L_ ({ frames := 0, cells := 0, slots := 0, locals := 0 } : Room).cells ({ frames := 0, cells := 0, slots := 0, locals := 0 } : Room).slots) := by
  refine MetFree.of_bodySF (plainFor_of_name pn_2) hisR ?_
  intro p e s m args below meth c s₁ Bd hml0 hP hK
  obtain ⟨rfl, hZ, hh⟩ := hP
  have hx := Bd.exec
  have hby := Bd.bytes
  have hml : c.maxLocals = 1 := hml0
  have hown : s.vm.findClass "quorumline/FieldWriter" = some m.cls := findClass_of_methodNamed Bd.named
  have hnm := (name_of_methodNamed Bd.named Bd.method).1
  have X0 : Stand p l e ({ frames := 0, cells := 0, slots := 0, locals := 0 } : Room) s m #[(.ref a)] below meth c s₁ [] 0 0 := Stand.of_body Bd
  have e0 : s₁.heap = h0 := by rw [← hh, Bd.state]; rfl
  have N0 := Fr.nil n0
  refine own_gl ?_
  refine own_st (S' := s₁.setTop (mkF m 0 #[.val (.ref a)] [])) (fun t_ k_ => castTop (ef_19 m a) k_) ?_
  refine own_st (S' := s₁.setTop (mkF m 1 #[.val (.ref a)] [(.ref a)])) (fun t_ k_ => XS.aloadN X0.here hx rfl (hb hby d19_0) rfl rfl k_) ?_
  obtain ⟨T_1, X_1, e_1, st_1⟩ := getF X0 hx hZ hown (host := "") (Or.inl (hw _ (List.mem_of_getElem? (i := 49) rfl))) Via.refl e0 P0 (g := (mkF m 1 #[.val (.ref a)] [(.ref a)])) rfl rfl (hb hby d19_1)
  refine own_st (S' := T_1.setTop (mkF m 4 #[.val (.ref a)] [(.int sz)])) st_1 ?_
  obtain ⟨fs, hr, hrun, hended, hW, hsame⟩ := X_1.leave (v := some (.int sz)) (fun h => by rw [Bd.returns] at h; cases h)
  refine ⟨_, _, retI X_1 hx Bd.returns (hb hby d19_4) hr, hrun, hended, _, _, rfl, ?_, ⟨_, rfl⟩, hW, hsame.mono (by decide) (by decide)⟩
  show Q19 Z a sz h0 n0 _ T_1.heap _
  rw [e_1]
  exact ⟨rfl, N0, rfl⟩
theorem pn_4 : plainName "quorumline/EntryBytesPinLaw" = true := by first | (simp [plainName, overriddenIn]; done) | decide +kernel
theorem ef_0 (m : MethodId) (p0 : Int64) (p1 : Int32) (p2 : Int32) : entryFrame m #[(.long p0), (.int p1), (.int p2)] maxLocals = mkF m 0 #[.val (.long p0), .second, .val (.int p1), .val (.int p2), .unset, .unset, .unset, .unset, .unset, .unset, .unset] [] := by first | (simp [entryFrame, mkF, argsToLocals, Value.category, maxLocals]; done) | rfl
theorem pd_10 : parseMethodDescriptor "([B)I" = some ⟨[(.array .byte)], some .int⟩ := by decide +kernel
theorem pd_11 : parseMethodDescriptor "(J[B)V" = some ⟨[.long, (.array .byte)], none⟩ := by decide +kernel
theorem pd_12 : parseMethodDescriptor "(Lquorumline/FieldWriter;)V" = some ⟨[(.object "quorumline/FieldWriter")], none⟩ := by decide +kernel
theorem pd_13 : parseMethodDescriptor "()I" = some ⟨[], some .int⟩ := by decide +kernel
def Q0 (Z : State) (p0 : Int64) (p1 : Int32) (p2 : Int32) (h0 : Heap) (n0 : Nat) (v_ : Option Value) (h_ : Heap) (L_ : List Loc) : Prop := v_ = some (.int (1 : Int32)) ∧ Fr n0 L_
set_option maxRecDepth 65536 in
set_option maxHeartbeats 40000000 in
theorem rm0 (l : Launch) (Z : State) (a0 : Array Value) (hw : ∀ d ∈ tables_1, d.before a0 Z = true) (ws : List Jvm.Cond) (p0 : Int64) (p1 : Int32) (p2 : Int32) (h0 : Heap) (n0 : Nat) (Z0 : n0 ≤ h0.size)  :
    MetFree l x (head1 (Jvm.Cond.code x code maxLocals ret :: ws) room_1) (fun ar_ U_ => ar_ = #[(.long p0), (.int p1), (.int p2)] ∧ Z.Warmed39 U_.vm ∧ U_.heap = h0) (fun _ _ _ _ _ => True) (fun _ U_ o_ U2_ => ∃ v_ L_, o_ = .returned v_ ∧ Q0 Z p0 p1 p2 h0 n0 v_ U2_.heap L_ ∧ FrameEnd U_ o_ U2_ L_ room_1.cells room_1.slots) := by
  refine MetFree.of_bodySF (plainFor_of_name pn_4) hisR ?_
  intro p e s m args below meth c s₁ Bd hml0 hP hK
  obtain ⟨rfl, hZ, hh⟩ := hP
  have hx := Bd.exec
  have hby := Bd.bytes
  have hml : c.maxLocals = 11 := hml0
  have hown : s.vm.findClass "quorumline/EntryBytesPinLaw" = some m.cls := findClass_of_methodNamed Bd.named
  have hnm := (name_of_methodNamed Bd.named Bd.method).1
  have X0 : Stand p l e room_1 s m #[(.long p0), (.int p1), (.int p2)] below meth c s₁ [] 0 0 := Stand.of_body Bd
  have e0 : s₁.heap = h0 := by rw [← hh, Bd.state]; rfl
  have N0 := Fr.nil n0
  refine own_gl ?_
  refine own_st (S' := s₁.setTop (mkF m 0 #[.val (.long p0), .second, .val (.int p1), .val (.int p2), .unset, .unset, .unset, .unset, .unset, .unset, .unset] [])) (fun t_ k_ => castTop (ef_0 m p0 p1 p2) k_) ?_
  refine own_st (S' := s₁.setTop (mkF m 1 #[.val (.long p0), .second, .val (.int p1), .val (.int p2), .unset, .unset, .unset, .unset, .unset, .unset, .unset] [(.int p2)])) (fun t_ k_ => XS.iloadN X0.here hx rfl (hb hby at_0) rfl k_) ?_
  refine own_st (S' := s₁.setTop (mkF m 2 #[.val (.long p0), .second, .val (.int p1), .val (.int p2), .unset, .unset, .unset, .unset, .unset, .unset, .unset] [(.int (1 : Int32)), (.int p2)])) (fun t_ k_ => XS.iconst X0.here hx rfl (hb hby at_1) k_) ?_
  refine own_st (S' := s₁.setTop (mkF m 3 #[.val (.long p0), .second, .val (.int p1), .val (.int p2), .unset, .unset, .unset, .unset, .unset, .unset, .unset] [(.int (p2 &&& (1 : Int32)))])) (fun t_ k_ => XS.iand X0.here hx rfl (hb hby at_2) rfl k_) ?_
  by_cases hc3 : (p2 &&& (1 : Int32)) = (0 : Int32)
  · refine own_st (S' := s₁.setTop (mkF m 10 #[.val (.long p0), .second, .val (.int p1), .val (.int p2), .unset, .unset, .unset, .unset, .unset, .unset, .unset] [])) (fun t_ k_ => XS.ifYes X0.here hx rfl (pc0 := 3) (pc' := 10) rfl (hb hby at_3) rfl ((if0 _ _).trans (teq hc3).1) (by decide) (by decide) k_) ?_
    refine own_st (S' := s₁.setTop (mkF m 11 #[.val (.long p0), .second, .val (.int p1), .val (.int p2), .unset, .unset, .unset, .unset, .unset, .unset, .unset] [(.int (0 : Int32))])) (fun t_ k_ => XS.iconst X0.here hx rfl (hb hby at_10) k_) ?_
    refine own_st (S' := s₁.setTop (mkF m 13 #[.val (.long p0), .second, .val (.int p1), .val (.int p2), .val (.int (0 : Int32)), .unset, .unset, .unset, .unset, .unset, .unset] [])) (fun t_ k_ => XS.istore X0.here hx rfl (hb hby at_11) rfl (l' := #[.val (.long p0), .second, .val (.int p1), .val (.int p2), .val (.int (0 : Int32)), .unset, .unset, .unset, .unset, .unset, .unset]) rfl k_) ?_
    refine own_st (S' := s₁.setTop (mkF m 14 #[.val (.long p0), .second, .val (.int p1), .val (.int p2), .val (.int (0 : Int32)), .unset, .unset, .unset, .unset, .unset, .unset] [(.int p1)])) (fun t_ k_ => XS.iloadN X0.here hx rfl (hb hby at_13) rfl k_) ?_
    refine own_st (S' := s₁.setTop (mkF m 16 #[.val (.long p0), .second, .val (.int p1), .val (.int p2), .val (.int (0 : Int32)), .unset, .unset, .unset, .unset, .unset, .unset] [(.int (63 : Int32)), (.int p1)])) (fun t_ k_ => XS.bipush X0.here hx rfl (hb hby at_14) k_) ?_
    refine own_st (S' := s₁.setTop (mkF m 17 #[.val (.long p0), .second, .val (.int p1), .val (.int p2), .val (.int (0 : Int32)), .unset, .unset, .unset, .unset, .unset, .unset] [(.int (p1 &&& (63 : Int32)))])) (fun t_ k_ => XS.iand X0.here hx rfl (hb hby at_16) rfl k_) ?_
    refine own_st (S' := s₁.setTop (mkF m 19 #[.val (.long p0), .second, .val (.int p1), .val (.int p2), .val (.int (0 : Int32)), .val (.int (p1 &&& (63 : Int32))), .unset, .unset, .unset, .unset, .unset] [])) (fun t_ k_ => XS.istore X0.here hx rfl (hb hby at_17) rfl (l' := #[.val (.long p0), .second, .val (.int p1), .val (.int p2), .val (.int (0 : Int32)), .val (.int (p1 &&& (63 : Int32))), .unset, .unset, .unset, .unset, .unset]) rfl k_) ?_
    refine own_st (S' := s₁.setTop (mkF m 21 #[.val (.long p0), .second, .val (.int p1), .val (.int p2), .val (.int (0 : Int32)), .val (.int (p1 &&& (63 : Int32))), .unset, .unset, .unset, .unset, .unset] [(.int (0 : Int32))])) (fun t_ k_ => XS.iload X0.here hx rfl (hb hby at_19) rfl k_) ?_
    refine own_st (S' := s₁.setTop (mkF m 28 #[.val (.long p0), .second, .val (.int p1), .val (.int p2), .val (.int (0 : Int32)), .val (.int (p1 &&& (63 : Int32))), .unset, .unset, .unset, .unset, .unset] [])) (fun t_ k_ => XS.ifYes X0.here hx rfl (pc0 := 21) (pc' := 28) rfl (hb hby at_21) rfl ((if0 _ _).trans (teq (by decide : (0 : Int32) = (0 : Int32))).1) (by decide) (by decide) k_) ?_
    refine own_st (S' := s₁.setTop (mkF m 30 #[.val (.long p0), .second, .val (.int p1), .val (.int p2), .val (.int (0 : Int32)), .val (.int (p1 &&& (63 : Int32))), .unset, .unset, .unset, .unset, .unset] [(.int (p1 &&& (63 : Int32)))])) (fun t_ k_ => XS.iload X0.here hx rfl (hb hby at_28) rfl k_) ?_
    obtain ⟨T_1, h_1, k_1, X_1, e_1, E_1, A_1, st_1⟩ := newP X0 hx hZ (hw _ (List.mem_of_getElem? (i := 32) rfl)) e0 (g := (mkF m 30 #[.val (.long p0), .second, .val (.int p1), .val (.int p2), .val (.int (0 : Int32)), .val (.int (p1 &&& (63 : Int32))), .unset, .unset, .unset, .unset, .unset] [(.int (p1 &&& (63 : Int32)))])) rfl (hb hby at_30) rfl (own_n p1).1 (cap := 63) (own_cap (own_n p1).1 (own_n p1).2) (by decide) (by decide) (by decide)
    obtain ⟨b_1, gg_1⟩ : ∃ z, z = h0.size := ⟨_, rfl⟩
    rw [← gg_1] at A_1 st_1
    have g_b_1 : n0 ≤ b_1 := Nat.le_trans Z0 (Nat.le_of_eq gg_1.symm)
    have Z_1 : n0 ≤ h_1.size := Nat.le_trans Z0 E_1.1
    have V_1 : Arv Z h_1 b_1 k_1 .byte (p1 &&& (63 : Int32)) [] (.int (0 : Int32)) := Arv.new A_1 (own_n p1).1
    refine own_st (S' := T_1.setTop (mkF m 32 #[.val (.long p0), .second, .val (.int p1), .val (.int p2), .val (.int (0 : Int32)), .val (.int (p1 &&& (63 : Int32))), .unset, .unset, .unset, .unset, .unset] [(.ref b_1)])) st_1 ?_
    refine own_st (S' := T_1.setTop (mkF m 34 #[.val (.long p0), .second, .val (.int p1), .val (.int p2), .val (.int (0 : Int32)), .val (.int (p1 &&& (63 : Int32))), .val (.ref b_1), .unset, .unset, .unset, .unset] [])) (fun t_ k_ => XS.astore X_1.here hx rfl (hb hby at_32) rfl rfl (l' := #[.val (.long p0), .second, .val (.int p1), .val (.int p2), .val (.int (0 : Int32)), .val (.int (p1 &&& (63 : Int32))), .val (.ref b_1), .unset, .unset, .unset, .unset]) rfl k_) ?_
    refine own_st (S' := T_1.setTop (mkF m 36 #[.val (.long p0), .second, .val (.int p1), .val (.int p2), .val (.int (0 : Int32)), .val (.int (p1 &&& (63 : Int32))), .val (.ref b_1), .unset, .unset, .unset, .unset] [(.int (0 : Int32))])) (fun t_ k_ => XS.iload X_1.here hx rfl (hb hby at_34) rfl k_) ?_
    refine own_st (S' := T_1.setTop (mkF m 44 #[.val (.long p0), .second, .val (.int p1), .val (.int p2), .val (.int (0 : Int32)), .val (.int (p1 &&& (63 : Int32))), .val (.ref b_1), .unset, .unset, .unset, .unset] [])) (fun t_ k_ => XS.ifYes X_1.here hx rfl (pc0 := 36) (pc' := 44) rfl (hb hby at_36) rfl ((if0 _ _).trans (teq (by decide : (0 : Int32) = (0 : Int32))).1) (by decide) (by decide) k_) ?_
    refine own_st (S' := T_1.setTop (mkF m 46 #[.val (.long p0), .second, .val (.int p1), .val (.int p2), .val (.int (0 : Int32)), .val (.int (p1 &&& (63 : Int32))), .val (.ref b_1), .unset, .unset, .unset, .unset] [(.int (12 : Int32))])) (fun t_ k_ => XS.bipush X_1.here hx rfl (hb hby at_44) k_) ?_
    refine own_st (S' := T_1.setTop (mkF m 48 #[.val (.long p0), .second, .val (.int p1), .val (.int p2), .val (.int (0 : Int32)), .val (.int (p1 &&& (63 : Int32))), .val (.ref b_1), .unset, .unset, .unset, .unset] [(.int (p1 &&& (63 : Int32))), (.int (12 : Int32))])) (fun t_ k_ => XS.iload X_1.here hx rfl (hb hby at_46) rfl k_) ?_
    refine own_st (S' := T_1.setTop (mkF m 49 #[.val (.long p0), .second, .val (.int p1), .val (.int p2), .val (.int (0 : Int32)), .val (.int (p1 &&& (63 : Int32))), .val (.ref b_1), .unset, .unset, .unset, .unset] [(.int ((12 : Int32) + (p1 &&& (63 : Int32))))])) (fun t_ k_ => XS.iadd X_1.here hx rfl (hb hby at_48) rfl k_) ?_
    refine own_st (S' := T_1.setTop (mkF m 51 #[.val (.long p0), .second, .val (.int p1), .val (.int p2), .val (.int (0 : Int32)), .val (.int (p1 &&& (63 : Int32))), .val (.ref b_1), .val (.int ((12 : Int32) + (p1 &&& (63 : Int32)))), .unset, .unset, .unset] [])) (fun t_ k_ => XS.istore X_1.here hx rfl (hb hby at_49) rfl (l' := #[.val (.long p0), .second, .val (.int p1), .val (.int p2), .val (.int (0 : Int32)), .val (.int (p1 &&& (63 : Int32))), .val (.ref b_1), .val (.int ((12 : Int32) + (p1 &&& (63 : Int32)))), .unset, .unset, .unset]) rfl k_) ?_
    refine own_st (S' := T_1.setTop (mkF m 53 #[.val (.long p0), .second, .val (.int p1), .val (.int p2), .val (.int (0 : Int32)), .val (.int (p1 &&& (63 : Int32))), .val (.ref b_1), .val (.int ((12 : Int32) + (p1 &&& (63 : Int32)))), .unset, .unset, .unset] [(.ref b_1)])) (fun t_ k_ => XS.aload X_1.here hx rfl (hb hby at_51) rfl rfl k_) ?_
    obtain ⟨_, _, ⟨T_2, L_2, k_2, n_2⟩, -, X_2, ⟨Lc_2, hQ_2, l_2, y_2, z_2⟩, st_2⟩ := Jvm.LawKit.callS X_1 hx (y := (⟨"quorumline/Entry", "bytes", "([B)I"⟩ : MethodName)) hown (mvT hZ (hw _ (List.mem_of_getElem? (i := 0) rfl))) (mvT hZ (hw _ (List.mem_of_getElem? (i := 1) rfl))) (mvT hZ (hw _ (List.mem_of_getElem? (i := 2) rfl))) (mvT hZ (hw _ (List.mem_of_getElem? (i := 3) rfl))) (by decide) (backOf (W := 0) (rm1b l Z a0 hw [] b_1 k_1 (p1 &&& (63 : Int32)) [] h_1 n0 Z_1 V_1) hZ (hw _ (List.mem_of_getElem? (i := 3) rfl)) (hw _ (List.mem_of_getElem? (i := 2) rfl)) (by decide) (by decide)) (g := (mkF m 53 #[.val (.long p0), .second, .val (.int p1), .val (.int p2), .val (.int (0 : Int32)), .val (.int (p1 &&& (63 : Int32))), .val (.ref b_1), .val (.int ((12 : Int32) + (p1 &&& (63 : Int32)))), .unset, .unset, .unset] [(.ref b_1)])) rfl (by rw [hml]; rfl) (argsL := [(.ref b_1)]) (rest := []) (lenOf pd_10 rfl) rfl (by show 2 * 0 + _ ≤ _; exact Nat.le_of_eq rfl) (hb hby at_53) (fun _ _ => ⟨rfl, e_1, (by decide : 1 + 0 ≤ _), (by decide : 63 + 0 ≤ _)⟩)
    dsimp only [Pt.U, Pt.locs, Pt.cells, Pt.slots] at X_2 l_2 y_2 z_2 st_2 hQ_2
    subst l_2 y_2 z_2
    obtain ⟨rfl, M_2, q_2⟩ := hQ_2
    have N_2 := Fr.app N0 M_2
    refine own_st (S' := T_2.setTop (mkF m 56 #[.val (.long p0), .second, .val (.int p1), .val (.int p2), .val (.int (0 : Int32)), .val (.int (p1 &&& (63 : Int32))), .val (.ref b_1), .val (.int ((12 : Int32) + (p1 &&& (63 : Int32)))), .unset, .unset, .unset] [(.int ((12 : Int32) + (p1 &&& (63 : Int32))))])) st_2 ?_
    refine own_st (S' := T_2.setTop (mkF m 58 #[.val (.long p0), .second, .val (.int p1), .val (.int p2), .val (.int (0 : Int32)), .val (.int (p1 &&& (63 : Int32))), .val (.ref b_1), .val (.int ((12 : Int32) + (p1 &&& (63 : Int32)))), .val (.int ((12 : Int32) + (p1 &&& (63 : Int32)))), .unset, .unset] [])) (fun t_ k_ => XS.istore X_2.here hx rfl (hb hby at_56) rfl (l' := #[.val (.long p0), .second, .val (.int p1), .val (.int p2), .val (.int (0 : Int32)), .val (.int (p1 &&& (63 : Int32))), .val (.ref b_1), .val (.int ((12 : Int32) + (p1 &&& (63 : Int32)))), .val (.int ((12 : Int32) + (p1 &&& (63 : Int32)))), .unset, .unset]) rfl k_) ?_
    obtain ⟨T_3, h_3, X_3, e_3, E_3, A_3, D_3, -, st_3⟩ := newO X_2 hx hZ hown (hw _ (List.mem_of_getElem? (i := 4) rfl)) (hw _ (List.mem_of_getElem? (i := 5) rfl)) (hw _ (List.mem_of_getElem? (i := 2) rfl)) q_2 (g := (mkF m 58 #[.val (.long p0), .second, .val (.int p1), .val (.int p2), .val (.int (0 : Int32)), .val (.int (p1 &&& (63 : Int32))), .val (.ref b_1), .val (.int ((12 : Int32) + (p1 &&& (63 : Int32)))), .val (.int ((12 : Int32) + (p1 &&& (63 : Int32)))), .unset, .unset] [])) rfl (hb hby at_58) (by decide) (by decide)
    obtain ⟨b_3, gg_3⟩ : ∃ z, z = h_1.size := ⟨_, rfl⟩
    rw [← gg_3] at A_3 D_3 st_3
    have ne_b_1_b_3 : b_1 ≠ b_3 := Nat.ne_of_lt (Nat.lt_of_lt_of_le V_1.lt (Nat.le_of_eq gg_3.symm))
    have g_b_3 : n0 ≤ b_3 := Nat.le_trans Z_1 (Nat.le_of_eq gg_3.symm)
    have Z_3 : n0 ≤ h_3.size := Nat.le_trans Z_1 E_3.1
    have F_3_term : Fld Z h_3 b_3 "quorumline/Entry" "term" "J" (.long (0 : Int64)) := D_3 (Or.inr (hw _ (List.mem_of_getElem? (i := 18) rfl))) (ty := .long) (by decide)
    have F_3_value : Fld Z h_3 b_3 "quorumline/Entry" "value" "[B" .null := D_3 (Or.inr (hw _ (List.mem_of_getElem? (i := 20) rfl))) (ty := (.array .byte)) (by decide)
    refine own_st (S' := T_3.setTop (mkF m 61 #[.val (.long p0), .second, .val (.int p1), .val (.int p2), .val (.int (0 : Int32)), .val (.int (p1 &&& (63 : Int32))), .val (.ref b_1), .val (.int ((12 : Int32) + (p1 &&& (63 : Int32)))), .val (.int ((12 : Int32) + (p1 &&& (63 : Int32)))), .unset, .unset] [(.ref b_3)])) st_3 ?_
    refine own_st (S' := T_3.setTop (mkF m 62 #[.val (.long p0), .second, .val (.int p1), .val (.int p2), .val (.int (0 : Int32)), .val (.int (p1 &&& (63 : Int32))), .val (.ref b_1), .val (.int ((12 : Int32) + (p1 &&& (63 : Int32)))), .val (.int ((12 : Int32) + (p1 &&& (63 : Int32)))), .unset, .unset] [(.ref b_3), (.ref b_3)])) (fun t_ k_ => XS.dup X_3.here hx rfl (hb hby at_61) rfl rfl k_) ?_
    refine own_st (S' := T_3.setTop (mkF m 63 #[.val (.long p0), .second, .val (.int p1), .val (.int p2), .val (.int (0 : Int32)), .val (.int (p1 &&& (63 : Int32))), .val (.ref b_1), .val (.int ((12 : Int32) + (p1 &&& (63 : Int32)))), .val (.int ((12 : Int32) + (p1 &&& (63 : Int32)))), .unset, .unset] [(.long p0), (.ref b_3), (.ref b_3)])) (fun t_ k_ => XS.lloadN X_3.here hx rfl (hb hby at_62) rfl k_) ?_
    refine own_st (S' := T_3.setTop (mkF m 65 #[.val (.long p0), .second, .val (.int p1), .val (.int p2), .val (.int (0 : Int32)), .val (.int (p1 &&& (63 : Int32))), .val (.ref b_1), .val (.int ((12 : Int32) + (p1 &&& (63 : Int32)))), .val (.int ((12 : Int32) + (p1 &&& (63 : Int32)))), .unset, .unset] [(.ref b_1), (.long p0), (.ref b_3), (.ref b_3)])) (fun t_ k_ => XS.aload X_3.here hx rfl (hb hby at_63) rfl rfl k_) ?_
    have f_4 : Arv Z h_3 b_1 k_1 .byte (p1 &&& (63 : Int32)) [] (.int (0 : Int32)) := (V_1.ext E_3)
    obtain ⟨_, _, ⟨T_5, L_5, k_5, n_5⟩, -, X_5, ⟨Lc_5, hQ_5, l_5, y_5, z_5⟩, st_5⟩ := X_3.specialBack hx (y := (⟨"quorumline/Entry", "<init>", "(J[B)V"⟩ : MethodName)) rfl hown (mvT hZ (hw _ (List.mem_of_getElem? (i := 6) rfl))) (mvT hZ (hw _ (List.mem_of_getElem? (i := 7) rfl))) (mvT hZ (hw _ (List.mem_of_getElem? (i := 8) rfl))) (by decide) (backOf (W := 1) (rm4b l Z a0 hw [] b_3 p0 b_1 k_1 (p1 &&& (63 : Int32)) [] h_3 n0 Z_3 A_3 F_3_term F_3_value f_4 g_b_3 (own_big (own_n p1).1 (own_n p1).2)) hZ (hw _ (List.mem_of_getElem? (i := 8) rfl)) (hw _ (List.mem_of_getElem? (i := 2) rfl)) (by decide) (by decide)) (g := (mkF m 65 #[.val (.long p0), .second, .val (.int p1), .val (.int p2), .val (.int (0 : Int32)), .val (.int (p1 &&& (63 : Int32))), .val (.ref b_1), .val (.int ((12 : Int32) + (p1 &&& (63 : Int32)))), .val (.int ((12 : Int32) + (p1 &&& (63 : Int32)))), .unset, .unset] [(.ref b_1), (.long p0), (.ref b_3), (.ref b_3)])) rfl (by rw [hml]; rfl) (Steps.refl _) (a := b_3) (argsL := [(.long p0), (.ref b_1)]) (rest := [(.ref b_3)]) (lenOf pd_11 rfl) rfl (by show 2 * 0 + _ ≤ _; exact Nat.le_of_eq rfl) (hb hby at_65) (fun _ _ => ⟨rfl, e_3, (by decide : 2 + 0 ≤ _), (by decide : 65 + 0 ≤ _)⟩)
    dsimp only [Pt.U, Pt.locs, Pt.cells, Pt.slots] at X_5 l_5 y_5 z_5 st_5 hQ_5
    subst l_5 y_5 z_5
    obtain ⟨rfl, M_5, K_5c, c_5_0, c_5_1, c_5_2⟩ := hQ_5
    have N_5 := Fr.app N_2 M_5
    have Z_5 : n0 ≤ T_5.heap.size := Nat.le_trans Z_3 K_5c.1
    refine own_st (S' := T_5.setTop (mkF m 68 #[.val (.long p0), .second, .val (.int p1), .val (.int p2), .val (.int (0 : Int32)), .val (.int (p1 &&& (63 : Int32))), .val (.ref b_1), .val (.int ((12 : Int32) + (p1 &&& (63 : Int32)))), .val (.int ((12 : Int32) + (p1 &&& (63 : Int32)))), .unset, .unset] [(.ref b_3)])) (fun t_ k_ => st_5.trans k_) ?_
    refine own_st (S' := T_5.setTop (mkF m 70 #[.val (.long p0), .second, .val (.int p1), .val (.int p2), .val (.int (0 : Int32)), .val (.int (p1 &&& (63 : Int32))), .val (.ref b_1), .val (.int ((12 : Int32) + (p1 &&& (63 : Int32)))), .val (.int ((12 : Int32) + (p1 &&& (63 : Int32)))), .val (.ref b_3), .unset] [])) (fun t_ k_ => XS.astore X_5.here hx rfl (hb hby at_68) rfl rfl (l' := #[.val (.long p0), .second, .val (.int p1), .val (.int p2), .val (.int (0 : Int32)), .val (.int (p1 &&& (63 : Int32))), .val (.ref b_1), .val (.int ((12 : Int32) + (p1 &&& (63 : Int32)))), .val (.int ((12 : Int32) + (p1 &&& (63 : Int32)))), .val (.ref b_3), .unset]) rfl k_) ?_
    have f_6 : Arv Z T_5.heap b_1 k_1 .byte (p1 &&& (63 : Int32)) [] (.int (0 : Int32)) := (f_4.keep K_5c (ninS ne_b_1_b_3 nin0))
    obtain ⟨T_7, h_7, X_7, e_7, E_7, A_7, D_7, -, st_7⟩ := newO X_5 hx hZ hown (hw _ (List.mem_of_getElem? (i := 21) rfl)) (hw _ (List.mem_of_getElem? (i := 22) rfl)) (hw _ (List.mem_of_getElem? (i := 23) rfl)) rfl (g := (mkF m 70 #[.val (.long p0), .second, .val (.int p1), .val (.int p2), .val (.int (0 : Int32)), .val (.int (p1 &&& (63 : Int32))), .val (.ref b_1), .val (.int ((12 : Int32) + (p1 &&& (63 : Int32)))), .val (.int ((12 : Int32) + (p1 &&& (63 : Int32)))), .val (.ref b_3), .unset] [])) rfl (hb hby at_70) (by decide) (by decide)
    obtain ⟨b_7, gg_7⟩ : ∃ z, z = T_5.heap.size := ⟨_, rfl⟩
    rw [← gg_7] at A_7 D_7 st_7
    have ne_b_1_b_7 : b_1 ≠ b_7 := Nat.ne_of_lt (Nat.lt_of_lt_of_le f_6.lt (Nat.le_of_eq gg_7.symm))
    have ne_b_3_b_7 : b_3 ≠ b_7 := Nat.ne_of_lt (Nat.lt_of_lt_of_le c_5_0.lt (Nat.le_of_eq gg_7.symm))
    have g_b_7 : n0 ≤ b_7 := Nat.le_trans Z_5 (Nat.le_of_eq gg_7.symm)
    have Z_7 : n0 ≤ h_7.size := Nat.le_trans Z_5 E_7.1
    have F_7_bytes : Fld Z h_7 b_7 "quorumline/FieldWriter" "bytes" "[B" .null := D_7 (Or.inl (hw _ (List.mem_of_getElem? (i := 34) rfl))) (ty := (.array .byte)) (by decide)
    have F_7_size : Fld Z h_7 b_7 "quorumline/FieldWriter" "size" "I" (.int (0 : Int32)) := D_7 (Or.inl (hw _ (List.mem_of_getElem? (i := 50) rfl))) (ty := .int) (by decide)
    refine own_st (S' := T_7.setTop (mkF m 73 #[.val (.long p0), .second, .val (.int p1), .val (.int p2), .val (.int (0 : Int32)), .val (.int (p1 &&& (63 : Int32))), .val (.ref b_1), .val (.int ((12 : Int32) + (p1 &&& (63 : Int32)))), .val (.int ((12 : Int32) + (p1 &&& (63 : Int32)))), .val (.ref b_3), .unset] [(.ref b_7)])) st_7 ?_
    refine own_st (S' := T_7.setTop (mkF m 74 #[.val (.long p0), .second, .val (.int p1), .val (.int p2), .val (.int (0 : Int32)), .val (.int (p1 &&& (63 : Int32))), .val (.ref b_1), .val (.int ((12 : Int32) + (p1 &&& (63 : Int32)))), .val (.int ((12 : Int32) + (p1 &&& (63 : Int32)))), .val (.ref b_3), .unset] [(.ref b_7), (.ref b_7)])) (fun t_ k_ => XS.dup X_7.here hx rfl (hb hby at_73) rfl rfl k_) ?_
    refine own_st (S' := T_7.setTop (mkF m 75 #[.val (.long p0), .second, .val (.int p1), .val (.int p2), .val (.int (0 : Int32)), .val (.int (p1 &&& (63 : Int32))), .val (.ref b_1), .val (.int ((12 : Int32) + (p1 &&& (63 : Int32)))), .val (.int ((12 : Int32) + (p1 &&& (63 : Int32)))), .val (.ref b_3), .unset] [(.int (0 : Int32)), (.ref b_7), (.ref b_7)])) (fun t_ k_ => XS.iconst X_7.here hx rfl (hb hby at_74) k_) ?_
    have f_8 : Arv Z h_7 b_1 k_1 .byte (p1 &&& (63 : Int32)) [] (.int (0 : Int32)) := (f_6.ext E_7)
    have f_9 : Exa Z h_7 b_3 "quorumline/Entry" := (Exa.ext E_7 c_5_0)
    obtain ⟨_, _, ⟨T_10, L_10, k_10, n_10⟩, -, X_10, ⟨Lc_10, hQ_10, l_10, y_10, z_10⟩, st_10⟩ := X_7.specialBack hx (y := (⟨"quorumline/FieldWriter", "<init>", "(I)V"⟩ : MethodName)) rfl hown (mvT hZ (hw _ (List.mem_of_getElem? (i := 24) rfl))) (mvT hZ (hw _ (List.mem_of_getElem? (i := 25) rfl))) (mvT hZ (hw _ (List.mem_of_getElem? (i := 26) rfl))) (by decide) (backOf (W := 1) (rm9 l Z a0 hw [] b_7 h_7 n0 Z_7 A_7 F_7_bytes F_7_size g_b_7) hZ (hw _ (List.mem_of_getElem? (i := 26) rfl)) (hw _ (List.mem_of_getElem? (i := 23) rfl)) (by decide) (by decide)) (g := (mkF m 75 #[.val (.long p0), .second, .val (.int p1), .val (.int p2), .val (.int (0 : Int32)), .val (.int (p1 &&& (63 : Int32))), .val (.ref b_1), .val (.int ((12 : Int32) + (p1 &&& (63 : Int32)))), .val (.int ((12 : Int32) + (p1 &&& (63 : Int32)))), .val (.ref b_3), .unset] [(.int (0 : Int32)), (.ref b_7), (.ref b_7)])) rfl (by rw [hml]; rfl) (Steps.refl _) (a := b_7) (argsL := [(.int (0 : Int32))]) (rest := [(.ref b_7)]) (lenOf pd_5 rfl) rfl (by show 2 * 0 + _ ≤ _; exact Nat.le_of_eq rfl) (hb hby at_75) (fun _ _ => ⟨rfl, e_7, (by decide : 3 + 1 ≤ _), (by decide : 67 + 16 ≤ _)⟩)
    dsimp only [Pt.U, Pt.locs, Pt.cells, Pt.slots] at X_10 l_10 y_10 z_10 st_10 hQ_10
    subst l_10 y_10 z_10
    obtain ⟨x_10_b, x_10_k, x_10_vs, rfl, M_10, K_10c, z_10_0, c_10_0, c_10_1, c_10_2, c_10_3⟩ := hQ_10
    have N_10 := Fr.app N_5 M_10
    have ne_b_1_x_10_b : b_1 ≠ x_10_b := Nat.ne_of_lt (Nat.lt_of_lt_of_le f_8.lt z_10_0)
    have ne_b_3_x_10_b : b_3 ≠ x_10_b := Nat.ne_of_lt (Nat.lt_of_lt_of_le f_9.lt z_10_0)
    have ne_b_7_x_10_b : b_7 ≠ x_10_b := Nat.ne_of_lt (Nat.lt_of_lt_of_le A_7.lt z_10_0)
    have g_x_10_b : n0 ≤ x_10_b := Nat.le_trans Z_7 z_10_0
    have Z_10 : n0 ≤ T_10.heap.size := Nat.le_trans Z_7 K_10c.1
    refine own_st (S' := T_10.setTop (mkF m 78 #[.val (.long p0), .second, .val (.int p1), .val (.int p2), .val (.int (0 : Int32)), .val (.int (p1 &&& (63 : Int32))), .val (.ref b_1), .val (.int ((12 : Int32) + (p1 &&& (63 : Int32)))), .val (.int ((12 : Int32) + (p1 &&& (63 : Int32)))), .val (.ref b_3), .unset] [(.ref b_7)])) (fun t_ k_ => st_10.trans k_) ?_
    refine own_st (S' := T_10.setTop (mkF m 80 #[.val (.long p0), .second, .val (.int p1), .val (.int p2), .val (.int (0 : Int32)), .val (.int (p1 &&& (63 : Int32))), .val (.ref b_1), .val (.int ((12 : Int32) + (p1 &&& (63 : Int32)))), .val (.int ((12 : Int32) + (p1 &&& (63 : Int32)))), .val (.ref b_3), .val (.ref b_7)] [])) (fun t_ k_ => XS.astore X_10.here hx rfl (hb hby at_78) rfl rfl (l' := #[.val (.long p0), .second, .val (.int p1), .val (.int p2), .val (.int (0 : Int32)), .val (.int (p1 &&& (63 : Int32))), .val (.ref b_1), .val (.int ((12 : Int32) + (p1 &&& (63 : Int32)))), .val (.int ((12 : Int32) + (p1 &&& (63 : Int32)))), .val (.ref b_3), .val (.ref b_7)]) rfl k_) ?_
    refine own_st (S' := T_10.setTop (mkF m 82 #[.val (.long p0), .second, .val (.int p1), .val (.int p2), .val (.int (0 : Int32)), .val (.int (p1 &&& (63 : Int32))), .val (.ref b_1), .val (.int ((12 : Int32) + (p1 &&& (63 : Int32)))), .val (.int ((12 : Int32) + (p1 &&& (63 : Int32)))), .val (.ref b_3), .val (.ref b_7)] [(.ref b_3)])) (fun t_ k_ => XS.aload X_10.here hx rfl (hb hby at_80) rfl rfl k_) ?_
    refine own_st (S' := T_10.setTop (mkF m 84 #[.val (.long p0), .second, .val (.int p1), .val (.int p2), .val (.int (0 : Int32)), .val (.int (p1 &&& (63 : Int32))), .val (.ref b_1), .val (.int ((12 : Int32) + (p1 &&& (63 : Int32)))), .val (.int ((12 : Int32) + (p1 &&& (63 : Int32)))), .val (.ref b_3), .val (.ref b_7)] [(.ref b_7), (.ref b_3)])) (fun t_ k_ => XS.aload X_10.here hx rfl (hb hby at_82) rfl rfl k_) ?_
    have f_11 : Fld Z T_10.heap b_3 "quorumline/Entry" "term" "J" (.long p0) := ((Fld.ext E_7 c_5_1).keep K_10c (ninS ne_b_3_b_7 nin0))
    have f_12 : Fld Z T_10.heap b_3 "quorumline/Entry" "value" "[B" (.ref b_1) := ((Fld.ext E_7 c_5_2).keep K_10c (ninS ne_b_3_b_7 nin0))
    have f_13 : Arv Z T_10.heap b_1 k_1 .byte (p1 &&& (63 : Int32)) [] (.int (0 : Int32)) := (f_8.keep K_10c (ninS ne_b_1_b_7 nin0))
    have f_15 : Exa Z T_10.heap b_3 "quorumline/Entry" := (f_9.keep K_10c)
    obtain ⟨cq_14, kq_14, q_14a, q_14b, q_14c⟩ := isOf hZ rfl f_15
    obtain ⟨_, _, ⟨T_14, L_14, k_14, n_14⟩, -, X_14, ⟨Lc_14, hQ_14, l_14, y_14, z_14⟩, st_14⟩ := X_10.virtualBack hx (y := (⟨"quorumline/Entry", "write", "(Lquorumline/FieldWriter;)V"⟩ : MethodName)) (z := (⟨"quorumline/Entry", "write", "(Lquorumline/FieldWriter;)V"⟩ : MethodName)) hown (mvT hZ (hw _ (List.mem_of_getElem? (i := 35) rfl))) (mvT hZ (hw _ (List.mem_of_getElem? (i := 36) rfl))) (notFace_of_selects (args := #[]) (mvT hZ (hw _ (List.mem_of_getElem? (i := 38) rfl)))) (mvT hZ (hw _ (List.mem_of_getElem? (i := 38) rfl))) (mvT hZ (hw _ (List.mem_of_getElem? (i := 37) rfl))) (by decide) (backOf (W := 0) (rm18b l Z a0 hw [] b_3 b_7 x_10_b x_10_k x_10_vs p0 b_1 k_1 [] (p1 &&& (63 : Int32)) T_10.heap n0 Z_10 c_10_0 c_10_1 c_10_3 c_10_2 f_11 f_12 f_13 g_b_7 g_x_10_b ne_b_7_x_10_b ne_b_3_b_7 ne_b_3_x_10_b (Ne.symm ne_b_1_b_7) ne_b_1_x_10_b (own_n p1).1 (own_n p1).2) hZ (hw _ (List.mem_of_getElem? (i := 39) rfl)) (hw _ (List.mem_of_getElem? (i := 2) rfl)) (by decide) (by decide)) q_14a q_14c (g := (mkF m 84 #[.val (.long p0), .second, .val (.int p1), .val (.int p2), .val (.int (0 : Int32)), .val (.int (p1 &&& (63 : Int32))), .val (.ref b_1), .val (.int ((12 : Int32) + (p1 &&& (63 : Int32)))), .val (.int ((12 : Int32) + (p1 &&& (63 : Int32)))), .val (.ref b_3), .val (.ref b_7)] [(.ref b_7), (.ref b_3)])) rfl (by rw [hml]; rfl) (Steps.refl _) (argsL := [(.ref b_7)]) (rest := []) (lenOf pd_12 rfl) rfl (by show 2 * 0 + _ ≤ _; exact Nat.le_of_eq rfl) (hb hby at_84) (fun _ _ => ⟨rfl, rfl, (by decide : 4 + 1 ≤ _), (by decide : 83 + 75 ≤ _)⟩)
    dsimp only [Pt.U, Pt.locs, Pt.cells, Pt.slots] at X_14 l_14 y_14 z_14 st_14 hQ_14
    subst l_14 y_14 z_14
    obtain ⟨rfl, M_14, K_14c, c_14_0, c_14_1⟩ := hQ_14
    have N_14 := Fr.app N_10 M_14
    have Z_14 : n0 ≤ T_14.heap.size := Nat.le_trans Z_10 K_14c.1
    refine own_st (S' := T_14.setTop (mkF m 87 #[.val (.long p0), .second, .val (.int p1), .val (.int p2), .val (.int (0 : Int32)), .val (.int (p1 &&& (63 : Int32))), .val (.ref b_1), .val (.int ((12 : Int32) + (p1 &&& (63 : Int32)))), .val (.int ((12 : Int32) + (p1 &&& (63 : Int32)))), .val (.ref b_3), .val (.ref b_7)] [])) (fun t_ k_ => st_14.trans k_) ?_
    refine own_st (S' := T_14.setTop (mkF m 89 #[.val (.long p0), .second, .val (.int p1), .val (.int p2), .val (.int (0 : Int32)), .val (.int (p1 &&& (63 : Int32))), .val (.ref b_1), .val (.int ((12 : Int32) + (p1 &&& (63 : Int32)))), .val (.int ((12 : Int32) + (p1 &&& (63 : Int32)))), .val (.ref b_3), .val (.ref b_7)] [(.int ((12 : Int32) + (p1 &&& (63 : Int32))))])) (fun t_ k_ => XS.iload X_14.here hx rfl (hb hby at_87) rfl k_) ?_
    refine own_st (S' := T_14.setTop (mkF m 91 #[.val (.long p0), .second, .val (.int p1), .val (.int p2), .val (.int (0 : Int32)), .val (.int (p1 &&& (63 : Int32))), .val (.ref b_1), .val (.int ((12 : Int32) + (p1 &&& (63 : Int32)))), .val (.int ((12 : Int32) + (p1 &&& (63 : Int32)))), .val (.ref b_3), .val (.ref b_7)] [(.int ((12 : Int32) + (p1 &&& (63 : Int32)))), (.int ((12 : Int32) + (p1 &&& (63 : Int32))))])) (fun t_ k_ => XS.iload X_14.here hx rfl (hb hby at_89) rfl k_) ?_
    refine own_st (S' := T_14.setTop (mkF m 94 #[.val (.long p0), .second, .val (.int p1), .val (.int p2), .val (.int (0 : Int32)), .val (.int (p1 &&& (63 : Int32))), .val (.ref b_1), .val (.int ((12 : Int32) + (p1 &&& (63 : Int32)))), .val (.int ((12 : Int32) + (p1 &&& (63 : Int32)))), .val (.ref b_3), .val (.ref b_7)] [])) (fun t_ k_ => XS.icmpNo X_14.here hx rfl (hb hby at_91) rfl (teq (rfl : ((12 : Int32) + (p1 &&& (63 : Int32))) = ((12 : Int32) + (p1 &&& (63 : Int32))))).2 k_) ?_
    refine own_st (S' := T_14.setTop (mkF m 96 #[.val (.long p0), .second, .val (.int p1), .val (.int p2), .val (.int (0 : Int32)), .val (.int (p1 &&& (63 : Int32))), .val (.ref b_1), .val (.int ((12 : Int32) + (p1 &&& (63 : Int32)))), .val (.int ((12 : Int32) + (p1 &&& (63 : Int32)))), .val (.ref b_3), .val (.ref b_7)] [(.ref b_7)])) (fun t_ k_ => XS.aload X_14.here hx rfl (hb hby at_94) rfl rfl k_) ?_
    obtain ⟨cq_16, kq_16, q_16a, q_16b, q_16c⟩ := isOf hZ rfl c_14_0
    obtain ⟨_, _, ⟨T_16, L_16, k_16, n_16⟩, -, X_16, ⟨Lc_16, hQ_16, l_16, y_16, z_16⟩, st_16⟩ := X_14.virtualBack hx (y := (⟨"quorumline/FieldWriter", "size", "()I"⟩ : MethodName)) (z := (⟨"quorumline/FieldWriter", "size", "()I"⟩ : MethodName)) hown (mvT hZ (hw _ (List.mem_of_getElem? (i := 63) rfl))) (mvT hZ (hw _ (List.mem_of_getElem? (i := 64) rfl))) (notFace_of_selects (args := #[]) (mvT hZ (hw _ (List.mem_of_getElem? (i := 66) rfl)))) (mvT hZ (hw _ (List.mem_of_getElem? (i := 66) rfl))) (mvT hZ (hw _ (List.mem_of_getElem? (i := 65) rfl))) (by decide) (backOf (W := 0) (rm19 l Z a0 hw [] b_7 ((12 : Int32) + (p1 &&& (63 : Int32))) T_14.heap n0 Z_14 c_14_1) hZ (hw _ (List.mem_of_getElem? (i := 67) rfl)) (hw _ (List.mem_of_getElem? (i := 23) rfl)) (by decide) (by decide)) q_16a q_16c (g := (mkF m 96 #[.val (.long p0), .second, .val (.int p1), .val (.int p2), .val (.int (0 : Int32)), .val (.int (p1 &&& (63 : Int32))), .val (.ref b_1), .val (.int ((12 : Int32) + (p1 &&& (63 : Int32)))), .val (.int ((12 : Int32) + (p1 &&& (63 : Int32)))), .val (.ref b_3), .val (.ref b_7)] [(.ref b_7)])) rfl (by rw [hml]; rfl) (Steps.refl _) (argsL := []) (rest := []) (lenOf pd_13 rfl) rfl (by show 2 * 0 + _ ≤ _; exact Nat.le_of_eq rfl) (hb hby at_96) (fun _ _ => ⟨rfl, rfl, (by decide : 5 + 0 ≤ _), (by decide : 158 + 0 ≤ _)⟩)
    dsimp only [Pt.U, Pt.locs, Pt.cells, Pt.slots] at X_16 l_16 y_16 z_16 st_16 hQ_16
    subst l_16 y_16 z_16
    obtain ⟨rfl, M_16, q_16⟩ := hQ_16
    have N_16 := Fr.app N_14 M_16
    refine own_st (S' := T_16.setTop (mkF m 99 #[.val (.long p0), .second, .val (.int p1), .val (.int p2), .val (.int (0 : Int32)), .val (.int (p1 &&& (63 : Int32))), .val (.ref b_1), .val (.int ((12 : Int32) + (p1 &&& (63 : Int32)))), .val (.int ((12 : Int32) + (p1 &&& (63 : Int32)))), .val (.ref b_3), .val (.ref b_7)] [(.int ((12 : Int32) + (p1 &&& (63 : Int32))))])) (fun t_ k_ => st_16.trans k_) ?_
    refine own_st (S' := T_16.setTop (mkF m 101 #[.val (.long p0), .second, .val (.int p1), .val (.int p2), .val (.int (0 : Int32)), .val (.int (p1 &&& (63 : Int32))), .val (.ref b_1), .val (.int ((12 : Int32) + (p1 &&& (63 : Int32)))), .val (.int ((12 : Int32) + (p1 &&& (63 : Int32)))), .val (.ref b_3), .val (.ref b_7)] [(.int ((12 : Int32) + (p1 &&& (63 : Int32)))), (.int ((12 : Int32) + (p1 &&& (63 : Int32))))])) (fun t_ k_ => XS.iload X_16.here hx rfl (hb hby at_99) rfl k_) ?_
    refine own_st (S' := T_16.setTop (mkF m 104 #[.val (.long p0), .second, .val (.int p1), .val (.int p2), .val (.int (0 : Int32)), .val (.int (p1 &&& (63 : Int32))), .val (.ref b_1), .val (.int ((12 : Int32) + (p1 &&& (63 : Int32)))), .val (.int ((12 : Int32) + (p1 &&& (63 : Int32)))), .val (.ref b_3), .val (.ref b_7)] [])) (fun t_ k_ => XS.icmpNo X_16.here hx rfl (hb hby at_101) rfl (teq (rfl : ((12 : Int32) + (p1 &&& (63 : Int32))) = ((12 : Int32) + (p1 &&& (63 : Int32))))).2 k_) ?_
    refine own_st (S' := T_16.setTop (mkF m 105 #[.val (.long p0), .second, .val (.int p1), .val (.int p2), .val (.int (0 : Int32)), .val (.int (p1 &&& (63 : Int32))), .val (.ref b_1), .val (.int ((12 : Int32) + (p1 &&& (63 : Int32)))), .val (.int ((12 : Int32) + (p1 &&& (63 : Int32)))), .val (.ref b_3), .val (.ref b_7)] [(.int (1 : Int32))])) (fun t_ k_ => XS.iconst X_16.here hx rfl (hb hby at_104) k_) ?_
    refine own_st (S' := T_16.setTop (mkF m 109 #[.val (.long p0), .second, .val (.int p1), .val (.int p2), .val (.int (0 : Int32)), .val (.int (p1 &&& (63 : Int32))), .val (.ref b_1), .val (.int ((12 : Int32) + (p1 &&& (63 : Int32)))), .val (.int ((12 : Int32) + (p1 &&& (63 : Int32)))), .val (.ref b_3), .val (.ref b_7)] [(.int (1 : Int32))])) (fun t_ k_ => XS.goto X_16.here hx rfl (pc0 := 105) (pc' := 109) rfl (hb hby at_105) (by decide) (by decide) k_) ?_
    obtain ⟨fs, hr, hrun, hended, hW, hsame⟩ := X_16.leave (v := some (.int (1 : Int32))) (fun h => by rw [Bd.returns] at h; cases h)
    refine ⟨_, _, retN X_16 hx (t := .boolean) Bd.returns (by simp) (hb hby at_109) hr, hrun, hended, _, _, rfl, ?_, ⟨_, rfl⟩, hW, hsame.mono (by decide) (by decide)⟩
    show Q0 Z p0 p1 p2 h0 n0 _ T_16.heap _
    rw [q_16]
    exact ⟨rfl, N_16⟩
  · refine own_st (S' := s₁.setTop (mkF m 6 #[.val (.long p0), .second, .val (.int p1), .val (.int p2), .unset, .unset, .unset, .unset, .unset, .unset, .unset] [])) (fun t_ k_ => XS.ifNo X0.here hx rfl (hb hby at_3) rfl ((if0 _ _).trans (feq hc3).1) k_) ?_
    refine own_st (S' := s₁.setTop (mkF m 7 #[.val (.long p0), .second, .val (.int p1), .val (.int p2), .unset, .unset, .unset, .unset, .unset, .unset, .unset] [(.int (1 : Int32))])) (fun t_ k_ => XS.iconst X0.here hx rfl (hb hby at_6) k_) ?_
    refine own_st (S' := s₁.setTop (mkF m 11 #[.val (.long p0), .second, .val (.int p1), .val (.int p2), .unset, .unset, .unset, .unset, .unset, .unset, .unset] [(.int (1 : Int32))])) (fun t_ k_ => XS.goto X0.here hx rfl (pc0 := 7) (pc' := 11) rfl (hb hby at_7) (by decide) (by decide) k_) ?_
    refine own_st (S' := s₁.setTop (mkF m 13 #[.val (.long p0), .second, .val (.int p1), .val (.int p2), .val (.int (1 : Int32)), .unset, .unset, .unset, .unset, .unset, .unset] [])) (fun t_ k_ => XS.istore X0.here hx rfl (hb hby at_11) rfl (l' := #[.val (.long p0), .second, .val (.int p1), .val (.int p2), .val (.int (1 : Int32)), .unset, .unset, .unset, .unset, .unset, .unset]) rfl k_) ?_
    refine own_st (S' := s₁.setTop (mkF m 14 #[.val (.long p0), .second, .val (.int p1), .val (.int p2), .val (.int (1 : Int32)), .unset, .unset, .unset, .unset, .unset, .unset] [(.int p1)])) (fun t_ k_ => XS.iloadN X0.here hx rfl (hb hby at_13) rfl k_) ?_
    refine own_st (S' := s₁.setTop (mkF m 16 #[.val (.long p0), .second, .val (.int p1), .val (.int p2), .val (.int (1 : Int32)), .unset, .unset, .unset, .unset, .unset, .unset] [(.int (63 : Int32)), (.int p1)])) (fun t_ k_ => XS.bipush X0.here hx rfl (hb hby at_14) k_) ?_
    refine own_st (S' := s₁.setTop (mkF m 17 #[.val (.long p0), .second, .val (.int p1), .val (.int p2), .val (.int (1 : Int32)), .unset, .unset, .unset, .unset, .unset, .unset] [(.int (p1 &&& (63 : Int32)))])) (fun t_ k_ => XS.iand X0.here hx rfl (hb hby at_16) rfl k_) ?_
    refine own_st (S' := s₁.setTop (mkF m 19 #[.val (.long p0), .second, .val (.int p1), .val (.int p2), .val (.int (1 : Int32)), .val (.int (p1 &&& (63 : Int32))), .unset, .unset, .unset, .unset, .unset] [])) (fun t_ k_ => XS.istore X0.here hx rfl (hb hby at_17) rfl (l' := #[.val (.long p0), .second, .val (.int p1), .val (.int p2), .val (.int (1 : Int32)), .val (.int (p1 &&& (63 : Int32))), .unset, .unset, .unset, .unset, .unset]) rfl k_) ?_
    refine own_st (S' := s₁.setTop (mkF m 21 #[.val (.long p0), .second, .val (.int p1), .val (.int p2), .val (.int (1 : Int32)), .val (.int (p1 &&& (63 : Int32))), .unset, .unset, .unset, .unset, .unset] [(.int (1 : Int32))])) (fun t_ k_ => XS.iload X0.here hx rfl (hb hby at_19) rfl k_) ?_
    refine own_st (S' := s₁.setTop (mkF m 24 #[.val (.long p0), .second, .val (.int p1), .val (.int p2), .val (.int (1 : Int32)), .val (.int (p1 &&& (63 : Int32))), .unset, .unset, .unset, .unset, .unset] [])) (fun t_ k_ => XS.ifNo X0.here hx rfl (hb hby at_21) rfl ((if0 _ _).trans (feq (by decide : ¬ ((1 : Int32) = (0 : Int32)))).1) k_) ?_
    refine own_st (S' := s₁.setTop (mkF m 25 #[.val (.long p0), .second, .val (.int p1), .val (.int p2), .val (.int (1 : Int32)), .val (.int (p1 &&& (63 : Int32))), .unset, .unset, .unset, .unset, .unset] [.null])) (fun t_ k_ => XS.aconstNull X0.here hx rfl (hb hby at_24) k_) ?_
    refine own_st (S' := s₁.setTop (mkF m 32 #[.val (.long p0), .second, .val (.int p1), .val (.int p2), .val (.int (1 : Int32)), .val (.int (p1 &&& (63 : Int32))), .unset, .unset, .unset, .unset, .unset] [.null])) (fun t_ k_ => XS.goto X0.here hx rfl (pc0 := 25) (pc' := 32) rfl (hb hby at_25) (by decide) (by decide) k_) ?_
    refine own_st (S' := s₁.setTop (mkF m 34 #[.val (.long p0), .second, .val (.int p1), .val (.int p2), .val (.int (1 : Int32)), .val (.int (p1 &&& (63 : Int32))), .val .null, .unset, .unset, .unset, .unset] [])) (fun t_ k_ => XS.astore X0.here hx rfl (hb hby at_32) rfl rfl (l' := #[.val (.long p0), .second, .val (.int p1), .val (.int p2), .val (.int (1 : Int32)), .val (.int (p1 &&& (63 : Int32))), .val .null, .unset, .unset, .unset, .unset]) rfl k_) ?_
    refine own_st (S' := s₁.setTop (mkF m 36 #[.val (.long p0), .second, .val (.int p1), .val (.int p2), .val (.int (1 : Int32)), .val (.int (p1 &&& (63 : Int32))), .val .null, .unset, .unset, .unset, .unset] [(.int (1 : Int32))])) (fun t_ k_ => XS.iload X0.here hx rfl (hb hby at_34) rfl k_) ?_
    refine own_st (S' := s₁.setTop (mkF m 39 #[.val (.long p0), .second, .val (.int p1), .val (.int p2), .val (.int (1 : Int32)), .val (.int (p1 &&& (63 : Int32))), .val .null, .unset, .unset, .unset, .unset] [])) (fun t_ k_ => XS.ifNo X0.here hx rfl (hb hby at_36) rfl ((if0 _ _).trans (feq (by decide : ¬ ((1 : Int32) = (0 : Int32)))).1) k_) ?_
    refine own_st (S' := s₁.setTop (mkF m 41 #[.val (.long p0), .second, .val (.int p1), .val (.int p2), .val (.int (1 : Int32)), .val (.int (p1 &&& (63 : Int32))), .val .null, .unset, .unset, .unset, .unset] [(.int (12 : Int32))])) (fun t_ k_ => XS.bipush X0.here hx rfl (hb hby at_39) k_) ?_
    refine own_st (S' := s₁.setTop (mkF m 49 #[.val (.long p0), .second, .val (.int p1), .val (.int p2), .val (.int (1 : Int32)), .val (.int (p1 &&& (63 : Int32))), .val .null, .unset, .unset, .unset, .unset] [(.int (12 : Int32))])) (fun t_ k_ => XS.goto X0.here hx rfl (pc0 := 41) (pc' := 49) rfl (hb hby at_41) (by decide) (by decide) k_) ?_
    refine own_st (S' := s₁.setTop (mkF m 51 #[.val (.long p0), .second, .val (.int p1), .val (.int p2), .val (.int (1 : Int32)), .val (.int (p1 &&& (63 : Int32))), .val .null, .val (.int (12 : Int32)), .unset, .unset, .unset] [])) (fun t_ k_ => XS.istore X0.here hx rfl (hb hby at_49) rfl (l' := #[.val (.long p0), .second, .val (.int p1), .val (.int p2), .val (.int (1 : Int32)), .val (.int (p1 &&& (63 : Int32))), .val .null, .val (.int (12 : Int32)), .unset, .unset, .unset]) rfl k_) ?_
    refine own_st (S' := s₁.setTop (mkF m 53 #[.val (.long p0), .second, .val (.int p1), .val (.int p2), .val (.int (1 : Int32)), .val (.int (p1 &&& (63 : Int32))), .val .null, .val (.int (12 : Int32)), .unset, .unset, .unset] [.null])) (fun t_ k_ => XS.aload X0.here hx rfl (hb hby at_51) rfl rfl k_) ?_
    obtain ⟨_, _, ⟨T_17, L_17, k_17, n_17⟩, -, X_17, ⟨Lc_17, hQ_17, l_17, y_17, z_17⟩, st_17⟩ := Jvm.LawKit.callS X0 hx (y := (⟨"quorumline/Entry", "bytes", "([B)I"⟩ : MethodName)) hown (mvT hZ (hw _ (List.mem_of_getElem? (i := 0) rfl))) (mvT hZ (hw _ (List.mem_of_getElem? (i := 1) rfl))) (mvT hZ (hw _ (List.mem_of_getElem? (i := 2) rfl))) (mvT hZ (hw _ (List.mem_of_getElem? (i := 3) rfl))) (by decide) (backOf (W := 0) (rm1a l Z a0 hw []  h0 n0 Z0 ) hZ (hw _ (List.mem_of_getElem? (i := 3) rfl)) (hw _ (List.mem_of_getElem? (i := 2) rfl)) (by decide) (by decide)) (g := (mkF m 53 #[.val (.long p0), .second, .val (.int p1), .val (.int p2), .val (.int (1 : Int32)), .val (.int (p1 &&& (63 : Int32))), .val .null, .val (.int (12 : Int32)), .unset, .unset, .unset] [.null])) rfl (by rw [hml]; rfl) (argsL := [.null]) (rest := []) (lenOf pd_10 rfl) rfl (by show 2 * 0 + _ ≤ _; exact Nat.le_of_eq rfl) (hb hby at_53) (fun _ _ => ⟨rfl, e0, (by decide : 0 + 0 ≤ _), (by decide : 0 + 0 ≤ _)⟩)
    dsimp only [Pt.U, Pt.locs, Pt.cells, Pt.slots] at X_17 l_17 y_17 z_17 st_17 hQ_17
    subst l_17 y_17 z_17
    obtain ⟨rfl, M_17, q_17⟩ := hQ_17
    have N_17 := Fr.app N0 M_17
    refine own_st (S' := T_17.setTop (mkF m 56 #[.val (.long p0), .second, .val (.int p1), .val (.int p2), .val (.int (1 : Int32)), .val (.int (p1 &&& (63 : Int32))), .val .null, .val (.int (12 : Int32)), .unset, .unset, .unset] [(.int (12 : Int32))])) st_17 ?_
    refine own_st (S' := T_17.setTop (mkF m 58 #[.val (.long p0), .second, .val (.int p1), .val (.int p2), .val (.int (1 : Int32)), .val (.int (p1 &&& (63 : Int32))), .val .null, .val (.int (12 : Int32)), .val (.int (12 : Int32)), .unset, .unset] [])) (fun t_ k_ => XS.istore X_17.here hx rfl (hb hby at_56) rfl (l' := #[.val (.long p0), .second, .val (.int p1), .val (.int p2), .val (.int (1 : Int32)), .val (.int (p1 &&& (63 : Int32))), .val .null, .val (.int (12 : Int32)), .val (.int (12 : Int32)), .unset, .unset]) rfl k_) ?_
    obtain ⟨T_18, h_18, X_18, e_18, E_18, A_18, D_18, -, st_18⟩ := newO X_17 hx hZ hown (hw _ (List.mem_of_getElem? (i := 4) rfl)) (hw _ (List.mem_of_getElem? (i := 5) rfl)) (hw _ (List.mem_of_getElem? (i := 2) rfl)) q_17 (g := (mkF m 58 #[.val (.long p0), .second, .val (.int p1), .val (.int p2), .val (.int (1 : Int32)), .val (.int (p1 &&& (63 : Int32))), .val .null, .val (.int (12 : Int32)), .val (.int (12 : Int32)), .unset, .unset] [])) rfl (hb hby at_58) (by decide) (by decide)
    obtain ⟨b_18, gg_18⟩ : ∃ z, z = h0.size := ⟨_, rfl⟩
    rw [← gg_18] at A_18 D_18 st_18
    have g_b_18 : n0 ≤ b_18 := Nat.le_trans Z0 (Nat.le_of_eq gg_18.symm)
    have Z_18 : n0 ≤ h_18.size := Nat.le_trans Z0 E_18.1
    have F_18_term : Fld Z h_18 b_18 "quorumline/Entry" "term" "J" (.long (0 : Int64)) := D_18 (Or.inr (hw _ (List.mem_of_getElem? (i := 18) rfl))) (ty := .long) (by decide)
    have F_18_value : Fld Z h_18 b_18 "quorumline/Entry" "value" "[B" .null := D_18 (Or.inr (hw _ (List.mem_of_getElem? (i := 20) rfl))) (ty := (.array .byte)) (by decide)
    refine own_st (S' := T_18.setTop (mkF m 61 #[.val (.long p0), .second, .val (.int p1), .val (.int p2), .val (.int (1 : Int32)), .val (.int (p1 &&& (63 : Int32))), .val .null, .val (.int (12 : Int32)), .val (.int (12 : Int32)), .unset, .unset] [(.ref b_18)])) st_18 ?_
    refine own_st (S' := T_18.setTop (mkF m 62 #[.val (.long p0), .second, .val (.int p1), .val (.int p2), .val (.int (1 : Int32)), .val (.int (p1 &&& (63 : Int32))), .val .null, .val (.int (12 : Int32)), .val (.int (12 : Int32)), .unset, .unset] [(.ref b_18), (.ref b_18)])) (fun t_ k_ => XS.dup X_18.here hx rfl (hb hby at_61) rfl rfl k_) ?_
    refine own_st (S' := T_18.setTop (mkF m 63 #[.val (.long p0), .second, .val (.int p1), .val (.int p2), .val (.int (1 : Int32)), .val (.int (p1 &&& (63 : Int32))), .val .null, .val (.int (12 : Int32)), .val (.int (12 : Int32)), .unset, .unset] [(.long p0), (.ref b_18), (.ref b_18)])) (fun t_ k_ => XS.lloadN X_18.here hx rfl (hb hby at_62) rfl k_) ?_
    refine own_st (S' := T_18.setTop (mkF m 65 #[.val (.long p0), .second, .val (.int p1), .val (.int p2), .val (.int (1 : Int32)), .val (.int (p1 &&& (63 : Int32))), .val .null, .val (.int (12 : Int32)), .val (.int (12 : Int32)), .unset, .unset] [.null, (.long p0), (.ref b_18), (.ref b_18)])) (fun t_ k_ => XS.aload X_18.here hx rfl (hb hby at_63) rfl rfl k_) ?_
    obtain ⟨_, _, ⟨T_19, L_19, k_19, n_19⟩, -, X_19, ⟨Lc_19, hQ_19, l_19, y_19, z_19⟩, st_19⟩ := X_18.specialBack hx (y := (⟨"quorumline/Entry", "<init>", "(J[B)V"⟩ : MethodName)) rfl hown (mvT hZ (hw _ (List.mem_of_getElem? (i := 6) rfl))) (mvT hZ (hw _ (List.mem_of_getElem? (i := 7) rfl))) (mvT hZ (hw _ (List.mem_of_getElem? (i := 8) rfl))) (by decide) (backOf (W := 1) (rm4a l Z a0 hw [] b_18 p0 h_18 n0 Z_18 A_18 F_18_term F_18_value g_b_18) hZ (hw _ (List.mem_of_getElem? (i := 8) rfl)) (hw _ (List.mem_of_getElem? (i := 2) rfl)) (by decide) (by decide)) (g := (mkF m 65 #[.val (.long p0), .second, .val (.int p1), .val (.int p2), .val (.int (1 : Int32)), .val (.int (p1 &&& (63 : Int32))), .val .null, .val (.int (12 : Int32)), .val (.int (12 : Int32)), .unset, .unset] [.null, (.long p0), (.ref b_18), (.ref b_18)])) rfl (by rw [hml]; rfl) (Steps.refl _) (a := b_18) (argsL := [(.long p0), .null]) (rest := [(.ref b_18)]) (lenOf pd_11 rfl) rfl (by show 2 * 0 + _ ≤ _; exact Nat.le_of_eq rfl) (hb hby at_65) (fun _ _ => ⟨rfl, e_18, (by decide : 1 + 0 ≤ _), (by decide : 2 + 0 ≤ _)⟩)
    dsimp only [Pt.U, Pt.locs, Pt.cells, Pt.slots] at X_19 l_19 y_19 z_19 st_19 hQ_19
    subst l_19 y_19 z_19
    obtain ⟨rfl, M_19, K_19c, c_19_0, c_19_1, c_19_2⟩ := hQ_19
    have N_19 := Fr.app N_17 M_19
    have Z_19 : n0 ≤ T_19.heap.size := Nat.le_trans Z_18 K_19c.1
    refine own_st (S' := T_19.setTop (mkF m 68 #[.val (.long p0), .second, .val (.int p1), .val (.int p2), .val (.int (1 : Int32)), .val (.int (p1 &&& (63 : Int32))), .val .null, .val (.int (12 : Int32)), .val (.int (12 : Int32)), .unset, .unset] [(.ref b_18)])) (fun t_ k_ => st_19.trans k_) ?_
    refine own_st (S' := T_19.setTop (mkF m 70 #[.val (.long p0), .second, .val (.int p1), .val (.int p2), .val (.int (1 : Int32)), .val (.int (p1 &&& (63 : Int32))), .val .null, .val (.int (12 : Int32)), .val (.int (12 : Int32)), .val (.ref b_18), .unset] [])) (fun t_ k_ => XS.astore X_19.here hx rfl (hb hby at_68) rfl rfl (l' := #[.val (.long p0), .second, .val (.int p1), .val (.int p2), .val (.int (1 : Int32)), .val (.int (p1 &&& (63 : Int32))), .val .null, .val (.int (12 : Int32)), .val (.int (12 : Int32)), .val (.ref b_18), .unset]) rfl k_) ?_
    obtain ⟨T_20, h_20, X_20, e_20, E_20, A_20, D_20, -, st_20⟩ := newO X_19 hx hZ hown (hw _ (List.mem_of_getElem? (i := 21) rfl)) (hw _ (List.mem_of_getElem? (i := 22) rfl)) (hw _ (List.mem_of_getElem? (i := 23) rfl)) rfl (g := (mkF m 70 #[.val (.long p0), .second, .val (.int p1), .val (.int p2), .val (.int (1 : Int32)), .val (.int (p1 &&& (63 : Int32))), .val .null, .val (.int (12 : Int32)), .val (.int (12 : Int32)), .val (.ref b_18), .unset] [])) rfl (hb hby at_70) (by decide) (by decide)
    obtain ⟨b_20, gg_20⟩ : ∃ z, z = T_19.heap.size := ⟨_, rfl⟩
    rw [← gg_20] at A_20 D_20 st_20
    have ne_b_18_b_20 : b_18 ≠ b_20 := Nat.ne_of_lt (Nat.lt_of_lt_of_le c_19_0.lt (Nat.le_of_eq gg_20.symm))
    have g_b_20 : n0 ≤ b_20 := Nat.le_trans Z_19 (Nat.le_of_eq gg_20.symm)
    have Z_20 : n0 ≤ h_20.size := Nat.le_trans Z_19 E_20.1
    have F_20_bytes : Fld Z h_20 b_20 "quorumline/FieldWriter" "bytes" "[B" .null := D_20 (Or.inl (hw _ (List.mem_of_getElem? (i := 34) rfl))) (ty := (.array .byte)) (by decide)
    have F_20_size : Fld Z h_20 b_20 "quorumline/FieldWriter" "size" "I" (.int (0 : Int32)) := D_20 (Or.inl (hw _ (List.mem_of_getElem? (i := 50) rfl))) (ty := .int) (by decide)
    refine own_st (S' := T_20.setTop (mkF m 73 #[.val (.long p0), .second, .val (.int p1), .val (.int p2), .val (.int (1 : Int32)), .val (.int (p1 &&& (63 : Int32))), .val .null, .val (.int (12 : Int32)), .val (.int (12 : Int32)), .val (.ref b_18), .unset] [(.ref b_20)])) st_20 ?_
    refine own_st (S' := T_20.setTop (mkF m 74 #[.val (.long p0), .second, .val (.int p1), .val (.int p2), .val (.int (1 : Int32)), .val (.int (p1 &&& (63 : Int32))), .val .null, .val (.int (12 : Int32)), .val (.int (12 : Int32)), .val (.ref b_18), .unset] [(.ref b_20), (.ref b_20)])) (fun t_ k_ => XS.dup X_20.here hx rfl (hb hby at_73) rfl rfl k_) ?_
    refine own_st (S' := T_20.setTop (mkF m 75 #[.val (.long p0), .second, .val (.int p1), .val (.int p2), .val (.int (1 : Int32)), .val (.int (p1 &&& (63 : Int32))), .val .null, .val (.int (12 : Int32)), .val (.int (12 : Int32)), .val (.ref b_18), .unset] [(.int (0 : Int32)), (.ref b_20), (.ref b_20)])) (fun t_ k_ => XS.iconst X_20.here hx rfl (hb hby at_74) k_) ?_
    have f_21 : Exa Z h_20 b_18 "quorumline/Entry" := (Exa.ext E_20 c_19_0)
    obtain ⟨_, _, ⟨T_22, L_22, k_22, n_22⟩, -, X_22, ⟨Lc_22, hQ_22, l_22, y_22, z_22⟩, st_22⟩ := X_20.specialBack hx (y := (⟨"quorumline/FieldWriter", "<init>", "(I)V"⟩ : MethodName)) rfl hown (mvT hZ (hw _ (List.mem_of_getElem? (i := 24) rfl))) (mvT hZ (hw _ (List.mem_of_getElem? (i := 25) rfl))) (mvT hZ (hw _ (List.mem_of_getElem? (i := 26) rfl))) (by decide) (backOf (W := 1) (rm9 l Z a0 hw [] b_20 h_20 n0 Z_20 A_20 F_20_bytes F_20_size g_b_20) hZ (hw _ (List.mem_of_getElem? (i := 26) rfl)) (hw _ (List.mem_of_getElem? (i := 23) rfl)) (by decide) (by decide)) (g := (mkF m 75 #[.val (.long p0), .second, .val (.int p1), .val (.int p2), .val (.int (1 : Int32)), .val (.int (p1 &&& (63 : Int32))), .val .null, .val (.int (12 : Int32)), .val (.int (12 : Int32)), .val (.ref b_18), .unset] [(.int (0 : Int32)), (.ref b_20), (.ref b_20)])) rfl (by rw [hml]; rfl) (Steps.refl _) (a := b_20) (argsL := [(.int (0 : Int32))]) (rest := [(.ref b_20)]) (lenOf pd_5 rfl) rfl (by show 2 * 0 + _ ≤ _; exact Nat.le_of_eq rfl) (hb hby at_75) (fun _ _ => ⟨rfl, e_20, (by decide : 2 + 1 ≤ _), (by decide : 4 + 16 ≤ _)⟩)
    dsimp only [Pt.U, Pt.locs, Pt.cells, Pt.slots] at X_22 l_22 y_22 z_22 st_22 hQ_22
    subst l_22 y_22 z_22
    obtain ⟨x_22_b, x_22_k, x_22_vs, rfl, M_22, K_22c, z_22_0, c_22_0, c_22_1, c_22_2, c_22_3⟩ := hQ_22
    have N_22 := Fr.app N_19 M_22
    have ne_b_18_x_22_b : b_18 ≠ x_22_b := Nat.ne_of_lt (Nat.lt_of_lt_of_le f_21.lt z_22_0)
    have ne_b_20_x_22_b : b_20 ≠ x_22_b := Nat.ne_of_lt (Nat.lt_of_lt_of_le A_20.lt z_22_0)
    have g_x_22_b : n0 ≤ x_22_b := Nat.le_trans Z_20 z_22_0
    have Z_22 : n0 ≤ T_22.heap.size := Nat.le_trans Z_20 K_22c.1
    refine own_st (S' := T_22.setTop (mkF m 78 #[.val (.long p0), .second, .val (.int p1), .val (.int p2), .val (.int (1 : Int32)), .val (.int (p1 &&& (63 : Int32))), .val .null, .val (.int (12 : Int32)), .val (.int (12 : Int32)), .val (.ref b_18), .unset] [(.ref b_20)])) (fun t_ k_ => st_22.trans k_) ?_
    refine own_st (S' := T_22.setTop (mkF m 80 #[.val (.long p0), .second, .val (.int p1), .val (.int p2), .val (.int (1 : Int32)), .val (.int (p1 &&& (63 : Int32))), .val .null, .val (.int (12 : Int32)), .val (.int (12 : Int32)), .val (.ref b_18), .val (.ref b_20)] [])) (fun t_ k_ => XS.astore X_22.here hx rfl (hb hby at_78) rfl rfl (l' := #[.val (.long p0), .second, .val (.int p1), .val (.int p2), .val (.int (1 : Int32)), .val (.int (p1 &&& (63 : Int32))), .val .null, .val (.int (12 : Int32)), .val (.int (12 : Int32)), .val (.ref b_18), .val (.ref b_20)]) rfl k_) ?_
    refine own_st (S' := T_22.setTop (mkF m 82 #[.val (.long p0), .second, .val (.int p1), .val (.int p2), .val (.int (1 : Int32)), .val (.int (p1 &&& (63 : Int32))), .val .null, .val (.int (12 : Int32)), .val (.int (12 : Int32)), .val (.ref b_18), .val (.ref b_20)] [(.ref b_18)])) (fun t_ k_ => XS.aload X_22.here hx rfl (hb hby at_80) rfl rfl k_) ?_
    refine own_st (S' := T_22.setTop (mkF m 84 #[.val (.long p0), .second, .val (.int p1), .val (.int p2), .val (.int (1 : Int32)), .val (.int (p1 &&& (63 : Int32))), .val .null, .val (.int (12 : Int32)), .val (.int (12 : Int32)), .val (.ref b_18), .val (.ref b_20)] [(.ref b_20), (.ref b_18)])) (fun t_ k_ => XS.aload X_22.here hx rfl (hb hby at_82) rfl rfl k_) ?_
    have f_23 : Fld Z T_22.heap b_18 "quorumline/Entry" "term" "J" (.long p0) := ((Fld.ext E_20 c_19_1).keep K_22c (ninS ne_b_18_b_20 nin0))
    have f_24 : Fld Z T_22.heap b_18 "quorumline/Entry" "value" "[B" .null := ((Fld.ext E_20 c_19_2).keep K_22c (ninS ne_b_18_b_20 nin0))
    have f_26 : Exa Z T_22.heap b_18 "quorumline/Entry" := (f_21.keep K_22c)
    obtain ⟨cq_25, kq_25, q_25a, q_25b, q_25c⟩ := isOf hZ rfl f_26
    obtain ⟨_, _, ⟨T_25, L_25, k_25, n_25⟩, -, X_25, ⟨Lc_25, hQ_25, l_25, y_25, z_25⟩, st_25⟩ := X_22.virtualBack hx (y := (⟨"quorumline/Entry", "write", "(Lquorumline/FieldWriter;)V"⟩ : MethodName)) (z := (⟨"quorumline/Entry", "write", "(Lquorumline/FieldWriter;)V"⟩ : MethodName)) hown (mvT hZ (hw _ (List.mem_of_getElem? (i := 35) rfl))) (mvT hZ (hw _ (List.mem_of_getElem? (i := 36) rfl))) (notFace_of_selects (args := #[]) (mvT hZ (hw _ (List.mem_of_getElem? (i := 38) rfl)))) (mvT hZ (hw _ (List.mem_of_getElem? (i := 38) rfl))) (mvT hZ (hw _ (List.mem_of_getElem? (i := 37) rfl))) (by decide) (backOf (W := 0) (rm18a l Z a0 hw [] b_18 b_20 x_22_b x_22_k x_22_vs p0 T_22.heap n0 Z_22 c_22_0 c_22_1 c_22_3 c_22_2 f_23 f_24 g_b_20 g_x_22_b ne_b_20_x_22_b ne_b_18_b_20 ne_b_18_x_22_b) hZ (hw _ (List.mem_of_getElem? (i := 39) rfl)) (hw _ (List.mem_of_getElem? (i := 2) rfl)) (by decide) (by decide)) q_25a q_25c (g := (mkF m 84 #[.val (.long p0), .second, .val (.int p1), .val (.int p2), .val (.int (1 : Int32)), .val (.int (p1 &&& (63 : Int32))), .val .null, .val (.int (12 : Int32)), .val (.int (12 : Int32)), .val (.ref b_18), .val (.ref b_20)] [(.ref b_20), (.ref b_18)])) rfl (by rw [hml]; rfl) (Steps.refl _) (argsL := [(.ref b_20)]) (rest := []) (lenOf pd_12 rfl) rfl (by show 2 * 0 + _ ≤ _; exact Nat.le_of_eq rfl) (hb hby at_84) (fun _ _ => ⟨rfl, rfl, (by decide : 3 + 0 ≤ _), (by decide : 20 + 0 ≤ _)⟩)
    dsimp only [Pt.U, Pt.locs, Pt.cells, Pt.slots] at X_25 l_25 y_25 z_25 st_25 hQ_25
    subst l_25 y_25 z_25
    obtain ⟨rfl, M_25, K_25c, c_25_0, c_25_1⟩ := hQ_25
    have N_25 := Fr.app N_22 M_25
    have Z_25 : n0 ≤ T_25.heap.size := Nat.le_trans Z_22 K_25c.1
    refine own_st (S' := T_25.setTop (mkF m 87 #[.val (.long p0), .second, .val (.int p1), .val (.int p2), .val (.int (1 : Int32)), .val (.int (p1 &&& (63 : Int32))), .val .null, .val (.int (12 : Int32)), .val (.int (12 : Int32)), .val (.ref b_18), .val (.ref b_20)] [])) (fun t_ k_ => st_25.trans k_) ?_
    refine own_st (S' := T_25.setTop (mkF m 89 #[.val (.long p0), .second, .val (.int p1), .val (.int p2), .val (.int (1 : Int32)), .val (.int (p1 &&& (63 : Int32))), .val .null, .val (.int (12 : Int32)), .val (.int (12 : Int32)), .val (.ref b_18), .val (.ref b_20)] [(.int (12 : Int32))])) (fun t_ k_ => XS.iload X_25.here hx rfl (hb hby at_87) rfl k_) ?_
    refine own_st (S' := T_25.setTop (mkF m 91 #[.val (.long p0), .second, .val (.int p1), .val (.int p2), .val (.int (1 : Int32)), .val (.int (p1 &&& (63 : Int32))), .val .null, .val (.int (12 : Int32)), .val (.int (12 : Int32)), .val (.ref b_18), .val (.ref b_20)] [(.int (12 : Int32)), (.int (12 : Int32))])) (fun t_ k_ => XS.iload X_25.here hx rfl (hb hby at_89) rfl k_) ?_
    refine own_st (S' := T_25.setTop (mkF m 94 #[.val (.long p0), .second, .val (.int p1), .val (.int p2), .val (.int (1 : Int32)), .val (.int (p1 &&& (63 : Int32))), .val .null, .val (.int (12 : Int32)), .val (.int (12 : Int32)), .val (.ref b_18), .val (.ref b_20)] [])) (fun t_ k_ => XS.icmpNo X_25.here hx rfl (hb hby at_91) rfl (teq (by decide : (12 : Int32) = (12 : Int32))).2 k_) ?_
    refine own_st (S' := T_25.setTop (mkF m 96 #[.val (.long p0), .second, .val (.int p1), .val (.int p2), .val (.int (1 : Int32)), .val (.int (p1 &&& (63 : Int32))), .val .null, .val (.int (12 : Int32)), .val (.int (12 : Int32)), .val (.ref b_18), .val (.ref b_20)] [(.ref b_20)])) (fun t_ k_ => XS.aload X_25.here hx rfl (hb hby at_94) rfl rfl k_) ?_
    obtain ⟨cq_27, kq_27, q_27a, q_27b, q_27c⟩ := isOf hZ rfl c_25_0
    obtain ⟨_, _, ⟨T_27, L_27, k_27, n_27⟩, -, X_27, ⟨Lc_27, hQ_27, l_27, y_27, z_27⟩, st_27⟩ := X_25.virtualBack hx (y := (⟨"quorumline/FieldWriter", "size", "()I"⟩ : MethodName)) (z := (⟨"quorumline/FieldWriter", "size", "()I"⟩ : MethodName)) hown (mvT hZ (hw _ (List.mem_of_getElem? (i := 63) rfl))) (mvT hZ (hw _ (List.mem_of_getElem? (i := 64) rfl))) (notFace_of_selects (args := #[]) (mvT hZ (hw _ (List.mem_of_getElem? (i := 66) rfl)))) (mvT hZ (hw _ (List.mem_of_getElem? (i := 66) rfl))) (mvT hZ (hw _ (List.mem_of_getElem? (i := 65) rfl))) (by decide) (backOf (W := 0) (rm19 l Z a0 hw [] b_20 (12 : Int32) T_25.heap n0 Z_25 c_25_1) hZ (hw _ (List.mem_of_getElem? (i := 67) rfl)) (hw _ (List.mem_of_getElem? (i := 23) rfl)) (by decide) (by decide)) q_27a q_27c (g := (mkF m 96 #[.val (.long p0), .second, .val (.int p1), .val (.int p2), .val (.int (1 : Int32)), .val (.int (p1 &&& (63 : Int32))), .val .null, .val (.int (12 : Int32)), .val (.int (12 : Int32)), .val (.ref b_18), .val (.ref b_20)] [(.ref b_20)])) rfl (by rw [hml]; rfl) (Steps.refl _) (argsL := []) (rest := []) (lenOf pd_13 rfl) rfl (by show 2 * 0 + _ ≤ _; exact Nat.le_of_eq rfl) (hb hby at_96) (fun _ _ => ⟨rfl, rfl, (by decide : 3 + 0 ≤ _), (by decide : 20 + 0 ≤ _)⟩)
    dsimp only [Pt.U, Pt.locs, Pt.cells, Pt.slots] at X_27 l_27 y_27 z_27 st_27 hQ_27
    subst l_27 y_27 z_27
    obtain ⟨rfl, M_27, q_27⟩ := hQ_27
    have N_27 := Fr.app N_25 M_27
    refine own_st (S' := T_27.setTop (mkF m 99 #[.val (.long p0), .second, .val (.int p1), .val (.int p2), .val (.int (1 : Int32)), .val (.int (p1 &&& (63 : Int32))), .val .null, .val (.int (12 : Int32)), .val (.int (12 : Int32)), .val (.ref b_18), .val (.ref b_20)] [(.int (12 : Int32))])) (fun t_ k_ => st_27.trans k_) ?_
    refine own_st (S' := T_27.setTop (mkF m 101 #[.val (.long p0), .second, .val (.int p1), .val (.int p2), .val (.int (1 : Int32)), .val (.int (p1 &&& (63 : Int32))), .val .null, .val (.int (12 : Int32)), .val (.int (12 : Int32)), .val (.ref b_18), .val (.ref b_20)] [(.int (12 : Int32)), (.int (12 : Int32))])) (fun t_ k_ => XS.iload X_27.here hx rfl (hb hby at_99) rfl k_) ?_
    refine own_st (S' := T_27.setTop (mkF m 104 #[.val (.long p0), .second, .val (.int p1), .val (.int p2), .val (.int (1 : Int32)), .val (.int (p1 &&& (63 : Int32))), .val .null, .val (.int (12 : Int32)), .val (.int (12 : Int32)), .val (.ref b_18), .val (.ref b_20)] [])) (fun t_ k_ => XS.icmpNo X_27.here hx rfl (hb hby at_101) rfl (teq (by decide : (12 : Int32) = (12 : Int32))).2 k_) ?_
    refine own_st (S' := T_27.setTop (mkF m 105 #[.val (.long p0), .second, .val (.int p1), .val (.int p2), .val (.int (1 : Int32)), .val (.int (p1 &&& (63 : Int32))), .val .null, .val (.int (12 : Int32)), .val (.int (12 : Int32)), .val (.ref b_18), .val (.ref b_20)] [(.int (1 : Int32))])) (fun t_ k_ => XS.iconst X_27.here hx rfl (hb hby at_104) k_) ?_
    refine own_st (S' := T_27.setTop (mkF m 109 #[.val (.long p0), .second, .val (.int p1), .val (.int p2), .val (.int (1 : Int32)), .val (.int (p1 &&& (63 : Int32))), .val .null, .val (.int (12 : Int32)), .val (.int (12 : Int32)), .val (.ref b_18), .val (.ref b_20)] [(.int (1 : Int32))])) (fun t_ k_ => XS.goto X_27.here hx rfl (pc0 := 105) (pc' := 109) rfl (hb hby at_105) (by decide) (by decide) k_) ?_
    obtain ⟨fs, hr, hrun, hended, hW, hsame⟩ := X_27.leave (v := some (.int (1 : Int32))) (fun h => by rw [Bd.returns] at h; cases h)
    refine ⟨_, _, retN X_27 hx (t := .boolean) Bd.returns (by simp) (hb hby at_109) hr, hrun, hended, _, _, rfl, ?_, ⟨_, rfl⟩, hW, hsame.mono (by decide) (by decide)⟩
    show Q0 Z p0 p1 p2 h0 n0 _ T_27.heap _
    rw [q_27]
    exact ⟨rfl, N_27⟩
set_option maxRecDepth 65536 in
set_option maxHeartbeats 40000000 in
theorem comes_1 {Post : Tables → Env → Array Value → State → Outcome → State → Prop} (hpost : ∀ tb e args s v u, (limb_1_1.after args s (.returned v) u = true ∧ limb_1_2.after args s (.returned v) u = true ∧ True) → FrameEnd s (.returned v) u (Jvm.fieldLocs frame_1_writes args s ++ Jvm.arrayLocs frame_1_arrays args s ++ Jvm.staticLocs frame_1_statics s) 24 384 → Post tb e args s (.returned v) u) :
    ArmFor flags0 classFile x code maxLocals ret World_1 tables_1 room_1 Calls_1 rest_1 Pre_1 Post := by
  intro l hfl _ _ p e ha hc hk s m args below hf hA hF happ hP
  obtain ⟨hcalls, hrest, hpre⟩ := hP
  obtain ⟨-, -, -, hnamed, -, -, -, hat⟩ := (Spec.applies_iff hf).mp happ
  obtain ⟨hg, hn⟩ := and_e (Cond.before_iff.mp (show (Jvm.Cond.and given_1 narrow_1).before args s = true from hpre))
  obtain ⟨hcount, ht0⟩ := and_e hg
  obtain ⟨ha0, ht1⟩ := and_e ht0
  obtain ⟨ha1, ht2⟩ := and_e ht1
  obtain ⟨w0, w1, w2, rfl⟩ : ∃ w0 w1 w2 : Value, args = #[w0, w1, w2] := by
    have hs : args.size = 3 := by simpa [Cond.value, given_1] using hcount
    obtain ⟨L⟩ := args
    match L, hs with
    | [w0, w1, w2], _ => exact ⟨w0, w1, w2, rfl⟩
  have hw := fun d (hd : d ∈ tables_1) => atoms_spec (ws := Jvm.Cond.code x code maxLocals ret :: tables_1) hat d (List.mem_cons_of_mem _ hd)
  have hfit : Fit s := fun {y c} hc i hi => by
    obtain ⟨ha, rfl⟩ := Array.getElem?_eq_some_iff.mp hc
    have q := List.all_eq_true.mp ((Array.all_eq_true_iff_forall_mem.mp hF) _ (Array.getElem_mem ha)) i (List.mem_range.mpr hi)
    simpa [Array.getElem?_eq_getElem hi] using q
  obtain ⟨i0, ei0⟩ := isL_v ha0
  obtain rfl : w0 = (.long i0) := Option.some.inj ei0
  obtain ⟨i1, ei1⟩ := is_v ha1
  obtain rfl : w1 = (.int i1) := Option.some.inj ei1
  obtain ⟨i2, ei2⟩ := is_v ht2
  obtain rfl : w2 = (.int i2) := Option.some.inj ei2
  obtain ⟨n, o, h1, h2, h3, _, L, rfl, ⟨rfl, N⟩, hq⟩ := rm0 l s _ hw tables_1 i0 i1 i2 s.heap s.heap.size (Nat.le_refl _)  p e ha hc hk s m _ below hf ((Spec.applies_iff_loose hf).mp happ).1 ⟨rfl, State.Warmed39.refl s, rfl⟩ trivial
  refine ⟨n, _, h1, h2, h3, hpost _ _ _ _ _ _ ⟨Cond.after_iff.mpr rfl, Cond.after_iff.mpr (eq_i res_at (Term.int_eval (1)) rfl), trivial⟩ ⟨hq.1, hq.2.1, (hq.2.2.sift fun y hy => Or.inr (N y hy)).mono (by decide) (by decide)⟩⟩
theorem main_1_1 : Claimed_1_1 := comes_1 fun _ _ _ _ _ _ h hF => ⟨h.1, hF⟩
theorem main_1_2 : Claimed_1_2 := comes_1 fun _ _ _ _ _ _ h hF => ⟨h.2.1, hF⟩
end Jvm.Pilot.@@N@@
namespace Jvm.Pilot.@@N@@
open Jvm Jvm.ClassFile Sem Op Lib Jvm.Free Jvm.Stand Jvm.Pilot.@@N@@.Jvm.D
/-! MADE BY PROGRAM (witnessworld.py) out of the Statement's table words and the real class files: 14 classes; the members and pool entries that the words name. The judged class is class 1, her method 1. -/
namespace start1
open Jvm.ClassFile
def u (s : String) : CpInfo := .utf8 (stringToUtf16 s)
/-- a pool by its gaps: so many unusable entries, then the entry; so many at the end -/
def gap : Nat → List CpInfo → List CpInfo
  | 0, r => r
  | n + 1, r => .unusable :: gap n r
def poolList (es : List (Nat × CpInfo)) (last : Nat) : List CpInfo := es.foldr (fun e r => gap e.1 (e.2 :: r)) (gap last [])
def pool (es : List (Nat × CpInfo)) (last : Nat) : Array CpInfo := ⟨poolList es last⟩
def fileOf (pool : Array CpInfo) (this : Nat) (attrs : Array Attribute := #[]) (ms : Array MethodInfo := #[]) (fl : Nat := 33) (sup : Nat := 0) (ifs : Array Nat := #[]) (fds : Array FieldInfo := #[]) : ClassFile where
  minorVersion := 0
  majorVersion := 65
  constantPool := pool
  accessFlags := fl
  thisClass := this
  superClass := sup
  interfaces := ifs
  fields := fds
  methods := ms
  attributes := attrs
def plain (name : String) (sup : Option ClassId) : Class where
  name := name
  kind := .ordinary
  loader := none
  accessFlags := 33
  super := sup
  interfaces := #[]
  cf := none
  fields := #[]
  methods := #[]
  instanceTypes := #[]
  staticTypes := #[]
  resolved := #[]
  callSites := []
  init := .initialized
  statics := none
  mirror := none

def pool0 : Array CpInfo := pool [(5, u "<init>"), (0, u "()V"), (1, .class_ 10), (1, u "java/lang/Object")] 113

def k0c0 : Code := { maxStack := 0, maxLocals := 1, code := object_method_1_code, exceptionTable := #[], attributes := #[] }
def k0m0 : Method := { name := "<init>", desc := "()V", sig := { parameters := [], returnType := none }, accessFlags := 1, code := some k0c0 }
/-- java/lang/Object -/
def k0 : Class := { plain "java/lang/Object" none with
  accessFlags := 33
  interfaces := #[]
  cf := some (fileOf pool0 8 #[] #[{ accessFlags := 1, nameIndex := 5, descriptorIndex := 6, attributes := #[] }] 33 0 #[] #[])
  fields := #[]
  methods := #[k0m0]
  instanceTypes := #[]
  staticTypes := #[]
  resolved := Array.replicate 124 none
  statics := none }

def pool1 : Array CpInfo := pool [(2, .class_ 4), (1, u "java/lang/Object"), (0, u "<init>"), (0, u "()V"), (0, .methodref 8 9), (0, .class_ 10), (0, .nameAndType 11 12), (0, u "quorumline/Entry"), (0, u "bytes"), (0, u "([B)I"), (0, .methodref 8 14), (0, .nameAndType 5 15), (0, u "(J[B)V"), (0, .class_ 17), (0, u "quorumline/FieldWriter"), (0, .methodref 16 19), (0, .nameAndType 5 20), (0, u "(I)V"), (0, .methodref 8 22), (0, .nameAndType 23 24), (0, u "write"), (0, u "(Lquorumline/FieldWriter;)V"), (0, .methodref 16 26), (0, .nameAndType 27 28), (0, u "size"), (0, u "()I"), (0, .class_ 30), (0, u "quorumline/EntryBytesPinLaw"), (2, u "law"), (0, u "(JII)Z")] 5

def k1m0 : Method := { name := "<init>", desc := "()V", sig := { parameters := [], returnType := none }, accessFlags := 1, code := none }
def k1c1 : Code := { maxStack := 5, maxLocals := 11, code := code, exceptionTable := #[], attributes := #[] }
def k1m1 : Method := { name := "law", desc := "(JII)Z", sig := { parameters := [.long, .int, .int], returnType := some .boolean }, accessFlags := 9, code := some k1c1 }
/-- quorumline/EntryBytesPinLaw -/
def k1 : Class := { plain "quorumline/EntryBytesPinLaw" (some 0) with
  accessFlags := 49
  interfaces := #[]
  cf := some (fileOf pool1 29 #[] #[{ accessFlags := 1, nameIndex := 5, descriptorIndex := 6, attributes := #[] }, { accessFlags := 9, nameIndex := 33, descriptorIndex := 34, attributes := #[] }] 49 2 #[] #[])
  fields := #[]
  methods := #[k1m0, k1m1]
  instanceTypes := #[]
  staticTypes := #[]
  resolved := Array.replicate 40 none
  statics := none }

def pool2 : Array CpInfo := pool [(1, .methodref 2 3), (0, .class_ 4), (0, .nameAndType 5 6), (0, u "java/lang/Object"), (0, u "<init>"), (0, u "()V"), (0, .class_ 8), (0, u "java/lang/Record")] 13

def k2c0 : Code := { maxStack := 1, maxLocals := 1, code := jdk_30_method_1_code, exceptionTable := #[], attributes := #[] }
def k2m0 : Method := { name := "<init>", desc := "()V", sig := { parameters := [], returnType := none }, accessFlags := 4, code := some k2c0 }
/-- java/lang/Record -/
def k2 : Class := { plain "java/lang/Record" (some 0) with
  accessFlags := 1057
  interfaces := #[]
  cf := some (fileOf pool2 7 #[] #[{ accessFlags := 4, nameIndex := 5, descriptorIndex := 6, attributes := #[] }] 1057 2 #[] #[])
  fields := #[]
  methods := #[k2m0]
  instanceTypes := #[]
  staticTypes := #[]
  resolved := Array.replicate 22 none
  statics := none }

def pool3 : Array CpInfo := pool [(1, .class_ 2), (0, u "quorumline/Entry"), (4, .methodref 8 9), (0, .class_ 10), (0, .nameAndType 11 12), (0, u "java/lang/Record"), (0, u "<init>"), (0, u "()V"), (0, .methodref 1 14), (0, .nameAndType 15 16), (0, u "checkValue"), (0, u "([B)V"), (0, .fieldref 1 18), (0, .nameAndType 19 20), (0, u "term"), (0, u "J"), (0, .fieldref 1 22), (0, .nameAndType 23 24), (0, u "value"), (0, u "[B"), (0, .integer 1048576), (9, .class_ 36), (0, u "quorumline/Entry$Budget"), (2, u "(J)V"), (12, u "bytes"), (0, u "([B)I"), (0, .methodref 55 56), (0, .class_ 57), (0, .nameAndType 58 39), (0, u "quorumline/FieldWriter"), (0, u "writeLong"), (0, .methodref 1 60), (0, .nameAndType 61 62), (0, u "writeValue"), (0, u "(Lquorumline/FieldWriter;[B)V"), (12, u "(J[B)V"), (0, .methodref 55 77), (0, .nameAndType 78 79), (0, u "writeInt"), (0, u "(I)V"), (0, .methodref 55 81), (0, .nameAndType 82 16), (0, u "write"), (41, u "MAX_VALUE_BYTES"), (0, u "I"), (1, u "MAX_BATCH_BYTES"), (0, u "OVERHEAD_BYTES"), (10, u "(Lquorumline/FieldWriter;)V")] 35

def k3c0 : Code := { maxStack := 3, maxLocals := 4, code := prog_15_method_1_code, exceptionTable := #[], attributes := #[] }
def k3m0 : Method := { name := "<init>", desc := "(J[B)V", sig := { parameters := [.long, (.array .byte)], returnType := none }, accessFlags := 0, code := some k3c0 }
def k3c1 : Code := { maxStack := 3, maxLocals := 1, code := prog_15_method_2_code, exceptionTable := #[], attributes := #[] }
def k3m1 : Method := { name := "checkValue", desc := "([B)V", sig := { parameters := [(.array .byte)], returnType := none }, accessFlags := 8, code := some k3c1 }
def k3c2 : Code := { maxStack := 2, maxLocals := 1, code := prog_15_method_6_code, exceptionTable := #[], attributes := #[] }
def k3m2 : Method := { name := "bytes", desc := "([B)I", sig := { parameters := [(.array .byte)], returnType := some .int }, accessFlags := 8, code := some k3c2 }
def k3c3 : Code := { maxStack := 3, maxLocals := 2, code := prog_15_method_7_code, exceptionTable := #[], attributes := #[] }
def k3m3 : Method := { name := "write", desc := "(Lquorumline/FieldWriter;)V", sig := { parameters := [(.object "quorumline/FieldWriter")], returnType := none }, accessFlags := 0, code := some k3c3 }
def k3c4 : Code := { maxStack := 2, maxLocals := 2, code := prog_15_method_9_code, exceptionTable := #[], attributes := #[] }
def k3m4 : Method := { name := "writeValue", desc := "(Lquorumline/FieldWriter;[B)V", sig := { parameters := [(.object "quorumline/FieldWriter"), (.array .byte)], returnType := none }, accessFlags := 8, code := some k3c4 }
/-- quorumline/Entry -/
def k3 : Class := { plain "quorumline/Entry" (some 2) with
  accessFlags := 48
  interfaces := #[]
  cf := some (fileOf pool3 1 #[.nestMembers #[35]] #[{ accessFlags := 0, nameIndex := 11, descriptorIndex := 75, attributes := #[] }, { accessFlags := 8, nameIndex := 15, descriptorIndex := 16, attributes := #[] }, { accessFlags := 8, nameIndex := 52, descriptorIndex := 53, attributes := #[] }, { accessFlags := 0, nameIndex := 82, descriptorIndex := 139, attributes := #[] }, { accessFlags := 8, nameIndex := 61, descriptorIndex := 62, attributes := #[] }] 48 8 #[] #[{ accessFlags := 18, nameIndex := 19, descriptorIndex := 20, attributes := #[] }, { accessFlags := 18, nameIndex := 23, descriptorIndex := 24, attributes := #[] }, { accessFlags := 24, nameIndex := 124, descriptorIndex := 125, attributes := #[] }, { accessFlags := 24, nameIndex := 127, descriptorIndex := 125, attributes := #[] }, { accessFlags := 24, nameIndex := 128, descriptorIndex := 125, attributes := #[] }])
  fields := #[{ name := "term", type := .long, accessFlags := 18, slot := 0, constantValue := 0 }, { name := "value", type := (.array .byte), accessFlags := 18, slot := 1, constantValue := 0 }, { name := "MAX_VALUE_BYTES", type := .int, accessFlags := 24, slot := 0, constantValue := 0 }, { name := "MAX_BATCH_BYTES", type := .int, accessFlags := 24, slot := 1, constantValue := 0 }, { name := "OVERHEAD_BYTES", type := .int, accessFlags := 24, slot := 2, constantValue := 0 }]
  methods := #[k3m0, k3m1, k3m2, k3m3, k3m4]
  instanceTypes := #[.long, (.array .byte)]
  staticTypes := #[.int, .int, .int]
  resolved := Array.replicate 175 none
  statics := none }

def pool4 : Array CpInfo := pool [(1, .methodref 2 3), (0, .class_ 4), (0, .nameAndType 5 6), (0, u "java/lang/Object"), (0, u "<init>"), (0, u "()V"), (0, .methodref 8 9), (0, .class_ 10), (0, .nameAndType 11 12), (0, u "java/lang/Math"), (0, u "max"), (0, u "(II)I"), (0, .fieldref 14 15), (0, .class_ 16), (0, .nameAndType 17 18), (0, u "quorumline/FieldWriter"), (0, u "bytes"), (0, u "[B"), (0, .fieldref 14 20), (0, .nameAndType 21 22), (0, u "size"), (0, u "I"), (0, .methodref 24 25), (0, .class_ 26), (0, .nameAndType 27 28), (0, u "java/util/Arrays"), (0, u "copyOf"), (0, u "([BI)[B"), (0, .methodref 14 30), (0, .nameAndType 31 32), (0, u "room"), (0, u "(I)V"), (5, .methodref 14 39), (0, .nameAndType 40 41), (0, u "putInt"), (0, u "(II)V"), (2, .methodref 14 45), (0, .nameAndType 46 47), (0, u "write"), (0, u "([BII)V"), (0, .methodref 49 50), (0, .class_ 51), (0, .nameAndType 52 53), (0, u "java/lang/System"), (0, u "arraycopy"), (0, u "(Ljava/lang/Object;ILjava/lang/Object;II)V"), (5, u "()I"), (29, u "([B)V"), (0, .long 2147483639), (9, .long 2), (1, .methodref 8 103), (0, .nameAndType 104 105), (0, u "min"), (0, u "(JJ)J"), (0, .methodref 8 107), (0, .nameAndType 11 105), (7, u "writeInt"), (0, u "writeLong"), (0, u "(J)V")] 21

def k4c0 : Code := { maxStack := 3, maxLocals := 2, code := prog_20_method_1_code, exceptionTable := #[], attributes := #[] }
def k4m0 : Method := { name := "<init>", desc := "(I)V", sig := { parameters := [.int], returnType := none }, accessFlags := 0, code := some k4c0 }
def k4c1 : Code := { maxStack := 1, maxLocals := 1, code := prog_20_method_2_code, exceptionTable := #[], attributes := #[] }
def k4m1 : Method := { name := "size", desc := "()I", sig := { parameters := [], returnType := some .int }, accessFlags := 0, code := some k4c1 }
def k4c2 : Code := { maxStack := 3, maxLocals := 2, code := prog_20_method_8_code, exceptionTable := #[], attributes := #[] }
def k4m2 : Method := { name := "writeInt", desc := "(I)V", sig := { parameters := [.int], returnType := none }, accessFlags := 0, code := some k4c2 }
def k4c3 : Code := { maxStack := 5, maxLocals := 3, code := prog_20_method_9_code, exceptionTable := #[], attributes := #[] }
def k4m3 : Method := { name := "writeLong", desc := "(J)V", sig := { parameters := [.long], returnType := none }, accessFlags := 0, code := some k4c3 }
def k4c4 : Code := { maxStack := 4, maxLocals := 2, code := prog_20_method_10_code, exceptionTable := #[], attributes := #[] }
def k4m4 : Method := { name := "write", desc := "([B)V", sig := { parameters := [(.array .byte)], returnType := none }, accessFlags := 0, code := some k4c4 }
def k4c5 : Code := { maxStack := 5, maxLocals := 4, code := prog_20_method_11_code, exceptionTable := #[], attributes := #[] }
def k4m5 : Method := { name := "write", desc := "([BII)V", sig := { parameters := [(.array .byte), .int, .int], returnType := none }, accessFlags := 0, code := some k4c5 }
def k4c6 : Code := { maxStack := 4, maxLocals := 3, code := prog_20_method_15_code, exceptionTable := #[], attributes := #[] }
def k4m6 : Method := { name := "putInt", desc := "(II)V", sig := { parameters := [.int, .int], returnType := none }, accessFlags := 2, code := some k4c6 }
def k4c7 : Code := { maxStack := 6, maxLocals := 6, code := prog_20_method_16_code, exceptionTable := #[], attributes := #[] }
def k4m7 : Method := { name := "room", desc := "(I)V", sig := { parameters := [.int], returnType := none }, accessFlags := 2, code := some k4c7 }
/-- quorumline/FieldWriter -/
def k4 : Class := { plain "quorumline/FieldWriter" (some 0) with
  accessFlags := 48
  interfaces := #[]
  cf := some (fileOf pool4 14 #[] #[{ accessFlags := 0, nameIndex := 5, descriptorIndex := 32, attributes := #[] }, { accessFlags := 0, nameIndex := 21, descriptorIndex := 59, attributes := #[] }, { accessFlags := 0, nameIndex := 115, descriptorIndex := 32, attributes := #[] }, { accessFlags := 0, nameIndex := 116, descriptorIndex := 117, attributes := #[] }, { accessFlags := 0, nameIndex := 46, descriptorIndex := 89, attributes := #[] }, { accessFlags := 0, nameIndex := 46, descriptorIndex := 47, attributes := #[] }, { accessFlags := 2, nameIndex := 40, descriptorIndex := 41, attributes := #[] }, { accessFlags := 2, nameIndex := 31, descriptorIndex := 32, attributes := #[] }] 48 2 #[] #[{ accessFlags := 2, nameIndex := 17, descriptorIndex := 18, attributes := #[] }, { accessFlags := 2, nameIndex := 21, descriptorIndex := 22, attributes := #[] }])
  fields := #[{ name := "bytes", type := (.array .byte), accessFlags := 2, slot := 0, constantValue := 0 }, { name := "size", type := .int, accessFlags := 2, slot := 1, constantValue := 0 }]
  methods := #[k4m0, k4m1, k4m2, k4m3, k4m4, k4m5, k4m6, k4m7]
  instanceTypes := #[(.array .byte), .int]
  staticTypes := #[]
  resolved := Array.replicate 139 none
  statics := none }

def pool5 : Array CpInfo := pool [(1, .class_ 2), (0, u "java/lang/Math"), (1, .class_ 6), (1, u "java/lang/Object"), (0, u "<init>"), (0, u "()V"), (89, .class_ 100), (1, u "java/lang/Math$RandomNumberGeneratorHolder"), (20, u "(JJ)J"), (50, u "negativeZeroFloatBits"), (0, u "J"), (2, u "negativeZeroDoubleBits"), (21, u "max"), (2, u "min"), (43, u "$assertionsDisabled"), (0, u "Z"), (88, u "(II)I"), (2, u "twoToTheDoubleScaleDown"), (0, u "D"), (4, u "twoToTheDoubleScaleUp"), (9, u "E"), (3, u "PI"), (2, u "TAU"), (2, u "DEGREES_TO_RADIANS"), (0, u "RADIANS_TO_DEGREES")] 94

def k5m0 : Method := { name := "<init>", desc := "()V", sig := { parameters := [], returnType := none }, accessFlags := 2, code := none }
def k5c1 : Code := { maxStack := 2, maxLocals := 2, code := jdk_29_method_65_code, exceptionTable := #[], attributes := #[] }
def k5m1 : Method := { name := "max", desc := "(II)I", sig := { parameters := [.int, .int], returnType := some .int }, accessFlags := 9, code := some k5c1 }
def k5c2 : Code := { maxStack := 4, maxLocals := 4, code := jdk_29_method_66_code, exceptionTable := #[], attributes := #[] }
def k5m2 : Method := { name := "max", desc := "(JJ)J", sig := { parameters := [.long, .long], returnType := some .long }, accessFlags := 9, code := some k5c2 }
def k5c3 : Code := { maxStack := 2, maxLocals := 2, code := jdk_29_method_69_code, exceptionTable := #[], attributes := #[] }
def k5m3 : Method := { name := "min", desc := "(II)I", sig := { parameters := [.int, .int], returnType := some .int }, accessFlags := 9, code := some k5c3 }
def k5c4 : Code := { maxStack := 4, maxLocals := 4, code := jdk_29_method_70_code, exceptionTable := #[], attributes := #[] }
def k5m4 : Method := { name := "min", desc := "(JJ)J", sig := { parameters := [.long, .long], returnType := some .long }, accessFlags := 9, code := some k5c4 }
/-- java/lang/Math -/
def k5 : Class := { plain "java/lang/Math" (some 0) with
  accessFlags := 49
  interfaces := #[]
  cf := some (fileOf pool5 1 #[.nestMembers #[98]] #[{ accessFlags := 2, nameIndex := 7, descriptorIndex := 8, attributes := #[] }, { accessFlags := 9, nameIndex := 198, descriptorIndex := 335, attributes := #[] }, { accessFlags := 9, nameIndex := 198, descriptorIndex := 121, attributes := #[] }, { accessFlags := 9, nameIndex := 201, descriptorIndex := 335, attributes := #[] }, { accessFlags := 9, nameIndex := 201, descriptorIndex := 121, attributes := #[] }] 49 4 #[] #[{ accessFlags := 25, nameIndex := 354, descriptorIndex := 339, attributes := #[] }, { accessFlags := 25, nameIndex := 358, descriptorIndex := 339, attributes := #[] }, { accessFlags := 25, nameIndex := 361, descriptorIndex := 339, attributes := #[] }, { accessFlags := 26, nameIndex := 364, descriptorIndex := 339, attributes := #[] }, { accessFlags := 26, nameIndex := 365, descriptorIndex := 339, attributes := #[] }, { accessFlags := 26, nameIndex := 172, descriptorIndex := 173, attributes := #[] }, { accessFlags := 26, nameIndex := 176, descriptorIndex := 173, attributes := #[] }, { accessFlags := 8, nameIndex := 344, descriptorIndex := 339, attributes := #[] }, { accessFlags := 8, nameIndex := 338, descriptorIndex := 339, attributes := #[] }, { accessFlags := 4120, nameIndex := 245, descriptorIndex := 246, attributes := #[] }])
  fields := #[{ name := "E", type := .double, accessFlags := 25, slot := 0, constantValue := 0 }, { name := "PI", type := .double, accessFlags := 25, slot := 1, constantValue := 0 }, { name := "TAU", type := .double, accessFlags := 25, slot := 2, constantValue := 0 }, { name := "DEGREES_TO_RADIANS", type := .double, accessFlags := 26, slot := 3, constantValue := 0 }, { name := "RADIANS_TO_DEGREES", type := .double, accessFlags := 26, slot := 4, constantValue := 0 }, { name := "negativeZeroFloatBits", type := .long, accessFlags := 26, slot := 5, constantValue := 0 }, { name := "negativeZeroDoubleBits", type := .long, accessFlags := 26, slot := 6, constantValue := 0 }, { name := "twoToTheDoubleScaleUp", type := .double, accessFlags := 8, slot := 7, constantValue := 0 }, { name := "twoToTheDoubleScaleDown", type := .double, accessFlags := 8, slot := 8, constantValue := 0 }, { name := "$assertionsDisabled", type := .boolean, accessFlags := 4120, slot := 9, constantValue := 0 }]
  methods := #[k5m0, k5m1, k5m2, k5m3, k5m4]
  instanceTypes := #[]
  staticTypes := #[.double, .double, .double, .double, .double, .long, .long, .double, .double, .boolean]
  resolved := Array.replicate 460 none
  statics := none }

def pool6 : Array CpInfo := pool [(2, .class_ 4), (1, u "java/lang/Object"), (0, u "<init>"), (0, u "()V"), (1, .class_ 10), (1, u "java/lang/System"), (0, u "allowSecurityManager"), (0, u "I"), (16, u "cons"), (0, u "Ljava/io/Console;"), (77, .class_ 110), (1, u "java/lang/System$CallersHolder"), (43, u "initialErrStream"), (0, u "Ljava/io/PrintStream;"), (19, u "security"), (0, u "Ljava/lang/SecurityManager;"), (31, .class_ 209), (0, u "java/lang/System$1"), (7, u "props"), (0, u "Ljava/util/Properties;"), (2, u "lineSeparator"), (0, u "Ljava/lang/String;"), (96, .class_ 321), (1, u "java/lang/System$LoggerFinder"), (5, .class_ 328), (0, u "java/lang/System$Logger"), (67, u "err"), (2, u "out"), (91, u "notSupportedJnuEncoding"), (15, u "in"), (17, u "initialIn"), (0, u "Ljava/io/InputStream;"), (35, u "bootLayer"), (0, u "Ljava/lang/ModuleLayer;"), (99, .class_ 664), (0, u "java/lang/System$2"), (9, u "NEVER"), (2, u "MAYBE"), (49, u "arraycopy"), (0, u "(Ljava/lang/Object;ILjava/lang/Object;II)V"), (72, .class_ 802), (0, u "java/lang/System$Logger$Level")] 31

def k6m0 : Method := { name := "<init>", desc := "()V", sig := { parameters := [], returnType := none }, accessFlags := 2, code := none }
def k6m1 : Method := { name := "arraycopy", desc := "(Ljava/lang/Object;ILjava/lang/Object;II)V", sig := { parameters := [(.object "java/lang/Object"), .int, (.object "java/lang/Object"), .int, .int], returnType := none }, accessFlags := 265, code := none }
/-- java/lang/System -/
def k6 : Class := { plain "java/lang/System" (some 0) with
  accessFlags := 49
  interfaces := #[]
  cf := some (fileOf pool6 8 #[.nestMembers #[319, 327, 801, 108, 663, 208]] #[{ accessFlags := 2, nameIndex := 5, descriptorIndex := 6, attributes := #[] }, { accessFlags := 265, nameIndex := 727, descriptorIndex := 728, attributes := #[] }] 49 2 #[] #[{ accessFlags := 25, nameIndex := 507, descriptorIndex := 526, attributes := #[] }, { accessFlags := 25, nameIndex := 399, descriptorIndex := 155, attributes := #[] }, { accessFlags := 25, nameIndex := 396, descriptorIndex := 155, attributes := #[] }, { accessFlags := 10, nameIndex := 525, descriptorIndex := 526, attributes := #[] }, { accessFlags := 26, nameIndex := 674, descriptorIndex := 12, attributes := #[] }, { accessFlags := 26, nameIndex := 677, descriptorIndex := 12, attributes := #[] }, { accessFlags := 10, nameIndex := 11, descriptorIndex := 12, attributes := #[] }, { accessFlags := 74, nameIndex := 175, descriptorIndex := 176, attributes := #[] }, { accessFlags := 10, nameIndex := 491, descriptorIndex := 222, attributes := #[] }, { accessFlags := 74, nameIndex := 29, descriptorIndex := 30, attributes := #[] }, { accessFlags := 74, nameIndex := 154, descriptorIndex := 155, attributes := #[] }, { accessFlags := 10, nameIndex := 217, descriptorIndex := 218, attributes := #[] }, { accessFlags := 10, nameIndex := 221, descriptorIndex := 222, attributes := #[] }, { accessFlags := 8, nameIndex := 562, descriptorIndex := 563, attributes := #[] }])
  fields := #[{ name := "in", type := (.object "java/io/InputStream"), accessFlags := 25, slot := 0, constantValue := 0 }, { name := "out", type := (.object "java/io/PrintStream"), accessFlags := 25, slot := 1, constantValue := 0 }, { name := "err", type := (.object "java/io/PrintStream"), accessFlags := 25, slot := 2, constantValue := 0 }, { name := "initialIn", type := (.object "java/io/InputStream"), accessFlags := 10, slot := 3, constantValue := 0 }, { name := "NEVER", type := .int, accessFlags := 26, slot := 4, constantValue := 0 }, { name := "MAYBE", type := .int, accessFlags := 26, slot := 5, constantValue := 0 }, { name := "allowSecurityManager", type := .int, accessFlags := 10, slot := 6, constantValue := 0 }, { name := "security", type := (.object "java/lang/SecurityManager"), accessFlags := 74, slot := 7, constantValue := 0 }, { name := "notSupportedJnuEncoding", type := (.object "java/lang/String"), accessFlags := 10, slot := 8, constantValue := 0 }, { name := "cons", type := (.object "java/io/Console"), accessFlags := 74, slot := 9, constantValue := 0 }, { name := "initialErrStream", type := (.object "java/io/PrintStream"), accessFlags := 74, slot := 10, constantValue := 0 }, { name := "props", type := (.object "java/util/Properties"), accessFlags := 10, slot := 11, constantValue := 0 }, { name := "lineSeparator", type := (.object "java/lang/String"), accessFlags := 10, slot := 12, constantValue := 0 }, { name := "bootLayer", type := (.object "java/lang/ModuleLayer"), accessFlags := 8, slot := 13, constantValue := 0 }]
  methods := #[k6m0, k6m1]
  instanceTypes := #[]
  staticTypes := #[(.object "java/io/InputStream"), (.object "java/io/PrintStream"), (.object "java/io/PrintStream"), (.object "java/io/InputStream"), .int, .int, .int, (.object "java/lang/SecurityManager"), (.object "java/lang/String"), (.object "java/io/Console"), (.object "java/io/PrintStream"), (.object "java/util/Properties"), (.object "java/lang/String"), (.object "java/lang/ModuleLayer")]
  resolved := Array.replicate 834 none
  statics := none }

def pool7 : Array CpInfo := pool [(2, .class_ 4), (1, u "java/lang/Object"), (0, u "<init>"), (0, u "()V"), (7, .class_ 16), (1, u "java/util/Arrays"), (57, .class_ 76), (1, u "java/util/Arrays$NaturalOrder"), (36, .class_ 115), (1, u "java/util/Arrays$LegacyMergeSort"), (1, u "Z"), (32, .methodref 151 152), (0, .class_ 153), (0, .nameAndType 154 155), (0, u "java/lang/System"), (0, u "arraycopy"), (0, u "(Ljava/lang/Object;ILjava/lang/Object;II)V"), (146, u "copyOf"), (1, .methodref 305 306), (0, .class_ 307), (0, .nameAndType 308 309), (0, u "java/lang/Math"), (0, u "min"), (0, u "(II)I"), (65, .class_ 376), (0, u "java/util/Arrays$ArrayList"), (68, u "$assertionsDisabled"), (269, u "MIN_ARRAY_SORT_GRAN"), (0, u "I"), (2, u "INSERTIONSORT_THRESHOLD"), (149, u "([BI)[B"), (105, .class_ 976), (0, u "java/util/Arrays$ArrayItr")] 52

def k7m0 : Method := { name := "<init>", desc := "()V", sig := { parameters := [], returnType := none }, accessFlags := 2, code := none }
def k7c1 : Code := { maxStack := 6, maxLocals := 3, code := jdk_65_method_121_code, exceptionTable := #[], attributes := #[] }
def k7m1 : Method := { name := "copyOf", desc := "([BI)[B", sig := { parameters := [(.array .byte), .int], returnType := some (.array .byte) }, accessFlags := 9, code := some k7c1 }
/-- java/util/Arrays -/
def k7 : Class := { plain "java/util/Arrays" (some 0) with
  accessFlags := 49
  interfaces := #[]
  cf := some (fileOf pool7 14 #[.nestMembers #[975, 375, 113, 74]] #[{ accessFlags := 2, nameIndex := 5, descriptorIndex := 6, attributes := #[] }, { accessFlags := 9, nameIndex := 302, descriptorIndex := 869, attributes := #[] }] 49 2 #[] #[{ accessFlags := 26, nameIndex := 715, descriptorIndex := 716, attributes := #[] }, { accessFlags := 26, nameIndex := 719, descriptorIndex := 716, attributes := #[] }, { accessFlags := 4120, nameIndex := 445, descriptorIndex := 117, attributes := #[] }])
  fields := #[{ name := "MIN_ARRAY_SORT_GRAN", type := .int, accessFlags := 26, slot := 0, constantValue := 0 }, { name := "INSERTIONSORT_THRESHOLD", type := .int, accessFlags := 26, slot := 1, constantValue := 0 }, { name := "$assertionsDisabled", type := .boolean, accessFlags := 4120, slot := 2, constantValue := 0 }]
  methods := #[k7m0, k7m1]
  instanceTypes := #[]
  staticTypes := #[.int, .int, .boolean]
  resolved := Array.replicate 1029 none
  statics := none }

def pool8 : Array CpInfo := pool [(1, u "java/lang/Cloneable"), (0, .class_ 1), (0, u "java/lang/Object"), (0, .class_ 3)] 3

/-- java/lang/Cloneable -/
def k8 : Class := { plain "java/lang/Cloneable" (some 0) with
  accessFlags := 1537
  interfaces := #[]
  cf := some (fileOf pool8 2 #[] #[] 1537 4 #[] #[])
  fields := #[]
  methods := #[]
  instanceTypes := #[]
  staticTypes := #[]
  resolved := Array.replicate 8 none
  statics := none }

def pool9 : Array CpInfo := pool [(1, u "java/io/Serializable"), (0, .class_ 1), (0, u "java/lang/Object"), (0, .class_ 3)] 3

/-- java/io/Serializable -/
def k9 : Class := { plain "java/io/Serializable" (some 0) with
  accessFlags := 1537
  interfaces := #[]
  cf := some (fileOf pool9 2 #[] #[] 1537 4 #[] #[])
  fields := #[]
  methods := #[]
  instanceTypes := #[]
  staticTypes := #[]
  resolved := Array.replicate 8 none
  statics := none }

/-- the primitive byte -/
def k10 : Class := { plain "byte" none with kind := .primitive 'B', accessFlags := 0x411 }
/-- [B -/
def k11 : Class := { plain "[B" (some 0) with kind := .array 10 .byte, interfaces := #[8, 9], accessFlags := 1041 }

/-- the primitive int -/
def k12 : Class := { plain "int" none with kind := .primitive 'I', accessFlags := 0x411 }
/-- [I -/
def k13 : Class := { plain "[I" (some 0) with kind := .array 12 .int, interfaces := #[8, 9], accessFlags := 1041 }

def heap : Heap := #[]
def classes : Array Class := #[k0, k1, k2, k3, k4, k5, k6, k7, k8, k9, k10, k11, k12, k13]
def interned : List (Array UInt16 × Addr) := []
def slotsUsed : Nat := 0
def theMethod : MethodId := ⟨1, 1⟩
def args0 : Array Value := #[.long 5, .int 1, .int 2]
def aboutOver (below : List Frame) : State where
  vm := { classes := classes, interned := interned.toArray }
  heap := heap
  slotsUsed := slotsUsed
  threads := #[{ frames := .invoking theMethod args0 :: below }]
def below0 : List Frame := [.native { method := ⟨0, 0⟩, args := #[] }]
def about1 : State := aboutOver below0
def p0 : Program := .bare "" "" ""
def e0 : Env := launch0.env 0 0 0
theorem w_frames : about1.frames = Frame.invoking theMethod args0 :: below0 := rfl
set_option maxRecDepth 65536 in
theorem w_args : argsFit about1.vm theMethod args0 = true := by decide +kernel
set_option maxRecDepth 65536 in
theorem w_heap : heapFits about1 = true := by decide +kernel
set_option maxRecDepth 65536 in
theorem w_runnable : about1.curStatus? = some .runnable := by decide +kernel
set_option maxRecDepth 65536 in
theorem w_alone : about1.alone = true := by decide +kernel
set_option maxRecDepth 65536 in
theorem w_named : about1.methodNamed? x = some theMethod := by decide +kernel
set_option maxRecDepth 65536 in
theorem w_hears : about1.hears theMethod below0 = true := by decide +kernel
set_option maxRecDepth 65536 in
theorem w_ripe : about1.ripe theMethod args0 below0 = true := by decide +kernel
theorem w_running : about1.status = .running := rfl
set_option maxRecDepth 65536 in
theorem w_room : about1.hasRoom e0.platform room_1 = true :=
  launch0.hasRoom_least _ room_1 (by decide +kernel) (by decide +kernel) (by decide +kernel) (by decide +kernel) (by decide +kernel) (by decide +kernel)
theorem allAtoms_all (ts : List Jvm.Cond) (a : Array Jvm.Value) (st : Jvm.State) : (allAtoms ts).before a st = ts.all (fun c => c.before a st) := by
  induction ts with
  | nil => rfl
  | cons c t ih =>
    show (Jvm.Cond.and c (allAtoms t)).before a st = _
    rw [Jvm.Cond.before_and, ih, List.all_cons]
def words1 : List Jvm.Cond := Jvm.Cond.code x code maxLocals ret :: tables_1
/-- a 'code' word, met by the world's own term for the bytes: nothing is compared byte by byte -/
theorem code_word {y : MethodName} {bytes : ByteArray} {mx : Nat} {rt : Option FieldType} {a : Array Value} {s : State} {m : MethodId} {meth : Method} {c : Code} (h1 : s.methodNamed? y = some m) (h2 : s.vm.method? m = some meth) (h3 : meth.code = some c) (h4 : c.code = bytes)
    (h5 : (c.maxLocals == mx && c.exceptionTable.isEmpty && decide (c.maxStack ≤ mostOperands) && decide (meth.sig.returnType = rt) && !meth.locks && decide (parseMethodDescriptor y.desc = some meth.sig)) = true) : (Jvm.Cond.code y bytes mx rt).before a s = true := by
  simp only [Bool.and_eq_true, beq_iff_eq, Bool.not_eq_true', decide_eq_true_eq] at h5
  obtain ⟨⟨⟨⟨⟨g1, g2⟩, g3⟩, g4⟩, g5⟩, g6⟩ := h5
  simp [Cond.before, Cond.holds, Cond.value, h1, h2, h3, h4, g1, g2, g3, g4, g5, g6]
def isCode : Jvm.Cond → Bool
  | .code _ _ _ _ => true
  | _ => false
theorem all_split {L : List Jvm.Cond} {P : Jvm.Cond → Bool} (h1 : L.all (fun c => isCode c || P c) = true) (h2 : ∀ c ∈ L.filter isCode, P c = true) : L.all P = true := by
  refine List.all_eq_true.mpr fun c hc => ?_
  have h := List.all_eq_true.mp h1 c hc
  rcases Bool.eq_false_or_eq_true (isCode c) with hi | hi
  · exact h2 c (List.mem_filter.mpr ⟨hc, hi⟩)
  · simpa [hi] using h
set_option maxRecDepth 65536 in
theorem w_c0 : (Jvm.Cond.code x code maxLocals ret).before args0 about1 = true := code_word (m := ⟨1, 1⟩) (meth := k1m1) (c := k1c1) (by decide +kernel) rfl rfl rfl (by decide +kernel)
set_option maxRecDepth 65536 in
theorem w_c1 : (Jvm.Cond.code ({ cls := "quorumline/Entry", name := "bytes", desc := "([B)I" } : Jvm.MethodName) prog_15_method_6_code (1 : Nat) (Option.some Jvm.ClassFile.FieldType.int)).before args0 about1 = true := code_word (m := ⟨3, 2⟩) (meth := k3m2) (c := k3c2) (by decide +kernel) rfl rfl rfl (by decide +kernel)
set_option maxRecDepth 65536 in
theorem w_c2 : (Jvm.Cond.code ({ cls := "quorumline/Entry", name := "<init>", desc := "(J[B)V" } : Jvm.MethodName) prog_15_method_1_code (4 : Nat) (Option.none : Option Jvm.ClassFile.FieldType)).before args0 about1 = true := code_word (m := ⟨3, 0⟩) (meth := k3m0) (c := k3c0) (by decide +kernel) rfl rfl rfl (by decide +kernel)
set_option maxRecDepth 65536 in
theorem w_c3 : (Jvm.Cond.code ({ cls := "java/lang/Record", name := "<init>", desc := "()V" } : Jvm.MethodName) jdk_30_method_1_code (1 : Nat) (Option.none : Option Jvm.ClassFile.FieldType)).before args0 about1 = true := code_word (m := ⟨2, 0⟩) (meth := k2m0) (c := k2c0) (by decide +kernel) rfl rfl rfl (by decide +kernel)
set_option maxRecDepth 65536 in
theorem w_c4 : (Jvm.Cond.code ({ cls := "java/lang/Object", name := "<init>", desc := "()V" } : Jvm.MethodName) object_method_1_code (1 : Nat) (Option.none : Option Jvm.ClassFile.FieldType)).before args0 about1 = true := code_word (m := ⟨0, 0⟩) (meth := k0m0) (c := k0c0) (by decide +kernel) rfl rfl rfl (by decide +kernel)
set_option maxRecDepth 65536 in
theorem w_c5 : (Jvm.Cond.code ({ cls := "quorumline/FieldWriter", name := "<init>", desc := "(I)V" } : Jvm.MethodName) prog_20_method_1_code (2 : Nat) (Option.none : Option Jvm.ClassFile.FieldType)).before args0 about1 = true := code_word (m := ⟨4, 0⟩) (meth := k4m0) (c := k4c0) (by decide +kernel) rfl rfl rfl (by decide +kernel)
set_option maxRecDepth 65536 in
theorem w_c6 : (Jvm.Cond.code ({ cls := "java/lang/Math", name := "max", desc := "(II)I" } : Jvm.MethodName) jdk_29_method_65_code (2 : Nat) (Option.some Jvm.ClassFile.FieldType.int)).before args0 about1 = true := code_word (m := ⟨5, 1⟩) (meth := k5m1) (c := k5c1) (by decide +kernel) rfl rfl rfl (by decide +kernel)
set_option maxRecDepth 65536 in
theorem w_c7 : (Jvm.Cond.code ({ cls := "quorumline/Entry", name := "write", desc := "(Lquorumline/FieldWriter;)V" } : Jvm.MethodName) prog_15_method_7_code (2 : Nat) (Option.none : Option Jvm.ClassFile.FieldType)).before args0 about1 = true := code_word (m := ⟨3, 3⟩) (meth := k3m3) (c := k3c3) (by decide +kernel) rfl rfl rfl (by decide +kernel)
set_option maxRecDepth 65536 in
theorem w_c8 : (Jvm.Cond.code ({ cls := "quorumline/FieldWriter", name := "writeLong", desc := "(J)V" } : Jvm.MethodName) prog_20_method_9_code (3 : Nat) (Option.none : Option Jvm.ClassFile.FieldType)).before args0 about1 = true := code_word (m := ⟨4, 3⟩) (meth := k4m3) (c := k4c3) (by decide +kernel) rfl rfl rfl (by decide +kernel)
set_option maxRecDepth 65536 in
theorem w_c9 : (Jvm.Cond.code ({ cls := "quorumline/FieldWriter", name := "room", desc := "(I)V" } : Jvm.MethodName) prog_20_method_16_code (6 : Nat) (Option.none : Option Jvm.ClassFile.FieldType)).before args0 about1 = true := code_word (m := ⟨4, 7⟩) (meth := k4m7) (c := k4c7) (by decide +kernel) rfl rfl rfl (by decide +kernel)
set_option maxRecDepth 65536 in
theorem w_c10 : (Jvm.Cond.code ({ cls := "quorumline/FieldWriter", name := "putInt", desc := "(II)V" } : Jvm.MethodName) prog_20_method_15_code (3 : Nat) (Option.none : Option Jvm.ClassFile.FieldType)).before args0 about1 = true := code_word (m := ⟨4, 6⟩) (meth := k4m6) (c := k4c6) (by decide +kernel) rfl rfl rfl (by decide +kernel)
set_option maxRecDepth 65536 in
theorem w_c11 : (Jvm.Cond.code ({ cls := "quorumline/Entry", name := "writeValue", desc := "(Lquorumline/FieldWriter;[B)V" } : Jvm.MethodName) prog_15_method_9_code (2 : Nat) (Option.none : Option Jvm.ClassFile.FieldType)).before args0 about1 = true := code_word (m := ⟨3, 4⟩) (meth := k3m4) (c := k3c4) (by decide +kernel) rfl rfl rfl (by decide +kernel)
set_option maxRecDepth 65536 in
theorem w_c12 : (Jvm.Cond.code ({ cls := "quorumline/FieldWriter", name := "writeInt", desc := "(I)V" } : Jvm.MethodName) prog_20_method_8_code (2 : Nat) (Option.none : Option Jvm.ClassFile.FieldType)).before args0 about1 = true := code_word (m := ⟨4, 2⟩) (meth := k4m2) (c := k4c2) (by decide +kernel) rfl rfl rfl (by decide +kernel)
set_option maxRecDepth 65536 in
theorem w_c13 : (Jvm.Cond.code ({ cls := "quorumline/FieldWriter", name := "size", desc := "()I" } : Jvm.MethodName) prog_20_method_2_code (1 : Nat) (Option.some Jvm.ClassFile.FieldType.int)).before args0 about1 = true := code_word (m := ⟨4, 1⟩) (meth := k4m1) (c := k4c1) (by decide +kernel) rfl rfl rfl (by decide +kernel)
set_option maxRecDepth 65536 in
theorem w_c14 : (Jvm.Cond.code ({ cls := "quorumline/Entry", name := "checkValue", desc := "([B)V" } : Jvm.MethodName) prog_15_method_2_code (1 : Nat) (Option.none : Option Jvm.ClassFile.FieldType)).before args0 about1 = true := code_word (m := ⟨3, 1⟩) (meth := k3m1) (c := k3c1) (by decide +kernel) rfl rfl rfl (by decide +kernel)
set_option maxRecDepth 65536 in
theorem w_c15 : (Jvm.Cond.code ({ cls := "quorumline/FieldWriter", name := "write", desc := "([B)V" } : Jvm.MethodName) prog_20_method_10_code (2 : Nat) (Option.none : Option Jvm.ClassFile.FieldType)).before args0 about1 = true := code_word (m := ⟨4, 4⟩) (meth := k4m4) (c := k4c4) (by decide +kernel) rfl rfl rfl (by decide +kernel)
set_option maxRecDepth 65536 in
theorem w_c16 : (Jvm.Cond.code ({ cls := "quorumline/FieldWriter", name := "write", desc := "([BII)V" } : Jvm.MethodName) prog_20_method_11_code (4 : Nat) (Option.none : Option Jvm.ClassFile.FieldType)).before args0 about1 = true := code_word (m := ⟨4, 5⟩) (meth := k4m5) (c := k4c5) (by decide +kernel) rfl rfl rfl (by decide +kernel)
set_option maxRecDepth 65536 in
theorem w_c17 : (Jvm.Cond.code ({ cls := "java/lang/Math", name := "min", desc := "(JJ)J" } : Jvm.MethodName) jdk_29_method_70_code (4 : Nat) (Option.some Jvm.ClassFile.FieldType.long)).before args0 about1 = true := code_word (m := ⟨5, 4⟩) (meth := k5m4) (c := k5c4) (by decide +kernel) rfl rfl rfl (by decide +kernel)
set_option maxRecDepth 65536 in
theorem w_c18 : (Jvm.Cond.code ({ cls := "java/lang/Math", name := "max", desc := "(JJ)J" } : Jvm.MethodName) jdk_29_method_66_code (4 : Nat) (Option.some Jvm.ClassFile.FieldType.long)).before args0 about1 = true := code_word (m := ⟨5, 2⟩) (meth := k5m2) (c := k5c2) (by decide +kernel) rfl rfl rfl (by decide +kernel)
set_option maxRecDepth 65536 in
theorem w_c19 : (Jvm.Cond.code ({ cls := "java/util/Arrays", name := "copyOf", desc := "([BI)[B" } : Jvm.MethodName) jdk_65_method_121_code (3 : Nat) (Option.some (Jvm.ClassFile.FieldType.array Jvm.ClassFile.FieldType.byte))).before args0 about1 = true := code_word (m := ⟨7, 1⟩) (meth := k7m1) (c := k7c1) (by decide +kernel) rfl rfl rfl (by decide +kernel)
set_option maxRecDepth 65536 in
theorem w_c20 : (Jvm.Cond.code ({ cls := "java/lang/Math", name := "min", desc := "(II)I" } : Jvm.MethodName) jdk_29_method_69_code (2 : Nat) (Option.some Jvm.ClassFile.FieldType.int)).before args0 about1 = true := code_word (m := ⟨5, 3⟩) (meth := k5m3) (c := k5c3) (by decide +kernel) rfl rfl rfl (by decide +kernel)
def codes1 : List Jvm.Cond := [Jvm.Cond.code x code maxLocals ret, Jvm.Cond.code ({ cls := "quorumline/Entry", name := "bytes", desc := "([B)I" } : Jvm.MethodName) prog_15_method_6_code (1 : Nat) (Option.some Jvm.ClassFile.FieldType.int), Jvm.Cond.code ({ cls := "quorumline/Entry", name := "<init>", desc := "(J[B)V" } : Jvm.MethodName) prog_15_method_1_code (4 : Nat) (Option.none : Option Jvm.ClassFile.FieldType), Jvm.Cond.code ({ cls := "java/lang/Record", name := "<init>", desc := "()V" } : Jvm.MethodName) jdk_30_method_1_code (1 : Nat) (Option.none : Option Jvm.ClassFile.FieldType), Jvm.Cond.code ({ cls := "java/lang/Object", name := "<init>", desc := "()V" } : Jvm.MethodName) object_method_1_code (1 : Nat) (Option.none : Option Jvm.ClassFile.FieldType), Jvm.Cond.code ({ cls := "quorumline/FieldWriter", name := "<init>", desc := "(I)V" } : Jvm.MethodName) prog_20_method_1_code (2 : Nat) (Option.none : Option Jvm.ClassFile.FieldType), Jvm.Cond.code ({ cls := "java/lang/Math", name := "max", desc := "(II)I" } : Jvm.MethodName) jdk_29_method_65_code (2 : Nat) (Option.some Jvm.ClassFile.FieldType.int), Jvm.Cond.code ({ cls := "quorumline/Entry", name := "write", desc := "(Lquorumline/FieldWriter;)V" } : Jvm.MethodName) prog_15_method_7_code (2 : Nat) (Option.none : Option Jvm.ClassFile.FieldType), Jvm.Cond.code ({ cls := "quorumline/FieldWriter", name := "writeLong", desc := "(J)V" } : Jvm.MethodName) prog_20_method_9_code (3 : Nat) (Option.none : Option Jvm.ClassFile.FieldType), Jvm.Cond.code ({ cls := "quorumline/FieldWriter", name := "room", desc := "(I)V" } : Jvm.MethodName) prog_20_method_16_code (6 : Nat) (Option.none : Option Jvm.ClassFile.FieldType), Jvm.Cond.code ({ cls := "quorumline/FieldWriter", name := "putInt", desc := "(II)V" } : Jvm.MethodName) prog_20_method_15_code (3 : Nat) (Option.none : Option Jvm.ClassFile.FieldType), Jvm.Cond.code ({ cls := "quorumline/Entry", name := "writeValue", desc := "(Lquorumline/FieldWriter;[B)V" } : Jvm.MethodName) prog_15_method_9_code (2 : Nat) (Option.none : Option Jvm.ClassFile.FieldType), Jvm.Cond.code ({ cls := "quorumline/FieldWriter", name := "writeInt", desc := "(I)V" } : Jvm.MethodName) prog_20_method_8_code (2 : Nat) (Option.none : Option Jvm.ClassFile.FieldType), Jvm.Cond.code ({ cls := "quorumline/FieldWriter", name := "size", desc := "()I" } : Jvm.MethodName) prog_20_method_2_code (1 : Nat) (Option.some Jvm.ClassFile.FieldType.int), Jvm.Cond.code ({ cls := "quorumline/Entry", name := "checkValue", desc := "([B)V" } : Jvm.MethodName) prog_15_method_2_code (1 : Nat) (Option.none : Option Jvm.ClassFile.FieldType), Jvm.Cond.code ({ cls := "quorumline/FieldWriter", name := "write", desc := "([B)V" } : Jvm.MethodName) prog_20_method_10_code (2 : Nat) (Option.none : Option Jvm.ClassFile.FieldType), Jvm.Cond.code ({ cls := "quorumline/FieldWriter", name := "write", desc := "([BII)V" } : Jvm.MethodName) prog_20_method_11_code (4 : Nat) (Option.none : Option Jvm.ClassFile.FieldType), Jvm.Cond.code ({ cls := "java/lang/Math", name := "min", desc := "(JJ)J" } : Jvm.MethodName) jdk_29_method_70_code (4 : Nat) (Option.some Jvm.ClassFile.FieldType.long), Jvm.Cond.code ({ cls := "java/lang/Math", name := "max", desc := "(JJ)J" } : Jvm.MethodName) jdk_29_method_66_code (4 : Nat) (Option.some Jvm.ClassFile.FieldType.long), Jvm.Cond.code ({ cls := "java/util/Arrays", name := "copyOf", desc := "([BI)[B" } : Jvm.MethodName) jdk_65_method_121_code (3 : Nat) (Option.some (Jvm.ClassFile.FieldType.array Jvm.ClassFile.FieldType.byte)), Jvm.Cond.code ({ cls := "java/lang/Math", name := "min", desc := "(II)I" } : Jvm.MethodName) jdk_29_method_69_code (2 : Nat) (Option.some Jvm.ClassFile.FieldType.int)]
set_option maxRecDepth 65536 in
theorem codes_eq : words1.filter isCode = codes1 := rfl
theorem w_codes : ∀ c ∈ words1.filter isCode, c.before args0 about1 = true := by
  rw [codes_eq]
  intro c hc
  simp only [codes1, List.mem_cons, List.not_mem_nil, or_false] at hc
  rcases hc with rfl | rfl | rfl | rfl | rfl | rfl | rfl | rfl | rfl | rfl | rfl | rfl | rfl | rfl | rfl | rfl | rfl | rfl | rfl | rfl | rfl
  · exact w_c0
  · exact w_c1
  · exact w_c2
  · exact w_c3
  · exact w_c4
  · exact w_c5
  · exact w_c6
  · exact w_c7
  · exact w_c8
  · exact w_c9
  · exact w_c10
  · exact w_c11
  · exact w_c12
  · exact w_c13
  · exact w_c14
  · exact w_c15
  · exact w_c16
  · exact w_c17
  · exact w_c18
  · exact w_c19
  · exact w_c20
set_option maxRecDepth 65536 in
theorem w_t1 : (words1.take 24).all (fun c => isCode c || c.before args0 about1) = true := by decide +kernel
set_option maxRecDepth 65536 in
theorem w_t2 : ((words1.drop 24).take 24).all (fun c => isCode c || c.before args0 about1) = true := by decide +kernel
set_option maxRecDepth 65536 in
theorem w_t3 : (((words1.drop 24).drop 24).take 24).all (fun c => isCode c || c.before args0 about1) = true := by decide +kernel
set_option maxRecDepth 65536 in
theorem w_t4 : ((((words1.drop 24).drop 24).drop 24).take 24).all (fun c => isCode c || c.before args0 about1) = true := by decide +kernel
set_option maxRecDepth 65536 in
theorem w_t5 : ((((words1.drop 24).drop 24).drop 24).drop 24).all (fun c => isCode c || c.before args0 about1) = true := by decide +kernel
theorem w_tables : (allAtoms (Jvm.Cond.code x code maxLocals ret :: tables_1)).before args0 about1 = true := by
  rw [allAtoms_all]
  show words1.all (fun c => c.before args0 about1) = true
  refine all_split ?_ w_codes
  rw [← List.take_append_drop 24 words1, List.all_append, w_t1, ← List.take_append_drop 24 (words1.drop 24), List.all_append, w_t2, ← List.take_append_drop 24 ((words1.drop 24).drop 24), List.all_append, w_t3, ← List.take_append_drop 24 (((words1.drop 24).drop 24).drop 24), List.all_append, w_t4, w_t5]
  rfl
set_option maxRecDepth 65536 in
theorem w_case : (Jvm.Cond.and given_1 narrow_1).before args0 about1 = true := by decide +kernel
theorem w_applies : (headSpec (Jvm.Cond.code x code maxLocals ret :: tables_1) room_1).applies x e0.platform about1 = true :=
  (Spec.applies_iff w_frames).mpr ⟨w_running, w_runnable, w_alone, w_named, w_hears, w_ripe, w_room, w_tables⟩
theorem atStart : AtStart classFile x code maxLocals ret World_1 tables_1 room_1 Calls_1 rest_1 Pre_1 launch0 p0 e0 about1 theMethod args0 below0 :=
  ⟨lists_1, trivial, launch0.admits_env _ _ _, launch0.least_env, fairChoices_fair.cas, fairChoices_fair.clock, w_frames, w_args, w_heap, w_applies, trivial, trivial, w_case⟩
end start1
theorem witness_1 : WitnessClaimed_1 := ⟨start1.p0, start1.e0, start1.about1, start1.theMethod, start1.args0, start1.below0, start1.atStart⟩
end Jvm.Pilot.@@N@@
