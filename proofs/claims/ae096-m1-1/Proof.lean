import JvmDerived
import JvmDerived.Pilot.@@N@@Statement
import JvmDerived.Pilot.@@N@@Code
set_option linter.unusedVariables false
set_option linter.unusedSimpArgs false
namespace Jvm.RoadKit
open Sem ClassFile Op Lib Jvm.Stand Jvm.Free Jvm.LawKit
section New
variable {p : Program} {l : Launch} {e : Env} {R : Room} {s : State} {m : MethodId} {args : Array Value} {below : List Frame} {meth : Method} {c : Code} {T : State} {locs : List Loc} {cells slots : Nat}
theorem retI (X : Stand p l e R s m args below meth c T locs cells slots) (hx : p.tables.exec = Jvm.exec) {pc : Nat} {Ls : Array Slot} {z : Int32} {rest : List Value} (hret : meth.sig.returnType = some .int) (hd : decode c.code pc = .ok (.ireturn, 1)) {fs : List Frame}
    (hl : ∀ (f : JFrame) (acts : List Action), f.method = m → f.locked = none → f.entered = [] → (doReturn e (T.setTop f) acts (some (.int z))).1 = T.setFrames fs) : Steps p.tables e below (T.setTop (mkF m pc Ls (.int z :: rest))) (T.setFrames fs) :=
  retOut X hx hret rfl (Or.inl ⟨rfl, Or.inl rfl, _, rfl⟩) hd hl
theorem own_retJ (X : Stand p l e R s m args below meth c T locs cells slots) (hx : p.tables.exec = Jvm.exec) {pc : Nat} {Ls : Array Slot} {z : Int64} {rest : List Value} (hret : meth.sig.returnType = some .long) (hd : decode c.code pc = .ok (.lreturn, 1)) {fs : List Frame}
    (hl : ∀ (f : JFrame) (acts : List Action), f.method = m → f.locked = none → f.entered = [] → (doReturn e (T.setTop f) acts (some (.long z))).1 = T.setFrames fs) : Steps p.tables e below (T.setTop (mkF m pc Ls (.long z :: rest))) (T.setFrames fs) :=
  retOut X hx hret rfl (Or.inr (Or.inl ⟨rfl, rfl, _, rfl⟩)) hd hl
theorem own_retD (X : Stand p l e R s m args below meth c T locs cells slots) (hx : p.tables.exec = Jvm.exec) {pc : Nat} {Ls : Array Slot} {z : UInt64} {rest : List Value} (hret : meth.sig.returnType = some .double) (hd : decode c.code pc = .ok (.dreturn, 1)) {fs : List Frame}
    (hl : ∀ (f : JFrame) (acts : List Action), f.method = m → f.locked = none → f.entered = [] → (doReturn e (T.setTop f) acts (some (.double z))).1 = T.setFrames fs) : Steps p.tables e below (T.setTop (mkF m pc Ls (.double z :: rest))) (T.setFrames fs) :=
  retOut X hx hret rfl (Or.inr (Or.inr (Or.inl ⟨rfl, rfl, _, rfl⟩))) hd hl
theorem own_retR (X : Stand p l e R s m args below meth c T locs cells slots) (hx : p.tables.exec = Jvm.exec) {pc : Nat} {Ls : Array Slot} {w : Value} {t : FieldType} {rest : List Value} (hret : meth.sig.returnType = some t) (ht : t.isReference = true) (hv : w.isRef = true) (hd : decode c.code pc = .ok (.areturn, 1)) {fs : List Frame}
    (hl : ∀ (f : JFrame) (acts : List Action), f.method = m → f.locked = none → f.entered = [] → (doReturn e (T.setTop f) acts (some w)).1 = T.setFrames fs) : Steps p.tables e below (T.setTop (mkF m pc Ls (w :: rest))) (T.setFrames fs) :=
  retOut X hx hret (by rcases ref_cases hv with rfl | ⟨a, rfl⟩ <;> cases t <;> first | rfl | cases ht) (Or.inr (Or.inr (Or.inr (Or.inr ⟨rfl, ht, hv⟩)))) hd hl
end New
section Own
variable {p : Program} {e : Env} {below : List Frame}
/-- the run from S ends as P says -/
def own_Gl (p : Program) (e : Env) (below : List Frame) (P : Outcome → State → Prop) (S : State) : Prop := ∃ s₂ o, Steps p.tables e below S s₂ ∧ s₂.status = .running ∧ Ended s₂ below o ∧ P o s₂
theorem own_gl {P : Outcome → State → Prop} {S : State} (h : own_Gl p e below P S) : ∃ s₂ o, Steps p.tables e below S s₂ ∧ s₂.status = .running ∧ Ended s₂ below o ∧ P o s₂ := h
theorem own_st {P : Outcome → State → Prop} {S S' : State} (h : ∀ t, Steps p.tables e below S' t → Steps p.tables e below S t) (k : own_Gl p e below P S') : own_Gl p e below P S := by
  obtain ⟨s₂, o, h1, h2⟩ := k
  exact ⟨s₂, o, h _ h1, h2⟩
theorem own_cast {P : Outcome → State → Prop} {S S' : State} (h : S' = S) (k : own_Gl p e below P S') : own_Gl p e below P S := h ▸ k
theorem own_join {P : Outcome → State → Prop} {S : State} {α : Type} {F : α → State} {H : α → Prop} (J : ∀ x, H x → own_Gl p e below P (F x)) (k : (∀ x, H x → own_Gl p e below P (F x)) → own_Gl p e below P S) : own_Gl p e below P S := k J
theorem own_selfsel {s : State} {args : Array Value} {y : MethodName} {n : Nat} (wi : (Cond.instantiable y.cls n).before args s = true) (wp : (Cond.privateMethod y).before args s = true) (hinst : (Cond.instanceMethod y).before args s = true) (hy : y.cls ≠ "java/lang/invoke/MethodHandle" ∧ y.cls ≠ "java/lang/invoke/VarHandle") : (Cond.selects y.cls y y).before args s = true := by
  obtain ⟨c, k, h1, h2, -, h3, -⟩ := Cond.instantiable_spec wi
  exact selects_self_of_private h1 h2 (by simp only [Bool.or_eq_false_iff] at h3; exact h3.1) (Cond.privateMethod_at wp) hinst hy
/-- a place of an array is written, whatever it holds -/
theorem own_arv_any {Z : State} {h h' : Heap} {a : Addr} {c : Cell} {k : ClassId} {ty : FieldType} {z j : Int32} {vs : List Value} {dv v : Value} (A : Arr Z h a c ty) (q1 : c.cls = k) (S : c.slots.size = z.toNatClampNeg) (q3 : ¬ z < 0) (H : Has c vs dv) (G : ∀ i, i < c.slots.size → fits ty (vs.getD i dv) = true) (hv : fits ty v = true) (W : Wr h h' a j.toNatClampNeg v) (hj : ¬ (j < 0 ∨ c.slots.size ≤ j.toNatClampNeg)) : ∃ vs', Arv Z h' a k ty z vs' dv := by
  have F : Arv Z h a k ty z (vs ++ List.replicate z.toNatClampNeg dv) dv := Arv.pad ⟨c, A, q1, S, q3, H, G⟩ (pad_rep vs dv _)
  obtain ⟨c', A', r1, r2, r3, r4, r5⟩ := F
  cases A.1.symm.trans A'.1
  exact ⟨_, Arv.set A' r1 r2 r3 r4 r5 hv W j.toNatClampNeg rfl (by
    have q := Nat.lt_of_not_le fun y => hj (Or.inr y)
    rw [S] at q
    simp only [List.length_append, List.length_replicate]
    omega)⟩
end Own
end Jvm.RoadKit

namespace Jvm.Pilot.@@N@@
open Jvm Jvm.ClassFile Sem Op Lib Jvm.Free Jvm.Stand Jvm.LawKit Jvm.RoadKit Bundle Jvm.Pilot.@@N@@.Jvm.D

/-- what Math.min computes -/
def own_m (x y : Int64) : Int64 := if y < x then y else x
theorem own_1 (x y : Int64) : ¬ x < own_m x y := by
  unfold own_m; split <;> rename_i h <;> rw [Int64.lt_iff_toInt_lt] at * <;> omega
theorem own_2 (x y : Int64) : ¬ y < own_m x y := by
  unfold own_m; split <;> rename_i h <;> rw [Int64.lt_iff_toInt_lt] at * <;> omega
theorem own_3 {x y : Int64} (h : ¬ own_m x y = x) : own_m x y = y := by
  unfold own_m at h ⊢; split <;> rename_i q
  · rfl
  · rw [if_neg q] at h; exact absurd rfl h

theorem d3_0 : decode jdk_30_method_1_code 0 = .ok (.aload_n 0, 1) := by decide +kernel
theorem d3_1 : decode jdk_30_method_1_code 1 = .ok (.invokespecial 1, 3) := by decide +kernel
theorem d3_4 : decode jdk_30_method_1_code 4 = .ok (.return_, 1) := by decide +kernel
theorem pn_0 : plainName "java/lang/Record" = true := by first | (simp [plainName, overriddenIn]; done) | decide +kernel
theorem ef_3 (m : MethodId) (a : Addr) : entryFrame m #[(.ref a)] 1 = mkF m 0 #[.val (.ref a)] [] := by first | (simp [entryFrame, mkF, argsToLocals, Value.category]; done) | rfl
def Q3 (Z : State) (a : Addr) (h0 : Heap) (n0 : Nat) (v : Option Value) (h : Heap) (L : List Loc) : Prop := v = none ∧ Fr n0 L ∧ h = h0
set_option maxRecDepth 65536 in
set_option maxHeartbeats 40000000 in
theorem rm3 (l : Launch) (Z : State) (a0 : Array Value) (hw : ∀ d ∈ tables_1, d.before a0 Z = true) (ws : List Jvm.Cond) (a : Addr) (h0 : Heap) (n0 : Nat) (Z0 : n0 ≤ h0.size)  :
    MetFree l (⟨"java/lang/Record", "<init>", "()V"⟩ : MethodName) (head1 (Jvm.Cond.code (⟨"java/lang/Record", "<init>", "()V"⟩ : MethodName) jdk_30_method_1_code 1 none :: ws) ({ frames := 1, cells := 0, slots := 0, locals := 12 } : Room)) (fun ar_ U => ar_ = #[(.ref a)] ∧ Z.Warmed39 U.vm ∧ U.heap = h0) (fun _ _ _ _ _ => True) (fun _ U o U' => ∃ v L, o = .returned v ∧ Q3 Z a h0 n0 v U'.heap L ∧ FrameEnd U o U' L ({ frames := 1, cells := 0, slots := 0, locals := 12 } : Room).cells ({ frames := 1, cells := 0, slots := 0, locals := 12 } : Room).slots) := by
  refine MetFree.of_bodySF (plainFor_of_name pn_0) hisR ?_
  intro p e s m args below meth c s₁ Bd hml0 hP hK
  obtain ⟨rfl, hZ, hh⟩ := hP
  have hx := Bd.exec
  have hby := Bd.bytes
  have hml : c.maxLocals = 1 := hml0
  have hown : s.vm.findClass "java/lang/Record" = some m.cls := findClass_of_methodNamed Bd.named
  have hnm := (name_of_methodNamed Bd.named Bd.method).1
  have X0 : Stand p l e ({ frames := 1, cells := 0, slots := 0, locals := 12 } : Room) s m #[(.ref a)] below meth c s₁ [] 0 0 := Stand.of_body Bd
  have e0 : s₁.heap = h0 := by rw [← hh, Bd.state]; rfl
  have N0 := Fr.nil n0
  refine own_gl ?_
  refine own_st (S' := s₁.setTop (mkF m 0 #[.val (.ref a)] [])) (fun t_ k_ => castTop (ef_3 m a) k_) ?_
  refine own_st (S' := s₁.setTop (mkF m 1 #[.val (.ref a)] [(.ref a)])) (fun t_ k_ => XS.aloadN X0.here hx rfl (hb hby d3_0) rfl rfl k_) ?_
  obtain ⟨T_1, X_1, e_1, st_1⟩ := initO X0 hx hZ hown (hw _ (List.mem_of_getElem? (i := 11) rfl)) (hw _ (List.mem_of_getElem? (i := 12) rfl)) (hw _ (List.mem_of_getElem? (i := 13) rfl)) e0 (g := (mkF m 1 #[.val (.ref a)] [(.ref a)])) rfl (by rw [hml]; rfl) rfl (hb hby d3_1) (by decide) (W := 0) (by show 2 * 0 + _ ≤ _; exact Nat.le_of_eq rfl) (by decide)
  refine own_st (S' := T_1.setTop (mkF m 4 #[.val (.ref a)] [])) st_1 ?_
  obtain ⟨fs, hr, hrun, hended, hW, hsame⟩ := X_1.leave (v := none) (fun _ => rfl)
  refine ⟨_, _, X_1.returnOut hx Bd.returns (hb hby d3_4) hr, hrun, hended, _, _, rfl, ?_, ⟨_, rfl⟩, hW, hsame.mono (by decide) (by decide)⟩
  show Q3 Z a h0 n0 _ T_1.heap _
  rw [e_1]
  exact ⟨rfl, N0, rfl⟩
theorem d1_0 : decode prog_5_method_1_code 0 = .ok (.aload_n 0, 1) := by decide +kernel
theorem d1_1 : decode prog_5_method_1_code 1 = .ok (.invokespecial 1, 3) := by decide +kernel
theorem d1_4 : decode prog_5_method_1_code 4 = .ok (.aload_n 0, 1) := by decide +kernel
theorem d1_5 : decode prog_5_method_1_code 5 = .ok (.lload_n 1, 1) := by decide +kernel
theorem d1_6 : decode prog_5_method_1_code 6 = .ok (.putfield 7, 3) := by decide +kernel
theorem d1_9 : decode prog_5_method_1_code 9 = .ok (.aload_n 0, 1) := by decide +kernel
theorem d1_10 : decode prog_5_method_1_code 10 = .ok (.lload_n 3, 1) := by decide +kernel
theorem d1_11 : decode prog_5_method_1_code 11 = .ok (.putfield 13, 3) := by decide +kernel
theorem d1_14 : decode prog_5_method_1_code 14 = .ok (.return_, 1) := by decide +kernel
theorem pn_1 : plainName "com/example/westmount/westmount/Horizon$Reading" = true := by first | (simp [plainName, overriddenIn]; done) | decide +kernel
theorem ef_1 (m : MethodId) (a : Addr) (q1 : Int64) (q2 : Int64) : entryFrame m #[(.ref a), (.long q1), (.long q2)] 5 = mkF m 0 #[.val (.ref a), .val (.long q1), .second, .val (.long q2), .second] [] := by first | (simp [entryFrame, mkF, argsToLocals, Value.category]; done) | rfl
theorem pd_0 : parseMethodDescriptor "()V" = some ⟨[], none⟩ := by decide +kernel
def Q1 (Z : State) (a : Addr) (q1 : Int64) (q2 : Int64) (h0 : Heap) (n0 : Nat) (v : Option Value) (h : Heap) (L : List Loc) : Prop := v = none ∧ Fr n0 L ∧ Keep h0 h [a] ∧ Exa Z h a "com/example/westmount/westmount/Horizon$Reading" ∧ Fld Z h a "com/example/westmount/westmount/Horizon$Reading" "nanos" "J" (.long q1) ∧ Fld Z h a "com/example/westmount/westmount/Horizon$Reading" "millis" "J" (.long q2)
set_option maxRecDepth 65536 in
set_option maxHeartbeats 40000000 in
theorem rm1 (l : Launch) (Z : State) (a0 : Array Value) (hw : ∀ d ∈ tables_1, d.before a0 Z = true) (ws : List Jvm.Cond) (a : Addr) (q1 : Int64) (q2 : Int64) (h0 : Heap) (n0 : Nat) (Z0 : n0 ≤ h0.size) (P0 : Exa Z h0 a "com/example/westmount/westmount/Horizon$Reading") (P1 : Fld Z h0 a "com/example/westmount/westmount/Horizon$Reading" "nanos" "J" (.long (0 : Int64))) (P2 : Fld Z h0 a "com/example/westmount/westmount/Horizon$Reading" "millis" "J" (.long (0 : Int64))) (g_a : n0 ≤ a) :
    MetFree l (⟨"com/example/westmount/westmount/Horizon$Reading", "<init>", "(JJ)V"⟩ : MethodName) (head1 (Jvm.Cond.code (⟨"com/example/westmount/westmount/Horizon$Reading", "<init>", "(JJ)V"⟩ : MethodName) prog_5_method_1_code 5 none :: ws) ({ frames := 2, cells := 0, slots := 0, locals := 24 } : Room)) (fun ar_ U => ar_ = #[(.ref a), (.long q1), (.long q2)] ∧ Z.Warmed39 U.vm ∧ U.heap = h0) (fun _ _ _ _ _ => True) (fun _ U o U' => ∃ v L, o = .returned v ∧ Q1 Z a q1 q2 h0 n0 v U'.heap L ∧ FrameEnd U o U' L ({ frames := 2, cells := 0, slots := 0, locals := 24 } : Room).cells ({ frames := 2, cells := 0, slots := 0, locals := 24 } : Room).slots) := by
  refine MetFree.of_bodySF (plainFor_of_name pn_1) hisR ?_
  intro p e s m args below meth c s₁ Bd hml0 hP hK
  obtain ⟨rfl, hZ, hh⟩ := hP
  have hx := Bd.exec
  have hby := Bd.bytes
  have hml : c.maxLocals = 5 := hml0
  have hown : s.vm.findClass "com/example/westmount/westmount/Horizon$Reading" = some m.cls := findClass_of_methodNamed Bd.named
  have hnm := (name_of_methodNamed Bd.named Bd.method).1
  have X0 : Stand p l e ({ frames := 2, cells := 0, slots := 0, locals := 24 } : Room) s m #[(.ref a), (.long q1), (.long q2)] below meth c s₁ [] 0 0 := Stand.of_body Bd
  have e0 : s₁.heap = h0 := by rw [← hh, Bd.state]; rfl
  have N0 := Fr.nil n0
  refine own_gl ?_
  refine own_st (S' := s₁.setTop (mkF m 0 #[.val (.ref a), .val (.long q1), .second, .val (.long q2), .second] [])) (fun t_ k_ => castTop (ef_1 m a q1 q2) k_) ?_
  refine own_st (S' := s₁.setTop (mkF m 1 #[.val (.ref a), .val (.long q1), .second, .val (.long q2), .second] [(.ref a)])) (fun t_ k_ => XS.aloadN X0.here hx rfl (hb hby d1_0) rfl rfl k_) ?_
  obtain ⟨_, _, ⟨T_1, L_1, k_1, n_1⟩, -, X_1, ⟨Lc_1, hQ_1, l_1, y_1, z_1⟩, st_1⟩ := X0.specialBack hx (y := (⟨"java/lang/Record", "<init>", "()V"⟩ : MethodName)) rfl hown (mvT hZ (hw _ (List.mem_of_getElem? (i := 6) rfl))) (mvT hZ (hw _ (List.mem_of_getElem? (i := 7) rfl))) (mvT hZ (hw _ (List.mem_of_getElem? (i := 10) rfl))) (by decide) (backOf (W := 0) (rm3 l Z a0 hw [] a h0 n0 Z0 ) hZ (hw _ (List.mem_of_getElem? (i := 10) rfl)) (hw _ (List.mem_of_getElem? (i := 9) rfl)) (by decide) (by decide)) (g := (mkF m 1 #[.val (.ref a), .val (.long q1), .second, .val (.long q2), .second] [(.ref a)])) rfl (by rw [hml]; rfl) (Steps.refl _) (a := a) (argsL := []) (rest := []) (lenOf pd_0 rfl) rfl (by show 2 * 0 + _ ≤ _; exact Nat.le_of_eq rfl) (hb hby d1_1) (fun _ _ => ⟨rfl, e0, (by decide : 0 + 0 ≤ _), (by decide : 0 + 0 ≤ _)⟩)
  dsimp only [Pt.U, Pt.locs, Pt.cells, Pt.slots] at X_1 l_1 y_1 z_1 st_1 hQ_1
  subst l_1 y_1 z_1
  obtain ⟨rfl, M_1, q_1⟩ := hQ_1
  have N_1 := Fr.app N0 M_1
  refine own_st (S' := T_1.setTop (mkF m 4 #[.val (.ref a), .val (.long q1), .second, .val (.long q2), .second] [])) (fun t_ k_ => st_1.trans k_) ?_
  refine own_st (S' := T_1.setTop (mkF m 5 #[.val (.ref a), .val (.long q1), .second, .val (.long q2), .second] [(.ref a)])) (fun t_ k_ => XS.aloadN X_1.here hx rfl (hb hby d1_4) rfl rfl k_) ?_
  refine own_st (S' := T_1.setTop (mkF m 6 #[.val (.ref a), .val (.long q1), .second, .val (.long q2), .second] [(.long q1), (.ref a)])) (fun t_ k_ => XS.lloadN X_1.here hx rfl (hb hby d1_5) rfl k_) ?_
  obtain ⟨T_2, h_2, X_2, e_2, W_2, st_2⟩ := putF X_1 hx hZ hown (host := "") (Or.inl (hw _ (List.mem_of_getElem? (i := 14) rfl))) Via.refl q_1 P1 P0 (Or.inr ⟨(hw _ (List.mem_of_getElem? (i := 15) rfl)), rfl, hnm⟩) (hw _ (List.mem_of_getElem? (i := 1) rfl)) (ty := .long) (by decide) rfl rfl (g := (mkF m 6 #[.val (.ref a), .val (.long q1), .second, .val (.long q2), .second] [(.long q1), (.ref a)])) rfl rfl (hb hby d1_6)
  have Z_2 : n0 ≤ h_2.size := Nat.le_trans Z0 (Keep.of_wr W_2).1
  have N_2 := Fr.snoc X_2 N_1 g_a
  have K_2 : Keep h0 h_2 [a] := (Keep.refl h0 [a]).wr W_2 (Or.inl (List.mem_of_getElem? (i := 0) rfl))
  have f_2 : Fld Z h_2 a "com/example/westmount/westmount/Horizon$Reading" "nanos" "J" (.long q1) := Fld.same W_2 P1
  refine own_st (S' := T_2.setTop (mkF m 9 #[.val (.ref a), .val (.long q1), .second, .val (.long q2), .second] [])) st_2 ?_
  refine own_st (S' := T_2.setTop (mkF m 10 #[.val (.ref a), .val (.long q1), .second, .val (.long q2), .second] [(.ref a)])) (fun t_ k_ => XS.aloadN X_2.here hx rfl (hb hby d1_9) rfl rfl k_) ?_
  refine own_st (S' := T_2.setTop (mkF m 11 #[.val (.ref a), .val (.long q1), .second, .val (.long q2), .second] [(.long q2), (.ref a)])) (fun t_ k_ => XS.lloadN X_2.here hx rfl (hb hby d1_10) rfl k_) ?_
  have f_3 : Fld Z h_2 a "com/example/westmount/westmount/Horizon$Reading" "millis" "J" (.long (0 : Int64)) := (Fld.other W_2 P2 (Or.inr (slot_ne (Or.inr (hw _ (List.mem_of_getElem? (i := 17) rfl))) (Or.inr (hw _ (List.mem_of_getElem? (i := 15) rfl))) (by decide) (t := .long) (t' := .long) (by decide) (by decide))))
  have f_4 : Exa Z h_2 a "com/example/westmount/westmount/Horizon$Reading" := (Exa.wr W_2 P0)
  obtain ⟨T_5, h_5, X_5, e_5, W_5, st_5⟩ := putF X_2 hx hZ hown (host := "") (Or.inl (hw _ (List.mem_of_getElem? (i := 16) rfl))) Via.refl e_2 f_3 f_4 (Or.inr ⟨(hw _ (List.mem_of_getElem? (i := 17) rfl)), rfl, hnm⟩) (hw _ (List.mem_of_getElem? (i := 1) rfl)) (ty := .long) (by decide) rfl rfl (g := (mkF m 11 #[.val (.ref a), .val (.long q1), .second, .val (.long q2), .second] [(.long q2), (.ref a)])) rfl rfl (hb hby d1_11)
  have Z_5 : n0 ≤ h_5.size := Nat.le_trans Z_2 (Keep.of_wr W_5).1
  have N_5 := Fr.snoc X_5 N_2 g_a
  have K_5 : Keep h0 h_5 [a] := K_2.wr W_5 (Or.inl (List.mem_of_getElem? (i := 0) rfl))
  have f_5 : Fld Z h_5 a "com/example/westmount/westmount/Horizon$Reading" "millis" "J" (.long q2) := Fld.same W_5 f_3
  refine own_st (S' := T_5.setTop (mkF m 14 #[.val (.ref a), .val (.long q1), .second, .val (.long q2), .second] [])) st_5 ?_
  obtain ⟨fs, hr, hrun, hended, hW, hsame⟩ := X_5.leave (v := none) (fun _ => rfl)
  have f_6 : Exa Z h_5 a "com/example/westmount/westmount/Horizon$Reading" := (Exa.wr W_5 f_4)
  have f_7 : Fld Z h_5 a "com/example/westmount/westmount/Horizon$Reading" "nanos" "J" (.long q1) := (Fld.other W_5 f_2 (Or.inr (slot_ne (Or.inr (hw _ (List.mem_of_getElem? (i := 15) rfl))) (Or.inr (hw _ (List.mem_of_getElem? (i := 17) rfl))) (by decide) (t := .long) (t' := .long) (by decide) (by decide))))
  refine ⟨_, _, X_5.returnOut hx Bd.returns (hb hby d1_14) hr, hrun, hended, _, _, rfl, ?_, ⟨_, rfl⟩, hW, hsame.mono (by decide) (by decide)⟩
  show Q1 Z a q1 q2 h0 n0 _ T_5.heap _
  rw [e_5]
  exact ⟨rfl, N_5, K_5, f_6, f_7, f_5⟩
theorem d4_0 : decode jdk_29_method_70_code 0 = .ok (.lload_n 0, 1) := by decide +kernel
theorem d4_1 : decode jdk_29_method_70_code 1 = .ok (.lload_n 2, 1) := by decide +kernel
theorem d4_2 : decode jdk_29_method_70_code 2 = .ok (.lcmp, 1) := by decide +kernel
theorem d4_3 : decode jdk_29_method_70_code 3 = .ok (.ifCond .gt 7, 3) := by decide +kernel
theorem d4_6 : decode jdk_29_method_70_code 6 = .ok (.lload_n 0, 1) := by decide +kernel
theorem d4_7 : decode jdk_29_method_70_code 7 = .ok (.goto 4, 3) := by decide +kernel
theorem d4_10 : decode jdk_29_method_70_code 10 = .ok (.lload_n 2, 1) := by decide +kernel
theorem d4_11 : decode jdk_29_method_70_code 11 = .ok (.lreturn, 1) := by decide +kernel
theorem ef_4 (m : MethodId) (q1 : Int64) (q2 : Int64) : entryFrame m #[(.long q1), (.long q2)] 4 = mkF m 0 #[.val (.long q1), .second, .val (.long q2), .second] [] := by first | (simp [entryFrame, mkF, argsToLocals, Value.category]; done) | rfl
def Q4 (Z : State) (q1 : Int64) (q2 : Int64) (h0 : Heap) (n0 : Nat) (v : Option Value) (h : Heap) (L : List Loc) : Prop := v = some (.long (own_m q1 q2)) ∧ Fr n0 L ∧ h = h0
set_option maxRecDepth 65536 in
set_option maxHeartbeats 40000000 in
theorem rm4 (l : Launch) (Z : State) (a0 : Array Value) (hw : ∀ d ∈ tables_1, d.before a0 Z = true) (ws : List Jvm.Cond) (q1 : Int64) (q2 : Int64) (h0 : Heap) (n0 : Nat) (Z0 : n0 ≤ h0.size)  :
    MetFree l (⟨"java/lang/Math", "min", "(JJ)J"⟩ : MethodName) (head1 (Jvm.Cond.code (⟨"java/lang/Math", "min", "(JJ)J"⟩ : MethodName) jdk_29_method_70_code 4 (some .long) :: ws) ({ frames := 0, cells := 0, slots := 0, locals := 0 } : Room)) (fun ar_ U => ar_ = #[(.long q1), (.long q2)] ∧ Z.Warmed39 U.vm ∧ U.heap = h0) (fun _ _ _ _ _ => True) (fun _ U o U' => ∃ v L, o = .returned v ∧ Q4 Z q1 q2 h0 n0 v U'.heap L ∧ FrameEnd U o U' L ({ frames := 0, cells := 0, slots := 0, locals := 0 } : Room).cells ({ frames := 0, cells := 0, slots := 0, locals := 0 } : Room).slots) := by
  refine MetFree.of_bodySF (Jvm.Free.JP.mathPlain rfl (by decide +kernel)) hisR ?_
  intro p e s m args below meth c s₁ Bd hml0 hP hK
  obtain ⟨rfl, hZ, hh⟩ := hP
  have hx := Bd.exec
  have hby := Bd.bytes
  have hml : c.maxLocals = 4 := hml0
  have hown : s.vm.findClass "java/lang/Math" = some m.cls := findClass_of_methodNamed Bd.named
  have hnm := (name_of_methodNamed Bd.named Bd.method).1
  have X0 : Stand p l e ({ frames := 0, cells := 0, slots := 0, locals := 0 } : Room) s m #[(.long q1), (.long q2)] below meth c s₁ [] 0 0 := Stand.of_body Bd
  have e0 : s₁.heap = h0 := by rw [← hh, Bd.state]; rfl
  have N0 := Fr.nil n0
  refine own_gl ?_
  refine own_st (S' := s₁.setTop (mkF m 0 #[.val (.long q1), .second, .val (.long q2), .second] [])) (fun t_ k_ => castTop (ef_4 m q1 q2) k_) ?_
  refine own_st (S' := s₁.setTop (mkF m 1 #[.val (.long q1), .second, .val (.long q2), .second] [(.long q1)])) (fun t_ k_ => XS.lloadN X0.here hx rfl (hb hby d4_0) rfl k_) ?_
  refine own_st (S' := s₁.setTop (mkF m 2 #[.val (.long q1), .second, .val (.long q2), .second] [(.long q2), (.long q1)])) (fun t_ k_ => XS.lloadN X0.here hx rfl (hb hby d4_1) rfl k_) ?_
  refine own_st (S' := s₁.setTop (mkF m 3 #[.val (.long q1), .second, .val (.long q2), .second] [(.int (lcmpW q1 q2))])) (fun t_ k_ => XS.lcmp X0.here hx rfl (hb hby d4_2) rfl k_) ?_
  by_cases hc3 : q2 < q1
  · refine own_st (S' := s₁.setTop (mkF m 10 #[.val (.long q1), .second, .val (.long q2), .second] [])) (fun t_ k_ => XS.ifYes X0.here hx rfl (pc0 := 3) (pc' := 10) rfl (hb hby d4_3) rfl ((if0 _ _).trans (tlt ((lw_gt _ _).mpr hc3)).2.2.1) (by decide) (by decide) k_) ?_
    refine own_st (S' := s₁.setTop (mkF m 11 #[.val (.long q1), .second, .val (.long q2), .second] [(.long q2)])) (fun t_ k_ => XS.lloadN X0.here hx rfl (hb hby d4_10) rfl k_) ?_
    obtain ⟨fs, hr, hrun, hended, hW, hsame⟩ := X0.leave (v := some (.long q2)) (fun h => by rw [Bd.returns] at h; cases h)
    refine ⟨_, _, own_retJ X0 hx Bd.returns (hb hby d4_11) hr, hrun, hended, _, _, rfl, ?_, ⟨_, rfl⟩, hW, hsame.mono (by decide) (by decide)⟩
    show Q4 Z q1 q2 h0 n0 _ s₁.heap _
    rw [e0]
    exact ⟨(congrArg (fun z => some (Value.long z)) (show q2 = (own_m q1 q2) from by simp [own_m, hc3])), N0, rfl⟩
  · refine own_st (S' := s₁.setTop (mkF m 6 #[.val (.long q1), .second, .val (.long q2), .second] [])) (fun t_ k_ => XS.ifNo X0.here hx rfl (hb hby d4_3) rfl ((if0 _ _).trans (flt (fun q => hc3 ((lw_gt _ _).mp q))).2.2.1) k_) ?_
    refine own_st (S' := s₁.setTop (mkF m 7 #[.val (.long q1), .second, .val (.long q2), .second] [(.long q1)])) (fun t_ k_ => XS.lloadN X0.here hx rfl (hb hby d4_6) rfl k_) ?_
    refine own_st (S' := s₁.setTop (mkF m 11 #[.val (.long q1), .second, .val (.long q2), .second] [(.long q1)])) (fun t_ k_ => XS.goto X0.here hx rfl (pc0 := 7) (pc' := 11) rfl (hb hby d4_7) (by decide) (by decide) k_) ?_
    obtain ⟨fs, hr, hrun, hended, hW, hsame⟩ := X0.leave (v := some (.long q1)) (fun h => by rw [Bd.returns] at h; cases h)
    refine ⟨_, _, own_retJ X0 hx Bd.returns (hb hby d4_11) hr, hrun, hended, _, _, rfl, ?_, ⟨_, rfl⟩, hW, hsame.mono (by decide) (by decide)⟩
    show Q4 Z q1 q2 h0 n0 _ s₁.heap _
    rw [e0]
    exact ⟨(congrArg (fun z => some (Value.long z)) (show q1 = (own_m q1 q2) from by simp [own_m, hc3])), N0, rfl⟩
theorem d2_0 : decode prog_5_method_4_code 0 = .ok (.aload_n 0, 1) := by decide +kernel
theorem d2_1 : decode prog_5_method_4_code 1 = .ok (.getfield 7, 3) := by decide +kernel
theorem d2_4 : decode prog_5_method_4_code 4 = .ok (.aload_n 1, 1) := by decide +kernel
theorem d2_5 : decode prog_5_method_4_code 5 = .ok (.getfield 7, 3) := by decide +kernel
theorem d2_8 : decode prog_5_method_4_code 8 = .ok (.lsub, 1) := by decide +kernel
theorem d2_9 : decode prog_5_method_4_code 9 = .ok (.aload_n 0, 1) := by decide +kernel
theorem d2_10 : decode prog_5_method_4_code 10 = .ok (.getfield 13, 3) := by decide +kernel
theorem d2_13 : decode prog_5_method_4_code 13 = .ok (.aload_n 1, 1) := by decide +kernel
theorem d2_14 : decode prog_5_method_4_code 14 = .ok (.getfield 13, 3) := by decide +kernel
theorem d2_17 : decode prog_5_method_4_code 17 = .ok (.lsub, 1) := by decide +kernel
theorem d2_18 : decode prog_5_method_4_code 18 = .ok (.ldc2_w 28, 3) := by decide +kernel
theorem d2_21 : decode prog_5_method_4_code 21 = .ok (.lmul, 1) := by decide +kernel
theorem d2_22 : decode prog_5_method_4_code 22 = .ok (.invokestatic 36, 3) := by decide +kernel
theorem d2_25 : decode prog_5_method_4_code 25 = .ok (.lreturn, 1) := by decide +kernel
theorem ef_2 (m : MethodId) (a : Addr) (b : Addr) : entryFrame m #[(.ref a), (.ref b)] 2 = mkF m 0 #[.val (.ref a), .val (.ref b)] [] := by first | (simp [entryFrame, mkF, argsToLocals, Value.category]; done) | rfl
theorem pd_1 : parseMethodDescriptor "(JJ)J" = some ⟨[.long, .long], some .long⟩ := by decide +kernel
def Q2 (Z : State) (a : Addr) (b : Addr) (n1 : Int64) (m1 : Int64) (n2 : Int64) (m2 : Int64) (h0 : Heap) (n0 : Nat) (v : Option Value) (h : Heap) (L : List Loc) : Prop := v = some (.long (own_m (n1 - n2) ((m1 - m2) * (1000000 : Int64)))) ∧ Fr n0 L ∧ h = h0
set_option maxRecDepth 65536 in
set_option maxHeartbeats 40000000 in
theorem rm2 (l : Launch) (Z : State) (a0 : Array Value) (hw : ∀ d ∈ tables_1, d.before a0 Z = true) (ws : List Jvm.Cond) (a : Addr) (b : Addr) (n1 : Int64) (m1 : Int64) (n2 : Int64) (m2 : Int64) (h0 : Heap) (n0 : Nat) (Z0 : n0 ≤ h0.size) (P0 : Fld Z h0 a "com/example/westmount/westmount/Horizon$Reading" "nanos" "J" (.long n1)) (P1 : Fld Z h0 a "com/example/westmount/westmount/Horizon$Reading" "millis" "J" (.long m1)) (P2 : Fld Z h0 b "com/example/westmount/westmount/Horizon$Reading" "nanos" "J" (.long n2)) (P3 : Fld Z h0 b "com/example/westmount/westmount/Horizon$Reading" "millis" "J" (.long m2)) :
    MetFree l (⟨"com/example/westmount/westmount/Horizon$Reading", "leastNanosSince", "(Lcom/example/westmount/westmount/Horizon$Reading;)J"⟩ : MethodName) (head1 (Jvm.Cond.code (⟨"com/example/westmount/westmount/Horizon$Reading", "leastNanosSince", "(Lcom/example/westmount/westmount/Horizon$Reading;)J"⟩ : MethodName) prog_5_method_4_code 2 (some .long) :: ws) ({ frames := 1, cells := 0, slots := 0, locals := 15 } : Room)) (fun ar_ U => ar_ = #[(.ref a), (.ref b)] ∧ Z.Warmed39 U.vm ∧ U.heap = h0) (fun _ _ _ _ _ => True) (fun _ U o U' => ∃ v L, o = .returned v ∧ Q2 Z a b n1 m1 n2 m2 h0 n0 v U'.heap L ∧ FrameEnd U o U' L ({ frames := 1, cells := 0, slots := 0, locals := 15 } : Room).cells ({ frames := 1, cells := 0, slots := 0, locals := 15 } : Room).slots) := by
  refine MetFree.of_bodySF (plainFor_of_name pn_1) hisR ?_
  intro p e s m args below meth c s₁ Bd hml0 hP hK
  obtain ⟨rfl, hZ, hh⟩ := hP
  have hx := Bd.exec
  have hby := Bd.bytes
  have hml : c.maxLocals = 2 := hml0
  have hown : s.vm.findClass "com/example/westmount/westmount/Horizon$Reading" = some m.cls := findClass_of_methodNamed Bd.named
  have hnm := (name_of_methodNamed Bd.named Bd.method).1
  have X0 : Stand p l e ({ frames := 1, cells := 0, slots := 0, locals := 15 } : Room) s m #[(.ref a), (.ref b)] below meth c s₁ [] 0 0 := Stand.of_body Bd
  have e0 : s₁.heap = h0 := by rw [← hh, Bd.state]; rfl
  have N0 := Fr.nil n0
  refine own_gl ?_
  refine own_st (S' := s₁.setTop (mkF m 0 #[.val (.ref a), .val (.ref b)] [])) (fun t_ k_ => castTop (ef_2 m a b) k_) ?_
  refine own_st (S' := s₁.setTop (mkF m 1 #[.val (.ref a), .val (.ref b)] [(.ref a)])) (fun t_ k_ => XS.aloadN X0.here hx rfl (hb hby d2_0) rfl rfl k_) ?_
  obtain ⟨T_1, X_1, e_1, st_1⟩ := getF X0 hx hZ hown (host := "") (Or.inl (hw _ (List.mem_of_getElem? (i := 14) rfl))) Via.refl e0 P0 (g := (mkF m 1 #[.val (.ref a), .val (.ref b)] [(.ref a)])) rfl rfl (hb hby d2_1)
  refine own_st (S' := T_1.setTop (mkF m 4 #[.val (.ref a), .val (.ref b)] [(.long n1)])) st_1 ?_
  refine own_st (S' := T_1.setTop (mkF m 5 #[.val (.ref a), .val (.ref b)] [(.ref b), (.long n1)])) (fun t_ k_ => XS.aloadN X_1.here hx rfl (hb hby d2_4) rfl rfl k_) ?_
  obtain ⟨T_2, X_2, e_2, st_2⟩ := getF X_1 hx hZ hown (host := "") (Or.inl (hw _ (List.mem_of_getElem? (i := 14) rfl))) Via.refl e_1 P2 (g := (mkF m 5 #[.val (.ref a), .val (.ref b)] [(.ref b), (.long n1)])) rfl rfl (hb hby d2_5)
  refine own_st (S' := T_2.setTop (mkF m 8 #[.val (.ref a), .val (.ref b)] [(.long n2), (.long n1)])) st_2 ?_
  refine own_st (S' := T_2.setTop (mkF m 9 #[.val (.ref a), .val (.ref b)] [(.long (n1 - n2))])) (fun t_ k_ => XS.lsub X_2.here hx rfl (hb hby d2_8) rfl k_) ?_
  refine own_st (S' := T_2.setTop (mkF m 10 #[.val (.ref a), .val (.ref b)] [(.ref a), (.long (n1 - n2))])) (fun t_ k_ => XS.aloadN X_2.here hx rfl (hb hby d2_9) rfl rfl k_) ?_
  obtain ⟨T_3, X_3, e_3, st_3⟩ := getF X_2 hx hZ hown (host := "") (Or.inl (hw _ (List.mem_of_getElem? (i := 16) rfl))) Via.refl e_2 P1 (g := (mkF m 10 #[.val (.ref a), .val (.ref b)] [(.ref a), (.long (n1 - n2))])) rfl rfl (hb hby d2_10)
  refine own_st (S' := T_3.setTop (mkF m 13 #[.val (.ref a), .val (.ref b)] [(.long m1), (.long (n1 - n2))])) st_3 ?_
  refine own_st (S' := T_3.setTop (mkF m 14 #[.val (.ref a), .val (.ref b)] [(.ref b), (.long m1), (.long (n1 - n2))])) (fun t_ k_ => XS.aloadN X_3.here hx rfl (hb hby d2_13) rfl rfl k_) ?_
  obtain ⟨T_4, X_4, e_4, st_4⟩ := getF X_3 hx hZ hown (host := "") (Or.inl (hw _ (List.mem_of_getElem? (i := 16) rfl))) Via.refl e_3 P3 (g := (mkF m 14 #[.val (.ref a), .val (.ref b)] [(.ref b), (.long m1), (.long (n1 - n2))])) rfl rfl (hb hby d2_14)
  refine own_st (S' := T_4.setTop (mkF m 17 #[.val (.ref a), .val (.ref b)] [(.long m2), (.long m1), (.long (n1 - n2))])) st_4 ?_
  refine own_st (S' := T_4.setTop (mkF m 18 #[.val (.ref a), .val (.ref b)] [(.long (m1 - m2)), (.long (n1 - n2))])) (fun t_ k_ => XS.lsub X_4.here hx rfl (hb hby d2_17) rfl k_) ?_
  refine own_st (S' := T_4.setTop (mkF m 21 #[.val (.ref a), .val (.ref b)] [(.long (1000000 : Int64)), (.long (m1 - m2)), (.long (n1 - n2))])) (fun t_ k_ => X_4.ldc2J hx hown (mvT hZ (hw _ (List.mem_of_getElem? (i := 23) rfl))) (g := (mkF m 18 #[.val (.ref a), .val (.ref b)] [(.long (m1 - m2)), (.long (n1 - n2))])) rfl (hb hby d2_18) k_) ?_
  refine own_st (S' := T_4.setTop (mkF m 22 #[.val (.ref a), .val (.ref b)] [(.long ((m1 - m2) * (1000000 : Int64))), (.long (n1 - n2))])) (fun t_ k_ => XS.lmul X_4.here hx rfl (hb hby d2_21) rfl k_) ?_
  obtain ⟨_, _, ⟨T_5, L_5, k_5, n_5⟩, -, X_5, ⟨Lc_5, hQ_5, l_5, y_5, z_5⟩, st_5⟩ := Jvm.LawKit.callS X_4 hx (y := (⟨"java/lang/Math", "min", "(JJ)J"⟩ : MethodName)) hown (mvT hZ (hw _ (List.mem_of_getElem? (i := 24) rfl))) (mvT hZ (hw _ (List.mem_of_getElem? (i := 25) rfl))) (mvT hZ (hw _ (List.mem_of_getElem? (i := 26) rfl))) (mvT hZ (hw _ (List.mem_of_getElem? (i := 27) rfl))) (by decide) (backOf (W := 0) (rm4 l Z a0 hw [] (n1 - n2) ((m1 - m2) * (1000000 : Int64)) h0 n0 Z0 ) hZ (hw _ (List.mem_of_getElem? (i := 27) rfl)) (hw _ (List.mem_of_getElem? (i := 26) rfl)) (by decide) (by decide)) (g := (mkF m 22 #[.val (.ref a), .val (.ref b)] [(.long ((m1 - m2) * (1000000 : Int64))), (.long (n1 - n2))])) rfl (by rw [hml]; rfl) (argsL := [(.long (n1 - n2)), (.long ((m1 - m2) * (1000000 : Int64)))]) (rest := []) (lenOf pd_1 rfl) rfl (by show 2 * 0 + _ ≤ _; exact Nat.le_of_eq rfl) (hb hby d2_22) (fun _ _ => ⟨rfl, e_4, (by decide : 0 + 0 ≤ _), (by decide : 0 + 0 ≤ _)⟩)
  dsimp only [Pt.U, Pt.locs, Pt.cells, Pt.slots] at X_5 l_5 y_5 z_5 st_5 hQ_5
  subst l_5 y_5 z_5
  obtain ⟨rfl, M_5, q_5⟩ := hQ_5
  have N_5 := Fr.app N0 M_5
  refine own_st (S' := T_5.setTop (mkF m 25 #[.val (.ref a), .val (.ref b)] [(.long (own_m (n1 - n2) ((m1 - m2) * (1000000 : Int64))))])) st_5 ?_
  obtain ⟨fs, hr, hrun, hended, hW, hsame⟩ := X_5.leave (v := some (.long (own_m (n1 - n2) ((m1 - m2) * (1000000 : Int64))))) (fun h => by rw [Bd.returns] at h; cases h)
  refine ⟨_, _, own_retJ X_5 hx Bd.returns (hb hby d2_25) hr, hrun, hended, _, _, rfl, ?_, ⟨_, rfl⟩, hW, hsame.mono (by decide) (by decide)⟩
  show Q2 Z a b n1 m1 n2 m2 h0 n0 _ T_5.heap _
  rw [q_5]
  exact ⟨rfl, N_5, rfl⟩
theorem pn_2 : plainName "com/example/westmount/westmount/ReadingLeastNanosSincePinLaw" = true := by first | (simp [plainName, overriddenIn]; done) | decide +kernel
theorem ef_0 (m : MethodId) (p0 : Int64) (p1 : Int64) (p2 : Int64) (p3 : Int64) : entryFrame m #[(.long p0), (.long p1), (.long p2), (.long p3)] maxLocals = mkF m 0 #[.val (.long p0), .second, .val (.long p1), .second, .val (.long p2), .second, .val (.long p3), .second, .unset, .unset, .unset, .unset, .unset, .unset, .unset, .unset, .unset, .unset] [] := by first | (simp [entryFrame, mkF, argsToLocals, Value.category, maxLocals]; done) | rfl
theorem pd_2 : parseMethodDescriptor "(JJ)V" = some ⟨[.long, .long], none⟩ := by decide +kernel
theorem pd_3 : parseMethodDescriptor "(Lcom/example/westmount/westmount/Horizon$Reading;)J" = some ⟨[(.object "com/example/westmount/westmount/Horizon$Reading")], some .long⟩ := by decide +kernel
def Q0 (Z : State) (p0 : Int64) (p1 : Int64) (p2 : Int64) (p3 : Int64) (h0 : Heap) (n0 : Nat) (v : Option Value) (h : Heap) (L : List Loc) : Prop := v = some (.int (1 : Int32)) ∧ Fr n0 L
set_option maxRecDepth 65536 in
set_option maxHeartbeats 40000000 in
theorem rm0 (l : Launch) (Z : State) (a0 : Array Value) (hw : ∀ d ∈ tables_1, d.before a0 Z = true) (ws : List Jvm.Cond) (p0 : Int64) (p1 : Int64) (p2 : Int64) (p3 : Int64) (h0 : Heap) (n0 : Nat) (Z0 : n0 ≤ h0.size)  :
    MetFree l x (head1 (Jvm.Cond.code x code maxLocals ret :: ws) room_1) (fun ar_ U => ar_ = #[(.long p0), (.long p1), (.long p2), (.long p3)] ∧ Z.Warmed39 U.vm ∧ U.heap = h0) (fun _ _ _ _ _ => True) (fun _ U o U' => ∃ v L, o = .returned v ∧ Q0 Z p0 p1 p2 p3 h0 n0 v U'.heap L ∧ FrameEnd U o U' L room_1.cells room_1.slots) := by
  refine MetFree.of_bodySF (plainFor_of_name pn_2) hisR ?_
  intro p e s m args below meth c s₁ Bd hml0 hP hK
  obtain ⟨rfl, hZ, hh⟩ := hP
  have hx := Bd.exec
  have hby := Bd.bytes
  have hml : c.maxLocals = 18 := hml0
  have hown : s.vm.findClass "com/example/westmount/westmount/ReadingLeastNanosSincePinLaw" = some m.cls := findClass_of_methodNamed Bd.named
  have hnm := (name_of_methodNamed Bd.named Bd.method).1
  have X0 : Stand p l e room_1 s m #[(.long p0), (.long p1), (.long p2), (.long p3)] below meth c s₁ [] 0 0 := Stand.of_body Bd
  have e0 : s₁.heap = h0 := by rw [← hh, Bd.state]; rfl
  have N0 := Fr.nil n0
  refine own_gl ?_
  refine own_st (S' := s₁.setTop (mkF m 0 #[.val (.long p0), .second, .val (.long p1), .second, .val (.long p2), .second, .val (.long p3), .second, .unset, .unset, .unset, .unset, .unset, .unset, .unset, .unset, .unset, .unset] [])) (fun t_ k_ => castTop (ef_0 m p0 p1 p2 p3) k_) ?_
  obtain ⟨T_1, h_1, X_1, e_1, E_1, A_1, D_1, -, st_1⟩ := newO X0 hx hZ hown (hw _ (List.mem_of_getElem? (i := 0) rfl)) (hw _ (List.mem_of_getElem? (i := 1) rfl)) (hw _ (List.mem_of_getElem? (i := 2) rfl)) e0 (g := (mkF m 0 #[.val (.long p0), .second, .val (.long p1), .second, .val (.long p2), .second, .val (.long p3), .second, .unset, .unset, .unset, .unset, .unset, .unset, .unset, .unset, .unset, .unset] [])) rfl (hb hby at_0) (by decide) (by decide)
  obtain ⟨b_1, gg_1⟩ : ∃ z, z = h0.size := ⟨_, rfl⟩
  rw [← gg_1] at A_1 D_1 st_1
  have g_b_1 : n0 ≤ b_1 := Nat.le_trans Z0 (Nat.le_of_eq gg_1.symm)
  have Z_1 : n0 ≤ h_1.size := Nat.le_trans Z0 E_1.1
  have F_1_nanos : Fld Z h_1 b_1 "com/example/westmount/westmount/Horizon$Reading" "nanos" "J" (.long (0 : Int64)) := D_1 (Or.inr (hw _ (List.mem_of_getElem? (i := 15) rfl))) (ty := .long) (by decide)
  have F_1_millis : Fld Z h_1 b_1 "com/example/westmount/westmount/Horizon$Reading" "millis" "J" (.long (0 : Int64)) := D_1 (Or.inr (hw _ (List.mem_of_getElem? (i := 17) rfl))) (ty := .long) (by decide)
  refine own_st (S' := T_1.setTop (mkF m 3 #[.val (.long p0), .second, .val (.long p1), .second, .val (.long p2), .second, .val (.long p3), .second, .unset, .unset, .unset, .unset, .unset, .unset, .unset, .unset, .unset, .unset] [(.ref b_1)])) st_1 ?_
  refine own_st (S' := T_1.setTop (mkF m 4 #[.val (.long p0), .second, .val (.long p1), .second, .val (.long p2), .second, .val (.long p3), .second, .unset, .unset, .unset, .unset, .unset, .unset, .unset, .unset, .unset, .unset] [(.ref b_1), (.ref b_1)])) (fun t_ k_ => XS.dup X_1.here hx rfl (hb hby at_3) rfl rfl k_) ?_
  refine own_st (S' := T_1.setTop (mkF m 5 #[.val (.long p0), .second, .val (.long p1), .second, .val (.long p2), .second, .val (.long p3), .second, .unset, .unset, .unset, .unset, .unset, .unset, .unset, .unset, .unset, .unset] [(.long p0), (.ref b_1), (.ref b_1)])) (fun t_ k_ => XS.lloadN X_1.here hx rfl (hb hby at_4) rfl k_) ?_
  refine own_st (S' := T_1.setTop (mkF m 6 #[.val (.long p0), .second, .val (.long p1), .second, .val (.long p2), .second, .val (.long p3), .second, .unset, .unset, .unset, .unset, .unset, .unset, .unset, .unset, .unset, .unset] [(.long p1), (.long p0), (.ref b_1), (.ref b_1)])) (fun t_ k_ => XS.lloadN X_1.here hx rfl (hb hby at_5) rfl k_) ?_
  obtain ⟨_, _, ⟨T_2, L_2, k_2, n_2⟩, -, X_2, ⟨Lc_2, hQ_2, l_2, y_2, z_2⟩, st_2⟩ := X_1.specialBack hx (y := (⟨"com/example/westmount/westmount/Horizon$Reading", "<init>", "(JJ)V"⟩ : MethodName)) rfl hown (mvT hZ (hw _ (List.mem_of_getElem? (i := 3) rfl))) (mvT hZ (hw _ (List.mem_of_getElem? (i := 4) rfl))) (mvT hZ (hw _ (List.mem_of_getElem? (i := 5) rfl))) (by decide) (backOf (W := 1) (rm1 l Z a0 hw [] b_1 p0 p1 h_1 n0 Z_1 A_1 F_1_nanos F_1_millis g_b_1) hZ (hw _ (List.mem_of_getElem? (i := 5) rfl)) (hw _ (List.mem_of_getElem? (i := 2) rfl)) (by decide) (by decide)) (g := (mkF m 6 #[.val (.long p0), .second, .val (.long p1), .second, .val (.long p2), .second, .val (.long p3), .second, .unset, .unset, .unset, .unset, .unset, .unset, .unset, .unset, .unset, .unset] [(.long p1), (.long p0), (.ref b_1), (.ref b_1)])) rfl (by rw [hml]; rfl) (Steps.refl _) (a := b_1) (argsL := [(.long p0), (.long p1)]) (rest := [(.ref b_1)]) (lenOf pd_2 rfl) rfl (by show 2 * 0 + _ ≤ _; exact Nat.le_of_eq rfl) (hb hby at_6) (fun _ _ => ⟨rfl, e_1, (by decide : 1 + 0 ≤ _), (by decide : 2 + 0 ≤ _)⟩)
  dsimp only [Pt.U, Pt.locs, Pt.cells, Pt.slots] at X_2 l_2 y_2 z_2 st_2 hQ_2
  subst l_2 y_2 z_2
  obtain ⟨rfl, M_2, K_2c, c_2_0, c_2_1, c_2_2⟩ := hQ_2
  have N_2 := Fr.app N0 M_2
  have Z_2 : n0 ≤ T_2.heap.size := Nat.le_trans Z_1 K_2c.1
  refine own_st (S' := T_2.setTop (mkF m 9 #[.val (.long p0), .second, .val (.long p1), .second, .val (.long p2), .second, .val (.long p3), .second, .unset, .unset, .unset, .unset, .unset, .unset, .unset, .unset, .unset, .unset] [(.ref b_1)])) (fun t_ k_ => st_2.trans k_) ?_
  refine own_st (S' := T_2.setTop (mkF m 11 #[.val (.long p0), .second, .val (.long p1), .second, .val (.long p2), .second, .val (.long p3), .second, .val (.ref b_1), .unset, .unset, .unset, .unset, .unset, .unset, .unset, .unset, .unset] [])) (fun t_ k_ => XS.astore X_2.here hx rfl (hb hby at_9) rfl rfl (l' := #[.val (.long p0), .second, .val (.long p1), .second, .val (.long p2), .second, .val (.long p3), .second, .val (.ref b_1), .unset, .unset, .unset, .unset, .unset, .unset, .unset, .unset, .unset]) rfl k_) ?_
  obtain ⟨T_3, h_3, X_3, e_3, E_3, A_3, D_3, -, st_3⟩ := newO X_2 hx hZ hown (hw _ (List.mem_of_getElem? (i := 0) rfl)) (hw _ (List.mem_of_getElem? (i := 1) rfl)) (hw _ (List.mem_of_getElem? (i := 2) rfl)) rfl (g := (mkF m 11 #[.val (.long p0), .second, .val (.long p1), .second, .val (.long p2), .second, .val (.long p3), .second, .val (.ref b_1), .unset, .unset, .unset, .unset, .unset, .unset, .unset, .unset, .unset] [])) rfl (hb hby at_11) (by decide) (by decide)
  obtain ⟨b_3, gg_3⟩ : ∃ z, z = T_2.heap.size := ⟨_, rfl⟩
  rw [← gg_3] at A_3 D_3 st_3
  have ne_b_1_b_3 : b_1 ≠ b_3 := Nat.ne_of_lt (Nat.lt_of_lt_of_le c_2_0.lt (Nat.le_of_eq gg_3.symm))
  have g_b_3 : n0 ≤ b_3 := Nat.le_trans Z_2 (Nat.le_of_eq gg_3.symm)
  have Z_3 : n0 ≤ h_3.size := Nat.le_trans Z_2 E_3.1
  have F_3_nanos : Fld Z h_3 b_3 "com/example/westmount/westmount/Horizon$Reading" "nanos" "J" (.long (0 : Int64)) := D_3 (Or.inr (hw _ (List.mem_of_getElem? (i := 15) rfl))) (ty := .long) (by decide)
  have F_3_millis : Fld Z h_3 b_3 "com/example/westmount/westmount/Horizon$Reading" "millis" "J" (.long (0 : Int64)) := D_3 (Or.inr (hw _ (List.mem_of_getElem? (i := 17) rfl))) (ty := .long) (by decide)
  refine own_st (S' := T_3.setTop (mkF m 14 #[.val (.long p0), .second, .val (.long p1), .second, .val (.long p2), .second, .val (.long p3), .second, .val (.ref b_1), .unset, .unset, .unset, .unset, .unset, .unset, .unset, .unset, .unset] [(.ref b_3)])) st_3 ?_
  refine own_st (S' := T_3.setTop (mkF m 15 #[.val (.long p0), .second, .val (.long p1), .second, .val (.long p2), .second, .val (.long p3), .second, .val (.ref b_1), .unset, .unset, .unset, .unset, .unset, .unset, .unset, .unset, .unset] [(.ref b_3), (.ref b_3)])) (fun t_ k_ => XS.dup X_3.here hx rfl (hb hby at_14) rfl rfl k_) ?_
  refine own_st (S' := T_3.setTop (mkF m 17 #[.val (.long p0), .second, .val (.long p1), .second, .val (.long p2), .second, .val (.long p3), .second, .val (.ref b_1), .unset, .unset, .unset, .unset, .unset, .unset, .unset, .unset, .unset] [(.long p2), (.ref b_3), (.ref b_3)])) (fun t_ k_ => XS.lload X_3.here hx rfl (hb hby at_15) rfl k_) ?_
  refine own_st (S' := T_3.setTop (mkF m 19 #[.val (.long p0), .second, .val (.long p1), .second, .val (.long p2), .second, .val (.long p3), .second, .val (.ref b_1), .unset, .unset, .unset, .unset, .unset, .unset, .unset, .unset, .unset] [(.long p3), (.long p2), (.ref b_3), (.ref b_3)])) (fun t_ k_ => XS.lload X_3.here hx rfl (hb hby at_17) rfl k_) ?_
  obtain ⟨_, _, ⟨T_4, L_4, k_4, n_4⟩, -, X_4, ⟨Lc_4, hQ_4, l_4, y_4, z_4⟩, st_4⟩ := X_3.specialBack hx (y := (⟨"com/example/westmount/westmount/Horizon$Reading", "<init>", "(JJ)V"⟩ : MethodName)) rfl hown (mvT hZ (hw _ (List.mem_of_getElem? (i := 3) rfl))) (mvT hZ (hw _ (List.mem_of_getElem? (i := 4) rfl))) (mvT hZ (hw _ (List.mem_of_getElem? (i := 5) rfl))) (by decide) (backOf (W := 1) (rm1 l Z a0 hw [] b_3 p2 p3 h_3 n0 Z_3 A_3 F_3_nanos F_3_millis g_b_3) hZ (hw _ (List.mem_of_getElem? (i := 5) rfl)) (hw _ (List.mem_of_getElem? (i := 2) rfl)) (by decide) (by decide)) (g := (mkF m 19 #[.val (.long p0), .second, .val (.long p1), .second, .val (.long p2), .second, .val (.long p3), .second, .val (.ref b_1), .unset, .unset, .unset, .unset, .unset, .unset, .unset, .unset, .unset] [(.long p3), (.long p2), (.ref b_3), (.ref b_3)])) rfl (by rw [hml]; rfl) (Steps.refl _) (a := b_3) (argsL := [(.long p2), (.long p3)]) (rest := [(.ref b_3)]) (lenOf pd_2 rfl) rfl (by show 2 * 0 + _ ≤ _; exact Nat.le_of_eq rfl) (hb hby at_19) (fun _ _ => ⟨rfl, e_3, (by decide : 2 + 0 ≤ _), (by decide : 4 + 0 ≤ _)⟩)
  dsimp only [Pt.U, Pt.locs, Pt.cells, Pt.slots] at X_4 l_4 y_4 z_4 st_4 hQ_4
  subst l_4 y_4 z_4
  obtain ⟨rfl, M_4, K_4c, c_4_0, c_4_1, c_4_2⟩ := hQ_4
  have N_4 := Fr.app N_2 M_4
  have Z_4 : n0 ≤ T_4.heap.size := Nat.le_trans Z_3 K_4c.1
  refine own_st (S' := T_4.setTop (mkF m 22 #[.val (.long p0), .second, .val (.long p1), .second, .val (.long p2), .second, .val (.long p3), .second, .val (.ref b_1), .unset, .unset, .unset, .unset, .unset, .unset, .unset, .unset, .unset] [(.ref b_3)])) (fun t_ k_ => st_4.trans k_) ?_
  refine own_st (S' := T_4.setTop (mkF m 24 #[.val (.long p0), .second, .val (.long p1), .second, .val (.long p2), .second, .val (.long p3), .second, .val (.ref b_1), .val (.ref b_3), .unset, .unset, .unset, .unset, .unset, .unset, .unset, .unset] [])) (fun t_ k_ => XS.astore X_4.here hx rfl (hb hby at_22) rfl rfl (l' := #[.val (.long p0), .second, .val (.long p1), .second, .val (.long p2), .second, .val (.long p3), .second, .val (.ref b_1), .val (.ref b_3), .unset, .unset, .unset, .unset, .unset, .unset, .unset, .unset]) rfl k_) ?_
  refine own_st (S' := T_4.setTop (mkF m 26 #[.val (.long p0), .second, .val (.long p1), .second, .val (.long p2), .second, .val (.long p3), .second, .val (.ref b_1), .val (.ref b_3), .unset, .unset, .unset, .unset, .unset, .unset, .unset, .unset] [(.ref b_1)])) (fun t_ k_ => XS.aload X_4.here hx rfl (hb hby at_24) rfl rfl k_) ?_
  refine own_st (S' := T_4.setTop (mkF m 28 #[.val (.long p0), .second, .val (.long p1), .second, .val (.long p2), .second, .val (.long p3), .second, .val (.ref b_1), .val (.ref b_3), .unset, .unset, .unset, .unset, .unset, .unset, .unset, .unset] [(.ref b_3), (.ref b_1)])) (fun t_ k_ => XS.aload X_4.here hx rfl (hb hby at_26) rfl rfl k_) ?_
  have f_5 : Fld Z T_4.heap b_1 "com/example/westmount/westmount/Horizon$Reading" "nanos" "J" (.long p0) := ((Fld.ext E_3 c_2_1).keep K_4c (ninS ne_b_1_b_3 nin0))
  have f_6 : Fld Z T_4.heap b_1 "com/example/westmount/westmount/Horizon$Reading" "millis" "J" (.long p1) := ((Fld.ext E_3 c_2_2).keep K_4c (ninS ne_b_1_b_3 nin0))
  have f_8 : Exa Z T_4.heap b_1 "com/example/westmount/westmount/Horizon$Reading" := ((Exa.ext E_3 c_2_0).keep K_4c)
  obtain ⟨cq_7, kq_7, q_7a, q_7b, q_7c⟩ := isOf hZ rfl f_8
  obtain ⟨_, _, ⟨T_7, L_7, k_7, n_7⟩, -, X_7, ⟨Lc_7, hQ_7, l_7, y_7, z_7⟩, st_7⟩ := X_4.virtualBack hx (y := (⟨"com/example/westmount/westmount/Horizon$Reading", "leastNanosSince", "(Lcom/example/westmount/westmount/Horizon$Reading;)J"⟩ : MethodName)) (z := (⟨"com/example/westmount/westmount/Horizon$Reading", "leastNanosSince", "(Lcom/example/westmount/westmount/Horizon$Reading;)J"⟩ : MethodName)) hown (mvT hZ (hw _ (List.mem_of_getElem? (i := 18) rfl))) (mvT hZ (hw _ (List.mem_of_getElem? (i := 19) rfl))) (notFace_of_selects (args := #[]) (mvT hZ (hw _ (List.mem_of_getElem? (i := 21) rfl)))) (mvT hZ (hw _ (List.mem_of_getElem? (i := 21) rfl))) (mvT hZ (hw _ (List.mem_of_getElem? (i := 20) rfl))) (by decide) (backOf (W := 0) (rm2 l Z a0 hw [] b_1 b_3 p0 p1 p2 p3 T_4.heap n0 Z_4 f_5 f_6 c_4_1 c_4_2) hZ (hw _ (List.mem_of_getElem? (i := 22) rfl)) (hw _ (List.mem_of_getElem? (i := 2) rfl)) (by decide) (by decide)) q_7a q_7c (g := (mkF m 28 #[.val (.long p0), .second, .val (.long p1), .second, .val (.long p2), .second, .val (.long p3), .second, .val (.ref b_1), .val (.ref b_3), .unset, .unset, .unset, .unset, .unset, .unset, .unset, .unset] [(.ref b_3), (.ref b_1)])) rfl (by rw [hml]; rfl) (Steps.refl _) (argsL := [(.ref b_3)]) (rest := []) (lenOf pd_3 rfl) rfl (by show 2 * 0 + _ ≤ _; exact Nat.le_of_eq rfl) (hb hby at_28) (fun _ _ => ⟨rfl, rfl, (by decide : 2 + 0 ≤ _), (by decide : 4 + 0 ≤ _)⟩)
  dsimp only [Pt.U, Pt.locs, Pt.cells, Pt.slots] at X_7 l_7 y_7 z_7 st_7 hQ_7
  subst l_7 y_7 z_7
  obtain ⟨rfl, M_7, q_7⟩ := hQ_7
  have N_7 := Fr.app N_4 M_7
  refine own_st (S' := T_7.setTop (mkF m 31 #[.val (.long p0), .second, .val (.long p1), .second, .val (.long p2), .second, .val (.long p3), .second, .val (.ref b_1), .val (.ref b_3), .unset, .unset, .unset, .unset, .unset, .unset, .unset, .unset] [(.long (own_m (p0 - p2) ((p1 - p3) * (1000000 : Int64))))])) (fun t_ k_ => st_7.trans k_) ?_
  refine own_st (S' := T_7.setTop (mkF m 33 #[.val (.long p0), .second, .val (.long p1), .second, .val (.long p2), .second, .val (.long p3), .second, .val (.ref b_1), .val (.ref b_3), .val (.long (own_m (p0 - p2) ((p1 - p3) * (1000000 : Int64)))), .second, .unset, .unset, .unset, .unset, .unset, .unset] [])) (fun t_ k_ => XS.lstore X_7.here hx rfl (hb hby at_31) rfl (l' := #[.val (.long p0), .second, .val (.long p1), .second, .val (.long p2), .second, .val (.long p3), .second, .val (.ref b_1), .val (.ref b_3), .val (.long (own_m (p0 - p2) ((p1 - p3) * (1000000 : Int64)))), .second, .unset, .unset, .unset, .unset, .unset, .unset]) rfl k_) ?_
  refine own_st (S' := T_7.setTop (mkF m 34 #[.val (.long p0), .second, .val (.long p1), .second, .val (.long p2), .second, .val (.long p3), .second, .val (.ref b_1), .val (.ref b_3), .val (.long (own_m (p0 - p2) ((p1 - p3) * (1000000 : Int64)))), .second, .unset, .unset, .unset, .unset, .unset, .unset] [(.long p0)])) (fun t_ k_ => XS.lloadN X_7.here hx rfl (hb hby at_33) rfl k_) ?_
  refine own_st (S' := T_7.setTop (mkF m 36 #[.val (.long p0), .second, .val (.long p1), .second, .val (.long p2), .second, .val (.long p3), .second, .val (.ref b_1), .val (.ref b_3), .val (.long (own_m (p0 - p2) ((p1 - p3) * (1000000 : Int64)))), .second, .unset, .unset, .unset, .unset, .unset, .unset] [(.long p2), (.long p0)])) (fun t_ k_ => XS.lload X_7.here hx rfl (hb hby at_34) rfl k_) ?_
  refine own_st (S' := T_7.setTop (mkF m 37 #[.val (.long p0), .second, .val (.long p1), .second, .val (.long p2), .second, .val (.long p3), .second, .val (.ref b_1), .val (.ref b_3), .val (.long (own_m (p0 - p2) ((p1 - p3) * (1000000 : Int64)))), .second, .unset, .unset, .unset, .unset, .unset, .unset] [(.long (p0 - p2))])) (fun t_ k_ => XS.lsub X_7.here hx rfl (hb hby at_36) rfl k_) ?_
  refine own_st (S' := T_7.setTop (mkF m 39 #[.val (.long p0), .second, .val (.long p1), .second, .val (.long p2), .second, .val (.long p3), .second, .val (.ref b_1), .val (.ref b_3), .val (.long (own_m (p0 - p2) ((p1 - p3) * (1000000 : Int64)))), .second, .val (.long (p0 - p2)), .second, .unset, .unset, .unset, .unset] [])) (fun t_ k_ => XS.lstore X_7.here hx rfl (hb hby at_37) rfl (l' := #[.val (.long p0), .second, .val (.long p1), .second, .val (.long p2), .second, .val (.long p3), .second, .val (.ref b_1), .val (.ref b_3), .val (.long (own_m (p0 - p2) ((p1 - p3) * (1000000 : Int64)))), .second, .val (.long (p0 - p2)), .second, .unset, .unset, .unset, .unset]) rfl k_) ?_
  refine own_st (S' := T_7.setTop (mkF m 40 #[.val (.long p0), .second, .val (.long p1), .second, .val (.long p2), .second, .val (.long p3), .second, .val (.ref b_1), .val (.ref b_3), .val (.long (own_m (p0 - p2) ((p1 - p3) * (1000000 : Int64)))), .second, .val (.long (p0 - p2)), .second, .unset, .unset, .unset, .unset] [(.long p1)])) (fun t_ k_ => XS.lloadN X_7.here hx rfl (hb hby at_39) rfl k_) ?_
  refine own_st (S' := T_7.setTop (mkF m 42 #[.val (.long p0), .second, .val (.long p1), .second, .val (.long p2), .second, .val (.long p3), .second, .val (.ref b_1), .val (.ref b_3), .val (.long (own_m (p0 - p2) ((p1 - p3) * (1000000 : Int64)))), .second, .val (.long (p0 - p2)), .second, .unset, .unset, .unset, .unset] [(.long p3), (.long p1)])) (fun t_ k_ => XS.lload X_7.here hx rfl (hb hby at_40) rfl k_) ?_
  refine own_st (S' := T_7.setTop (mkF m 43 #[.val (.long p0), .second, .val (.long p1), .second, .val (.long p2), .second, .val (.long p3), .second, .val (.ref b_1), .val (.ref b_3), .val (.long (own_m (p0 - p2) ((p1 - p3) * (1000000 : Int64)))), .second, .val (.long (p0 - p2)), .second, .unset, .unset, .unset, .unset] [(.long (p1 - p3))])) (fun t_ k_ => XS.lsub X_7.here hx rfl (hb hby at_42) rfl k_) ?_
  refine own_st (S' := T_7.setTop (mkF m 46 #[.val (.long p0), .second, .val (.long p1), .second, .val (.long p2), .second, .val (.long p3), .second, .val (.ref b_1), .val (.ref b_3), .val (.long (own_m (p0 - p2) ((p1 - p3) * (1000000 : Int64)))), .second, .val (.long (p0 - p2)), .second, .unset, .unset, .unset, .unset] [(.long (1000000 : Int64)), (.long (p1 - p3))])) (fun t_ k_ => X_7.ldc2J hx hown (mvT hZ (hw _ (List.mem_of_getElem? (i := 28) rfl))) (g := (mkF m 43 #[.val (.long p0), .second, .val (.long p1), .second, .val (.long p2), .second, .val (.long p3), .second, .val (.ref b_1), .val (.ref b_3), .val (.long (own_m (p0 - p2) ((p1 - p3) * (1000000 : Int64)))), .second, .val (.long (p0 - p2)), .second, .unset, .unset, .unset, .unset] [(.long (p1 - p3))])) rfl (hb hby at_43) k_) ?_
  refine own_st (S' := T_7.setTop (mkF m 47 #[.val (.long p0), .second, .val (.long p1), .second, .val (.long p2), .second, .val (.long p3), .second, .val (.ref b_1), .val (.ref b_3), .val (.long (own_m (p0 - p2) ((p1 - p3) * (1000000 : Int64)))), .second, .val (.long (p0 - p2)), .second, .unset, .unset, .unset, .unset] [(.long ((p1 - p3) * (1000000 : Int64)))])) (fun t_ k_ => XS.lmul X_7.here hx rfl (hb hby at_46) rfl k_) ?_
  refine own_st (S' := T_7.setTop (mkF m 49 #[.val (.long p0), .second, .val (.long p1), .second, .val (.long p2), .second, .val (.long p3), .second, .val (.ref b_1), .val (.ref b_3), .val (.long (own_m (p0 - p2) ((p1 - p3) * (1000000 : Int64)))), .second, .val (.long (p0 - p2)), .second, .val (.long ((p1 - p3) * (1000000 : Int64))), .second, .unset, .unset] [])) (fun t_ k_ => XS.lstore X_7.here hx rfl (hb hby at_47) rfl (l' := #[.val (.long p0), .second, .val (.long p1), .second, .val (.long p2), .second, .val (.long p3), .second, .val (.ref b_1), .val (.ref b_3), .val (.long (own_m (p0 - p2) ((p1 - p3) * (1000000 : Int64)))), .second, .val (.long (p0 - p2)), .second, .val (.long ((p1 - p3) * (1000000 : Int64))), .second, .unset, .unset]) rfl k_) ?_
  refine own_st (S' := T_7.setTop (mkF m 51 #[.val (.long p0), .second, .val (.long p1), .second, .val (.long p2), .second, .val (.long p3), .second, .val (.ref b_1), .val (.ref b_3), .val (.long (own_m (p0 - p2) ((p1 - p3) * (1000000 : Int64)))), .second, .val (.long (p0 - p2)), .second, .val (.long ((p1 - p3) * (1000000 : Int64))), .second, .unset, .unset] [(.long (own_m (p0 - p2) ((p1 - p3) * (1000000 : Int64))))])) (fun t_ k_ => XS.lload X_7.here hx rfl (hb hby at_49) rfl k_) ?_
  refine own_st (S' := T_7.setTop (mkF m 53 #[.val (.long p0), .second, .val (.long p1), .second, .val (.long p2), .second, .val (.long p3), .second, .val (.ref b_1), .val (.ref b_3), .val (.long (own_m (p0 - p2) ((p1 - p3) * (1000000 : Int64)))), .second, .val (.long (p0 - p2)), .second, .val (.long ((p1 - p3) * (1000000 : Int64))), .second, .unset, .unset] [(.long (p0 - p2)), (.long (own_m (p0 - p2) ((p1 - p3) * (1000000 : Int64))))])) (fun t_ k_ => XS.lload X_7.here hx rfl (hb hby at_51) rfl k_) ?_
  refine own_st (S' := T_7.setTop (mkF m 54 #[.val (.long p0), .second, .val (.long p1), .second, .val (.long p2), .second, .val (.long p3), .second, .val (.ref b_1), .val (.ref b_3), .val (.long (own_m (p0 - p2) ((p1 - p3) * (1000000 : Int64)))), .second, .val (.long (p0 - p2)), .second, .val (.long ((p1 - p3) * (1000000 : Int64))), .second, .unset, .unset] [(.int (lcmpW (own_m (p0 - p2) ((p1 - p3) * (1000000 : Int64))) (p0 - p2)))])) (fun t_ k_ => XS.lcmp X_7.here hx rfl (hb hby at_53) rfl k_) ?_
  by_cases hc54 : (p0 - p2) < (own_m (p0 - p2) ((p1 - p3) * (1000000 : Int64)))
  · exact absurd hc54 (own_1 _ _)
  · refine own_st (S' := T_7.setTop (mkF m 57 #[.val (.long p0), .second, .val (.long p1), .second, .val (.long p2), .second, .val (.long p3), .second, .val (.ref b_1), .val (.ref b_3), .val (.long (own_m (p0 - p2) ((p1 - p3) * (1000000 : Int64)))), .second, .val (.long (p0 - p2)), .second, .val (.long ((p1 - p3) * (1000000 : Int64))), .second, .unset, .unset] [])) (fun t_ k_ => XS.ifNo X_7.here hx rfl (hb hby at_54) rfl ((if0 _ _).trans (flt (fun q => hc54 ((lw_gt _ _).mp q))).2.2.1) k_) ?_
    refine own_st (S' := T_7.setTop (mkF m 59 #[.val (.long p0), .second, .val (.long p1), .second, .val (.long p2), .second, .val (.long p3), .second, .val (.ref b_1), .val (.ref b_3), .val (.long (own_m (p0 - p2) ((p1 - p3) * (1000000 : Int64)))), .second, .val (.long (p0 - p2)), .second, .val (.long ((p1 - p3) * (1000000 : Int64))), .second, .unset, .unset] [(.long (own_m (p0 - p2) ((p1 - p3) * (1000000 : Int64))))])) (fun t_ k_ => XS.lload X_7.here hx rfl (hb hby at_57) rfl k_) ?_
    refine own_st (S' := T_7.setTop (mkF m 61 #[.val (.long p0), .second, .val (.long p1), .second, .val (.long p2), .second, .val (.long p3), .second, .val (.ref b_1), .val (.ref b_3), .val (.long (own_m (p0 - p2) ((p1 - p3) * (1000000 : Int64)))), .second, .val (.long (p0 - p2)), .second, .val (.long ((p1 - p3) * (1000000 : Int64))), .second, .unset, .unset] [(.long ((p1 - p3) * (1000000 : Int64))), (.long (own_m (p0 - p2) ((p1 - p3) * (1000000 : Int64))))])) (fun t_ k_ => XS.lload X_7.here hx rfl (hb hby at_59) rfl k_) ?_
    refine own_st (S' := T_7.setTop (mkF m 62 #[.val (.long p0), .second, .val (.long p1), .second, .val (.long p2), .second, .val (.long p3), .second, .val (.ref b_1), .val (.ref b_3), .val (.long (own_m (p0 - p2) ((p1 - p3) * (1000000 : Int64)))), .second, .val (.long (p0 - p2)), .second, .val (.long ((p1 - p3) * (1000000 : Int64))), .second, .unset, .unset] [(.int (lcmpW (own_m (p0 - p2) ((p1 - p3) * (1000000 : Int64))) ((p1 - p3) * (1000000 : Int64))))])) (fun t_ k_ => XS.lcmp X_7.here hx rfl (hb hby at_61) rfl k_) ?_
    by_cases hc62 : ((p1 - p3) * (1000000 : Int64)) < (own_m (p0 - p2) ((p1 - p3) * (1000000 : Int64)))
    · exact absurd hc62 (own_2 _ _)
    · refine own_st (S' := T_7.setTop (mkF m 65 #[.val (.long p0), .second, .val (.long p1), .second, .val (.long p2), .second, .val (.long p3), .second, .val (.ref b_1), .val (.ref b_3), .val (.long (own_m (p0 - p2) ((p1 - p3) * (1000000 : Int64)))), .second, .val (.long (p0 - p2)), .second, .val (.long ((p1 - p3) * (1000000 : Int64))), .second, .unset, .unset] [])) (fun t_ k_ => XS.ifNo X_7.here hx rfl (hb hby at_62) rfl ((if0 _ _).trans (flt (fun q => hc62 ((lw_gt _ _).mp q))).2.2.1) k_) ?_
      refine own_st (S' := T_7.setTop (mkF m 66 #[.val (.long p0), .second, .val (.long p1), .second, .val (.long p2), .second, .val (.long p3), .second, .val (.ref b_1), .val (.ref b_3), .val (.long (own_m (p0 - p2) ((p1 - p3) * (1000000 : Int64)))), .second, .val (.long (p0 - p2)), .second, .val (.long ((p1 - p3) * (1000000 : Int64))), .second, .unset, .unset] [(.int (1 : Int32))])) (fun t_ k_ => XS.iconst X_7.here hx rfl (hb hby at_65) k_) ?_
      refine own_st (S' := T_7.setTop (mkF m 70 #[.val (.long p0), .second, .val (.long p1), .second, .val (.long p2), .second, .val (.long p3), .second, .val (.ref b_1), .val (.ref b_3), .val (.long (own_m (p0 - p2) ((p1 - p3) * (1000000 : Int64)))), .second, .val (.long (p0 - p2)), .second, .val (.long ((p1 - p3) * (1000000 : Int64))), .second, .unset, .unset] [(.int (1 : Int32))])) (fun t_ k_ => XS.goto X_7.here hx rfl (pc0 := 66) (pc' := 70) rfl (hb hby at_66) (by decide) (by decide) k_) ?_
      refine own_st (S' := T_7.setTop (mkF m 72 #[.val (.long p0), .second, .val (.long p1), .second, .val (.long p2), .second, .val (.long p3), .second, .val (.ref b_1), .val (.ref b_3), .val (.long (own_m (p0 - p2) ((p1 - p3) * (1000000 : Int64)))), .second, .val (.long (p0 - p2)), .second, .val (.long ((p1 - p3) * (1000000 : Int64))), .second, .val (.int (1 : Int32)), .unset] [])) (fun t_ k_ => XS.istore X_7.here hx rfl (hb hby at_70) rfl (l' := #[.val (.long p0), .second, .val (.long p1), .second, .val (.long p2), .second, .val (.long p3), .second, .val (.ref b_1), .val (.ref b_3), .val (.long (own_m (p0 - p2) ((p1 - p3) * (1000000 : Int64)))), .second, .val (.long (p0 - p2)), .second, .val (.long ((p1 - p3) * (1000000 : Int64))), .second, .val (.int (1 : Int32)), .unset]) rfl k_) ?_
      refine own_st (S' := T_7.setTop (mkF m 74 #[.val (.long p0), .second, .val (.long p1), .second, .val (.long p2), .second, .val (.long p3), .second, .val (.ref b_1), .val (.ref b_3), .val (.long (own_m (p0 - p2) ((p1 - p3) * (1000000 : Int64)))), .second, .val (.long (p0 - p2)), .second, .val (.long ((p1 - p3) * (1000000 : Int64))), .second, .val (.int (1 : Int32)), .unset] [(.long (own_m (p0 - p2) ((p1 - p3) * (1000000 : Int64))))])) (fun t_ k_ => XS.lload X_7.here hx rfl (hb hby at_72) rfl k_) ?_
      refine own_st (S' := T_7.setTop (mkF m 76 #[.val (.long p0), .second, .val (.long p1), .second, .val (.long p2), .second, .val (.long p3), .second, .val (.ref b_1), .val (.ref b_3), .val (.long (own_m (p0 - p2) ((p1 - p3) * (1000000 : Int64)))), .second, .val (.long (p0 - p2)), .second, .val (.long ((p1 - p3) * (1000000 : Int64))), .second, .val (.int (1 : Int32)), .unset] [(.long (p0 - p2)), (.long (own_m (p0 - p2) ((p1 - p3) * (1000000 : Int64))))])) (fun t_ k_ => XS.lload X_7.here hx rfl (hb hby at_74) rfl k_) ?_
      refine own_st (S' := T_7.setTop (mkF m 77 #[.val (.long p0), .second, .val (.long p1), .second, .val (.long p2), .second, .val (.long p3), .second, .val (.ref b_1), .val (.ref b_3), .val (.long (own_m (p0 - p2) ((p1 - p3) * (1000000 : Int64)))), .second, .val (.long (p0 - p2)), .second, .val (.long ((p1 - p3) * (1000000 : Int64))), .second, .val (.int (1 : Int32)), .unset] [(.int (lcmpW (own_m (p0 - p2) ((p1 - p3) * (1000000 : Int64))) (p0 - p2)))])) (fun t_ k_ => XS.lcmp X_7.here hx rfl (hb hby at_76) rfl k_) ?_
      by_cases hc77 : (own_m (p0 - p2) ((p1 - p3) * (1000000 : Int64))) = (p0 - p2)
      · refine own_st (S' := T_7.setTop (mkF m 88 #[.val (.long p0), .second, .val (.long p1), .second, .val (.long p2), .second, .val (.long p3), .second, .val (.ref b_1), .val (.ref b_3), .val (.long (own_m (p0 - p2) ((p1 - p3) * (1000000 : Int64)))), .second, .val (.long (p0 - p2)), .second, .val (.long ((p1 - p3) * (1000000 : Int64))), .second, .val (.int (1 : Int32)), .unset] [])) (fun t_ k_ => XS.ifYes X_7.here hx rfl (pc0 := 77) (pc' := 88) rfl (hb hby at_77) rfl ((if0 _ _).trans (teq ((lw_eq _ _).mpr hc77)).1) (by decide) (by decide) k_) ?_
        refine own_st (S' := T_7.setTop (mkF m 89 #[.val (.long p0), .second, .val (.long p1), .second, .val (.long p2), .second, .val (.long p3), .second, .val (.ref b_1), .val (.ref b_3), .val (.long (own_m (p0 - p2) ((p1 - p3) * (1000000 : Int64)))), .second, .val (.long (p0 - p2)), .second, .val (.long ((p1 - p3) * (1000000 : Int64))), .second, .val (.int (1 : Int32)), .unset] [(.int (1 : Int32))])) (fun t_ k_ => XS.iconst X_7.here hx rfl (hb hby at_88) k_) ?_
        refine own_st (S' := T_7.setTop (mkF m 93 #[.val (.long p0), .second, .val (.long p1), .second, .val (.long p2), .second, .val (.long p3), .second, .val (.ref b_1), .val (.ref b_3), .val (.long (own_m (p0 - p2) ((p1 - p3) * (1000000 : Int64)))), .second, .val (.long (p0 - p2)), .second, .val (.long ((p1 - p3) * (1000000 : Int64))), .second, .val (.int (1 : Int32)), .unset] [(.int (1 : Int32))])) (fun t_ k_ => XS.goto X_7.here hx rfl (pc0 := 89) (pc' := 93) rfl (hb hby at_89) (by decide) (by decide) k_) ?_
        refine own_st (S' := T_7.setTop (mkF m 95 #[.val (.long p0), .second, .val (.long p1), .second, .val (.long p2), .second, .val (.long p3), .second, .val (.ref b_1), .val (.ref b_3), .val (.long (own_m (p0 - p2) ((p1 - p3) * (1000000 : Int64)))), .second, .val (.long (p0 - p2)), .second, .val (.long ((p1 - p3) * (1000000 : Int64))), .second, .val (.int (1 : Int32)), .val (.int (1 : Int32))] [])) (fun t_ k_ => XS.istore X_7.here hx rfl (hb hby at_93) rfl (l' := #[.val (.long p0), .second, .val (.long p1), .second, .val (.long p2), .second, .val (.long p3), .second, .val (.ref b_1), .val (.ref b_3), .val (.long (own_m (p0 - p2) ((p1 - p3) * (1000000 : Int64)))), .second, .val (.long (p0 - p2)), .second, .val (.long ((p1 - p3) * (1000000 : Int64))), .second, .val (.int (1 : Int32)), .val (.int (1 : Int32))]) rfl k_) ?_
        refine own_st (S' := T_7.setTop (mkF m 97 #[.val (.long p0), .second, .val (.long p1), .second, .val (.long p2), .second, .val (.long p3), .second, .val (.ref b_1), .val (.ref b_3), .val (.long (own_m (p0 - p2) ((p1 - p3) * (1000000 : Int64)))), .second, .val (.long (p0 - p2)), .second, .val (.long ((p1 - p3) * (1000000 : Int64))), .second, .val (.int (1 : Int32)), .val (.int (1 : Int32))] [(.int (1 : Int32))])) (fun t_ k_ => XS.iload X_7.here hx rfl (hb hby at_95) rfl k_) ?_
        refine own_st (S' := T_7.setTop (mkF m 100 #[.val (.long p0), .second, .val (.long p1), .second, .val (.long p2), .second, .val (.long p3), .second, .val (.ref b_1), .val (.ref b_3), .val (.long (own_m (p0 - p2) ((p1 - p3) * (1000000 : Int64)))), .second, .val (.long (p0 - p2)), .second, .val (.long ((p1 - p3) * (1000000 : Int64))), .second, .val (.int (1 : Int32)), .val (.int (1 : Int32))] [])) (fun t_ k_ => XS.ifNo X_7.here hx rfl (hb hby at_97) rfl ((if0 _ _).trans (feq (by decide : ¬ ((1 : Int32) = (0 : Int32)))).1) k_) ?_
        refine own_st (S' := T_7.setTop (mkF m 102 #[.val (.long p0), .second, .val (.long p1), .second, .val (.long p2), .second, .val (.long p3), .second, .val (.ref b_1), .val (.ref b_3), .val (.long (own_m (p0 - p2) ((p1 - p3) * (1000000 : Int64)))), .second, .val (.long (p0 - p2)), .second, .val (.long ((p1 - p3) * (1000000 : Int64))), .second, .val (.int (1 : Int32)), .val (.int (1 : Int32))] [(.int (1 : Int32))])) (fun t_ k_ => XS.iload X_7.here hx rfl (hb hby at_100) rfl k_) ?_
        refine own_st (S' := T_7.setTop (mkF m 105 #[.val (.long p0), .second, .val (.long p1), .second, .val (.long p2), .second, .val (.long p3), .second, .val (.ref b_1), .val (.ref b_3), .val (.long (own_m (p0 - p2) ((p1 - p3) * (1000000 : Int64)))), .second, .val (.long (p0 - p2)), .second, .val (.long ((p1 - p3) * (1000000 : Int64))), .second, .val (.int (1 : Int32)), .val (.int (1 : Int32))] [])) (fun t_ k_ => XS.ifNo X_7.here hx rfl (hb hby at_102) rfl ((if0 _ _).trans (feq (by decide : ¬ ((1 : Int32) = (0 : Int32)))).1) k_) ?_
        refine own_st (S' := T_7.setTop (mkF m 106 #[.val (.long p0), .second, .val (.long p1), .second, .val (.long p2), .second, .val (.long p3), .second, .val (.ref b_1), .val (.ref b_3), .val (.long (own_m (p0 - p2) ((p1 - p3) * (1000000 : Int64)))), .second, .val (.long (p0 - p2)), .second, .val (.long ((p1 - p3) * (1000000 : Int64))), .second, .val (.int (1 : Int32)), .val (.int (1 : Int32))] [(.int (1 : Int32))])) (fun t_ k_ => XS.iconst X_7.here hx rfl (hb hby at_105) k_) ?_
        refine own_st (S' := T_7.setTop (mkF m 110 #[.val (.long p0), .second, .val (.long p1), .second, .val (.long p2), .second, .val (.long p3), .second, .val (.ref b_1), .val (.ref b_3), .val (.long (own_m (p0 - p2) ((p1 - p3) * (1000000 : Int64)))), .second, .val (.long (p0 - p2)), .second, .val (.long ((p1 - p3) * (1000000 : Int64))), .second, .val (.int (1 : Int32)), .val (.int (1 : Int32))] [(.int (1 : Int32))])) (fun t_ k_ => XS.goto X_7.here hx rfl (pc0 := 106) (pc' := 110) rfl (hb hby at_106) (by decide) (by decide) k_) ?_
        obtain ⟨fs, hr, hrun, hended, hW, hsame⟩ := X_7.leave (v := some (.int (1 : Int32))) (fun h => by rw [Bd.returns] at h; cases h)
        refine ⟨_, _, retN X_7 hx (t := .boolean) Bd.returns (by simp) (hb hby at_110) hr, hrun, hended, _, _, rfl, ?_, ⟨_, rfl⟩, hW, hsame.mono (by decide) (by decide)⟩
        show Q0 Z p0 p1 p2 p3 h0 n0 _ T_7.heap _
        rw [q_7]
        exact ⟨rfl, N_7⟩
      · refine own_st (S' := T_7.setTop (mkF m 80 #[.val (.long p0), .second, .val (.long p1), .second, .val (.long p2), .second, .val (.long p3), .second, .val (.ref b_1), .val (.ref b_3), .val (.long (own_m (p0 - p2) ((p1 - p3) * (1000000 : Int64)))), .second, .val (.long (p0 - p2)), .second, .val (.long ((p1 - p3) * (1000000 : Int64))), .second, .val (.int (1 : Int32)), .unset] [])) (fun t_ k_ => XS.ifNo X_7.here hx rfl (hb hby at_77) rfl ((if0 _ _).trans (feq (fun q => hc77 ((lw_eq _ _).mp q))).1) k_) ?_
        refine own_st (S' := T_7.setTop (mkF m 82 #[.val (.long p0), .second, .val (.long p1), .second, .val (.long p2), .second, .val (.long p3), .second, .val (.ref b_1), .val (.ref b_3), .val (.long (own_m (p0 - p2) ((p1 - p3) * (1000000 : Int64)))), .second, .val (.long (p0 - p2)), .second, .val (.long ((p1 - p3) * (1000000 : Int64))), .second, .val (.int (1 : Int32)), .unset] [(.long (own_m (p0 - p2) ((p1 - p3) * (1000000 : Int64))))])) (fun t_ k_ => XS.lload X_7.here hx rfl (hb hby at_80) rfl k_) ?_
        refine own_st (S' := T_7.setTop (mkF m 84 #[.val (.long p0), .second, .val (.long p1), .second, .val (.long p2), .second, .val (.long p3), .second, .val (.ref b_1), .val (.ref b_3), .val (.long (own_m (p0 - p2) ((p1 - p3) * (1000000 : Int64)))), .second, .val (.long (p0 - p2)), .second, .val (.long ((p1 - p3) * (1000000 : Int64))), .second, .val (.int (1 : Int32)), .unset] [(.long ((p1 - p3) * (1000000 : Int64))), (.long (own_m (p0 - p2) ((p1 - p3) * (1000000 : Int64))))])) (fun t_ k_ => XS.lload X_7.here hx rfl (hb hby at_82) rfl k_) ?_
        refine own_st (S' := T_7.setTop (mkF m 85 #[.val (.long p0), .second, .val (.long p1), .second, .val (.long p2), .second, .val (.long p3), .second, .val (.ref b_1), .val (.ref b_3), .val (.long (own_m (p0 - p2) ((p1 - p3) * (1000000 : Int64)))), .second, .val (.long (p0 - p2)), .second, .val (.long ((p1 - p3) * (1000000 : Int64))), .second, .val (.int (1 : Int32)), .unset] [(.int (lcmpW (own_m (p0 - p2) ((p1 - p3) * (1000000 : Int64))) ((p1 - p3) * (1000000 : Int64))))])) (fun t_ k_ => XS.lcmp X_7.here hx rfl (hb hby at_84) rfl k_) ?_
        by_cases hc85 : (own_m (p0 - p2) ((p1 - p3) * (1000000 : Int64))) = ((p1 - p3) * (1000000 : Int64))
        · refine own_st (S' := T_7.setTop (mkF m 88 #[.val (.long p0), .second, .val (.long p1), .second, .val (.long p2), .second, .val (.long p3), .second, .val (.ref b_1), .val (.ref b_3), .val (.long (own_m (p0 - p2) ((p1 - p3) * (1000000 : Int64)))), .second, .val (.long (p0 - p2)), .second, .val (.long ((p1 - p3) * (1000000 : Int64))), .second, .val (.int (1 : Int32)), .unset] [])) (fun t_ k_ => XS.ifNo X_7.here hx rfl (hb hby at_85) rfl ((if0 _ _).trans (teq ((lw_eq _ _).mpr hc85)).2) k_) ?_
          refine own_st (S' := T_7.setTop (mkF m 89 #[.val (.long p0), .second, .val (.long p1), .second, .val (.long p2), .second, .val (.long p3), .second, .val (.ref b_1), .val (.ref b_3), .val (.long (own_m (p0 - p2) ((p1 - p3) * (1000000 : Int64)))), .second, .val (.long (p0 - p2)), .second, .val (.long ((p1 - p3) * (1000000 : Int64))), .second, .val (.int (1 : Int32)), .unset] [(.int (1 : Int32))])) (fun t_ k_ => XS.iconst X_7.here hx rfl (hb hby at_88) k_) ?_
          refine own_st (S' := T_7.setTop (mkF m 93 #[.val (.long p0), .second, .val (.long p1), .second, .val (.long p2), .second, .val (.long p3), .second, .val (.ref b_1), .val (.ref b_3), .val (.long (own_m (p0 - p2) ((p1 - p3) * (1000000 : Int64)))), .second, .val (.long (p0 - p2)), .second, .val (.long ((p1 - p3) * (1000000 : Int64))), .second, .val (.int (1 : Int32)), .unset] [(.int (1 : Int32))])) (fun t_ k_ => XS.goto X_7.here hx rfl (pc0 := 89) (pc' := 93) rfl (hb hby at_89) (by decide) (by decide) k_) ?_
          refine own_st (S' := T_7.setTop (mkF m 95 #[.val (.long p0), .second, .val (.long p1), .second, .val (.long p2), .second, .val (.long p3), .second, .val (.ref b_1), .val (.ref b_3), .val (.long (own_m (p0 - p2) ((p1 - p3) * (1000000 : Int64)))), .second, .val (.long (p0 - p2)), .second, .val (.long ((p1 - p3) * (1000000 : Int64))), .second, .val (.int (1 : Int32)), .val (.int (1 : Int32))] [])) (fun t_ k_ => XS.istore X_7.here hx rfl (hb hby at_93) rfl (l' := #[.val (.long p0), .second, .val (.long p1), .second, .val (.long p2), .second, .val (.long p3), .second, .val (.ref b_1), .val (.ref b_3), .val (.long (own_m (p0 - p2) ((p1 - p3) * (1000000 : Int64)))), .second, .val (.long (p0 - p2)), .second, .val (.long ((p1 - p3) * (1000000 : Int64))), .second, .val (.int (1 : Int32)), .val (.int (1 : Int32))]) rfl k_) ?_
          refine own_st (S' := T_7.setTop (mkF m 97 #[.val (.long p0), .second, .val (.long p1), .second, .val (.long p2), .second, .val (.long p3), .second, .val (.ref b_1), .val (.ref b_3), .val (.long (own_m (p0 - p2) ((p1 - p3) * (1000000 : Int64)))), .second, .val (.long (p0 - p2)), .second, .val (.long ((p1 - p3) * (1000000 : Int64))), .second, .val (.int (1 : Int32)), .val (.int (1 : Int32))] [(.int (1 : Int32))])) (fun t_ k_ => XS.iload X_7.here hx rfl (hb hby at_95) rfl k_) ?_
          refine own_st (S' := T_7.setTop (mkF m 100 #[.val (.long p0), .second, .val (.long p1), .second, .val (.long p2), .second, .val (.long p3), .second, .val (.ref b_1), .val (.ref b_3), .val (.long (own_m (p0 - p2) ((p1 - p3) * (1000000 : Int64)))), .second, .val (.long (p0 - p2)), .second, .val (.long ((p1 - p3) * (1000000 : Int64))), .second, .val (.int (1 : Int32)), .val (.int (1 : Int32))] [])) (fun t_ k_ => XS.ifNo X_7.here hx rfl (hb hby at_97) rfl ((if0 _ _).trans (feq (by decide : ¬ ((1 : Int32) = (0 : Int32)))).1) k_) ?_
          refine own_st (S' := T_7.setTop (mkF m 102 #[.val (.long p0), .second, .val (.long p1), .second, .val (.long p2), .second, .val (.long p3), .second, .val (.ref b_1), .val (.ref b_3), .val (.long (own_m (p0 - p2) ((p1 - p3) * (1000000 : Int64)))), .second, .val (.long (p0 - p2)), .second, .val (.long ((p1 - p3) * (1000000 : Int64))), .second, .val (.int (1 : Int32)), .val (.int (1 : Int32))] [(.int (1 : Int32))])) (fun t_ k_ => XS.iload X_7.here hx rfl (hb hby at_100) rfl k_) ?_
          refine own_st (S' := T_7.setTop (mkF m 105 #[.val (.long p0), .second, .val (.long p1), .second, .val (.long p2), .second, .val (.long p3), .second, .val (.ref b_1), .val (.ref b_3), .val (.long (own_m (p0 - p2) ((p1 - p3) * (1000000 : Int64)))), .second, .val (.long (p0 - p2)), .second, .val (.long ((p1 - p3) * (1000000 : Int64))), .second, .val (.int (1 : Int32)), .val (.int (1 : Int32))] [])) (fun t_ k_ => XS.ifNo X_7.here hx rfl (hb hby at_102) rfl ((if0 _ _).trans (feq (by decide : ¬ ((1 : Int32) = (0 : Int32)))).1) k_) ?_
          refine own_st (S' := T_7.setTop (mkF m 106 #[.val (.long p0), .second, .val (.long p1), .second, .val (.long p2), .second, .val (.long p3), .second, .val (.ref b_1), .val (.ref b_3), .val (.long (own_m (p0 - p2) ((p1 - p3) * (1000000 : Int64)))), .second, .val (.long (p0 - p2)), .second, .val (.long ((p1 - p3) * (1000000 : Int64))), .second, .val (.int (1 : Int32)), .val (.int (1 : Int32))] [(.int (1 : Int32))])) (fun t_ k_ => XS.iconst X_7.here hx rfl (hb hby at_105) k_) ?_
          refine own_st (S' := T_7.setTop (mkF m 110 #[.val (.long p0), .second, .val (.long p1), .second, .val (.long p2), .second, .val (.long p3), .second, .val (.ref b_1), .val (.ref b_3), .val (.long (own_m (p0 - p2) ((p1 - p3) * (1000000 : Int64)))), .second, .val (.long (p0 - p2)), .second, .val (.long ((p1 - p3) * (1000000 : Int64))), .second, .val (.int (1 : Int32)), .val (.int (1 : Int32))] [(.int (1 : Int32))])) (fun t_ k_ => XS.goto X_7.here hx rfl (pc0 := 106) (pc' := 110) rfl (hb hby at_106) (by decide) (by decide) k_) ?_
          obtain ⟨fs, hr, hrun, hended, hW, hsame⟩ := X_7.leave (v := some (.int (1 : Int32))) (fun h => by rw [Bd.returns] at h; cases h)
          refine ⟨_, _, retN X_7 hx (t := .boolean) Bd.returns (by simp) (hb hby at_110) hr, hrun, hended, _, _, rfl, ?_, ⟨_, rfl⟩, hW, hsame.mono (by decide) (by decide)⟩
          show Q0 Z p0 p1 p2 p3 h0 n0 _ T_7.heap _
          rw [q_7]
          exact ⟨rfl, N_7⟩
        · exact absurd (own_3 hc77) hc85
set_option maxRecDepth 65536 in
set_option maxHeartbeats 40000000 in
theorem comes_1 {Post : Tables → Env → Array Value → State → Outcome → State → Prop} (hpost : ∀ tb e args s v u, (limb_1_1.after args s (.returned v) u = true ∧ limb_1_2.after args s (.returned v) u = true ∧ True) → FrameEnd s (.returned v) u (Jvm.fieldLocs frame_1_writes args s ++ Jvm.arrayLocs frame_1_arrays args s ++ Jvm.staticLocs frame_1_statics s) 16 128 → Post tb e args s (.returned v) u) :
    ArmFor flags0 classFile x code maxLocals ret World_1 tables_1 room_1 Calls_1 rest_1 Pre_1 Post := by
  intro l hfl _ _ p e ha hc hk s m args below hf hA hF happ hP
  obtain ⟨hcalls, hrest, hpre⟩ := hP
  obtain ⟨-, -, -, hnamed, -, -, -, hat⟩ := (Spec.applies_iff hf).mp happ
  obtain ⟨hg, hn⟩ := and_e (Cond.before_iff.mp (show (Jvm.Cond.and given_1 narrow_1).before args s = true from hpre))
  obtain ⟨hcount, ht0⟩ := and_e hg
  obtain ⟨ha0, ht1⟩ := and_e ht0
  obtain ⟨ha1, ht2⟩ := and_e ht1
  obtain ⟨ha2, ht3⟩ := and_e ht2
  obtain ⟨w0, w1, w2, w3, rfl⟩ : ∃ w0 w1 w2 w3 : Value, args = #[w0, w1, w2, w3] := by
    have hs : args.size = 4 := by simpa [Cond.value, given_1] using hcount
    obtain ⟨L⟩ := args
    match L, hs with
    | [w0, w1, w2, w3], _ => exact ⟨w0, w1, w2, w3, rfl⟩
  have hw := fun d (hd : d ∈ tables_1) => atoms_spec (ws := Jvm.Cond.code x code maxLocals ret :: tables_1) hat d (List.mem_cons_of_mem _ hd)
  have hfit : Fit s := fun {y c} hc i hi => by
    obtain ⟨ha, rfl⟩ := Array.getElem?_eq_some_iff.mp hc
    have q := List.all_eq_true.mp ((Array.all_eq_true_iff_forall_mem.mp hF) _ (Array.getElem_mem ha)) i (List.mem_range.mpr hi)
    simpa [Array.getElem?_eq_getElem hi] using q
  obtain ⟨i0, ei0⟩ := isL_v ha0
  obtain rfl : w0 = (.long i0) := Option.some.inj ei0
  obtain ⟨i1, ei1⟩ := isL_v ha1
  obtain rfl : w1 = (.long i1) := Option.some.inj ei1
  obtain ⟨i2, ei2⟩ := isL_v ha2
  obtain rfl : w2 = (.long i2) := Option.some.inj ei2
  obtain ⟨i3, ei3⟩ := isL_v ht3
  obtain rfl : w3 = (.long i3) := Option.some.inj ei3
  obtain ⟨n, o, h1, h2, h3, _, L, rfl, ⟨rfl, N⟩, hq⟩ := rm0 l s _ hw tables_1 i0 i1 i2 i3 s.heap s.heap.size (Nat.le_refl _)  p e ha hc hk s m _ below hf ((Spec.applies_iff_loose hf).mp happ).1 ⟨rfl, State.Warmed39.refl s, rfl⟩ trivial
  refine ⟨n, _, h1, h2, h3, hpost _ _ _ _ _ _ ⟨Cond.after_iff.mpr rfl, Cond.after_iff.mpr (eq_i res_at (Term.int_eval (1)) rfl), trivial⟩ ⟨hq.1, hq.2.1, (hq.2.2.sift fun y hy => Or.inr (N y hy)).mono (by decide) (by decide)⟩⟩
theorem main_1_1 : Claimed_1_1 := comes_1 fun _ _ _ _ _ _ h hF => ⟨h.1, hF⟩
theorem main_1_2 : Claimed_1_2 := comes_1 fun _ _ _ _ _ _ h hF => ⟨h.2.1, hF⟩
end Jvm.Pilot.@@N@@
namespace Jvm.Pilot.@@N@@
open Jvm Jvm.ClassFile Sem Op Lib Jvm.Free Jvm.Stand Jvm.Pilot.@@N@@.Jvm.D
/-! MADE BY PROGRAM (witnessworld.py) out of the Statement's table words and the real class files: 11 classes; the members and pool entries that the words name. The judged class is class 1, her method 1. -/
namespace start1
open Jvm.ClassFile
def u (s : String) : CpInfo := .utf8 (stringToUtf16 s)
/-- a pool by its gaps: so many unusable entries, then the entry; so many at the end -/
def gap : Nat → List CpInfo → List CpInfo
  | 0, r => r
  | n + 1, r => .unusable :: gap n r
def poolList (es : List (Nat × CpInfo)) (last : Nat) : List CpInfo := es.foldr (fun e r => gap e.1 (e.2 :: r)) (gap last [])
def pool (es : List (Nat × CpInfo)) (last : Nat) : Array CpInfo := ⟨poolList es last⟩
def fileOf (pool : Array CpInfo) (this : Nat) (attrs : Array Attribute := #[]) (ms : Array MethodInfo := #[]) (fl : Nat := 33) (sup : Nat := 0) (ifs : Array Nat := #[]) (fds : Array FieldInfo := #[]) : ClassFile where
  minorVersion := 0
  majorVersion := 65
  constantPool := pool
  accessFlags := fl
  thisClass := this
  superClass := sup
  interfaces := ifs
  fields := fds
  methods := ms
  attributes := attrs
def plain (name : String) (sup : Option ClassId) : Class where
  name := name
  kind := .ordinary
  loader := none
  accessFlags := 33
  super := sup
  interfaces := #[]
  cf := none
  fields := #[]
  methods := #[]
  instanceTypes := #[]
  staticTypes := #[]
  resolved := #[]
  callSites := []
  init := .initialized
  statics := none
  mirror := none

def pool0 : Array CpInfo := pool [(5, u "<init>"), (0, u "()V"), (1, .class_ 10), (1, u "java/lang/Object")] 113

def k0c0 : Code := { maxStack := 0, maxLocals := 1, code := object_method_1_code, exceptionTable := #[], attributes := #[] }
def k0m0 : Method := { name := "<init>", desc := "()V", sig := { parameters := [], returnType := none }, accessFlags := 1, code := some k0c0 }
/-- java/lang/Object -/
def k0 : Class := { plain "java/lang/Object" none with
  accessFlags := 33
  interfaces := #[]
  cf := some (fileOf pool0 8 #[] #[{ accessFlags := 1, nameIndex := 5, descriptorIndex := 6, attributes := #[] }] 33 0 #[] #[])
  fields := #[]
  methods := #[k0m0]
  instanceTypes := #[]
  staticTypes := #[]
  resolved := Array.replicate 124 none
  statics := none }

def pool1 : Array CpInfo := pool [(2, .class_ 4), (1, u "java/lang/Object"), (0, u "<init>"), (0, u "()V"), (0, .class_ 8), (0, u "com/example/westmount/westmount/Horizon$Reading"), (0, .methodref 7 10), (0, .nameAndType 5 11), (0, u "(JJ)V"), (0, .methodref 7 13), (0, .nameAndType 14 15), (0, u "leastNanosSince"), (0, u "(Lcom/example/westmount/westmount/Horizon$Reading;)J"), (0, .long 1000000), (1, .class_ 19), (0, u "com/example/westmount/westmount/ReadingLeastNanosSincePinLaw"), (2, u "law"), (0, u "(JJJJ)Z")] 7

def k1m0 : Method := { name := "<init>", desc := "()V", sig := { parameters := [], returnType := none }, accessFlags := 1, code := none }
def k1c1 : Code := { maxStack := 6, maxLocals := 18, code := code, exceptionTable := #[], attributes := #[] }
def k1m1 : Method := { name := "law", desc := "(JJJJ)Z", sig := { parameters := [.long, .long, .long, .long], returnType := some .boolean }, accessFlags := 9, code := some k1c1 }
/-- com/example/westmount/westmount/ReadingLeastNanosSincePinLaw -/
def k1 : Class := { plain "com/example/westmount/westmount/ReadingLeastNanosSincePinLaw" (some 0) with
  accessFlags := 49
  interfaces := #[]
  cf := some (fileOf pool1 18 #[] #[{ accessFlags := 1, nameIndex := 5, descriptorIndex := 6, attributes := #[] }, { accessFlags := 9, nameIndex := 22, descriptorIndex := 23, attributes := #[] }] 49 2 #[] #[])
  fields := #[]
  methods := #[k1m0, k1m1]
  instanceTypes := #[]
  staticTypes := #[]
  resolved := Array.replicate 31 none
  statics := none }

def pool2 : Array CpInfo := pool [(1, .methodref 2 3), (0, .class_ 4), (0, .nameAndType 5 6), (0, u "java/lang/Object"), (0, u "<init>"), (0, u "()V"), (0, .class_ 8), (0, u "java/lang/Record")] 13

def k2c0 : Code := { maxStack := 1, maxLocals := 1, code := jdk_30_method_1_code, exceptionTable := #[], attributes := #[] }
def k2m0 : Method := { name := "<init>", desc := "()V", sig := { parameters := [], returnType := none }, accessFlags := 4, code := some k2c0 }
/-- java/lang/Record -/
def k2 : Class := { plain "java/lang/Record" (some 0) with
  accessFlags := 1057
  interfaces := #[]
  cf := some (fileOf pool2 7 #[] #[{ accessFlags := 4, nameIndex := 5, descriptorIndex := 6, attributes := #[] }] 1057 2 #[] #[])
  fields := #[]
  methods := #[k2m0]
  instanceTypes := #[]
  staticTypes := #[]
  resolved := Array.replicate 22 none
  statics := none }

def pool3 : Array CpInfo := pool [(1, .methodref 2 3), (0, .class_ 4), (0, .nameAndType 5 6), (0, u "java/lang/Record"), (0, u "<init>"), (0, u "()V"), (0, .fieldref 8 9), (0, .class_ 10), (0, .nameAndType 11 12), (0, u "com/example/westmount/westmount/Horizon$Reading"), (0, u "nanos"), (0, u "J"), (0, .fieldref 8 14), (0, .nameAndType 15 12), (0, u "millis"), (11, u "(JJ)V"), (0, .long 1000000), (2, .class_ 33), (1, u "java/lang/Math"), (1, u "(JJ)J"), (0, .methodref 31 37), (0, .nameAndType 38 35), (0, u "min"), (18, u "(Lcom/example/westmount/westmount/Horizon$Reading;)J"), (0, u "leastNanosSince"), (6, .class_ 66), (0, u "com/example/westmount/westmount/Horizon")] 20

def k3c0 : Code := { maxStack := 3, maxLocals := 5, code := prog_5_method_1_code, exceptionTable := #[], attributes := #[] }
def k3m0 : Method := { name := "<init>", desc := "(JJ)V", sig := { parameters := [.long, .long], returnType := none }, accessFlags := 0, code := some k3c0 }
def k3c1 : Code := { maxStack := 6, maxLocals := 2, code := prog_5_method_4_code, exceptionTable := #[], attributes := #[] }
def k3m1 : Method := { name := "leastNanosSince", desc := "(Lcom/example/westmount/westmount/Horizon$Reading;)J", sig := { parameters := [(.object "com/example/westmount/westmount/Horizon$Reading")], returnType := some .long }, accessFlags := 0, code := some k3c1 }
/-- com/example/westmount/westmount/Horizon$Reading -/
def k3 : Class := { plain "com/example/westmount/westmount/Horizon$Reading" (some 2) with
  accessFlags := 48
  interfaces := #[]
  cf := some (fileOf pool3 8 #[.nestHost 65] #[{ accessFlags := 0, nameIndex := 5, descriptorIndex := 27, attributes := #[] }, { accessFlags := 0, nameIndex := 58, descriptorIndex := 57, attributes := #[] }] 48 2 #[] #[{ accessFlags := 18, nameIndex := 11, descriptorIndex := 12, attributes := #[] }, { accessFlags := 18, nameIndex := 15, descriptorIndex := 12, attributes := #[] }])
  fields := #[{ name := "nanos", type := .long, accessFlags := 18, slot := 0, constantValue := 0 }, { name := "millis", type := .long, accessFlags := 18, slot := 1, constantValue := 0 }]
  methods := #[k3m0, k3m1]
  instanceTypes := #[.long, .long]
  staticTypes := #[]
  resolved := Array.replicate 87 none
  statics := none }

def pool4 : Array CpInfo := pool [(1, .class_ 2), (0, u "java/lang/Math"), (1, .class_ 6), (1, u "java/lang/Object"), (0, u "<init>"), (0, u "()V"), (89, .class_ 100), (1, u "java/lang/Math$RandomNumberGeneratorHolder"), (20, u "(JJ)J"), (50, u "negativeZeroFloatBits"), (0, u "J"), (2, u "negativeZeroDoubleBits"), (24, u "min"), (43, u "$assertionsDisabled"), (0, u "Z"), (91, u "twoToTheDoubleScaleDown"), (0, u "D"), (4, u "twoToTheDoubleScaleUp"), (9, u "E"), (3, u "PI"), (2, u "TAU"), (2, u "DEGREES_TO_RADIANS"), (0, u "RADIANS_TO_DEGREES")] 94

def k4m0 : Method := { name := "<init>", desc := "()V", sig := { parameters := [], returnType := none }, accessFlags := 2, code := none }
def k4c1 : Code := { maxStack := 4, maxLocals := 4, code := jdk_29_method_70_code, exceptionTable := #[], attributes := #[] }
def k4m1 : Method := { name := "min", desc := "(JJ)J", sig := { parameters := [.long, .long], returnType := some .long }, accessFlags := 9, code := some k4c1 }
/-- java/lang/Math -/
def k4 : Class := { plain "java/lang/Math" (some 0) with
  accessFlags := 49
  interfaces := #[]
  cf := some (fileOf pool4 1 #[.nestMembers #[98]] #[{ accessFlags := 2, nameIndex := 7, descriptorIndex := 8, attributes := #[] }, { accessFlags := 9, nameIndex := 201, descriptorIndex := 121, attributes := #[] }] 49 4 #[] #[{ accessFlags := 25, nameIndex := 354, descriptorIndex := 339, attributes := #[] }, { accessFlags := 25, nameIndex := 358, descriptorIndex := 339, attributes := #[] }, { accessFlags := 25, nameIndex := 361, descriptorIndex := 339, attributes := #[] }, { accessFlags := 26, nameIndex := 364, descriptorIndex := 339, attributes := #[] }, { accessFlags := 26, nameIndex := 365, descriptorIndex := 339, attributes := #[] }, { accessFlags := 26, nameIndex := 172, descriptorIndex := 173, attributes := #[] }, { accessFlags := 26, nameIndex := 176, descriptorIndex := 173, attributes := #[] }, { accessFlags := 8, nameIndex := 344, descriptorIndex := 339, attributes := #[] }, { accessFlags := 8, nameIndex := 338, descriptorIndex := 339, attributes := #[] }, { accessFlags := 4120, nameIndex := 245, descriptorIndex := 246, attributes := #[] }])
  fields := #[{ name := "E", type := .double, accessFlags := 25, slot := 0, constantValue := 0 }, { name := "PI", type := .double, accessFlags := 25, slot := 1, constantValue := 0 }, { name := "TAU", type := .double, accessFlags := 25, slot := 2, constantValue := 0 }, { name := "DEGREES_TO_RADIANS", type := .double, accessFlags := 26, slot := 3, constantValue := 0 }, { name := "RADIANS_TO_DEGREES", type := .double, accessFlags := 26, slot := 4, constantValue := 0 }, { name := "negativeZeroFloatBits", type := .long, accessFlags := 26, slot := 5, constantValue := 0 }, { name := "negativeZeroDoubleBits", type := .long, accessFlags := 26, slot := 6, constantValue := 0 }, { name := "twoToTheDoubleScaleUp", type := .double, accessFlags := 8, slot := 7, constantValue := 0 }, { name := "twoToTheDoubleScaleDown", type := .double, accessFlags := 8, slot := 8, constantValue := 0 }, { name := "$assertionsDisabled", type := .boolean, accessFlags := 4120, slot := 9, constantValue := 0 }]
  methods := #[k4m0, k4m1]
  instanceTypes := #[]
  staticTypes := #[.double, .double, .double, .double, .double, .long, .long, .double, .double, .boolean]
  resolved := Array.replicate 460 none
  statics := none }

def pool5 : Array CpInfo := pool [(1, u "java/lang/Cloneable"), (0, .class_ 1), (0, u "java/lang/Object"), (0, .class_ 3)] 3

/-- java/lang/Cloneable -/
def k5 : Class := { plain "java/lang/Cloneable" (some 0) with
  accessFlags := 1537
  interfaces := #[]
  cf := some (fileOf pool5 2 #[] #[] 1537 4 #[] #[])
  fields := #[]
  methods := #[]
  instanceTypes := #[]
  staticTypes := #[]
  resolved := Array.replicate 8 none
  statics := none }

def pool6 : Array CpInfo := pool [(1, u "java/io/Serializable"), (0, .class_ 1), (0, u "java/lang/Object"), (0, .class_ 3)] 3

/-- java/io/Serializable -/
def k6 : Class := { plain "java/io/Serializable" (some 0) with
  accessFlags := 1537
  interfaces := #[]
  cf := some (fileOf pool6 2 #[] #[] 1537 4 #[] #[])
  fields := #[]
  methods := #[]
  instanceTypes := #[]
  staticTypes := #[]
  resolved := Array.replicate 8 none
  statics := none }

/-- the primitive byte -/
def k7 : Class := { plain "byte" none with kind := .primitive 'B', accessFlags := 0x411 }
/-- [B -/
def k8 : Class := { plain "[B" (some 0) with kind := .array 7 .byte, interfaces := #[5, 6], accessFlags := 1041 }

/-- the primitive int -/
def k9 : Class := { plain "int" none with kind := .primitive 'I', accessFlags := 0x411 }
/-- [I -/
def k10 : Class := { plain "[I" (some 0) with kind := .array 9 .int, interfaces := #[5, 6], accessFlags := 1041 }

def heap : Heap := #[]
def classes : Array Class := #[k0, k1, k2, k3, k4, k5, k6, k7, k8, k9, k10]
def interned : List (Array UInt16 × Addr) := []
def slotsUsed : Nat := 0
def theMethod : MethodId := ⟨1, 1⟩
def args0 : Array Value := #[.long 5, .long 1, .long 2, .long 3]
def aboutOver (below : List Frame) : State where
  vm := { classes := classes, interned := interned.toArray }
  heap := heap
  slotsUsed := slotsUsed
  threads := #[{ frames := .invoking theMethod args0 :: below }]
def below0 : List Frame := [.native { method := ⟨0, 0⟩, args := #[] }]
def about1 : State := aboutOver below0
def p0 : Program := .bare "" "" ""
def e0 : Env := launch0.env 0 0 0
theorem w_frames : about1.frames = Frame.invoking theMethod args0 :: below0 := rfl
set_option maxRecDepth 65536 in
theorem w_args : argsFit about1.vm theMethod args0 = true := by decide +kernel
set_option maxRecDepth 65536 in
theorem w_heap : heapFits about1 = true := by decide +kernel
set_option maxRecDepth 65536 in
theorem w_runnable : about1.curStatus? = some .runnable := by decide +kernel
set_option maxRecDepth 65536 in
theorem w_alone : about1.alone = true := by decide +kernel
set_option maxRecDepth 65536 in
theorem w_named : about1.methodNamed? x = some theMethod := by decide +kernel
set_option maxRecDepth 65536 in
theorem w_hears : about1.hears theMethod below0 = true := by decide +kernel
set_option maxRecDepth 65536 in
theorem w_ripe : about1.ripe theMethod args0 below0 = true := by decide +kernel
theorem w_running : about1.status = .running := rfl
set_option maxRecDepth 65536 in
theorem w_room : about1.hasRoom e0.platform room_1 = true :=
  launch0.hasRoom_least _ room_1 (by decide +kernel) (by decide +kernel) (by decide +kernel) (by decide +kernel) (by decide +kernel) (by decide +kernel)
theorem allAtoms_all (ts : List Jvm.Cond) (a : Array Jvm.Value) (st : Jvm.State) : (allAtoms ts).before a st = ts.all (fun c => c.before a st) := by
  induction ts with
  | nil => rfl
  | cons c t ih =>
    show (Jvm.Cond.and c (allAtoms t)).before a st = _
    rw [Jvm.Cond.before_and, ih, List.all_cons]
def words1 : List Jvm.Cond := Jvm.Cond.code x code maxLocals ret :: tables_1
/-- a 'code' word, met by the world's own term for the bytes: nothing is compared byte by byte -/
theorem code_word {y : MethodName} {bytes : ByteArray} {mx : Nat} {rt : Option FieldType} {a : Array Value} {s : State} {m : MethodId} {meth : Method} {c : Code} (h1 : s.methodNamed? y = some m) (h2 : s.vm.method? m = some meth) (h3 : meth.code = some c) (h4 : c.code = bytes)
    (h5 : (c.maxLocals == mx && c.exceptionTable.isEmpty && decide (c.maxStack ≤ mostOperands) && decide (meth.sig.returnType = rt) && !meth.locks && decide (parseMethodDescriptor y.desc = some meth.sig)) = true) : (Jvm.Cond.code y bytes mx rt).before a s = true := by
  simp only [Bool.and_eq_true, beq_iff_eq, Bool.not_eq_true', decide_eq_true_eq] at h5
  obtain ⟨⟨⟨⟨⟨g1, g2⟩, g3⟩, g4⟩, g5⟩, g6⟩ := h5
  simp [Cond.before, Cond.holds, Cond.value, h1, h2, h3, h4, g1, g2, g3, g4, g5, g6]
def isCode : Jvm.Cond → Bool
  | .code _ _ _ _ => true
  | _ => false
theorem all_split {L : List Jvm.Cond} {P : Jvm.Cond → Bool} (h1 : L.all (fun c => isCode c || P c) = true) (h2 : ∀ c ∈ L.filter isCode, P c = true) : L.all P = true := by
  refine List.all_eq_true.mpr fun c hc => ?_
  have h := List.all_eq_true.mp h1 c hc
  rcases Bool.eq_false_or_eq_true (isCode c) with hi | hi
  · exact h2 c (List.mem_filter.mpr ⟨hc, hi⟩)
  · simpa [hi] using h
set_option maxRecDepth 65536 in
theorem w_c0 : (Jvm.Cond.code x code maxLocals ret).before args0 about1 = true := code_word (m := ⟨1, 1⟩) (meth := k1m1) (c := k1c1) (by decide +kernel) rfl rfl rfl (by decide +kernel)
set_option maxRecDepth 65536 in
theorem w_c1 : (Jvm.Cond.code ({ cls := "com/example/westmount/westmount/Horizon$Reading", name := "<init>", desc := "(JJ)V" } : Jvm.MethodName) prog_5_method_1_code (5 : Nat) (Option.none : Option Jvm.ClassFile.FieldType)).before args0 about1 = true := code_word (m := ⟨3, 0⟩) (meth := k3m0) (c := k3c0) (by decide +kernel) rfl rfl rfl (by decide +kernel)
set_option maxRecDepth 65536 in
theorem w_c2 : (Jvm.Cond.code ({ cls := "java/lang/Record", name := "<init>", desc := "()V" } : Jvm.MethodName) jdk_30_method_1_code (1 : Nat) (Option.none : Option Jvm.ClassFile.FieldType)).before args0 about1 = true := code_word (m := ⟨2, 0⟩) (meth := k2m0) (c := k2c0) (by decide +kernel) rfl rfl rfl (by decide +kernel)
set_option maxRecDepth 65536 in
theorem w_c3 : (Jvm.Cond.code ({ cls := "java/lang/Object", name := "<init>", desc := "()V" } : Jvm.MethodName) object_method_1_code (1 : Nat) (Option.none : Option Jvm.ClassFile.FieldType)).before args0 about1 = true := code_word (m := ⟨0, 0⟩) (meth := k0m0) (c := k0c0) (by decide +kernel) rfl rfl rfl (by decide +kernel)
set_option maxRecDepth 65536 in
theorem w_c4 : (Jvm.Cond.code ({ cls := "com/example/westmount/westmount/Horizon$Reading", name := "leastNanosSince", desc := "(Lcom/example/westmount/westmount/Horizon$Reading;)J" } : Jvm.MethodName) prog_5_method_4_code (2 : Nat) (Option.some Jvm.ClassFile.FieldType.long)).before args0 about1 = true := code_word (m := ⟨3, 1⟩) (meth := k3m1) (c := k3c1) (by decide +kernel) rfl rfl rfl (by decide +kernel)
set_option maxRecDepth 65536 in
theorem w_c5 : (Jvm.Cond.code ({ cls := "java/lang/Math", name := "min", desc := "(JJ)J" } : Jvm.MethodName) jdk_29_method_70_code (4 : Nat) (Option.some Jvm.ClassFile.FieldType.long)).before args0 about1 = true := code_word (m := ⟨4, 1⟩) (meth := k4m1) (c := k4c1) (by decide +kernel) rfl rfl rfl (by decide +kernel)
def codes1 : List Jvm.Cond := [Jvm.Cond.code x code maxLocals ret, Jvm.Cond.code ({ cls := "com/example/westmount/westmount/Horizon$Reading", name := "<init>", desc := "(JJ)V" } : Jvm.MethodName) prog_5_method_1_code (5 : Nat) (Option.none : Option Jvm.ClassFile.FieldType), Jvm.Cond.code ({ cls := "java/lang/Record", name := "<init>", desc := "()V" } : Jvm.MethodName) jdk_30_method_1_code (1 : Nat) (Option.none : Option Jvm.ClassFile.FieldType), Jvm.Cond.code ({ cls := "java/lang/Object", name := "<init>", desc := "()V" } : Jvm.MethodName) object_method_1_code (1 : Nat) (Option.none : Option Jvm.ClassFile.FieldType), Jvm.Cond.code ({ cls := "com/example/westmount/westmount/Horizon$Reading", name := "leastNanosSince", desc := "(Lcom/example/westmount/westmount/Horizon$Reading;)J" } : Jvm.MethodName) prog_5_method_4_code (2 : Nat) (Option.some Jvm.ClassFile.FieldType.long), Jvm.Cond.code ({ cls := "java/lang/Math", name := "min", desc := "(JJ)J" } : Jvm.MethodName) jdk_29_method_70_code (4 : Nat) (Option.some Jvm.ClassFile.FieldType.long)]
set_option maxRecDepth 65536 in
theorem codes_eq : words1.filter isCode = codes1 := rfl
theorem w_codes : ∀ c ∈ words1.filter isCode, c.before args0 about1 = true := by
  rw [codes_eq]
  intro c hc
  simp only [codes1, List.mem_cons, List.not_mem_nil, or_false] at hc
  rcases hc with rfl | rfl | rfl | rfl | rfl | rfl
  · exact w_c0
  · exact w_c1
  · exact w_c2
  · exact w_c3
  · exact w_c4
  · exact w_c5
set_option maxRecDepth 65536 in
theorem w_t1 : (words1.take 24).all (fun c => isCode c || c.before args0 about1) = true := by decide +kernel
set_option maxRecDepth 65536 in
theorem w_t2 : (words1.drop 24).all (fun c => isCode c || c.before args0 about1) = true := by decide +kernel
theorem w_tables : (allAtoms (Jvm.Cond.code x code maxLocals ret :: tables_1)).before args0 about1 = true := by
  rw [allAtoms_all]
  show words1.all (fun c => c.before args0 about1) = true
  refine all_split ?_ w_codes
  rw [← List.take_append_drop 24 words1, List.all_append, w_t1, w_t2]
  rfl
set_option maxRecDepth 65536 in
theorem w_case : (Jvm.Cond.and given_1 narrow_1).before args0 about1 = true := by decide +kernel
theorem w_applies : (headSpec (Jvm.Cond.code x code maxLocals ret :: tables_1) room_1).applies x e0.platform about1 = true :=
  (Spec.applies_iff w_frames).mpr ⟨w_running, w_runnable, w_alone, w_named, w_hears, w_ripe, w_room, w_tables⟩
theorem atStart : AtStart classFile x code maxLocals ret World_1 tables_1 room_1 Calls_1 rest_1 Pre_1 launch0 p0 e0 about1 theMethod args0 below0 :=
  ⟨lists_1, trivial, launch0.admits_env _ _ _, launch0.least_env, fairChoices_fair.cas, fairChoices_fair.clock, w_frames, w_args, w_heap, w_applies, trivial, trivial, w_case⟩
end start1
theorem witness_1 : WitnessClaimed_1 := ⟨start1.p0, start1.e0, start1.about1, start1.theMethod, start1.args0, start1.below0, start1.atStart⟩
end Jvm.Pilot.@@N@@
