import JvmDerived
import JvmDerived.Pilot.@@N@@Statement
import JvmDerived.Pilot.@@N@@Code
set_option linter.unusedVariables false
set_option linter.unusedSimpArgs false
namespace Jvm.RoadKit
open Sem ClassFile Op Lib Jvm.Stand Jvm.Free Jvm.LawKit
section New
variable {p : Program} {l : Launch} {e : Env} {R : Room} {s : State} {m : MethodId} {args : Array Value} {below : List Frame} {meth : Method} {c : Code} {T : State} {locs : List Loc} {cells slots : Nat}
theorem retI (X : Stand p l e R s m args below meth c T locs cells slots) (hx : p.tables.exec = Jvm.exec) {pc : Nat} {Ls : Array Slot} {z : Int32} {rest : List Value} (hret : meth.sig.returnType = some .int) (hd : decode c.code pc = .ok (.ireturn, 1)) {fs : List Frame}
    (hl : ∀ (f : JFrame) (acts : List Action), f.method = m → f.locked = none → f.entered = [] → (doReturn e (T.setTop f) acts (some (.int z))).1 = T.setFrames fs) : Steps p.tables e below (T.setTop (mkF m pc Ls (.int z :: rest))) (T.setFrames fs) :=
  retOut X hx hret rfl (Or.inl ⟨rfl, Or.inl rfl, _, rfl⟩) hd hl
theorem own_retJ (X : Stand p l e R s m args below meth c T locs cells slots) (hx : p.tables.exec = Jvm.exec) {pc : Nat} {Ls : Array Slot} {z : Int64} {rest : List Value} (hret : meth.sig.returnType = some .long) (hd : decode c.code pc = .ok (.lreturn, 1)) {fs : List Frame}
    (hl : ∀ (f : JFrame) (acts : List Action), f.method = m → f.locked = none → f.entered = [] → (doReturn e (T.setTop f) acts (some (.long z))).1 = T.setFrames fs) : Steps p.tables e below (T.setTop (mkF m pc Ls (.long z :: rest))) (T.setFrames fs) :=
  retOut X hx hret rfl (Or.inr (Or.inl ⟨rfl, rfl, _, rfl⟩)) hd hl
theorem own_retD (X : Stand p l e R s m args below meth c T locs cells slots) (hx : p.tables.exec = Jvm.exec) {pc : Nat} {Ls : Array Slot} {z : UInt64} {rest : List Value} (hret : meth.sig.returnType = some .double) (hd : decode c.code pc = .ok (.dreturn, 1)) {fs : List Frame}
    (hl : ∀ (f : JFrame) (acts : List Action), f.method = m → f.locked = none → f.entered = [] → (doReturn e (T.setTop f) acts (some (.double z))).1 = T.setFrames fs) : Steps p.tables e below (T.setTop (mkF m pc Ls (.double z :: rest))) (T.setFrames fs) :=
  retOut X hx hret rfl (Or.inr (Or.inr (Or.inl ⟨rfl, rfl, _, rfl⟩))) hd hl
theorem own_retR (X : Stand p l e R s m args below meth c T locs cells slots) (hx : p.tables.exec = Jvm.exec) {pc : Nat} {Ls : Array Slot} {w : Value} {t : FieldType} {rest : List Value} (hret : meth.sig.returnType = some t) (ht : t.isReference = true) (hv : w.isRef = true) (hd : decode c.code pc = .ok (.areturn, 1)) {fs : List Frame}
    (hl : ∀ (f : JFrame) (acts : List Action), f.method = m → f.locked = none → f.entered = [] → (doReturn e (T.setTop f) acts (some w)).1 = T.setFrames fs) : Steps p.tables e below (T.setTop (mkF m pc Ls (w :: rest))) (T.setFrames fs) :=
  retOut X hx hret (by rcases ref_cases hv with rfl | ⟨a, rfl⟩ <;> cases t <;> first | rfl | cases ht) (Or.inr (Or.inr (Or.inr (Or.inr ⟨rfl, ht, hv⟩)))) hd hl
end New
section Own
variable {p : Program} {e : Env} {below : List Frame}
/-- the run from S ends as P says -/
def own_Gl (p : Program) (e : Env) (below : List Frame) (P : Outcome → State → Prop) (S : State) : Prop := ∃ s₂ o, Steps p.tables e below S s₂ ∧ s₂.status = .running ∧ Ended s₂ below o ∧ P o s₂
theorem own_gl {P : Outcome → State → Prop} {S : State} (h : own_Gl p e below P S) : ∃ s₂ o, Steps p.tables e below S s₂ ∧ s₂.status = .running ∧ Ended s₂ below o ∧ P o s₂ := h
theorem own_st {P : Outcome → State → Prop} {S S' : State} (h : ∀ t, Steps p.tables e below S' t → Steps p.tables e below S t) (k : own_Gl p e below P S') : own_Gl p e below P S := by
  obtain ⟨s₂, o, h1, h2⟩ := k
  exact ⟨s₂, o, h _ h1, h2⟩
theorem own_cast {P : Outcome → State → Prop} {S S' : State} (h : S' = S) (k : own_Gl p e below P S') : own_Gl p e below P S := h ▸ k
theorem own_join {P : Outcome → State → Prop} {S : State} {α : Type} {F : α → State} {H : α → Prop} (J : ∀ x, H x → own_Gl p e below P (F x)) (k : (∀ x, H x → own_Gl p e below P (F x)) → own_Gl p e below P S) : own_Gl p e below P S := k J
theorem own_selfsel {s : State} {args : Array Value} {y : MethodName} {n : Nat} (wi : (Cond.instantiable y.cls n).before args s = true) (wp : (Cond.privateMethod y).before args s = true) (hinst : (Cond.instanceMethod y).before args s = true) (hy : y.cls ≠ "java/lang/invoke/MethodHandle" ∧ y.cls ≠ "java/lang/invoke/VarHandle") : (Cond.selects y.cls y y).before args s = true := by
  obtain ⟨c, k, h1, h2, -, h3, -⟩ := Cond.instantiable_spec wi
  exact selects_self_of_private h1 h2 (by simp only [Bool.or_eq_false_iff] at h3; exact h3.1) (Cond.privateMethod_at wp) hinst hy
/-- a place of an array is written, whatever it holds -/
theorem own_arv_any {Z : State} {h h' : Heap} {a : Addr} {c : Cell} {k : ClassId} {ty : FieldType} {z j : Int32} {vs : List Value} {dv v : Value} (A : Arr Z h a c ty) (q1 : c.cls = k) (S : c.slots.size = z.toNatClampNeg) (q3 : ¬ z < 0) (H : Has c vs dv) (G : ∀ i, i < c.slots.size → fits ty (vs.getD i dv) = true) (hv : fits ty v = true) (W : Wr h h' a j.toNatClampNeg v) (hj : ¬ (j < 0 ∨ c.slots.size ≤ j.toNatClampNeg)) : ∃ vs', Arv Z h' a k ty z vs' dv := by
  have F : Arv Z h a k ty z (vs ++ List.replicate z.toNatClampNeg dv) dv := Arv.pad ⟨c, A, q1, S, q3, H, G⟩ (pad_rep vs dv _)
  obtain ⟨c', A', r1, r2, r3, r4, r5⟩ := F
  cases A.1.symm.trans A'.1
  exact ⟨_, Arv.set A' r1 r2 r3 r4 r5 hv W j.toNatClampNeg rfl (by
    have q := Nat.lt_of_not_le fun y => hj (Or.inr y)
    rw [S] at q
    simp only [List.length_append, List.length_replicate]
    omega)⟩
end Own
end Jvm.RoadKit

namespace Jvm.Pilot.@@N@@
open Jvm Jvm.ClassFile Sem Op Lib Jvm.Free Jvm.Stand Jvm.LawKit Jvm.RoadKit Bundle Jvm.Pilot.@@N@@.Jvm.D

theorem own_intv {args : Array Value} {s : State} {t : Term} {i : Int32} (h : (Jvm.Cond.eq t (Term.int i)).value args s none s [] = some true) : t.eval args s none [] s = some (.int i) := by
  cases e : t.eval args s none [] s with
  | none => simp [Cond.value, e] at h
  | some v => cases v <;> simp [Cond.value, Term.int_eval, e] at h; rw [h]
theorem own_ord {args : Array Value} {s : State} {tA tB : Term} {a b : Addr} {C n d : String} {i j : Int32} (hA : tA.eval args s none [] s = some (.ref a)) (hB : tB.eval args s none [] s = some (.ref b)) (h1 : (Jvm.Cond.eq (Term.field tA C n d) (Term.int i)).value args s none s [] = some true) (h2 : (Jvm.Cond.eq (Term.field tB C n d) (Term.int j)).value args s none s [] = some true) (hn : i ≠ j) : a ≠ b := fun e => by
  subst e
  have q1 := own_intv h1
  have q2 := own_intv h2
  rw [fld_at hA] at q1
  rw [fld_at hB] at q2
  exact hn (Value.int.inj (Option.some.inj (q1.symm.trans q2)))
def own_exp (p : Int32) : Int32 := if p = 0 then 0 else if p = 1 then 0 else if p = 2 then 1 else 1

theorem d1_0 : decode method_2_code 0 = .ok (.iload_n 0, 1) := by decide +kernel
theorem d1_1 : decode method_2_code 1 = .ok (.ifCond .ne 7, 3) := by decide +kernel
theorem d1_4 : decode method_2_code 4 = .ok (.getstatic 7, 3) := by decide +kernel
theorem d1_7 : decode method_2_code 7 = .ok (.areturn, 1) := by decide +kernel
theorem pn_0 : plainName "quorumline/ActionLastsPinLaw" = true := by first | (simp [plainName, overriddenIn]; done) | decide +kernel
theorem ef_1a (m : MethodId) (q0 : Int32) : entryFrame m #[(.int q0)] 1 = mkF m 0 #[.val (.int q0)] [] := by first | (simp [entryFrame, mkF, argsToLocals, Value.category]; done) | rfl
def Q1a (Z : State) (q0 : Int32) (r : Addr) (h0 : Heap) (n0 : Nat) (v : Option Value) (h : Heap) (L : List Loc) : Prop := v = some (.ref r) ∧ Fr n0 L ∧ h = h0
set_option maxRecDepth 65536 in
set_option maxHeartbeats 40000000 in
theorem rm1a (l : Launch) (Z : State) (a0 : Array Value) (hw : ∀ d ∈ tables_1, d.before a0 Z = true) (ws : List Jvm.Cond) (q0 : Int32) (r : Addr) (h0 : Heap) (n0 : Nat) (Z0 : n0 ≤ h0.size) (P0 : Sta Z h0 "quorumline/Schedule$Action" "CRASH" "Lquorumline/Schedule$Action;" (.ref r)) (hh0 : q0 = (0 : Int32)) :
    MetFree l (⟨"quorumline/ActionLastsPinLaw", "pick", "(I)Lquorumline/Schedule$Action;"⟩ : MethodName) (head1 (Jvm.Cond.code (⟨"quorumline/ActionLastsPinLaw", "pick", "(I)Lquorumline/Schedule$Action;"⟩ : MethodName) method_2_code 1 (some (.object "quorumline/Schedule$Action")) :: ws) ({ frames := 0, cells := 0, slots := 0, locals := 0 } : Room)) (fun ar_ U => ar_ = #[(.int q0)] ∧ Z.Warmed39 U.vm ∧ U.heap = h0) (fun _ _ _ _ _ => True) (fun _ U o U' => ∃ v L, o = .returned v ∧ Q1a Z q0 r h0 n0 v U'.heap L ∧ FrameEnd U o U' L ({ frames := 0, cells := 0, slots := 0, locals := 0 } : Room).cells ({ frames := 0, cells := 0, slots := 0, locals := 0 } : Room).slots) := by
  refine MetFree.of_bodySF (plainFor_of_name pn_0) hisR ?_
  intro p e s m args below meth c s₁ Bd hml0 hP hK
  obtain ⟨rfl, hZ, hh⟩ := hP
  have hx := Bd.exec
  have hby := Bd.bytes
  have hml : c.maxLocals = 1 := hml0
  have hown : s.vm.findClass "quorumline/ActionLastsPinLaw" = some m.cls := findClass_of_methodNamed Bd.named
  have hnm := (name_of_methodNamed Bd.named Bd.method).1
  have X0 : Stand p l e ({ frames := 0, cells := 0, slots := 0, locals := 0 } : Room) s m #[(.int q0)] below meth c s₁ [] 0 0 := Stand.of_body Bd
  have e0 : s₁.heap = h0 := by rw [← hh, Bd.state]; rfl
  have N0 := Fr.nil n0
  refine own_gl ?_
  refine own_st (S' := s₁.setTop (mkF m 0 #[.val (.int q0)] [])) (fun t_ k_ => castTop (ef_1a m q0) k_) ?_
  refine own_st (S' := s₁.setTop (mkF m 1 #[.val (.int q0)] [(.int q0)])) (fun t_ k_ => XS.iloadN X0.here hx rfl (hb hby d1_0) rfl k_) ?_
  refine own_st (S' := s₁.setTop (mkF m 4 #[.val (.int q0)] [])) (fun t_ k_ => XS.ifNo X0.here hx rfl (hb hby d1_1) rfl ((if0 _ _).trans (teq hh0).2) k_) ?_
  obtain ⟨T_1, X_1, e_1, st_1⟩ := getS2 X0 hx hZ hown (host := "") (Or.inl (hw _ (List.mem_of_getElem? (i := 4) rfl))) Via.refl e0 P0 (g := (mkF m 4 #[.val (.int q0)] [])) rfl (hb hby d1_4)
  refine own_st (S' := T_1.setTop (mkF m 7 #[.val (.int q0)] [(.ref r)])) st_1 ?_
  obtain ⟨fs, hr, hrun, hended, hW, hsame⟩ := X_1.leave (v := some (.ref r)) (fun h => by rw [Bd.returns] at h; cases h)
  refine ⟨_, _, own_retR X_1 hx Bd.returns rfl rfl (hb hby d1_7) hr, hrun, hended, _, _, rfl, ?_, ⟨_, rfl⟩, hW, hsame.mono (by decide) (by decide)⟩
  show Q1a Z q0 r h0 n0 _ T_1.heap _
  rw [e_1]
  exact ⟨rfl, N0, rfl⟩
theorem d1_8 : decode method_2_code 8 = .ok (.iload_n 0, 1) := by decide +kernel
theorem d1_9 : decode method_2_code 9 = .ok (.iconst 1, 1) := by decide +kernel
theorem d1_10 : decode method_2_code 10 = .ok (.if_icmp .ne 7, 3) := by decide +kernel
theorem d1_13 : decode method_2_code 13 = .ok (.getstatic 13, 3) := by decide +kernel
theorem d1_16 : decode method_2_code 16 = .ok (.areturn, 1) := by decide +kernel
theorem ef_1b (m : MethodId) (q0 : Int32) : entryFrame m #[(.int q0)] 1 = mkF m 0 #[.val (.int q0)] [] := by first | (simp [entryFrame, mkF, argsToLocals, Value.category]; done) | rfl
def Q1b (Z : State) (q0 : Int32) (r : Addr) (h0 : Heap) (n0 : Nat) (v : Option Value) (h : Heap) (L : List Loc) : Prop := v = some (.ref r) ∧ Fr n0 L ∧ h = h0
set_option maxRecDepth 65536 in
set_option maxHeartbeats 40000000 in
theorem rm1b (l : Launch) (Z : State) (a0 : Array Value) (hw : ∀ d ∈ tables_1, d.before a0 Z = true) (ws : List Jvm.Cond) (q0 : Int32) (r : Addr) (h0 : Heap) (n0 : Nat) (Z0 : n0 ≤ h0.size) (P0 : Sta Z h0 "quorumline/Schedule$Action" "RESTART" "Lquorumline/Schedule$Action;" (.ref r)) (hh0 : ¬ (q0 = (0 : Int32))) (hh1 : q0 = (1 : Int32)) :
    MetFree l (⟨"quorumline/ActionLastsPinLaw", "pick", "(I)Lquorumline/Schedule$Action;"⟩ : MethodName) (head1 (Jvm.Cond.code (⟨"quorumline/ActionLastsPinLaw", "pick", "(I)Lquorumline/Schedule$Action;"⟩ : MethodName) method_2_code 1 (some (.object "quorumline/Schedule$Action")) :: ws) ({ frames := 0, cells := 0, slots := 0, locals := 0 } : Room)) (fun ar_ U => ar_ = #[(.int q0)] ∧ Z.Warmed39 U.vm ∧ U.heap = h0) (fun _ _ _ _ _ => True) (fun _ U o U' => ∃ v L, o = .returned v ∧ Q1b Z q0 r h0 n0 v U'.heap L ∧ FrameEnd U o U' L ({ frames := 0, cells := 0, slots := 0, locals := 0 } : Room).cells ({ frames := 0, cells := 0, slots := 0, locals := 0 } : Room).slots) := by
  refine MetFree.of_bodySF (plainFor_of_name pn_0) hisR ?_
  intro p e s m args below meth c s₁ Bd hml0 hP hK
  obtain ⟨rfl, hZ, hh⟩ := hP
  have hx := Bd.exec
  have hby := Bd.bytes
  have hml : c.maxLocals = 1 := hml0
  have hown : s.vm.findClass "quorumline/ActionLastsPinLaw" = some m.cls := findClass_of_methodNamed Bd.named
  have hnm := (name_of_methodNamed Bd.named Bd.method).1
  have X0 : Stand p l e ({ frames := 0, cells := 0, slots := 0, locals := 0 } : Room) s m #[(.int q0)] below meth c s₁ [] 0 0 := Stand.of_body Bd
  have e0 : s₁.heap = h0 := by rw [← hh, Bd.state]; rfl
  have N0 := Fr.nil n0
  refine own_gl ?_
  refine own_st (S' := s₁.setTop (mkF m 0 #[.val (.int q0)] [])) (fun t_ k_ => castTop (ef_1b m q0) k_) ?_
  refine own_st (S' := s₁.setTop (mkF m 1 #[.val (.int q0)] [(.int q0)])) (fun t_ k_ => XS.iloadN X0.here hx rfl (hb hby d1_0) rfl k_) ?_
  refine own_st (S' := s₁.setTop (mkF m 8 #[.val (.int q0)] [])) (fun t_ k_ => XS.ifYes X0.here hx rfl (pc0 := 1) (pc' := 8) rfl (hb hby d1_1) rfl ((if0 _ _).trans (feq hh0).2) (by decide) (by decide) k_) ?_
  refine own_st (S' := s₁.setTop (mkF m 9 #[.val (.int q0)] [(.int q0)])) (fun t_ k_ => XS.iloadN X0.here hx rfl (hb hby d1_8) rfl k_) ?_
  refine own_st (S' := s₁.setTop (mkF m 10 #[.val (.int q0)] [(.int (1 : Int32)), (.int q0)])) (fun t_ k_ => XS.iconst X0.here hx rfl (hb hby d1_9) k_) ?_
  refine own_st (S' := s₁.setTop (mkF m 13 #[.val (.int q0)] [])) (fun t_ k_ => XS.icmpNo X0.here hx rfl (hb hby d1_10) rfl (teq hh1).2 k_) ?_
  obtain ⟨T_1, X_1, e_1, st_1⟩ := getS2 X0 hx hZ hown (host := "") (Or.inl (hw _ (List.mem_of_getElem? (i := 21) rfl))) Via.refl e0 P0 (g := (mkF m 13 #[.val (.int q0)] [])) rfl (hb hby d1_13)
  refine own_st (S' := T_1.setTop (mkF m 16 #[.val (.int q0)] [(.ref r)])) st_1 ?_
  obtain ⟨fs, hr, hrun, hended, hW, hsame⟩ := X_1.leave (v := some (.ref r)) (fun h => by rw [Bd.returns] at h; cases h)
  refine ⟨_, _, own_retR X_1 hx Bd.returns rfl rfl (hb hby d1_16) hr, hrun, hended, _, _, rfl, ?_, ⟨_, rfl⟩, hW, hsame.mono (by decide) (by decide)⟩
  show Q1b Z q0 r h0 n0 _ T_1.heap _
  rw [e_1]
  exact ⟨rfl, N0, rfl⟩
theorem d1_17 : decode method_2_code 17 = .ok (.iload_n 0, 1) := by decide +kernel
theorem d1_18 : decode method_2_code 18 = .ok (.iconst 2, 1) := by decide +kernel
theorem d1_19 : decode method_2_code 19 = .ok (.if_icmp .ne 7, 3) := by decide +kernel
theorem d1_22 : decode method_2_code 22 = .ok (.getstatic 16, 3) := by decide +kernel
theorem d1_25 : decode method_2_code 25 = .ok (.areturn, 1) := by decide +kernel
theorem ef_1c (m : MethodId) (q0 : Int32) : entryFrame m #[(.int q0)] 1 = mkF m 0 #[.val (.int q0)] [] := by first | (simp [entryFrame, mkF, argsToLocals, Value.category]; done) | rfl
def Q1c (Z : State) (q0 : Int32) (r : Addr) (h0 : Heap) (n0 : Nat) (v : Option Value) (h : Heap) (L : List Loc) : Prop := v = some (.ref r) ∧ Fr n0 L ∧ h = h0
set_option maxRecDepth 65536 in
set_option maxHeartbeats 40000000 in
theorem rm1c (l : Launch) (Z : State) (a0 : Array Value) (hw : ∀ d ∈ tables_1, d.before a0 Z = true) (ws : List Jvm.Cond) (q0 : Int32) (r : Addr) (h0 : Heap) (n0 : Nat) (Z0 : n0 ≤ h0.size) (P0 : Sta Z h0 "quorumline/Schedule$Action" "FREEZE" "Lquorumline/Schedule$Action;" (.ref r)) (hh0 : ¬ (q0 = (0 : Int32))) (hh1 : ¬ (q0 = (1 : Int32))) (hh2 : q0 = (2 : Int32)) :
    MetFree l (⟨"quorumline/ActionLastsPinLaw", "pick", "(I)Lquorumline/Schedule$Action;"⟩ : MethodName) (head1 (Jvm.Cond.code (⟨"quorumline/ActionLastsPinLaw", "pick", "(I)Lquorumline/Schedule$Action;"⟩ : MethodName) method_2_code 1 (some (.object "quorumline/Schedule$Action")) :: ws) ({ frames := 0, cells := 0, slots := 0, locals := 0 } : Room)) (fun ar_ U => ar_ = #[(.int q0)] ∧ Z.Warmed39 U.vm ∧ U.heap = h0) (fun _ _ _ _ _ => True) (fun _ U o U' => ∃ v L, o = .returned v ∧ Q1c Z q0 r h0 n0 v U'.heap L ∧ FrameEnd U o U' L ({ frames := 0, cells := 0, slots := 0, locals := 0 } : Room).cells ({ frames := 0, cells := 0, slots := 0, locals := 0 } : Room).slots) := by
  refine MetFree.of_bodySF (plainFor_of_name pn_0) hisR ?_
  intro p e s m args below meth c s₁ Bd hml0 hP hK
  obtain ⟨rfl, hZ, hh⟩ := hP
  have hx := Bd.exec
  have hby := Bd.bytes
  have hml : c.maxLocals = 1 := hml0
  have hown : s.vm.findClass "quorumline/ActionLastsPinLaw" = some m.cls := findClass_of_methodNamed Bd.named
  have hnm := (name_of_methodNamed Bd.named Bd.method).1
  have X0 : Stand p l e ({ frames := 0, cells := 0, slots := 0, locals := 0 } : Room) s m #[(.int q0)] below meth c s₁ [] 0 0 := Stand.of_body Bd
  have e0 : s₁.heap = h0 := by rw [← hh, Bd.state]; rfl
  have N0 := Fr.nil n0
  refine own_gl ?_
  refine own_st (S' := s₁.setTop (mkF m 0 #[.val (.int q0)] [])) (fun t_ k_ => castTop (ef_1c m q0) k_) ?_
  refine own_st (S' := s₁.setTop (mkF m 1 #[.val (.int q0)] [(.int q0)])) (fun t_ k_ => XS.iloadN X0.here hx rfl (hb hby d1_0) rfl k_) ?_
  refine own_st (S' := s₁.setTop (mkF m 8 #[.val (.int q0)] [])) (fun t_ k_ => XS.ifYes X0.here hx rfl (pc0 := 1) (pc' := 8) rfl (hb hby d1_1) rfl ((if0 _ _).trans (feq hh0).2) (by decide) (by decide) k_) ?_
  refine own_st (S' := s₁.setTop (mkF m 9 #[.val (.int q0)] [(.int q0)])) (fun t_ k_ => XS.iloadN X0.here hx rfl (hb hby d1_8) rfl k_) ?_
  refine own_st (S' := s₁.setTop (mkF m 10 #[.val (.int q0)] [(.int (1 : Int32)), (.int q0)])) (fun t_ k_ => XS.iconst X0.here hx rfl (hb hby d1_9) k_) ?_
  refine own_st (S' := s₁.setTop (mkF m 17 #[.val (.int q0)] [])) (fun t_ k_ => XS.icmpYes X0.here hx rfl (pc0 := 10) (pc' := 17) rfl (hb hby d1_10) rfl (feq hh1).2 (by decide) (by decide) k_) ?_
  refine own_st (S' := s₁.setTop (mkF m 18 #[.val (.int q0)] [(.int q0)])) (fun t_ k_ => XS.iloadN X0.here hx rfl (hb hby d1_17) rfl k_) ?_
  refine own_st (S' := s₁.setTop (mkF m 19 #[.val (.int q0)] [(.int (2 : Int32)), (.int q0)])) (fun t_ k_ => XS.iconst X0.here hx rfl (hb hby d1_18) k_) ?_
  refine own_st (S' := s₁.setTop (mkF m 22 #[.val (.int q0)] [])) (fun t_ k_ => XS.icmpNo X0.here hx rfl (hb hby d1_19) rfl (teq hh2).2 k_) ?_
  obtain ⟨T_1, X_1, e_1, st_1⟩ := getS2 X0 hx hZ hown (host := "") (Or.inl (hw _ (List.mem_of_getElem? (i := 20) rfl))) Via.refl e0 P0 (g := (mkF m 22 #[.val (.int q0)] [])) rfl (hb hby d1_22)
  refine own_st (S' := T_1.setTop (mkF m 25 #[.val (.int q0)] [(.ref r)])) st_1 ?_
  obtain ⟨fs, hr, hrun, hended, hW, hsame⟩ := X_1.leave (v := some (.ref r)) (fun h => by rw [Bd.returns] at h; cases h)
  refine ⟨_, _, own_retR X_1 hx Bd.returns rfl rfl (hb hby d1_25) hr, hrun, hended, _, _, rfl, ?_, ⟨_, rfl⟩, hW, hsame.mono (by decide) (by decide)⟩
  show Q1c Z q0 r h0 n0 _ T_1.heap _
  rw [e_1]
  exact ⟨rfl, N0, rfl⟩
theorem d1_26 : decode method_2_code 26 = .ok (.getstatic 19, 3) := by decide +kernel
theorem d1_29 : decode method_2_code 29 = .ok (.areturn, 1) := by decide +kernel
theorem ef_1d (m : MethodId) (q0 : Int32) : entryFrame m #[(.int q0)] 1 = mkF m 0 #[.val (.int q0)] [] := by first | (simp [entryFrame, mkF, argsToLocals, Value.category]; done) | rfl
def Q1d (Z : State) (q0 : Int32) (r : Addr) (h0 : Heap) (n0 : Nat) (v : Option Value) (h : Heap) (L : List Loc) : Prop := v = some (.ref r) ∧ Fr n0 L ∧ h = h0
set_option maxRecDepth 65536 in
set_option maxHeartbeats 40000000 in
theorem rm1d (l : Launch) (Z : State) (a0 : Array Value) (hw : ∀ d ∈ tables_1, d.before a0 Z = true) (ws : List Jvm.Cond) (q0 : Int32) (r : Addr) (h0 : Heap) (n0 : Nat) (Z0 : n0 ≤ h0.size) (P0 : Sta Z h0 "quorumline/Schedule$Action" "ISOLATE" "Lquorumline/Schedule$Action;" (.ref r)) (hh0 : ¬ (q0 = (0 : Int32))) (hh1 : ¬ (q0 = (1 : Int32))) (hh2 : ¬ (q0 = (2 : Int32))) :
    MetFree l (⟨"quorumline/ActionLastsPinLaw", "pick", "(I)Lquorumline/Schedule$Action;"⟩ : MethodName) (head1 (Jvm.Cond.code (⟨"quorumline/ActionLastsPinLaw", "pick", "(I)Lquorumline/Schedule$Action;"⟩ : MethodName) method_2_code 1 (some (.object "quorumline/Schedule$Action")) :: ws) ({ frames := 0, cells := 0, slots := 0, locals := 0 } : Room)) (fun ar_ U => ar_ = #[(.int q0)] ∧ Z.Warmed39 U.vm ∧ U.heap = h0) (fun _ _ _ _ _ => True) (fun _ U o U' => ∃ v L, o = .returned v ∧ Q1d Z q0 r h0 n0 v U'.heap L ∧ FrameEnd U o U' L ({ frames := 0, cells := 0, slots := 0, locals := 0 } : Room).cells ({ frames := 0, cells := 0, slots := 0, locals := 0 } : Room).slots) := by
  refine MetFree.of_bodySF (plainFor_of_name pn_0) hisR ?_
  intro p e s m args below meth c s₁ Bd hml0 hP hK
  obtain ⟨rfl, hZ, hh⟩ := hP
  have hx := Bd.exec
  have hby := Bd.bytes
  have hml : c.maxLocals = 1 := hml0
  have hown : s.vm.findClass "quorumline/ActionLastsPinLaw" = some m.cls := findClass_of_methodNamed Bd.named
  have hnm := (name_of_methodNamed Bd.named Bd.method).1
  have X0 : Stand p l e ({ frames := 0, cells := 0, slots := 0, locals := 0 } : Room) s m #[(.int q0)] below meth c s₁ [] 0 0 := Stand.of_body Bd
  have e0 : s₁.heap = h0 := by rw [← hh, Bd.state]; rfl
  have N0 := Fr.nil n0
  refine own_gl ?_
  refine own_st (S' := s₁.setTop (mkF m 0 #[.val (.int q0)] [])) (fun t_ k_ => castTop (ef_1d m q0) k_) ?_
  refine own_st (S' := s₁.setTop (mkF m 1 #[.val (.int q0)] [(.int q0)])) (fun t_ k_ => XS.iloadN X0.here hx rfl (hb hby d1_0) rfl k_) ?_
  refine own_st (S' := s₁.setTop (mkF m 8 #[.val (.int q0)] [])) (fun t_ k_ => XS.ifYes X0.here hx rfl (pc0 := 1) (pc' := 8) rfl (hb hby d1_1) rfl ((if0 _ _).trans (feq hh0).2) (by decide) (by decide) k_) ?_
  refine own_st (S' := s₁.setTop (mkF m 9 #[.val (.int q0)] [(.int q0)])) (fun t_ k_ => XS.iloadN X0.here hx rfl (hb hby d1_8) rfl k_) ?_
  refine own_st (S' := s₁.setTop (mkF m 10 #[.val (.int q0)] [(.int (1 : Int32)), (.int q0)])) (fun t_ k_ => XS.iconst X0.here hx rfl (hb hby d1_9) k_) ?_
  refine own_st (S' := s₁.setTop (mkF m 17 #[.val (.int q0)] [])) (fun t_ k_ => XS.icmpYes X0.here hx rfl (pc0 := 10) (pc' := 17) rfl (hb hby d1_10) rfl (feq hh1).2 (by decide) (by decide) k_) ?_
  refine own_st (S' := s₁.setTop (mkF m 18 #[.val (.int q0)] [(.int q0)])) (fun t_ k_ => XS.iloadN X0.here hx rfl (hb hby d1_17) rfl k_) ?_
  refine own_st (S' := s₁.setTop (mkF m 19 #[.val (.int q0)] [(.int (2 : Int32)), (.int q0)])) (fun t_ k_ => XS.iconst X0.here hx rfl (hb hby d1_18) k_) ?_
  refine own_st (S' := s₁.setTop (mkF m 26 #[.val (.int q0)] [])) (fun t_ k_ => XS.icmpYes X0.here hx rfl (pc0 := 19) (pc' := 26) rfl (hb hby d1_19) rfl (feq hh2).2 (by decide) (by decide) k_) ?_
  obtain ⟨T_1, X_1, e_1, st_1⟩ := getS2 X0 hx hZ hown (host := "") (Or.inl (hw _ (List.mem_of_getElem? (i := 19) rfl))) Via.refl e0 P0 (g := (mkF m 26 #[.val (.int q0)] [])) rfl (hb hby d1_26)
  refine own_st (S' := T_1.setTop (mkF m 29 #[.val (.int q0)] [(.ref r)])) st_1 ?_
  obtain ⟨fs, hr, hrun, hended, hW, hsame⟩ := X_1.leave (v := some (.ref r)) (fun h => by rw [Bd.returns] at h; cases h)
  refine ⟨_, _, own_retR X_1 hx Bd.returns rfl rfl (hb hby d1_29) hr, hrun, hended, _, _, rfl, ?_, ⟨_, rfl⟩, hW, hsame.mono (by decide) (by decide)⟩
  show Q1d Z q0 r h0 n0 _ T_1.heap _
  rw [e_1]
  exact ⟨rfl, N0, rfl⟩
theorem d2_0 : decode prog_83_method_5_code 0 = .ok (.aload_n 0, 1) := by decide +kernel
theorem d2_1 : decode prog_83_method_5_code 1 = .ok (.getstatic 10, 3) := by decide +kernel
theorem d2_4 : decode prog_83_method_5_code 4 = .ok (.if_acmp .eq 10, 3) := by decide +kernel
theorem d2_14 : decode prog_83_method_5_code 14 = .ok (.iconst 1, 1) := by decide +kernel
theorem d2_15 : decode prog_83_method_5_code 15 = .ok (.goto 4, 3) := by decide +kernel
theorem d2_19 : decode prog_83_method_5_code 19 = .ok (.ireturn, 1) := by decide +kernel
theorem pn_1 : plainName "quorumline/Schedule$Action" = true := by first | (simp [plainName, overriddenIn]; done) | decide +kernel
theorem ef_2a (m : MethodId) (a : Addr) : entryFrame m #[(.ref a)] 1 = mkF m 0 #[.val (.ref a)] [] := by first | (simp [entryFrame, mkF, argsToLocals, Value.category]; done) | rfl
def Q2a (Z : State) (a : Addr) (h0 : Heap) (n0 : Nat) (v : Option Value) (h : Heap) (L : List Loc) : Prop := v = some (.int (1 : Int32)) ∧ Fr n0 L ∧ h = h0
set_option maxRecDepth 65536 in
set_option maxHeartbeats 40000000 in
theorem rm2a (l : Launch) (Z : State) (a0 : Array Value) (hw : ∀ d ∈ tables_1, d.before a0 Z = true) (ws : List Jvm.Cond) (a : Addr) (h0 : Heap) (n0 : Nat) (Z0 : n0 ≤ h0.size) (P0 : Sta Z h0 "quorumline/Schedule$Action" "FREEZE" "Lquorumline/Schedule$Action;" (.ref a)) :
    MetFree l (⟨"quorumline/Schedule$Action", "lasts", "()Z"⟩ : MethodName) (head1 (Jvm.Cond.code (⟨"quorumline/Schedule$Action", "lasts", "()Z"⟩ : MethodName) prog_83_method_5_code 1 (some .boolean) :: ws) ({ frames := 0, cells := 0, slots := 0, locals := 0 } : Room)) (fun ar_ U => ar_ = #[(.ref a)] ∧ Z.Warmed39 U.vm ∧ U.heap = h0) (fun _ _ _ _ _ => True) (fun _ U o U' => ∃ v L, o = .returned v ∧ Q2a Z a h0 n0 v U'.heap L ∧ FrameEnd U o U' L ({ frames := 0, cells := 0, slots := 0, locals := 0 } : Room).cells ({ frames := 0, cells := 0, slots := 0, locals := 0 } : Room).slots) := by
  refine MetFree.of_bodySF (plainFor_of_name pn_1) hisR ?_
  intro p e s m args below meth c s₁ Bd hml0 hP hK
  obtain ⟨rfl, hZ, hh⟩ := hP
  have hx := Bd.exec
  have hby := Bd.bytes
  have hml : c.maxLocals = 1 := hml0
  have hown : s.vm.findClass "quorumline/Schedule$Action" = some m.cls := findClass_of_methodNamed Bd.named
  have hnm := (name_of_methodNamed Bd.named Bd.method).1
  have X0 : Stand p l e ({ frames := 0, cells := 0, slots := 0, locals := 0 } : Room) s m #[(.ref a)] below meth c s₁ [] 0 0 := Stand.of_body Bd
  have e0 : s₁.heap = h0 := by rw [← hh, Bd.state]; rfl
  have N0 := Fr.nil n0
  refine own_gl ?_
  refine own_st (S' := s₁.setTop (mkF m 0 #[.val (.ref a)] [])) (fun t_ k_ => castTop (ef_2a m a) k_) ?_
  refine own_st (S' := s₁.setTop (mkF m 1 #[.val (.ref a)] [(.ref a)])) (fun t_ k_ => XS.aloadN X0.here hx rfl (hb hby d2_0) rfl rfl k_) ?_
  obtain ⟨T_1, X_1, e_1, st_1⟩ := getS2 X0 hx hZ hown (host := "") (Or.inl (hw _ (List.mem_of_getElem? (i := 12) rfl))) Via.refl e0 P0 (g := (mkF m 1 #[.val (.ref a)] [(.ref a)])) rfl (hb hby d2_1)
  refine own_st (S' := T_1.setTop (mkF m 4 #[.val (.ref a)] [(.ref a), (.ref a)])) st_1 ?_
  refine own_st (S' := T_1.setTop (mkF m 14 #[.val (.ref a)] [])) (fun t_ k_ => Jvm.RoadKit.acmp (g := (mkF m 4 #[.val (.ref a)] [(.ref a), (.ref a)])) X_1 hx rfl rfl rfl (pc0 := 4) (pc' := 14) (same := true) rfl (hb hby d2_4) rfl (decide_eq_true rfl) (by decide) (by decide) k_) ?_
  refine own_st (S' := T_1.setTop (mkF m 15 #[.val (.ref a)] [(.int (1 : Int32))])) (fun t_ k_ => XS.iconst X_1.here hx rfl (hb hby d2_14) k_) ?_
  refine own_st (S' := T_1.setTop (mkF m 19 #[.val (.ref a)] [(.int (1 : Int32))])) (fun t_ k_ => XS.goto X_1.here hx rfl (pc0 := 15) (pc' := 19) rfl (hb hby d2_15) (by decide) (by decide) k_) ?_
  obtain ⟨fs, hr, hrun, hended, hW, hsame⟩ := X_1.leave (v := some (.int (1 : Int32))) (fun h => by rw [Bd.returns] at h; cases h)
  refine ⟨_, _, retN X_1 hx (t := .boolean) Bd.returns (by simp) (hb hby d2_19) hr, hrun, hended, _, _, rfl, ?_, ⟨_, rfl⟩, hW, hsame.mono (by decide) (by decide)⟩
  show Q2a Z a h0 n0 _ T_1.heap _
  rw [e_1]
  exact ⟨rfl, N0, rfl⟩
theorem d2_7 : decode prog_83_method_5_code 7 = .ok (.aload_n 0, 1) := by decide +kernel
theorem d2_8 : decode prog_83_method_5_code 8 = .ok (.getstatic 13, 3) := by decide +kernel
theorem d2_11 : decode prog_83_method_5_code 11 = .ok (.if_acmp .ne 7, 3) := by decide +kernel
theorem ef_2b (m : MethodId) (a : Addr) : entryFrame m #[(.ref a)] 1 = mkF m 0 #[.val (.ref a)] [] := by first | (simp [entryFrame, mkF, argsToLocals, Value.category]; done) | rfl
def Q2b (Z : State) (a : Addr) (f : Addr) (h0 : Heap) (n0 : Nat) (v : Option Value) (h : Heap) (L : List Loc) : Prop := v = some (.int (1 : Int32)) ∧ Fr n0 L ∧ h = h0
set_option maxRecDepth 65536 in
set_option maxHeartbeats 40000000 in
theorem rm2b (l : Launch) (Z : State) (a0 : Array Value) (hw : ∀ d ∈ tables_1, d.before a0 Z = true) (ws : List Jvm.Cond) (a : Addr) (f : Addr) (h0 : Heap) (n0 : Nat) (Z0 : n0 ≤ h0.size) (P0 : Sta Z h0 "quorumline/Schedule$Action" "FREEZE" "Lquorumline/Schedule$Action;" (.ref f)) (P1 : Sta Z h0 "quorumline/Schedule$Action" "ISOLATE" "Lquorumline/Schedule$Action;" (.ref a)) (ne_a_f : a ≠ f) :
    MetFree l (⟨"quorumline/Schedule$Action", "lasts", "()Z"⟩ : MethodName) (head1 (Jvm.Cond.code (⟨"quorumline/Schedule$Action", "lasts", "()Z"⟩ : MethodName) prog_83_method_5_code 1 (some .boolean) :: ws) ({ frames := 0, cells := 0, slots := 0, locals := 0 } : Room)) (fun ar_ U => ar_ = #[(.ref a)] ∧ Z.Warmed39 U.vm ∧ U.heap = h0) (fun _ _ _ _ _ => True) (fun _ U o U' => ∃ v L, o = .returned v ∧ Q2b Z a f h0 n0 v U'.heap L ∧ FrameEnd U o U' L ({ frames := 0, cells := 0, slots := 0, locals := 0 } : Room).cells ({ frames := 0, cells := 0, slots := 0, locals := 0 } : Room).slots) := by
  refine MetFree.of_bodySF (plainFor_of_name pn_1) hisR ?_
  intro p e s m args below meth c s₁ Bd hml0 hP hK
  obtain ⟨rfl, hZ, hh⟩ := hP
  have hx := Bd.exec
  have hby := Bd.bytes
  have hml : c.maxLocals = 1 := hml0
  have hown : s.vm.findClass "quorumline/Schedule$Action" = some m.cls := findClass_of_methodNamed Bd.named
  have hnm := (name_of_methodNamed Bd.named Bd.method).1
  have X0 : Stand p l e ({ frames := 0, cells := 0, slots := 0, locals := 0 } : Room) s m #[(.ref a)] below meth c s₁ [] 0 0 := Stand.of_body Bd
  have e0 : s₁.heap = h0 := by rw [← hh, Bd.state]; rfl
  have N0 := Fr.nil n0
  refine own_gl ?_
  refine own_st (S' := s₁.setTop (mkF m 0 #[.val (.ref a)] [])) (fun t_ k_ => castTop (ef_2b m a) k_) ?_
  refine own_st (S' := s₁.setTop (mkF m 1 #[.val (.ref a)] [(.ref a)])) (fun t_ k_ => XS.aloadN X0.here hx rfl (hb hby d2_0) rfl rfl k_) ?_
  obtain ⟨T_1, X_1, e_1, st_1⟩ := getS2 X0 hx hZ hown (host := "") (Or.inl (hw _ (List.mem_of_getElem? (i := 12) rfl))) Via.refl e0 P0 (g := (mkF m 1 #[.val (.ref a)] [(.ref a)])) rfl (hb hby d2_1)
  refine own_st (S' := T_1.setTop (mkF m 4 #[.val (.ref a)] [(.ref f), (.ref a)])) st_1 ?_
  refine own_st (S' := T_1.setTop (mkF m 7 #[.val (.ref a)] [])) (fun t_ k_ => Jvm.RoadKit.acmp (g := (mkF m 4 #[.val (.ref a)] [(.ref f), (.ref a)])) X_1 hx rfl rfl rfl (pc0 := 4) (pc' := 7) (same := false) rfl (hb hby d2_4) rfl (decide_eq_false fun q => ne_a_f (Value.ref.inj q)) (by decide) (by decide) k_) ?_
  refine own_st (S' := T_1.setTop (mkF m 8 #[.val (.ref a)] [(.ref a)])) (fun t_ k_ => XS.aloadN X_1.here hx rfl (hb hby d2_7) rfl rfl k_) ?_
  obtain ⟨T_2, X_2, e_2, st_2⟩ := getS2 X_1 hx hZ hown (host := "") (Or.inl (hw _ (List.mem_of_getElem? (i := 14) rfl))) Via.refl e_1 P1 (g := (mkF m 8 #[.val (.ref a)] [(.ref a)])) rfl (hb hby d2_8)
  refine own_st (S' := T_2.setTop (mkF m 11 #[.val (.ref a)] [(.ref a), (.ref a)])) st_2 ?_
  refine own_st (S' := T_2.setTop (mkF m 14 #[.val (.ref a)] [])) (fun t_ k_ => Jvm.RoadKit.acmp (g := (mkF m 11 #[.val (.ref a)] [(.ref a), (.ref a)])) X_2 hx rfl rfl rfl (pc0 := 11) (pc' := 14) (same := true) rfl (hb hby d2_11) rfl (decide_eq_true rfl) (by decide) (by decide) k_) ?_
  refine own_st (S' := T_2.setTop (mkF m 15 #[.val (.ref a)] [(.int (1 : Int32))])) (fun t_ k_ => XS.iconst X_2.here hx rfl (hb hby d2_14) k_) ?_
  refine own_st (S' := T_2.setTop (mkF m 19 #[.val (.ref a)] [(.int (1 : Int32))])) (fun t_ k_ => XS.goto X_2.here hx rfl (pc0 := 15) (pc' := 19) rfl (hb hby d2_15) (by decide) (by decide) k_) ?_
  obtain ⟨fs, hr, hrun, hended, hW, hsame⟩ := X_2.leave (v := some (.int (1 : Int32))) (fun h => by rw [Bd.returns] at h; cases h)
  refine ⟨_, _, retN X_2 hx (t := .boolean) Bd.returns (by simp) (hb hby d2_19) hr, hrun, hended, _, _, rfl, ?_, ⟨_, rfl⟩, hW, hsame.mono (by decide) (by decide)⟩
  show Q2b Z a f h0 n0 _ T_2.heap _
  rw [e_2]
  exact ⟨rfl, N0, rfl⟩
theorem d2_18 : decode prog_83_method_5_code 18 = .ok (.iconst 0, 1) := by decide +kernel
theorem ef_2c (m : MethodId) (a : Addr) : entryFrame m #[(.ref a)] 1 = mkF m 0 #[.val (.ref a)] [] := by first | (simp [entryFrame, mkF, argsToLocals, Value.category]; done) | rfl
def Q2c (Z : State) (a : Addr) (f : Addr) (g : Addr) (h0 : Heap) (n0 : Nat) (v : Option Value) (h : Heap) (L : List Loc) : Prop := v = some (.int (0 : Int32)) ∧ Fr n0 L ∧ h = h0
set_option maxRecDepth 65536 in
set_option maxHeartbeats 40000000 in
theorem rm2c (l : Launch) (Z : State) (a0 : Array Value) (hw : ∀ d ∈ tables_1, d.before a0 Z = true) (ws : List Jvm.Cond) (a : Addr) (f : Addr) (g : Addr) (h0 : Heap) (n0 : Nat) (Z0 : n0 ≤ h0.size) (P0 : Sta Z h0 "quorumline/Schedule$Action" "FREEZE" "Lquorumline/Schedule$Action;" (.ref f)) (P1 : Sta Z h0 "quorumline/Schedule$Action" "ISOLATE" "Lquorumline/Schedule$Action;" (.ref g)) (ne_a_f : a ≠ f) (ne_a_g : a ≠ g) :
    MetFree l (⟨"quorumline/Schedule$Action", "lasts", "()Z"⟩ : MethodName) (head1 (Jvm.Cond.code (⟨"quorumline/Schedule$Action", "lasts", "()Z"⟩ : MethodName) prog_83_method_5_code 1 (some .boolean) :: ws) ({ frames := 0, cells := 0, slots := 0, locals := 0 } : Room)) (fun ar_ U => ar_ = #[(.ref a)] ∧ Z.Warmed39 U.vm ∧ U.heap = h0) (fun _ _ _ _ _ => True) (fun _ U o U' => ∃ v L, o = .returned v ∧ Q2c Z a f g h0 n0 v U'.heap L ∧ FrameEnd U o U' L ({ frames := 0, cells := 0, slots := 0, locals := 0 } : Room).cells ({ frames := 0, cells := 0, slots := 0, locals := 0 } : Room).slots) := by
  refine MetFree.of_bodySF (plainFor_of_name pn_1) hisR ?_
  intro p e s m args below meth c s₁ Bd hml0 hP hK
  obtain ⟨rfl, hZ, hh⟩ := hP
  have hx := Bd.exec
  have hby := Bd.bytes
  have hml : c.maxLocals = 1 := hml0
  have hown : s.vm.findClass "quorumline/Schedule$Action" = some m.cls := findClass_of_methodNamed Bd.named
  have hnm := (name_of_methodNamed Bd.named Bd.method).1
  have X0 : Stand p l e ({ frames := 0, cells := 0, slots := 0, locals := 0 } : Room) s m #[(.ref a)] below meth c s₁ [] 0 0 := Stand.of_body Bd
  have e0 : s₁.heap = h0 := by rw [← hh, Bd.state]; rfl
  have N0 := Fr.nil n0
  refine own_gl ?_
  refine own_st (S' := s₁.setTop (mkF m 0 #[.val (.ref a)] [])) (fun t_ k_ => castTop (ef_2c m a) k_) ?_
  refine own_st (S' := s₁.setTop (mkF m 1 #[.val (.ref a)] [(.ref a)])) (fun t_ k_ => XS.aloadN X0.here hx rfl (hb hby d2_0) rfl rfl k_) ?_
  obtain ⟨T_1, X_1, e_1, st_1⟩ := getS2 X0 hx hZ hown (host := "") (Or.inl (hw _ (List.mem_of_getElem? (i := 12) rfl))) Via.refl e0 P0 (g := (mkF m 1 #[.val (.ref a)] [(.ref a)])) rfl (hb hby d2_1)
  refine own_st (S' := T_1.setTop (mkF m 4 #[.val (.ref a)] [(.ref f), (.ref a)])) st_1 ?_
  refine own_st (S' := T_1.setTop (mkF m 7 #[.val (.ref a)] [])) (fun t_ k_ => Jvm.RoadKit.acmp (g := (mkF m 4 #[.val (.ref a)] [(.ref f), (.ref a)])) X_1 hx rfl rfl rfl (pc0 := 4) (pc' := 7) (same := false) rfl (hb hby d2_4) rfl (decide_eq_false fun q => ne_a_f (Value.ref.inj q)) (by decide) (by decide) k_) ?_
  refine own_st (S' := T_1.setTop (mkF m 8 #[.val (.ref a)] [(.ref a)])) (fun t_ k_ => XS.aloadN X_1.here hx rfl (hb hby d2_7) rfl rfl k_) ?_
  obtain ⟨T_2, X_2, e_2, st_2⟩ := getS2 X_1 hx hZ hown (host := "") (Or.inl (hw _ (List.mem_of_getElem? (i := 14) rfl))) Via.refl e_1 P1 (g := (mkF m 8 #[.val (.ref a)] [(.ref a)])) rfl (hb hby d2_8)
  refine own_st (S' := T_2.setTop (mkF m 11 #[.val (.ref a)] [(.ref g), (.ref a)])) st_2 ?_
  refine own_st (S' := T_2.setTop (mkF m 18 #[.val (.ref a)] [])) (fun t_ k_ => Jvm.RoadKit.acmp (g := (mkF m 11 #[.val (.ref a)] [(.ref g), (.ref a)])) X_2 hx rfl rfl rfl (pc0 := 11) (pc' := 18) (same := false) rfl (hb hby d2_11) rfl (decide_eq_false fun q => ne_a_g (Value.ref.inj q)) (by decide) (by decide) k_) ?_
  refine own_st (S' := T_2.setTop (mkF m 19 #[.val (.ref a)] [(.int (0 : Int32))])) (fun t_ k_ => XS.iconst X_2.here hx rfl (hb hby d2_18) k_) ?_
  obtain ⟨fs, hr, hrun, hended, hW, hsame⟩ := X_2.leave (v := some (.int (0 : Int32))) (fun h => by rw [Bd.returns] at h; cases h)
  refine ⟨_, _, retN X_2 hx (t := .boolean) Bd.returns (by simp) (hb hby d2_19) hr, hrun, hended, _, _, rfl, ?_, ⟨_, rfl⟩, hW, hsame.mono (by decide) (by decide)⟩
  show Q2c Z a f g h0 n0 _ T_2.heap _
  rw [e_2]
  exact ⟨rfl, N0, rfl⟩
theorem d3_0 : decode method_3_code 0 = .ok (.iload_n 0, 1) := by decide +kernel
theorem d3_1 : decode method_3_code 1 = .ok (.ifCond .ne 5, 3) := by decide +kernel
theorem d3_4 : decode method_3_code 4 = .ok (.iconst 0, 1) := by decide +kernel
theorem d3_5 : decode method_3_code 5 = .ok (.ireturn, 1) := by decide +kernel
theorem d3_6 : decode method_3_code 6 = .ok (.iload_n 0, 1) := by decide +kernel
theorem d3_7 : decode method_3_code 7 = .ok (.iconst 1, 1) := by decide +kernel
theorem d3_8 : decode method_3_code 8 = .ok (.if_icmp .ne 5, 3) := by decide +kernel
theorem d3_11 : decode method_3_code 11 = .ok (.iconst 0, 1) := by decide +kernel
theorem d3_12 : decode method_3_code 12 = .ok (.ireturn, 1) := by decide +kernel
theorem d3_13 : decode method_3_code 13 = .ok (.iload_n 0, 1) := by decide +kernel
theorem d3_14 : decode method_3_code 14 = .ok (.iconst 2, 1) := by decide +kernel
theorem d3_15 : decode method_3_code 15 = .ok (.if_icmp .ne 5, 3) := by decide +kernel
theorem d3_18 : decode method_3_code 18 = .ok (.iconst 1, 1) := by decide +kernel
theorem d3_19 : decode method_3_code 19 = .ok (.ireturn, 1) := by decide +kernel
theorem d3_20 : decode method_3_code 20 = .ok (.iconst 1, 1) := by decide +kernel
theorem d3_21 : decode method_3_code 21 = .ok (.ireturn, 1) := by decide +kernel
theorem ef_3 (m : MethodId) (q0 : Int32) : entryFrame m #[(.int q0)] 1 = mkF m 0 #[.val (.int q0)] [] := by first | (simp [entryFrame, mkF, argsToLocals, Value.category]; done) | rfl
def Q3 (Z : State) (q0 : Int32) (h0 : Heap) (n0 : Nat) (v : Option Value) (h : Heap) (L : List Loc) : Prop := v = some (.int (own_exp q0)) ∧ Fr n0 L ∧ h = h0
set_option maxRecDepth 65536 in
set_option maxHeartbeats 40000000 in
theorem rm3 (l : Launch) (Z : State) (a0 : Array Value) (hw : ∀ d ∈ tables_1, d.before a0 Z = true) (ws : List Jvm.Cond) (q0 : Int32) (h0 : Heap) (n0 : Nat) (Z0 : n0 ≤ h0.size)  :
    MetFree l (⟨"quorumline/ActionLastsPinLaw", "expected", "(I)Z"⟩ : MethodName) (head1 (Jvm.Cond.code (⟨"quorumline/ActionLastsPinLaw", "expected", "(I)Z"⟩ : MethodName) method_3_code 1 (some .boolean) :: ws) ({ frames := 0, cells := 0, slots := 0, locals := 0 } : Room)) (fun ar_ U => ar_ = #[(.int q0)] ∧ Z.Warmed39 U.vm ∧ U.heap = h0) (fun _ _ _ _ _ => True) (fun _ U o U' => ∃ v L, o = .returned v ∧ Q3 Z q0 h0 n0 v U'.heap L ∧ FrameEnd U o U' L ({ frames := 0, cells := 0, slots := 0, locals := 0 } : Room).cells ({ frames := 0, cells := 0, slots := 0, locals := 0 } : Room).slots) := by
  refine MetFree.of_bodySF (plainFor_of_name pn_0) hisR ?_
  intro p e s m args below meth c s₁ Bd hml0 hP hK
  obtain ⟨rfl, hZ, hh⟩ := hP
  have hx := Bd.exec
  have hby := Bd.bytes
  have hml : c.maxLocals = 1 := hml0
  have hown : s.vm.findClass "quorumline/ActionLastsPinLaw" = some m.cls := findClass_of_methodNamed Bd.named
  have hnm := (name_of_methodNamed Bd.named Bd.method).1
  have X0 : Stand p l e ({ frames := 0, cells := 0, slots := 0, locals := 0 } : Room) s m #[(.int q0)] below meth c s₁ [] 0 0 := Stand.of_body Bd
  have e0 : s₁.heap = h0 := by rw [← hh, Bd.state]; rfl
  have N0 := Fr.nil n0
  refine own_gl ?_
  refine own_st (S' := s₁.setTop (mkF m 0 #[.val (.int q0)] [])) (fun t_ k_ => castTop (ef_3 m q0) k_) ?_
  refine own_st (S' := s₁.setTop (mkF m 1 #[.val (.int q0)] [(.int q0)])) (fun t_ k_ => XS.iloadN X0.here hx rfl (hb hby d3_0) rfl k_) ?_
  by_cases hc1 : q0 = (0 : Int32)
  · refine own_st (S' := s₁.setTop (mkF m 4 #[.val (.int q0)] [])) (fun t_ k_ => XS.ifNo X0.here hx rfl (hb hby d3_1) rfl ((if0 _ _).trans (teq hc1).2) k_) ?_
    refine own_st (S' := s₁.setTop (mkF m 5 #[.val (.int q0)] [(.int (0 : Int32))])) (fun t_ k_ => XS.iconst X0.here hx rfl (hb hby d3_4) k_) ?_
    obtain ⟨fs, hr, hrun, hended, hW, hsame⟩ := X0.leave (v := some (.int (0 : Int32))) (fun h => by rw [Bd.returns] at h; cases h)
    refine ⟨_, _, retN X0 hx (t := .boolean) Bd.returns (by simp) (hb hby d3_5) hr, hrun, hended, _, _, rfl, ?_, ⟨_, rfl⟩, hW, hsame.mono (by decide) (by decide)⟩
    show Q3 Z q0 h0 n0 _ s₁.heap _
    rw [e0]
    exact ⟨(congrArg (fun z => some (Value.int z)) (show (0 : Int32) = (own_exp q0) from by simp [own_exp, hc1])), N0, rfl⟩
  · refine own_st (S' := s₁.setTop (mkF m 6 #[.val (.int q0)] [])) (fun t_ k_ => XS.ifYes X0.here hx rfl (pc0 := 1) (pc' := 6) rfl (hb hby d3_1) rfl ((if0 _ _).trans (feq hc1).2) (by decide) (by decide) k_) ?_
    refine own_st (S' := s₁.setTop (mkF m 7 #[.val (.int q0)] [(.int q0)])) (fun t_ k_ => XS.iloadN X0.here hx rfl (hb hby d3_6) rfl k_) ?_
    refine own_st (S' := s₁.setTop (mkF m 8 #[.val (.int q0)] [(.int (1 : Int32)), (.int q0)])) (fun t_ k_ => XS.iconst X0.here hx rfl (hb hby d3_7) k_) ?_
    by_cases hc8 : q0 = (1 : Int32)
    · refine own_st (S' := s₁.setTop (mkF m 11 #[.val (.int q0)] [])) (fun t_ k_ => XS.icmpNo X0.here hx rfl (hb hby d3_8) rfl (teq hc8).2 k_) ?_
      refine own_st (S' := s₁.setTop (mkF m 12 #[.val (.int q0)] [(.int (0 : Int32))])) (fun t_ k_ => XS.iconst X0.here hx rfl (hb hby d3_11) k_) ?_
      obtain ⟨fs, hr, hrun, hended, hW, hsame⟩ := X0.leave (v := some (.int (0 : Int32))) (fun h => by rw [Bd.returns] at h; cases h)
      refine ⟨_, _, retN X0 hx (t := .boolean) Bd.returns (by simp) (hb hby d3_12) hr, hrun, hended, _, _, rfl, ?_, ⟨_, rfl⟩, hW, hsame.mono (by decide) (by decide)⟩
      show Q3 Z q0 h0 n0 _ s₁.heap _
      rw [e0]
      exact ⟨(congrArg (fun z => some (Value.int z)) (show (0 : Int32) = (own_exp q0) from by simp [own_exp, hc1, hc8])), N0, rfl⟩
    · refine own_st (S' := s₁.setTop (mkF m 13 #[.val (.int q0)] [])) (fun t_ k_ => XS.icmpYes X0.here hx rfl (pc0 := 8) (pc' := 13) rfl (hb hby d3_8) rfl (feq hc8).2 (by decide) (by decide) k_) ?_
      refine own_st (S' := s₁.setTop (mkF m 14 #[.val (.int q0)] [(.int q0)])) (fun t_ k_ => XS.iloadN X0.here hx rfl (hb hby d3_13) rfl k_) ?_
      refine own_st (S' := s₁.setTop (mkF m 15 #[.val (.int q0)] [(.int (2 : Int32)), (.int q0)])) (fun t_ k_ => XS.iconst X0.here hx rfl (hb hby d3_14) k_) ?_
      by_cases hc15 : q0 = (2 : Int32)
      · refine own_st (S' := s₁.setTop (mkF m 18 #[.val (.int q0)] [])) (fun t_ k_ => XS.icmpNo X0.here hx rfl (hb hby d3_15) rfl (teq hc15).2 k_) ?_
        refine own_st (S' := s₁.setTop (mkF m 19 #[.val (.int q0)] [(.int (1 : Int32))])) (fun t_ k_ => XS.iconst X0.here hx rfl (hb hby d3_18) k_) ?_
        obtain ⟨fs, hr, hrun, hended, hW, hsame⟩ := X0.leave (v := some (.int (1 : Int32))) (fun h => by rw [Bd.returns] at h; cases h)
        refine ⟨_, _, retN X0 hx (t := .boolean) Bd.returns (by simp) (hb hby d3_19) hr, hrun, hended, _, _, rfl, ?_, ⟨_, rfl⟩, hW, hsame.mono (by decide) (by decide)⟩
        show Q3 Z q0 h0 n0 _ s₁.heap _
        rw [e0]
        exact ⟨(congrArg (fun z => some (Value.int z)) (show (1 : Int32) = (own_exp q0) from by simp [own_exp, hc1, hc8, hc15])), N0, rfl⟩
      · refine own_st (S' := s₁.setTop (mkF m 20 #[.val (.int q0)] [])) (fun t_ k_ => XS.icmpYes X0.here hx rfl (pc0 := 15) (pc' := 20) rfl (hb hby d3_15) rfl (feq hc15).2 (by decide) (by decide) k_) ?_
        refine own_st (S' := s₁.setTop (mkF m 21 #[.val (.int q0)] [(.int (1 : Int32))])) (fun t_ k_ => XS.iconst X0.here hx rfl (hb hby d3_20) k_) ?_
        obtain ⟨fs, hr, hrun, hended, hW, hsame⟩ := X0.leave (v := some (.int (1 : Int32))) (fun h => by rw [Bd.returns] at h; cases h)
        refine ⟨_, _, retN X0 hx (t := .boolean) Bd.returns (by simp) (hb hby d3_21) hr, hrun, hended, _, _, rfl, ?_, ⟨_, rfl⟩, hW, hsame.mono (by decide) (by decide)⟩
        show Q3 Z q0 h0 n0 _ s₁.heap _
        rw [e0]
        exact ⟨(congrArg (fun z => some (Value.int z)) (show (1 : Int32) = (own_exp q0) from by simp [own_exp, hc1, hc8, hc15])), N0, rfl⟩
theorem ef_0 (m : MethodId) (p0 : Int32) : entryFrame m #[(.int p0)] maxLocals = mkF m 0 #[.val (.int p0), .unset, .unset] [] := by first | (simp [entryFrame, mkF, argsToLocals, Value.category, maxLocals]; done) | rfl
theorem pd_0 : parseMethodDescriptor "(I)Lquorumline/Schedule$Action;" = some ⟨[.int], some (.object "quorumline/Schedule$Action")⟩ := by decide +kernel
theorem pd_1 : parseMethodDescriptor "()Z" = some ⟨[], some .boolean⟩ := by decide +kernel
theorem pd_2 : parseMethodDescriptor "(I)Z" = some ⟨[.int], some .boolean⟩ := by decide +kernel
def Q0 (Z : State) (p0 : Int32) (aCRASH : Addr) (aRESTART : Addr) (aFREEZE : Addr) (aISOLATE : Addr) (h0 : Heap) (n0 : Nat) (v : Option Value) (h : Heap) (L : List Loc) : Prop := v = some (.int (1 : Int32)) ∧ Fr n0 L
set_option maxRecDepth 65536 in
set_option maxHeartbeats 40000000 in
theorem rm0 (l : Launch) (Z : State) (a0 : Array Value) (hw : ∀ d ∈ tables_1, d.before a0 Z = true) (ws : List Jvm.Cond) (p0 : Int32) (aCRASH : Addr) (aRESTART : Addr) (aFREEZE : Addr) (aISOLATE : Addr) (h0 : Heap) (n0 : Nat) (Z0 : n0 ≤ h0.size) (P0 : Sta Z h0 "quorumline/Schedule$Action" "CRASH" "Lquorumline/Schedule$Action;" (.ref aCRASH)) (P1 : Sta Z h0 "quorumline/Schedule$Action" "RESTART" "Lquorumline/Schedule$Action;" (.ref aRESTART)) (P2 : Sta Z h0 "quorumline/Schedule$Action" "FREEZE" "Lquorumline/Schedule$Action;" (.ref aFREEZE)) (P3 : Sta Z h0 "quorumline/Schedule$Action" "ISOLATE" "Lquorumline/Schedule$Action;" (.ref aISOLATE)) (P4 : Exa Z h0 aCRASH "quorumline/Schedule$Action") (P5 : Exa Z h0 aRESTART "quorumline/Schedule$Action") (P6 : Exa Z h0 aFREEZE "quorumline/Schedule$Action") (P7 : Exa Z h0 aISOLATE "quorumline/Schedule$Action") (ne_aCRASH_aRESTART : aCRASH ≠ aRESTART) (ne_aCRASH_aFREEZE : aCRASH ≠ aFREEZE) (ne_aCRASH_aISOLATE : aCRASH ≠ aISOLATE) (ne_aRESTART_aFREEZE : aRESTART ≠ aFREEZE) (ne_aRESTART_aISOLATE : aRESTART ≠ aISOLATE) (ne_aFREEZE_aISOLATE : aFREEZE ≠ aISOLATE) :
    MetFree l x (head1 (Jvm.Cond.code x code maxLocals ret :: ws) room_1) (fun ar_ U => ar_ = #[(.int p0)] ∧ Z.Warmed39 U.vm ∧ U.heap = h0) (fun _ _ _ _ _ => True) (fun _ U o U' => ∃ v L, o = .returned v ∧ Q0 Z p0 aCRASH aRESTART aFREEZE aISOLATE h0 n0 v U'.heap L ∧ FrameEnd U o U' L room_1.cells room_1.slots) := by
  refine MetFree.of_bodySF (plainFor_of_name pn_0) hisR ?_
  intro p e s m args below meth c s₁ Bd hml0 hP hK
  obtain ⟨rfl, hZ, hh⟩ := hP
  have hx := Bd.exec
  have hby := Bd.bytes
  have hml : c.maxLocals = 3 := hml0
  have hown : s.vm.findClass "quorumline/ActionLastsPinLaw" = some m.cls := findClass_of_methodNamed Bd.named
  have hnm := (name_of_methodNamed Bd.named Bd.method).1
  have X0 : Stand p l e room_1 s m #[(.int p0)] below meth c s₁ [] 0 0 := Stand.of_body Bd
  have e0 : s₁.heap = h0 := by rw [← hh, Bd.state]; rfl
  have N0 := Fr.nil n0
  refine own_gl ?_
  refine own_st (S' := s₁.setTop (mkF m 0 #[.val (.int p0), .unset, .unset] [])) (fun t_ k_ => castTop (ef_0 m p0) k_) ?_
  refine own_st (S' := s₁.setTop (mkF m 1 #[.val (.int p0), .unset, .unset] [(.int p0)])) (fun t_ k_ => XS.iloadN X0.here hx rfl (hb hby at_0) rfl k_) ?_
  refine own_st (S' := s₁.setTop (mkF m 2 #[.val (.int p0), .unset, .unset] [(.int (3 : Int32)), (.int p0)])) (fun t_ k_ => XS.iconst X0.here hx rfl (hb hby at_1) k_) ?_
  refine own_st (S' := s₁.setTop (mkF m 3 #[.val (.int p0), .unset, .unset] [(.int (p0 &&& (3 : Int32)))])) (fun t_ k_ => XS.iand X0.here hx rfl (hb hby at_2) rfl k_) ?_
  refine own_st (S' := s₁.setTop (mkF m 4 #[.val (.int p0), .val (.int (p0 &&& (3 : Int32))), .unset] [])) (fun t_ k_ => XS.istoreN X0.here hx rfl (hb hby at_3) rfl (l' := #[.val (.int p0), .val (.int (p0 &&& (3 : Int32))), .unset]) rfl k_) ?_
  refine own_st (S' := s₁.setTop (mkF m 5 #[.val (.int p0), .val (.int (p0 &&& (3 : Int32))), .unset] [(.int (p0 &&& (3 : Int32)))])) (fun t_ k_ => XS.iloadN X0.here hx rfl (hb hby at_4) rfl k_) ?_
  by_cases hk0 : (p0 &&& (3 : Int32)) = (0 : Int32)
  · obtain ⟨_, _, ⟨T_1, L_1, k_1, n_1⟩, -, X_1, ⟨Lc_1, hQ_1, l_1, y_1, z_1⟩, st_1⟩ := Jvm.LawKit.callS X0 hx (y := (⟨"quorumline/ActionLastsPinLaw", "pick", "(I)Lquorumline/Schedule$Action;"⟩ : MethodName)) hown (mvT hZ (hw _ (List.mem_of_getElem? (i := 0) rfl))) (mvT hZ (hw _ (List.mem_of_getElem? (i := 1) rfl))) (mvT hZ (hw _ (List.mem_of_getElem? (i := 2) rfl))) (mvT hZ (hw _ (List.mem_of_getElem? (i := 3) rfl))) (by decide) (backOf (W := 0) (rm1a l Z a0 hw [] (p0 &&& (3 : Int32)) aCRASH h0 n0 Z0 P0 hk0) hZ (hw _ (List.mem_of_getElem? (i := 3) rfl)) (hw _ (List.mem_of_getElem? (i := 2) rfl)) (by decide) (by decide)) (g := (mkF m 5 #[.val (.int p0), .val (.int (p0 &&& (3 : Int32))), .unset] [(.int (p0 &&& (3 : Int32)))])) rfl (by rw [hml]; rfl) (argsL := [(.int (p0 &&& (3 : Int32)))]) (rest := []) (lenOf pd_0 rfl) rfl (by show 2 * 0 + _ ≤ _; exact Nat.le_of_eq rfl) (hb hby at_5) (fun _ _ => ⟨rfl, e0, (by decide : 0 + 0 ≤ _), (by decide : 0 + 0 ≤ _)⟩)
    dsimp only [Pt.U, Pt.locs, Pt.cells, Pt.slots] at X_1 l_1 y_1 z_1 st_1 hQ_1
    subst l_1 y_1 z_1
    obtain ⟨rfl, M_1, q_1⟩ := hQ_1
    have N_1 := Fr.app N0 M_1
    refine own_st (S' := T_1.setTop (mkF m 8 #[.val (.int p0), .val (.int (p0 &&& (3 : Int32))), .unset] [(.ref aCRASH)])) st_1 ?_
    refine own_st (S' := T_1.setTop (mkF m 9 #[.val (.int p0), .val (.int (p0 &&& (3 : Int32))), .val (.ref aCRASH)] [])) (fun t_ k_ => XS.astoreN X_1.here hx rfl (hb hby at_8) rfl rfl (l' := #[.val (.int p0), .val (.int (p0 &&& (3 : Int32))), .val (.ref aCRASH)]) rfl k_) ?_
    refine own_st (S' := T_1.setTop (mkF m 10 #[.val (.int p0), .val (.int (p0 &&& (3 : Int32))), .val (.ref aCRASH)] [(.ref aCRASH)])) (fun t_ k_ => XS.aloadN X_1.here hx rfl (hb hby at_9) rfl rfl k_) ?_
    obtain ⟨cq_2, kq_2, q_2a, q_2b, q_2c⟩ := isOf hZ q_1 P4
    obtain ⟨_, _, ⟨T_2, L_2, k_2, n_2⟩, -, X_2, ⟨Lc_2, hQ_2, l_2, y_2, z_2⟩, st_2⟩ := X_1.virtualBack hx (y := (⟨"quorumline/Schedule$Action", "lasts", "()Z"⟩ : MethodName)) (z := (⟨"quorumline/Schedule$Action", "lasts", "()Z"⟩ : MethodName)) hown (mvT hZ (hw _ (List.mem_of_getElem? (i := 7) rfl))) (mvT hZ (hw _ (List.mem_of_getElem? (i := 8) rfl))) (notFace_of_selects (args := #[]) (mvT hZ (hw _ (List.mem_of_getElem? (i := 10) rfl)))) (mvT hZ (hw _ (List.mem_of_getElem? (i := 10) rfl))) (mvT hZ (hw _ (List.mem_of_getElem? (i := 9) rfl))) (by decide) (backOf (W := 0) (rm2c l Z a0 hw [] aCRASH aFREEZE aISOLATE h0 n0 Z0 P2 P3 ne_aCRASH_aFREEZE ne_aCRASH_aISOLATE) hZ (hw _ (List.mem_of_getElem? (i := 11) rfl)) (hw _ (List.mem_of_getElem? (i := 5) rfl)) (by decide) (by decide)) q_2a q_2c (g := (mkF m 10 #[.val (.int p0), .val (.int (p0 &&& (3 : Int32))), .val (.ref aCRASH)] [(.ref aCRASH)])) rfl (by rw [hml]; rfl) (Steps.refl _) (argsL := []) (rest := []) (lenOf pd_1 rfl) rfl (by show 2 * 0 + _ ≤ _; exact Nat.le_of_eq rfl) (hb hby at_10) (fun _ _ => ⟨rfl, q_1, (by decide : 0 + 0 ≤ _), (by decide : 0 + 0 ≤ _)⟩)
    dsimp only [Pt.U, Pt.locs, Pt.cells, Pt.slots] at X_2 l_2 y_2 z_2 st_2 hQ_2
    subst l_2 y_2 z_2
    obtain ⟨rfl, M_2, q_2⟩ := hQ_2
    have N_2 := Fr.app N_1 M_2
    refine own_st (S' := T_2.setTop (mkF m 13 #[.val (.int p0), .val (.int (p0 &&& (3 : Int32))), .val (.ref aCRASH)] [(.int (0 : Int32))])) (fun t_ k_ => st_2.trans k_) ?_
    refine own_st (S' := T_2.setTop (mkF m 14 #[.val (.int p0), .val (.int (p0 &&& (3 : Int32))), .val (.ref aCRASH)] [(.int (p0 &&& (3 : Int32))), (.int (0 : Int32))])) (fun t_ k_ => XS.iloadN X_2.here hx rfl (hb hby at_13) rfl k_) ?_
    obtain ⟨_, _, ⟨T_3, L_3, k_3, n_3⟩, -, X_3, ⟨Lc_3, hQ_3, l_3, y_3, z_3⟩, st_3⟩ := Jvm.LawKit.callS X_2 hx (y := (⟨"quorumline/ActionLastsPinLaw", "expected", "(I)Z"⟩ : MethodName)) hown (mvT hZ (hw _ (List.mem_of_getElem? (i := 16) rfl))) (mvT hZ (hw _ (List.mem_of_getElem? (i := 17) rfl))) (mvT hZ (hw _ (List.mem_of_getElem? (i := 2) rfl))) (mvT hZ (hw _ (List.mem_of_getElem? (i := 18) rfl))) (by decide) (backOf (W := 1) (rm3 l Z a0 hw [] (p0 &&& (3 : Int32)) h0 n0 Z0 ) hZ (hw _ (List.mem_of_getElem? (i := 18) rfl)) (hw _ (List.mem_of_getElem? (i := 2) rfl)) (by decide) (by decide)) (g := (mkF m 14 #[.val (.int p0), .val (.int (p0 &&& (3 : Int32))), .val (.ref aCRASH)] [(.int (p0 &&& (3 : Int32))), (.int (0 : Int32))])) rfl (by rw [hml]; rfl) (argsL := [(.int (p0 &&& (3 : Int32)))]) (rest := [(.int (0 : Int32))]) (lenOf pd_2 rfl) rfl (by show 2 * 0 + _ ≤ _; exact Nat.le_of_eq rfl) (hb hby at_14) (fun _ _ => ⟨rfl, q_2, (by decide : 0 + 0 ≤ _), (by decide : 0 + 0 ≤ _)⟩)
    dsimp only [Pt.U, Pt.locs, Pt.cells, Pt.slots] at X_3 l_3 y_3 z_3 st_3 hQ_3
    subst l_3 y_3 z_3
    obtain ⟨rfl, M_3, q_3⟩ := hQ_3
    have N_3 := Fr.app N_2 M_3
    refine own_st (S' := T_3.setTop (mkF m 17 #[.val (.int p0), .val (.int (p0 &&& (3 : Int32))), .val (.ref aCRASH)] [(.int (own_exp (p0 &&& (3 : Int32)))), (.int (0 : Int32))])) st_3 ?_
    by_cases hc17 : (0 : Int32) = (own_exp (p0 &&& (3 : Int32)))
    · refine own_st (S' := T_3.setTop (mkF m 20 #[.val (.int p0), .val (.int (p0 &&& (3 : Int32))), .val (.ref aCRASH)] [])) (fun t_ k_ => XS.icmpNo X_3.here hx rfl (hb hby at_17) rfl (teq hc17).2 k_) ?_
      refine own_st (S' := T_3.setTop (mkF m 21 #[.val (.int p0), .val (.int (p0 &&& (3 : Int32))), .val (.ref aCRASH)] [(.int (1 : Int32))])) (fun t_ k_ => XS.iconst X_3.here hx rfl (hb hby at_20) k_) ?_
      refine own_st (S' := T_3.setTop (mkF m 25 #[.val (.int p0), .val (.int (p0 &&& (3 : Int32))), .val (.ref aCRASH)] [(.int (1 : Int32))])) (fun t_ k_ => XS.goto X_3.here hx rfl (pc0 := 21) (pc' := 25) rfl (hb hby at_21) (by decide) (by decide) k_) ?_
      obtain ⟨fs, hr, hrun, hended, hW, hsame⟩ := X_3.leave (v := some (.int (1 : Int32))) (fun h => by rw [Bd.returns] at h; cases h)
      refine ⟨_, _, retN X_3 hx (t := .boolean) Bd.returns (by simp) (hb hby at_25) hr, hrun, hended, _, _, rfl, ?_, ⟨_, rfl⟩, hW, hsame.mono (by decide) (by decide)⟩
      show Q0 Z p0 aCRASH aRESTART aFREEZE aISOLATE h0 n0 _ T_3.heap _
      rw [q_3]
      exact ⟨rfl, N_3⟩
    · exact absurd (by simp [own_exp, hk0]) hc17
  · by_cases hk1 : (p0 &&& (3 : Int32)) = (1 : Int32)
    · obtain ⟨_, _, ⟨T_4, L_4, k_4, n_4⟩, -, X_4, ⟨Lc_4, hQ_4, l_4, y_4, z_4⟩, st_4⟩ := Jvm.LawKit.callS X0 hx (y := (⟨"quorumline/ActionLastsPinLaw", "pick", "(I)Lquorumline/Schedule$Action;"⟩ : MethodName)) hown (mvT hZ (hw _ (List.mem_of_getElem? (i := 0) rfl))) (mvT hZ (hw _ (List.mem_of_getElem? (i := 1) rfl))) (mvT hZ (hw _ (List.mem_of_getElem? (i := 2) rfl))) (mvT hZ (hw _ (List.mem_of_getElem? (i := 3) rfl))) (by decide) (backOf (W := 0) (rm1b l Z a0 hw [] (p0 &&& (3 : Int32)) aRESTART h0 n0 Z0 P1 hk0 hk1) hZ (hw _ (List.mem_of_getElem? (i := 3) rfl)) (hw _ (List.mem_of_getElem? (i := 2) rfl)) (by decide) (by decide)) (g := (mkF m 5 #[.val (.int p0), .val (.int (p0 &&& (3 : Int32))), .unset] [(.int (p0 &&& (3 : Int32)))])) rfl (by rw [hml]; rfl) (argsL := [(.int (p0 &&& (3 : Int32)))]) (rest := []) (lenOf pd_0 rfl) rfl (by show 2 * 0 + _ ≤ _; exact Nat.le_of_eq rfl) (hb hby at_5) (fun _ _ => ⟨rfl, e0, (by decide : 0 + 0 ≤ _), (by decide : 0 + 0 ≤ _)⟩)
      dsimp only [Pt.U, Pt.locs, Pt.cells, Pt.slots] at X_4 l_4 y_4 z_4 st_4 hQ_4
      subst l_4 y_4 z_4
      obtain ⟨rfl, M_4, q_4⟩ := hQ_4
      have N_4 := Fr.app N0 M_4
      refine own_st (S' := T_4.setTop (mkF m 8 #[.val (.int p0), .val (.int (p0 &&& (3 : Int32))), .unset] [(.ref aRESTART)])) st_4 ?_
      refine own_st (S' := T_4.setTop (mkF m 9 #[.val (.int p0), .val (.int (p0 &&& (3 : Int32))), .val (.ref aRESTART)] [])) (fun t_ k_ => XS.astoreN X_4.here hx rfl (hb hby at_8) rfl rfl (l' := #[.val (.int p0), .val (.int (p0 &&& (3 : Int32))), .val (.ref aRESTART)]) rfl k_) ?_
      refine own_st (S' := T_4.setTop (mkF m 10 #[.val (.int p0), .val (.int (p0 &&& (3 : Int32))), .val (.ref aRESTART)] [(.ref aRESTART)])) (fun t_ k_ => XS.aloadN X_4.here hx rfl (hb hby at_9) rfl rfl k_) ?_
      obtain ⟨cq_5, kq_5, q_5a, q_5b, q_5c⟩ := isOf hZ q_4 P5
      obtain ⟨_, _, ⟨T_5, L_5, k_5, n_5⟩, -, X_5, ⟨Lc_5, hQ_5, l_5, y_5, z_5⟩, st_5⟩ := X_4.virtualBack hx (y := (⟨"quorumline/Schedule$Action", "lasts", "()Z"⟩ : MethodName)) (z := (⟨"quorumline/Schedule$Action", "lasts", "()Z"⟩ : MethodName)) hown (mvT hZ (hw _ (List.mem_of_getElem? (i := 7) rfl))) (mvT hZ (hw _ (List.mem_of_getElem? (i := 8) rfl))) (notFace_of_selects (args := #[]) (mvT hZ (hw _ (List.mem_of_getElem? (i := 10) rfl)))) (mvT hZ (hw _ (List.mem_of_getElem? (i := 10) rfl))) (mvT hZ (hw _ (List.mem_of_getElem? (i := 9) rfl))) (by decide) (backOf (W := 0) (rm2c l Z a0 hw [] aRESTART aFREEZE aISOLATE h0 n0 Z0 P2 P3 ne_aRESTART_aFREEZE ne_aRESTART_aISOLATE) hZ (hw _ (List.mem_of_getElem? (i := 11) rfl)) (hw _ (List.mem_of_getElem? (i := 5) rfl)) (by decide) (by decide)) q_5a q_5c (g := (mkF m 10 #[.val (.int p0), .val (.int (p0 &&& (3 : Int32))), .val (.ref aRESTART)] [(.ref aRESTART)])) rfl (by rw [hml]; rfl) (Steps.refl _) (argsL := []) (rest := []) (lenOf pd_1 rfl) rfl (by show 2 * 0 + _ ≤ _; exact Nat.le_of_eq rfl) (hb hby at_10) (fun _ _ => ⟨rfl, q_4, (by decide : 0 + 0 ≤ _), (by decide : 0 + 0 ≤ _)⟩)
      dsimp only [Pt.U, Pt.locs, Pt.cells, Pt.slots] at X_5 l_5 y_5 z_5 st_5 hQ_5
      subst l_5 y_5 z_5
      obtain ⟨rfl, M_5, q_5⟩ := hQ_5
      have N_5 := Fr.app N_4 M_5
      refine own_st (S' := T_5.setTop (mkF m 13 #[.val (.int p0), .val (.int (p0 &&& (3 : Int32))), .val (.ref aRESTART)] [(.int (0 : Int32))])) (fun t_ k_ => st_5.trans k_) ?_
      refine own_st (S' := T_5.setTop (mkF m 14 #[.val (.int p0), .val (.int (p0 &&& (3 : Int32))), .val (.ref aRESTART)] [(.int (p0 &&& (3 : Int32))), (.int (0 : Int32))])) (fun t_ k_ => XS.iloadN X_5.here hx rfl (hb hby at_13) rfl k_) ?_
      obtain ⟨_, _, ⟨T_6, L_6, k_6, n_6⟩, -, X_6, ⟨Lc_6, hQ_6, l_6, y_6, z_6⟩, st_6⟩ := Jvm.LawKit.callS X_5 hx (y := (⟨"quorumline/ActionLastsPinLaw", "expected", "(I)Z"⟩ : MethodName)) hown (mvT hZ (hw _ (List.mem_of_getElem? (i := 16) rfl))) (mvT hZ (hw _ (List.mem_of_getElem? (i := 17) rfl))) (mvT hZ (hw _ (List.mem_of_getElem? (i := 2) rfl))) (mvT hZ (hw _ (List.mem_of_getElem? (i := 18) rfl))) (by decide) (backOf (W := 1) (rm3 l Z a0 hw [] (p0 &&& (3 : Int32)) h0 n0 Z0 ) hZ (hw _ (List.mem_of_getElem? (i := 18) rfl)) (hw _ (List.mem_of_getElem? (i := 2) rfl)) (by decide) (by decide)) (g := (mkF m 14 #[.val (.int p0), .val (.int (p0 &&& (3 : Int32))), .val (.ref aRESTART)] [(.int (p0 &&& (3 : Int32))), (.int (0 : Int32))])) rfl (by rw [hml]; rfl) (argsL := [(.int (p0 &&& (3 : Int32)))]) (rest := [(.int (0 : Int32))]) (lenOf pd_2 rfl) rfl (by show 2 * 0 + _ ≤ _; exact Nat.le_of_eq rfl) (hb hby at_14) (fun _ _ => ⟨rfl, q_5, (by decide : 0 + 0 ≤ _), (by decide : 0 + 0 ≤ _)⟩)
      dsimp only [Pt.U, Pt.locs, Pt.cells, Pt.slots] at X_6 l_6 y_6 z_6 st_6 hQ_6
      subst l_6 y_6 z_6
      obtain ⟨rfl, M_6, q_6⟩ := hQ_6
      have N_6 := Fr.app N_5 M_6
      refine own_st (S' := T_6.setTop (mkF m 17 #[.val (.int p0), .val (.int (p0 &&& (3 : Int32))), .val (.ref aRESTART)] [(.int (own_exp (p0 &&& (3 : Int32)))), (.int (0 : Int32))])) st_6 ?_
      by_cases hc17 : (0 : Int32) = (own_exp (p0 &&& (3 : Int32)))
      · refine own_st (S' := T_6.setTop (mkF m 20 #[.val (.int p0), .val (.int (p0 &&& (3 : Int32))), .val (.ref aRESTART)] [])) (fun t_ k_ => XS.icmpNo X_6.here hx rfl (hb hby at_17) rfl (teq hc17).2 k_) ?_
        refine own_st (S' := T_6.setTop (mkF m 21 #[.val (.int p0), .val (.int (p0 &&& (3 : Int32))), .val (.ref aRESTART)] [(.int (1 : Int32))])) (fun t_ k_ => XS.iconst X_6.here hx rfl (hb hby at_20) k_) ?_
        refine own_st (S' := T_6.setTop (mkF m 25 #[.val (.int p0), .val (.int (p0 &&& (3 : Int32))), .val (.ref aRESTART)] [(.int (1 : Int32))])) (fun t_ k_ => XS.goto X_6.here hx rfl (pc0 := 21) (pc' := 25) rfl (hb hby at_21) (by decide) (by decide) k_) ?_
        obtain ⟨fs, hr, hrun, hended, hW, hsame⟩ := X_6.leave (v := some (.int (1 : Int32))) (fun h => by rw [Bd.returns] at h; cases h)
        refine ⟨_, _, retN X_6 hx (t := .boolean) Bd.returns (by simp) (hb hby at_25) hr, hrun, hended, _, _, rfl, ?_, ⟨_, rfl⟩, hW, hsame.mono (by decide) (by decide)⟩
        show Q0 Z p0 aCRASH aRESTART aFREEZE aISOLATE h0 n0 _ T_6.heap _
        rw [q_6]
        exact ⟨rfl, N_6⟩
      · exact absurd (by simp [own_exp, hk0, hk1]) hc17
    · by_cases hk2 : (p0 &&& (3 : Int32)) = (2 : Int32)
      · obtain ⟨_, _, ⟨T_7, L_7, k_7, n_7⟩, -, X_7, ⟨Lc_7, hQ_7, l_7, y_7, z_7⟩, st_7⟩ := Jvm.LawKit.callS X0 hx (y := (⟨"quorumline/ActionLastsPinLaw", "pick", "(I)Lquorumline/Schedule$Action;"⟩ : MethodName)) hown (mvT hZ (hw _ (List.mem_of_getElem? (i := 0) rfl))) (mvT hZ (hw _ (List.mem_of_getElem? (i := 1) rfl))) (mvT hZ (hw _ (List.mem_of_getElem? (i := 2) rfl))) (mvT hZ (hw _ (List.mem_of_getElem? (i := 3) rfl))) (by decide) (backOf (W := 0) (rm1c l Z a0 hw [] (p0 &&& (3 : Int32)) aFREEZE h0 n0 Z0 P2 hk0 hk1 hk2) hZ (hw _ (List.mem_of_getElem? (i := 3) rfl)) (hw _ (List.mem_of_getElem? (i := 2) rfl)) (by decide) (by decide)) (g := (mkF m 5 #[.val (.int p0), .val (.int (p0 &&& (3 : Int32))), .unset] [(.int (p0 &&& (3 : Int32)))])) rfl (by rw [hml]; rfl) (argsL := [(.int (p0 &&& (3 : Int32)))]) (rest := []) (lenOf pd_0 rfl) rfl (by show 2 * 0 + _ ≤ _; exact Nat.le_of_eq rfl) (hb hby at_5) (fun _ _ => ⟨rfl, e0, (by decide : 0 + 0 ≤ _), (by decide : 0 + 0 ≤ _)⟩)
        dsimp only [Pt.U, Pt.locs, Pt.cells, Pt.slots] at X_7 l_7 y_7 z_7 st_7 hQ_7
        subst l_7 y_7 z_7
        obtain ⟨rfl, M_7, q_7⟩ := hQ_7
        have N_7 := Fr.app N0 M_7
        refine own_st (S' := T_7.setTop (mkF m 8 #[.val (.int p0), .val (.int (p0 &&& (3 : Int32))), .unset] [(.ref aFREEZE)])) st_7 ?_
        refine own_st (S' := T_7.setTop (mkF m 9 #[.val (.int p0), .val (.int (p0 &&& (3 : Int32))), .val (.ref aFREEZE)] [])) (fun t_ k_ => XS.astoreN X_7.here hx rfl (hb hby at_8) rfl rfl (l' := #[.val (.int p0), .val (.int (p0 &&& (3 : Int32))), .val (.ref aFREEZE)]) rfl k_) ?_
        refine own_st (S' := T_7.setTop (mkF m 10 #[.val (.int p0), .val (.int (p0 &&& (3 : Int32))), .val (.ref aFREEZE)] [(.ref aFREEZE)])) (fun t_ k_ => XS.aloadN X_7.here hx rfl (hb hby at_9) rfl rfl k_) ?_
        obtain ⟨cq_8, kq_8, q_8a, q_8b, q_8c⟩ := isOf hZ q_7 P6
        obtain ⟨_, _, ⟨T_8, L_8, k_8, n_8⟩, -, X_8, ⟨Lc_8, hQ_8, l_8, y_8, z_8⟩, st_8⟩ := X_7.virtualBack hx (y := (⟨"quorumline/Schedule$Action", "lasts", "()Z"⟩ : MethodName)) (z := (⟨"quorumline/Schedule$Action", "lasts", "()Z"⟩ : MethodName)) hown (mvT hZ (hw _ (List.mem_of_getElem? (i := 7) rfl))) (mvT hZ (hw _ (List.mem_of_getElem? (i := 8) rfl))) (notFace_of_selects (args := #[]) (mvT hZ (hw _ (List.mem_of_getElem? (i := 10) rfl)))) (mvT hZ (hw _ (List.mem_of_getElem? (i := 10) rfl))) (mvT hZ (hw _ (List.mem_of_getElem? (i := 9) rfl))) (by decide) (backOf (W := 0) (rm2a l Z a0 hw [] aFREEZE h0 n0 Z0 P2) hZ (hw _ (List.mem_of_getElem? (i := 11) rfl)) (hw _ (List.mem_of_getElem? (i := 5) rfl)) (by decide) (by decide)) q_8a q_8c (g := (mkF m 10 #[.val (.int p0), .val (.int (p0 &&& (3 : Int32))), .val (.ref aFREEZE)] [(.ref aFREEZE)])) rfl (by rw [hml]; rfl) (Steps.refl _) (argsL := []) (rest := []) (lenOf pd_1 rfl) rfl (by show 2 * 0 + _ ≤ _; exact Nat.le_of_eq rfl) (hb hby at_10) (fun _ _ => ⟨rfl, q_7, (by decide : 0 + 0 ≤ _), (by decide : 0 + 0 ≤ _)⟩)
        dsimp only [Pt.U, Pt.locs, Pt.cells, Pt.slots] at X_8 l_8 y_8 z_8 st_8 hQ_8
        subst l_8 y_8 z_8
        obtain ⟨rfl, M_8, q_8⟩ := hQ_8
        have N_8 := Fr.app N_7 M_8
        refine own_st (S' := T_8.setTop (mkF m 13 #[.val (.int p0), .val (.int (p0 &&& (3 : Int32))), .val (.ref aFREEZE)] [(.int (1 : Int32))])) (fun t_ k_ => st_8.trans k_) ?_
        refine own_st (S' := T_8.setTop (mkF m 14 #[.val (.int p0), .val (.int (p0 &&& (3 : Int32))), .val (.ref aFREEZE)] [(.int (p0 &&& (3 : Int32))), (.int (1 : Int32))])) (fun t_ k_ => XS.iloadN X_8.here hx rfl (hb hby at_13) rfl k_) ?_
        obtain ⟨_, _, ⟨T_9, L_9, k_9, n_9⟩, -, X_9, ⟨Lc_9, hQ_9, l_9, y_9, z_9⟩, st_9⟩ := Jvm.LawKit.callS X_8 hx (y := (⟨"quorumline/ActionLastsPinLaw", "expected", "(I)Z"⟩ : MethodName)) hown (mvT hZ (hw _ (List.mem_of_getElem? (i := 16) rfl))) (mvT hZ (hw _ (List.mem_of_getElem? (i := 17) rfl))) (mvT hZ (hw _ (List.mem_of_getElem? (i := 2) rfl))) (mvT hZ (hw _ (List.mem_of_getElem? (i := 18) rfl))) (by decide) (backOf (W := 1) (rm3 l Z a0 hw [] (p0 &&& (3 : Int32)) h0 n0 Z0 ) hZ (hw _ (List.mem_of_getElem? (i := 18) rfl)) (hw _ (List.mem_of_getElem? (i := 2) rfl)) (by decide) (by decide)) (g := (mkF m 14 #[.val (.int p0), .val (.int (p0 &&& (3 : Int32))), .val (.ref aFREEZE)] [(.int (p0 &&& (3 : Int32))), (.int (1 : Int32))])) rfl (by rw [hml]; rfl) (argsL := [(.int (p0 &&& (3 : Int32)))]) (rest := [(.int (1 : Int32))]) (lenOf pd_2 rfl) rfl (by show 2 * 0 + _ ≤ _; exact Nat.le_of_eq rfl) (hb hby at_14) (fun _ _ => ⟨rfl, q_8, (by decide : 0 + 0 ≤ _), (by decide : 0 + 0 ≤ _)⟩)
        dsimp only [Pt.U, Pt.locs, Pt.cells, Pt.slots] at X_9 l_9 y_9 z_9 st_9 hQ_9
        subst l_9 y_9 z_9
        obtain ⟨rfl, M_9, q_9⟩ := hQ_9
        have N_9 := Fr.app N_8 M_9
        refine own_st (S' := T_9.setTop (mkF m 17 #[.val (.int p0), .val (.int (p0 &&& (3 : Int32))), .val (.ref aFREEZE)] [(.int (own_exp (p0 &&& (3 : Int32)))), (.int (1 : Int32))])) st_9 ?_
        by_cases hc17 : (1 : Int32) = (own_exp (p0 &&& (3 : Int32)))
        · refine own_st (S' := T_9.setTop (mkF m 20 #[.val (.int p0), .val (.int (p0 &&& (3 : Int32))), .val (.ref aFREEZE)] [])) (fun t_ k_ => XS.icmpNo X_9.here hx rfl (hb hby at_17) rfl (teq hc17).2 k_) ?_
          refine own_st (S' := T_9.setTop (mkF m 21 #[.val (.int p0), .val (.int (p0 &&& (3 : Int32))), .val (.ref aFREEZE)] [(.int (1 : Int32))])) (fun t_ k_ => XS.iconst X_9.here hx rfl (hb hby at_20) k_) ?_
          refine own_st (S' := T_9.setTop (mkF m 25 #[.val (.int p0), .val (.int (p0 &&& (3 : Int32))), .val (.ref aFREEZE)] [(.int (1 : Int32))])) (fun t_ k_ => XS.goto X_9.here hx rfl (pc0 := 21) (pc' := 25) rfl (hb hby at_21) (by decide) (by decide) k_) ?_
          obtain ⟨fs, hr, hrun, hended, hW, hsame⟩ := X_9.leave (v := some (.int (1 : Int32))) (fun h => by rw [Bd.returns] at h; cases h)
          refine ⟨_, _, retN X_9 hx (t := .boolean) Bd.returns (by simp) (hb hby at_25) hr, hrun, hended, _, _, rfl, ?_, ⟨_, rfl⟩, hW, hsame.mono (by decide) (by decide)⟩
          show Q0 Z p0 aCRASH aRESTART aFREEZE aISOLATE h0 n0 _ T_9.heap _
          rw [q_9]
          exact ⟨rfl, N_9⟩
        · exact absurd (by simp [own_exp, hk0, hk1, hk2]) hc17
      · obtain ⟨_, _, ⟨T_10, L_10, k_10, n_10⟩, -, X_10, ⟨Lc_10, hQ_10, l_10, y_10, z_10⟩, st_10⟩ := Jvm.LawKit.callS X0 hx (y := (⟨"quorumline/ActionLastsPinLaw", "pick", "(I)Lquorumline/Schedule$Action;"⟩ : MethodName)) hown (mvT hZ (hw _ (List.mem_of_getElem? (i := 0) rfl))) (mvT hZ (hw _ (List.mem_of_getElem? (i := 1) rfl))) (mvT hZ (hw _ (List.mem_of_getElem? (i := 2) rfl))) (mvT hZ (hw _ (List.mem_of_getElem? (i := 3) rfl))) (by decide) (backOf (W := 0) (rm1d l Z a0 hw [] (p0 &&& (3 : Int32)) aISOLATE h0 n0 Z0 P3 hk0 hk1 hk2) hZ (hw _ (List.mem_of_getElem? (i := 3) rfl)) (hw _ (List.mem_of_getElem? (i := 2) rfl)) (by decide) (by decide)) (g := (mkF m 5 #[.val (.int p0), .val (.int (p0 &&& (3 : Int32))), .unset] [(.int (p0 &&& (3 : Int32)))])) rfl (by rw [hml]; rfl) (argsL := [(.int (p0 &&& (3 : Int32)))]) (rest := []) (lenOf pd_0 rfl) rfl (by show 2 * 0 + _ ≤ _; exact Nat.le_of_eq rfl) (hb hby at_5) (fun _ _ => ⟨rfl, e0, (by decide : 0 + 0 ≤ _), (by decide : 0 + 0 ≤ _)⟩)
        dsimp only [Pt.U, Pt.locs, Pt.cells, Pt.slots] at X_10 l_10 y_10 z_10 st_10 hQ_10
        subst l_10 y_10 z_10
        obtain ⟨rfl, M_10, q_10⟩ := hQ_10
        have N_10 := Fr.app N0 M_10
        refine own_st (S' := T_10.setTop (mkF m 8 #[.val (.int p0), .val (.int (p0 &&& (3 : Int32))), .unset] [(.ref aISOLATE)])) st_10 ?_
        refine own_st (S' := T_10.setTop (mkF m 9 #[.val (.int p0), .val (.int (p0 &&& (3 : Int32))), .val (.ref aISOLATE)] [])) (fun t_ k_ => XS.astoreN X_10.here hx rfl (hb hby at_8) rfl rfl (l' := #[.val (.int p0), .val (.int (p0 &&& (3 : Int32))), .val (.ref aISOLATE)]) rfl k_) ?_
        refine own_st (S' := T_10.setTop (mkF m 10 #[.val (.int p0), .val (.int (p0 &&& (3 : Int32))), .val (.ref aISOLATE)] [(.ref aISOLATE)])) (fun t_ k_ => XS.aloadN X_10.here hx rfl (hb hby at_9) rfl rfl k_) ?_
        obtain ⟨cq_11, kq_11, q_11a, q_11b, q_11c⟩ := isOf hZ q_10 P7
        obtain ⟨_, _, ⟨T_11, L_11, k_11, n_11⟩, -, X_11, ⟨Lc_11, hQ_11, l_11, y_11, z_11⟩, st_11⟩ := X_10.virtualBack hx (y := (⟨"quorumline/Schedule$Action", "lasts", "()Z"⟩ : MethodName)) (z := (⟨"quorumline/Schedule$Action", "lasts", "()Z"⟩ : MethodName)) hown (mvT hZ (hw _ (List.mem_of_getElem? (i := 7) rfl))) (mvT hZ (hw _ (List.mem_of_getElem? (i := 8) rfl))) (notFace_of_selects (args := #[]) (mvT hZ (hw _ (List.mem_of_getElem? (i := 10) rfl)))) (mvT hZ (hw _ (List.mem_of_getElem? (i := 10) rfl))) (mvT hZ (hw _ (List.mem_of_getElem? (i := 9) rfl))) (by decide) (backOf (W := 0) (rm2b l Z a0 hw [] aISOLATE aFREEZE h0 n0 Z0 P2 P3 (Ne.symm ne_aFREEZE_aISOLATE)) hZ (hw _ (List.mem_of_getElem? (i := 11) rfl)) (hw _ (List.mem_of_getElem? (i := 5) rfl)) (by decide) (by decide)) q_11a q_11c (g := (mkF m 10 #[.val (.int p0), .val (.int (p0 &&& (3 : Int32))), .val (.ref aISOLATE)] [(.ref aISOLATE)])) rfl (by rw [hml]; rfl) (Steps.refl _) (argsL := []) (rest := []) (lenOf pd_1 rfl) rfl (by show 2 * 0 + _ ≤ _; exact Nat.le_of_eq rfl) (hb hby at_10) (fun _ _ => ⟨rfl, q_10, (by decide : 0 + 0 ≤ _), (by decide : 0 + 0 ≤ _)⟩)
        dsimp only [Pt.U, Pt.locs, Pt.cells, Pt.slots] at X_11 l_11 y_11 z_11 st_11 hQ_11
        subst l_11 y_11 z_11
        obtain ⟨rfl, M_11, q_11⟩ := hQ_11
        have N_11 := Fr.app N_10 M_11
        refine own_st (S' := T_11.setTop (mkF m 13 #[.val (.int p0), .val (.int (p0 &&& (3 : Int32))), .val (.ref aISOLATE)] [(.int (1 : Int32))])) (fun t_ k_ => st_11.trans k_) ?_
        refine own_st (S' := T_11.setTop (mkF m 14 #[.val (.int p0), .val (.int (p0 &&& (3 : Int32))), .val (.ref aISOLATE)] [(.int (p0 &&& (3 : Int32))), (.int (1 : Int32))])) (fun t_ k_ => XS.iloadN X_11.here hx rfl (hb hby at_13) rfl k_) ?_
        obtain ⟨_, _, ⟨T_12, L_12, k_12, n_12⟩, -, X_12, ⟨Lc_12, hQ_12, l_12, y_12, z_12⟩, st_12⟩ := Jvm.LawKit.callS X_11 hx (y := (⟨"quorumline/ActionLastsPinLaw", "expected", "(I)Z"⟩ : MethodName)) hown (mvT hZ (hw _ (List.mem_of_getElem? (i := 16) rfl))) (mvT hZ (hw _ (List.mem_of_getElem? (i := 17) rfl))) (mvT hZ (hw _ (List.mem_of_getElem? (i := 2) rfl))) (mvT hZ (hw _ (List.mem_of_getElem? (i := 18) rfl))) (by decide) (backOf (W := 1) (rm3 l Z a0 hw [] (p0 &&& (3 : Int32)) h0 n0 Z0 ) hZ (hw _ (List.mem_of_getElem? (i := 18) rfl)) (hw _ (List.mem_of_getElem? (i := 2) rfl)) (by decide) (by decide)) (g := (mkF m 14 #[.val (.int p0), .val (.int (p0 &&& (3 : Int32))), .val (.ref aISOLATE)] [(.int (p0 &&& (3 : Int32))), (.int (1 : Int32))])) rfl (by rw [hml]; rfl) (argsL := [(.int (p0 &&& (3 : Int32)))]) (rest := [(.int (1 : Int32))]) (lenOf pd_2 rfl) rfl (by show 2 * 0 + _ ≤ _; exact Nat.le_of_eq rfl) (hb hby at_14) (fun _ _ => ⟨rfl, q_11, (by decide : 0 + 0 ≤ _), (by decide : 0 + 0 ≤ _)⟩)
        dsimp only [Pt.U, Pt.locs, Pt.cells, Pt.slots] at X_12 l_12 y_12 z_12 st_12 hQ_12
        subst l_12 y_12 z_12
        obtain ⟨rfl, M_12, q_12⟩ := hQ_12
        have N_12 := Fr.app N_11 M_12
        refine own_st (S' := T_12.setTop (mkF m 17 #[.val (.int p0), .val (.int (p0 &&& (3 : Int32))), .val (.ref aISOLATE)] [(.int (own_exp (p0 &&& (3 : Int32)))), (.int (1 : Int32))])) st_12 ?_
        by_cases hc17 : (1 : Int32) = (own_exp (p0 &&& (3 : Int32)))
        · refine own_st (S' := T_12.setTop (mkF m 20 #[.val (.int p0), .val (.int (p0 &&& (3 : Int32))), .val (.ref aISOLATE)] [])) (fun t_ k_ => XS.icmpNo X_12.here hx rfl (hb hby at_17) rfl (teq hc17).2 k_) ?_
          refine own_st (S' := T_12.setTop (mkF m 21 #[.val (.int p0), .val (.int (p0 &&& (3 : Int32))), .val (.ref aISOLATE)] [(.int (1 : Int32))])) (fun t_ k_ => XS.iconst X_12.here hx rfl (hb hby at_20) k_) ?_
          refine own_st (S' := T_12.setTop (mkF m 25 #[.val (.int p0), .val (.int (p0 &&& (3 : Int32))), .val (.ref aISOLATE)] [(.int (1 : Int32))])) (fun t_ k_ => XS.goto X_12.here hx rfl (pc0 := 21) (pc' := 25) rfl (hb hby at_21) (by decide) (by decide) k_) ?_
          obtain ⟨fs, hr, hrun, hended, hW, hsame⟩ := X_12.leave (v := some (.int (1 : Int32))) (fun h => by rw [Bd.returns] at h; cases h)
          refine ⟨_, _, retN X_12 hx (t := .boolean) Bd.returns (by simp) (hb hby at_25) hr, hrun, hended, _, _, rfl, ?_, ⟨_, rfl⟩, hW, hsame.mono (by decide) (by decide)⟩
          show Q0 Z p0 aCRASH aRESTART aFREEZE aISOLATE h0 n0 _ T_12.heap _
          rw [q_12]
          exact ⟨rfl, N_12⟩
        · exact absurd (by simp [own_exp, hk0, hk1, hk2]) hc17
set_option maxRecDepth 65536 in
set_option maxHeartbeats 40000000 in
theorem comes_1 {Post : Tables → Env → Array Value → State → Outcome → State → Prop} (hpost : ∀ tb e args s v u, (limb_1_1.after args s (.returned v) u = true ∧ limb_1_2.after args s (.returned v) u = true ∧ True) → FrameEnd s (.returned v) u (Jvm.fieldLocs frame_1_writes args s ++ Jvm.arrayLocs frame_1_arrays args s ++ Jvm.staticLocs frame_1_statics s) 0 0 → Post tb e args s (.returned v) u) :
    ArmFor flags0 classFile x code maxLocals ret World_1 tables_1 room_1 Calls_1 rest_1 Pre_1 Post := by
  intro l hfl _ _ p e ha hc hk s m args below hf hA hF happ hP
  obtain ⟨hcalls, hrest, hpre⟩ := hP
  obtain ⟨-, -, -, hnamed, -, -, -, hat⟩ := (Spec.applies_iff hf).mp happ
  obtain ⟨hg, hn⟩ := and_e (Cond.before_iff.mp (show (Jvm.Cond.and given_1 narrow_1).before args s = true from hpre))
  obtain ⟨hcount, ht0⟩ := and_e hg
  obtain ⟨w0, rfl⟩ : ∃ w0 : Value, args = #[w0] := by
    have hs : args.size = 1 := by simpa [Cond.value, given_1] using hcount
    obtain ⟨L⟩ := args
    match L, hs with
    | [w0], _ => exact ⟨w0, rfl⟩
  have hw := fun d (hd : d ∈ tables_1) => atoms_spec (ws := Jvm.Cond.code x code maxLocals ret :: tables_1) hat d (List.mem_cons_of_mem _ hd)
  have hfit : Fit s := fun {y c} hc i hi => by
    obtain ⟨ha, rfl⟩ := Array.getElem?_eq_some_iff.mp hc
    have q := List.all_eq_true.mp ((Array.all_eq_true_iff_forall_mem.mp hF) _ (Array.getElem_mem ha)) i (List.mem_range.mpr hi)
    simpa [Array.getElem?_eq_getElem hi] using q
  obtain ⟨i0, ei0⟩ := is_v ht0
  obtain rfl : w0 = (.int i0) := Option.some.inj ei0
  obtain ⟨hx_CRASH, hn0⟩ := and_e hn
  obtain ⟨hx_FREEZE, hn1⟩ := and_e hn0
  obtain ⟨ho_CRASH, hn2⟩ := and_e hn1
  obtain ⟨ho_FREEZE, hn3⟩ := and_e hn2
  obtain ⟨hx_ISOLATE, hn4⟩ := and_e hn3
  obtain ⟨ho_ISOLATE, hn5⟩ := and_e hn4
  obtain ⟨hx_RESTART, hn6⟩ := and_e hn5
  have ho_RESTART := hn6
  obtain ⟨aCRASH, evCRASH⟩ := exa_v hx_CRASH
  have ExCRASH := Exa.start evCRASH hx_CRASH
  have SCRASH := Sta.start evCRASH (Or.inr ⟨(hw _ (List.mem_of_getElem? (i := 5) rfl)), (hw _ (List.mem_of_getElem? (i := 6) rfl))⟩)
  obtain ⟨aFREEZE, evFREEZE⟩ := exa_v hx_FREEZE
  have ExFREEZE := Exa.start evFREEZE hx_FREEZE
  have SFREEZE := Sta.start evFREEZE (Or.inr ⟨(hw _ (List.mem_of_getElem? (i := 5) rfl)), (hw _ (List.mem_of_getElem? (i := 13) rfl))⟩)
  obtain ⟨aISOLATE, evISOLATE⟩ := exa_v hx_ISOLATE
  have ExISOLATE := Exa.start evISOLATE hx_ISOLATE
  have SISOLATE := Sta.start evISOLATE (Or.inr ⟨(hw _ (List.mem_of_getElem? (i := 5) rfl)), (hw _ (List.mem_of_getElem? (i := 15) rfl))⟩)
  obtain ⟨aRESTART, evRESTART⟩ := exa_v hx_RESTART
  have ExRESTART := Exa.start evRESTART hx_RESTART
  have SRESTART := Sta.start evRESTART (Or.inr ⟨(hw _ (List.mem_of_getElem? (i := 5) rfl)), (hw _ (List.mem_of_getElem? (i := 22) rfl))⟩)
  have neCRASHFREEZE := own_ord evCRASH evFREEZE ho_CRASH ho_FREEZE (by decide)
  have neCRASHISOLATE := own_ord evCRASH evISOLATE ho_CRASH ho_ISOLATE (by decide)
  have neCRASHRESTART := own_ord evCRASH evRESTART ho_CRASH ho_RESTART (by decide)
  have neFREEZEISOLATE := own_ord evFREEZE evISOLATE ho_FREEZE ho_ISOLATE (by decide)
  have neFREEZERESTART := own_ord evFREEZE evRESTART ho_FREEZE ho_RESTART (by decide)
  have neISOLATERESTART := own_ord evISOLATE evRESTART ho_ISOLATE ho_RESTART (by decide)
  obtain ⟨n, o, h1, h2, h3, _, L, rfl, ⟨rfl, N⟩, hq⟩ := rm0 l s _ hw tables_1 i0 aCRASH aRESTART aFREEZE aISOLATE s.heap s.heap.size (Nat.le_refl _) SCRASH SRESTART SFREEZE SISOLATE ExCRASH ExRESTART ExFREEZE ExISOLATE neCRASHRESTART neCRASHFREEZE neCRASHISOLATE (Ne.symm neFREEZERESTART) (Ne.symm neISOLATERESTART) neFREEZEISOLATE p e ha hc hk s m _ below hf ((Spec.applies_iff_loose hf).mp happ).1 ⟨rfl, State.Warmed39.refl s, rfl⟩ trivial
  refine ⟨n, _, h1, h2, h3, hpost _ _ _ _ _ _ ⟨Cond.after_iff.mpr rfl, Cond.after_iff.mpr (eq_i res_at (Term.int_eval (1)) rfl), trivial⟩ ⟨hq.1, hq.2.1, (hq.2.2.sift fun y hy => Or.inr (N y hy)).mono (by decide) (by decide)⟩⟩
theorem main_1_1 : Claimed_1_1 := comes_1 fun _ _ _ _ _ _ h hF => ⟨h.1, hF⟩
theorem main_1_2 : Claimed_1_2 := comes_1 fun _ _ _ _ _ _ h hF => ⟨h.2.1, hF⟩
end Jvm.Pilot.@@N@@
namespace Jvm.Pilot.@@N@@
open Jvm Jvm.ClassFile Sem Op Lib Jvm.Free Jvm.Stand Jvm.Pilot.@@N@@.Jvm.D
/-! MADE BY PROGRAM (witnessworld.py) out of the Statement's table words and the real class files: 12 classes; the members and pool entries that the words name. The judged class is class 1, her method 3. -/
namespace start1
open Jvm.ClassFile
def u (s : String) : CpInfo := .utf8 (stringToUtf16 s)
/-- a pool by its gaps: so many unusable entries, then the entry; so many at the end -/
def gap : Nat → List CpInfo → List CpInfo
  | 0, r => r
  | n + 1, r => .unusable :: gap n r
def poolList (es : List (Nat × CpInfo)) (last : Nat) : List CpInfo := es.foldr (fun e r => gap e.1 (e.2 :: r)) (gap last [])
def pool (es : List (Nat × CpInfo)) (last : Nat) : Array CpInfo := ⟨poolList es last⟩
def fileOf (pool : Array CpInfo) (this : Nat) (attrs : Array Attribute := #[]) (ms : Array MethodInfo := #[]) (fl : Nat := 33) (sup : Nat := 0) (ifs : Array Nat := #[]) (fds : Array FieldInfo := #[]) : ClassFile where
  minorVersion := 0
  majorVersion := 65
  constantPool := pool
  accessFlags := fl
  thisClass := this
  superClass := sup
  interfaces := ifs
  fields := fds
  methods := ms
  attributes := attrs
def plain (name : String) (sup : Option ClassId) : Class where
  name := name
  kind := .ordinary
  loader := none
  accessFlags := 33
  super := sup
  interfaces := #[]
  cf := none
  fields := #[]
  methods := #[]
  instanceTypes := #[]
  staticTypes := #[]
  resolved := #[]
  callSites := []
  init := .initialized
  statics := none
  mirror := none

def pool0 : Array CpInfo := pool [(5, u "<init>"), (0, u "()V"), (1, .class_ 10), (1, u "java/lang/Object")] 113

def k0m0 : Method := { name := "<init>", desc := "()V", sig := { parameters := [], returnType := none }, accessFlags := 1, code := none }
/-- java/lang/Object -/
def k0 : Class := { plain "java/lang/Object" none with
  accessFlags := 33
  interfaces := #[]
  cf := some (fileOf pool0 8 #[] #[{ accessFlags := 1, nameIndex := 5, descriptorIndex := 6, attributes := #[] }] 33 0 #[] #[])
  fields := #[]
  methods := #[k0m0]
  instanceTypes := #[]
  staticTypes := #[]
  resolved := Array.replicate 124 none
  statics := none }

def pool1 : Array CpInfo := pool [(2, .class_ 4), (1, u "java/lang/Object"), (0, u "<init>"), (0, u "()V"), (0, .fieldref 8 9), (0, .class_ 10), (0, .nameAndType 11 12), (0, u "quorumline/Schedule$Action"), (0, u "CRASH"), (0, u "Lquorumline/Schedule$Action;"), (0, .fieldref 8 14), (0, .nameAndType 15 12), (0, u "RESTART"), (0, .fieldref 8 17), (0, .nameAndType 18 12), (0, u "FREEZE"), (0, .fieldref 8 20), (0, .nameAndType 21 12), (0, u "ISOLATE"), (0, .methodref 23 24), (0, .class_ 25), (0, .nameAndType 26 27), (0, u "quorumline/ActionLastsPinLaw"), (0, u "pick"), (0, u "(I)Lquorumline/Schedule$Action;"), (0, .methodref 8 29), (0, .nameAndType 30 31), (0, u "lasts"), (0, u "()Z"), (0, .methodref 23 33), (0, .nameAndType 34 35), (0, u "expected"), (0, u "(I)Z"), (3, u "law")] 6

def k1m0 : Method := { name := "<init>", desc := "()V", sig := { parameters := [], returnType := none }, accessFlags := 2, code := none }
def k1c1 : Code := { maxStack := 2, maxLocals := 1, code := method_2_code, exceptionTable := #[], attributes := #[] }
def k1m1 : Method := { name := "pick", desc := "(I)Lquorumline/Schedule$Action;", sig := { parameters := [.int], returnType := some (.object "quorumline/Schedule$Action") }, accessFlags := 10, code := some k1c1 }
def k1c2 : Code := { maxStack := 2, maxLocals := 1, code := method_3_code, exceptionTable := #[], attributes := #[] }
def k1m2 : Method := { name := "expected", desc := "(I)Z", sig := { parameters := [.int], returnType := some .boolean }, accessFlags := 10, code := some k1c2 }
def k1c3 : Code := { maxStack := 2, maxLocals := 3, code := code, exceptionTable := #[], attributes := #[] }
def k1m3 : Method := { name := "law", desc := "(I)Z", sig := { parameters := [.int], returnType := some .boolean }, accessFlags := 9, code := some k1c3 }
/-- quorumline/ActionLastsPinLaw -/
def k1 : Class := { plain "quorumline/ActionLastsPinLaw" (some 0) with
  accessFlags := 49
  interfaces := #[]
  cf := some (fileOf pool1 23 #[] #[{ accessFlags := 2, nameIndex := 5, descriptorIndex := 6, attributes := #[] }, { accessFlags := 10, nameIndex := 26, descriptorIndex := 27, attributes := #[] }, { accessFlags := 10, nameIndex := 34, descriptorIndex := 35, attributes := #[] }, { accessFlags := 9, nameIndex := 39, descriptorIndex := 35, attributes := #[] }] 49 2 #[] #[])
  fields := #[]
  methods := #[k1m0, k1m1, k1m2, k1m3]
  instanceTypes := #[]
  staticTypes := #[]
  resolved := Array.replicate 46 none
  statics := none }

def pool2 : Array CpInfo := pool [(1, .class_ 2), (0, u "java/lang/constant/Constable"), (0, .class_ 4), (0, u "java/lang/Object")] 6

/-- java/lang/constant/Constable -/
def k2 : Class := { plain "java/lang/constant/Constable" (some 0) with
  accessFlags := 1537
  interfaces := #[]
  cf := some (fileOf pool2 1 #[] #[] 1537 3 #[] #[])
  fields := #[]
  methods := #[]
  instanceTypes := #[]
  staticTypes := #[]
  resolved := Array.replicate 11 none
  statics := none }

def pool3 : Array CpInfo := pool [(1, .class_ 2), (0, u "java/lang/Comparable"), (0, .class_ 4), (0, u "java/lang/Object")] 7

/-- java/lang/Comparable -/
def k3 : Class := { plain "java/lang/Comparable" (some 0) with
  accessFlags := 1537
  interfaces := #[]
  cf := some (fileOf pool3 1 #[] #[] 1537 3 #[] #[])
  fields := #[]
  methods := #[]
  instanceTypes := #[]
  staticTypes := #[]
  resolved := Array.replicate 12 none
  statics := none }

def pool4 : Array CpInfo := pool [(1, .class_ 2), (0, u "java/io/Serializable"), (0, .class_ 4), (0, u "java/lang/Object")] 2

/-- java/io/Serializable -/
def k4 : Class := { plain "java/io/Serializable" (some 0) with
  accessFlags := 1537
  interfaces := #[]
  cf := some (fileOf pool4 1 #[] #[] 1537 3 #[] #[])
  fields := #[]
  methods := #[]
  instanceTypes := #[]
  staticTypes := #[]
  resolved := Array.replicate 7 none
  statics := none }

def pool5 : Array CpInfo := pool [(2, .class_ 4), (1, u "java/lang/Enum"), (0, u "name"), (0, u "Ljava/lang/String;"), (2, u "ordinal"), (0, u "I"), (1, .class_ 14), (1, u "java/lang/Object"), (4, u "hash"), (86, .class_ 108), (1, u "java/lang/Enum$EnumDesc"), (2, .class_ 112), (0, u "java/lang/constant/Constable"), (0, .class_ 114), (0, u "java/lang/Comparable"), (0, .class_ 116), (0, u "java/io/Serializable")] 87

/-- java/lang/Enum -/
def k5 : Class := { plain "java/lang/Enum" (some 0) with
  accessFlags := 1057
  interfaces := #[2, 3, 4]
  cf := some (fileOf pool5 2 #[.nestMembers #[106]] #[] 1057 12 #[111, 113, 115] #[{ accessFlags := 18, nameIndex := 5, descriptorIndex := 6, attributes := #[] }, { accessFlags := 18, nameIndex := 9, descriptorIndex := 10, attributes := #[] }, { accessFlags := 2, nameIndex := 19, descriptorIndex := 10, attributes := #[] }])
  fields := #[{ name := "name", type := (.object "java/lang/String"), accessFlags := 18, slot := 0, constantValue := 0 }, { name := "ordinal", type := .int, accessFlags := 18, slot := 1, constantValue := 0 }, { name := "hash", type := .int, accessFlags := 2, slot := 2, constantValue := 0 }]
  methods := #[]
  instanceTypes := #[(.object "java/lang/String"), .int, .int]
  staticTypes := #[]
  resolved := Array.replicate 204 none
  statics := none }

def pool6 : Array CpInfo := pool [(1, .class_ 2), (0, u "quorumline/Schedule$Action"), (2, u "CRASH"), (0, u "Lquorumline/Schedule$Action;"), (2, u "RESTART"), (0, .fieldref 1 11), (0, .nameAndType 12 6), (0, u "FREEZE"), (0, .fieldref 1 14), (0, .nameAndType 15 6), (0, u "ISOLATE"), (2, u "$VALUES"), (0, u "[Lquorumline/Schedule$Action;"), (6, .class_ 28), (1, u "java/lang/Enum"), (39, u "lasts"), (0, u "()Z"), (6, .class_ 77), (0, u "quorumline/Schedule")] 2

def k6c0 : Code := { maxStack := 2, maxLocals := 1, code := prog_83_method_5_code, exceptionTable := #[], attributes := #[] }
def k6m0 : Method := { name := "lasts", desc := "()Z", sig := { parameters := [], returnType := some .boolean }, accessFlags := 0, code := some k6c0 }
/-- quorumline/Schedule$Action -/
def k6 : Class := { plain "quorumline/Schedule$Action" (some 5) with
  accessFlags := 16432
  interfaces := #[]
  cf := some (fileOf pool6 1 #[.nestHost 76] #[{ accessFlags := 0, nameIndex := 68, descriptorIndex := 69, attributes := #[] }] 16432 26 #[] #[{ accessFlags := 16409, nameIndex := 5, descriptorIndex := 6, attributes := #[] }, { accessFlags := 16409, nameIndex := 9, descriptorIndex := 6, attributes := #[] }, { accessFlags := 16409, nameIndex := 12, descriptorIndex := 6, attributes := #[] }, { accessFlags := 16409, nameIndex := 15, descriptorIndex := 6, attributes := #[] }, { accessFlags := 4122, nameIndex := 18, descriptorIndex := 19, attributes := #[] }])
  fields := #[{ name := "CRASH", type := (.object "quorumline/Schedule$Action"), accessFlags := 16409, slot := 0, constantValue := 0 }, { name := "RESTART", type := (.object "quorumline/Schedule$Action"), accessFlags := 16409, slot := 1, constantValue := 0 }, { name := "FREEZE", type := (.object "quorumline/Schedule$Action"), accessFlags := 16409, slot := 2, constantValue := 0 }, { name := "ISOLATE", type := (.object "quorumline/Schedule$Action"), accessFlags := 16409, slot := 3, constantValue := 0 }, { name := "$VALUES", type := (.array (.object "quorumline/Schedule$Action")), accessFlags := 4122, slot := 4, constantValue := 0 }]
  methods := #[k6m0]
  instanceTypes := #[(.object "java/lang/String"), .int, .int]
  staticTypes := #[(.object "quorumline/Schedule$Action"), (.object "quorumline/Schedule$Action"), (.object "quorumline/Schedule$Action"), (.object "quorumline/Schedule$Action"), (.array (.object "quorumline/Schedule$Action"))]
  resolved := Array.replicate 80 none
  statics := some 0 }

def pool7 : Array CpInfo := pool [(1, u "java/lang/Cloneable"), (0, .class_ 1), (0, u "java/lang/Object"), (0, .class_ 3)] 3

/-- java/lang/Cloneable -/
def k7 : Class := { plain "java/lang/Cloneable" (some 0) with
  accessFlags := 1537
  interfaces := #[]
  cf := some (fileOf pool7 2 #[] #[] 1537 4 #[] #[])
  fields := #[]
  methods := #[]
  instanceTypes := #[]
  staticTypes := #[]
  resolved := Array.replicate 8 none
  statics := none }

/-- the primitive byte -/
def k8 : Class := { plain "byte" none with kind := .primitive 'B', accessFlags := 0x411 }
/-- [B -/
def k9 : Class := { plain "[B" (some 0) with kind := .array 8 .byte, interfaces := #[7, 4], accessFlags := 1041 }

/-- the primitive int -/
def k10 : Class := { plain "int" none with kind := .primitive 'I', accessFlags := 0x411 }
/-- [I -/
def k11 : Class := { plain "[I" (some 0) with kind := .array 10 .int, interfaces := #[7, 4], accessFlags := 1041 }

def heap : Heap := #[{ cls := 6, slots := #[.ref 1, .ref 2, .ref 3, .ref 4, .null], vm := .statics 6 },
  { cls := 6, slots := #[.null, .int 0, .int 0], vm := .none },
  { cls := 6, slots := #[.null, .int 1, .int 0], vm := .none },
  { cls := 6, slots := #[.null, .int 2, .int 0], vm := .none },
  { cls := 6, slots := #[.null, .int 3, .int 0], vm := .none }]
def classes : Array Class := #[k0, k1, k2, k3, k4, k5, k6, k7, k8, k9, k10, k11]
def interned : List (Array UInt16 × Addr) := []
def slotsUsed : Nat := 17
def theMethod : MethodId := ⟨1, 3⟩
def args0 : Array Value := #[.int 5]
def aboutOver (below : List Frame) : State where
  vm := { classes := classes, interned := interned.toArray }
  heap := heap
  slotsUsed := slotsUsed
  threads := #[{ frames := .invoking theMethod args0 :: below }]
def below0 : List Frame := [.native { method := ⟨0, 0⟩, args := #[] }]
def about1 : State := aboutOver below0
def p0 : Program := .bare "" "" ""
def e0 : Env := launch0.env 0 0 0
theorem w_frames : about1.frames = Frame.invoking theMethod args0 :: below0 := rfl
set_option maxRecDepth 65536 in
theorem w_args : argsFit about1.vm theMethod args0 = true := by decide +kernel
set_option maxRecDepth 65536 in
theorem w_heap : heapFits about1 = true := by decide +kernel
set_option maxRecDepth 65536 in
theorem w_runnable : about1.curStatus? = some .runnable := by decide +kernel
set_option maxRecDepth 65536 in
theorem w_alone : about1.alone = true := by decide +kernel
set_option maxRecDepth 65536 in
theorem w_named : about1.methodNamed? x = some theMethod := by decide +kernel
set_option maxRecDepth 65536 in
theorem w_hears : about1.hears theMethod below0 = true := by decide +kernel
set_option maxRecDepth 65536 in
theorem w_ripe : about1.ripe theMethod args0 below0 = true := by decide +kernel
theorem w_running : about1.status = .running := rfl
set_option maxRecDepth 65536 in
theorem w_room : about1.hasRoom e0.platform room_1 = true :=
  launch0.hasRoom_least _ room_1 (by decide +kernel) (by decide +kernel) (by decide +kernel) (by decide +kernel) (by decide +kernel) (by decide +kernel)
theorem allAtoms_all (ts : List Jvm.Cond) (a : Array Jvm.Value) (st : Jvm.State) : (allAtoms ts).before a st = ts.all (fun c => c.before a st) := by
  induction ts with
  | nil => rfl
  | cons c t ih =>
    show (Jvm.Cond.and c (allAtoms t)).before a st = _
    rw [Jvm.Cond.before_and, ih, List.all_cons]
def words1 : List Jvm.Cond := Jvm.Cond.code x code maxLocals ret :: tables_1
/-- a 'code' word, met by the world's own term for the bytes: nothing is compared byte by byte -/
theorem code_word {y : MethodName} {bytes : ByteArray} {mx : Nat} {rt : Option FieldType} {a : Array Value} {s : State} {m : MethodId} {meth : Method} {c : Code} (h1 : s.methodNamed? y = some m) (h2 : s.vm.method? m = some meth) (h3 : meth.code = some c) (h4 : c.code = bytes)
    (h5 : (c.maxLocals == mx && c.exceptionTable.isEmpty && decide (c.maxStack ≤ mostOperands) && decide (meth.sig.returnType = rt) && !meth.locks && decide (parseMethodDescriptor y.desc = some meth.sig)) = true) : (Jvm.Cond.code y bytes mx rt).before a s = true := by
  simp only [Bool.and_eq_true, beq_iff_eq, Bool.not_eq_true', decide_eq_true_eq] at h5
  obtain ⟨⟨⟨⟨⟨g1, g2⟩, g3⟩, g4⟩, g5⟩, g6⟩ := h5
  simp [Cond.before, Cond.holds, Cond.value, h1, h2, h3, h4, g1, g2, g3, g4, g5, g6]
def isCode : Jvm.Cond → Bool
  | .code _ _ _ _ => true
  | _ => false
theorem all_split {L : List Jvm.Cond} {P : Jvm.Cond → Bool} (h1 : L.all (fun c => isCode c || P c) = true) (h2 : ∀ c ∈ L.filter isCode, P c = true) : L.all P = true := by
  refine List.all_eq_true.mpr fun c hc => ?_
  have h := List.all_eq_true.mp h1 c hc
  rcases Bool.eq_false_or_eq_true (isCode c) with hi | hi
  · exact h2 c (List.mem_filter.mpr ⟨hc, hi⟩)
  · simpa [hi] using h
set_option maxRecDepth 65536 in
theorem w_c0 : (Jvm.Cond.code x code maxLocals ret).before args0 about1 = true := code_word (m := ⟨1, 3⟩) (meth := k1m3) (c := k1c3) (by decide +kernel) rfl rfl rfl (by decide +kernel)
set_option maxRecDepth 65536 in
theorem w_c1 : (Jvm.Cond.code ({ cls := "quorumline/ActionLastsPinLaw", name := "pick", desc := "(I)Lquorumline/Schedule$Action;" } : Jvm.MethodName) method_2_code (1 : Nat) (Option.some (Jvm.ClassFile.FieldType.object "quorumline/Schedule$Action"))).before args0 about1 = true := code_word (m := ⟨1, 1⟩) (meth := k1m1) (c := k1c1) (by decide +kernel) rfl rfl rfl (by decide +kernel)
set_option maxRecDepth 65536 in
theorem w_c2 : (Jvm.Cond.code ({ cls := "quorumline/Schedule$Action", name := "lasts", desc := "()Z" } : Jvm.MethodName) prog_83_method_5_code (1 : Nat) (Option.some Jvm.ClassFile.FieldType.boolean)).before args0 about1 = true := code_word (m := ⟨6, 0⟩) (meth := k6m0) (c := k6c0) (by decide +kernel) rfl rfl rfl (by decide +kernel)
set_option maxRecDepth 65536 in
theorem w_c3 : (Jvm.Cond.code ({ cls := "quorumline/ActionLastsPinLaw", name := "expected", desc := "(I)Z" } : Jvm.MethodName) method_3_code (1 : Nat) (Option.some Jvm.ClassFile.FieldType.boolean)).before args0 about1 = true := code_word (m := ⟨1, 2⟩) (meth := k1m2) (c := k1c2) (by decide +kernel) rfl rfl rfl (by decide +kernel)
def codes1 : List Jvm.Cond := [Jvm.Cond.code x code maxLocals ret, Jvm.Cond.code ({ cls := "quorumline/ActionLastsPinLaw", name := "pick", desc := "(I)Lquorumline/Schedule$Action;" } : Jvm.MethodName) method_2_code (1 : Nat) (Option.some (Jvm.ClassFile.FieldType.object "quorumline/Schedule$Action")), Jvm.Cond.code ({ cls := "quorumline/Schedule$Action", name := "lasts", desc := "()Z" } : Jvm.MethodName) prog_83_method_5_code (1 : Nat) (Option.some Jvm.ClassFile.FieldType.boolean), Jvm.Cond.code ({ cls := "quorumline/ActionLastsPinLaw", name := "expected", desc := "(I)Z" } : Jvm.MethodName) method_3_code (1 : Nat) (Option.some Jvm.ClassFile.FieldType.boolean)]
set_option maxRecDepth 65536 in
theorem codes_eq : words1.filter isCode = codes1 := rfl
theorem w_codes : ∀ c ∈ words1.filter isCode, c.before args0 about1 = true := by
  rw [codes_eq]
  intro c hc
  simp only [codes1, List.mem_cons, List.not_mem_nil, or_false] at hc
  rcases hc with rfl | rfl | rfl | rfl
  · exact w_c0
  · exact w_c1
  · exact w_c2
  · exact w_c3
set_option maxRecDepth 65536 in
theorem w_t1 : words1.all (fun c => isCode c || c.before args0 about1) = true := by decide +kernel
theorem w_tables : (allAtoms (Jvm.Cond.code x code maxLocals ret :: tables_1)).before args0 about1 = true := by
  rw [allAtoms_all]
  show words1.all (fun c => c.before args0 about1) = true
  refine all_split ?_ w_codes
  rw [w_t1]
set_option maxRecDepth 65536 in
theorem w_case : (Jvm.Cond.and given_1 narrow_1).before args0 about1 = true := by decide +kernel
theorem w_applies : (headSpec (Jvm.Cond.code x code maxLocals ret :: tables_1) room_1).applies x e0.platform about1 = true :=
  (Spec.applies_iff w_frames).mpr ⟨w_running, w_runnable, w_alone, w_named, w_hears, w_ripe, w_room, w_tables⟩
theorem atStart : AtStart classFile x code maxLocals ret World_1 tables_1 room_1 Calls_1 rest_1 Pre_1 launch0 p0 e0 about1 theMethod args0 below0 :=
  ⟨lists_1, trivial, launch0.admits_env _ _ _, launch0.least_env, fairChoices_fair.cas, fairChoices_fair.clock, w_frames, w_args, w_heap, w_applies, trivial, trivial, w_case⟩
end start1
theorem witness_1 : WitnessClaimed_1 := ⟨start1.p0, start1.e0, start1.about1, start1.theMethod, start1.args0, start1.below0, start1.atStart⟩
end Jvm.Pilot.@@N@@
