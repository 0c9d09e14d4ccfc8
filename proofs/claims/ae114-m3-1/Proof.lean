import JvmDerived
import JvmDerived.Pilot.@@N@@Statement
import JvmDerived.Pilot.@@N@@Code
set_option linter.unusedVariables false
set_option linter.unusedSimpArgs false
namespace Jvm.RoadKit
open Sem ClassFile Op Lib Jvm.Stand Jvm.Free Jvm.LawKit
section New
variable {p : Program} {l : Launch} {e : Env} {R : Room} {s : State} {m : MethodId} {args : Array Value} {below : List Frame} {meth : Method} {c : Code} {T : State} {locs : List Loc} {cells slots : Nat}
theorem retI (X : Stand p l e R s m args below meth c T locs cells slots) (hx : p.tables.exec = Jvm.exec) {pc : Nat} {Ls : Array Slot} {z : Int32} {rest : List Value} (hret : meth.sig.returnType = some .int) (hd : decode c.code pc = .ok (.ireturn, 1)) {fs : List Frame}
    (hl : ∀ (f : JFrame) (acts : List Action), f.method = m → f.locked = none → f.entered = [] → (doReturn e (T.setTop f) acts (some (.int z))).1 = T.setFrames fs) : Steps p.tables e below (T.setTop (mkF m pc Ls (.int z :: rest))) (T.setFrames fs) :=
  retOut X hx hret rfl (Or.inl ⟨rfl, Or.inl rfl, _, rfl⟩) hd hl
theorem own_retJ (X : Stand p l e R s m args below meth c T locs cells slots) (hx : p.tables.exec = Jvm.exec) {pc : Nat} {Ls : Array Slot} {z : Int64} {rest : List Value} (hret : meth.sig.returnType = some .long) (hd : decode c.code pc = .ok (.lreturn, 1)) {fs : List Frame}
    (hl : ∀ (f : JFrame) (acts : List Action), f.method = m → f.locked = none → f.entered = [] → (doReturn e (T.setTop f) acts (some (.long z))).1 = T.setFrames fs) : Steps p.tables e below (T.setTop (mkF m pc Ls (.long z :: rest))) (T.setFrames fs) :=
  retOut X hx hret rfl (Or.inr (Or.inl ⟨rfl, rfl, _, rfl⟩)) hd hl
theorem own_retD (X : Stand p l e R s m args below meth c T locs cells slots) (hx : p.tables.exec = Jvm.exec) {pc : Nat} {Ls : Array Slot} {z : UInt64} {rest : List Value} (hret : meth.sig.returnType = some .double) (hd : decode c.code pc = .ok (.dreturn, 1)) {fs : List Frame}
    (hl : ∀ (f : JFrame) (acts : List Action), f.method = m → f.locked = none → f.entered = [] → (doReturn e (T.setTop f) acts (some (.double z))).1 = T.setFrames fs) : Steps p.tables e below (T.setTop (mkF m pc Ls (.double z :: rest))) (T.setFrames fs) :=
  retOut X hx hret rfl (Or.inr (Or.inr (Or.inl ⟨rfl, rfl, _, rfl⟩))) hd hl
theorem own_retR (X : Stand p l e R s m args below meth c T locs cells slots) (hx : p.tables.exec = Jvm.exec) {pc : Nat} {Ls : Array Slot} {w : Value} {t : FieldType} {rest : List Value} (hret : meth.sig.returnType = some t) (ht : t.isReference = true) (hv : w.isRef = true) (hd : decode c.code pc = .ok (.areturn, 1)) {fs : List Frame}
    (hl : ∀ (f : JFrame) (acts : List Action), f.method = m → f.locked = none → f.entered = [] → (doReturn e (T.setTop f) acts (some w)).1 = T.setFrames fs) : Steps p.tables e below (T.setTop (mkF m pc Ls (w :: rest))) (T.setFrames fs) :=
  retOut X hx hret (by rcases ref_cases hv with rfl | ⟨a, rfl⟩ <;> cases t <;> first | rfl | cases ht) (Or.inr (Or.inr (Or.inr (Or.inr ⟨rfl, ht, hv⟩)))) hd hl
end New
section Own
variable {p : Program} {e : Env} {below : List Frame}
/-- the run from S ends as P says -/
def own_Gl (p : Program) (e : Env) (below : List Frame) (P : Outcome → State → Prop) (S : State) : Prop := ∃ s₂ o, Steps p.tables e below S s₂ ∧ s₂.status = .running ∧ Ended s₂ below o ∧ P o s₂
theorem own_gl {P : Outcome → State → Prop} {S : State} (h : own_Gl p e below P S) : ∃ s₂ o, Steps p.tables e below S s₂ ∧ s₂.status = .running ∧ Ended s₂ below o ∧ P o s₂ := h
theorem own_st {P : Outcome → State → Prop} {S S' : State} (h : ∀ t, Steps p.tables e below S' t → Steps p.tables e below S t) (k : own_Gl p e below P S') : own_Gl p e below P S := by
  obtain ⟨s₂, o, h1, h2⟩ := k
  exact ⟨s₂, o, h _ h1, h2⟩
theorem own_cast {P : Outcome → State → Prop} {S S' : State} (h : S' = S) (k : own_Gl p e below P S') : own_Gl p e below P S := h ▸ k
theorem own_join {P : Outcome → State → Prop} {S : State} {α : Type} {F : α → State} {H : α → Prop} (J : ∀ x, H x → own_Gl p e below P (F x)) (k : (∀ x, H x → own_Gl p e below P (F x)) → own_Gl p e below P S) : own_Gl p e below P S := k J
theorem own_selfsel {s : State} {args : Array Value} {y : MethodName} {n : Nat} (wi : (Cond.instantiable y.cls n).before args s = true) (wp : (Cond.privateMethod y).before args s = true) (hinst : (Cond.instanceMethod y).before args s = true) (hy : y.cls ≠ "java/lang/invoke/MethodHandle" ∧ y.cls ≠ "java/lang/invoke/VarHandle") : (Cond.selects y.cls y y).before args s = true := by
  obtain ⟨c, k, h1, h2, -, h3, -⟩ := Cond.instantiable_spec wi
  exact selects_self_of_private h1 h2 (by simp only [Bool.or_eq_false_iff] at h3; exact h3.1) (Cond.privateMethod_at wp) hinst hy
/-- a place of an array is written, whatever it holds -/
theorem own_arv_any {Z : State} {h h' : Heap} {a : Addr} {c : Cell} {k : ClassId} {ty : FieldType} {z j : Int32} {vs : List Value} {dv v : Value} (A : Arr Z h a c ty) (q1 : c.cls = k) (S : c.slots.size = z.toNatClampNeg) (q3 : ¬ z < 0) (H : Has c vs dv) (G : ∀ i, i < c.slots.size → fits ty (vs.getD i dv) = true) (hv : fits ty v = true) (W : Wr h h' a j.toNatClampNeg v) (hj : ¬ (j < 0 ∨ c.slots.size ≤ j.toNatClampNeg)) : ∃ vs', Arv Z h' a k ty z vs' dv := by
  have F : Arv Z h a k ty z (vs ++ List.replicate z.toNatClampNeg dv) dv := Arv.pad ⟨c, A, q1, S, q3, H, G⟩ (pad_rep vs dv _)
  obtain ⟨c', A', r1, r2, r3, r4, r5⟩ := F
  cases A.1.symm.trans A'.1
  exact ⟨_, Arv.set A' r1 r2 r3 r4 r5 hv W j.toNatClampNeg rfl (by
    have q := Nat.lt_of_not_le fun y => hj (Or.inr y)
    rw [S] at q
    simp only [List.length_append, List.length_replicate]
    omega)⟩
end Own
end Jvm.RoadKit

namespace Jvm.Pilot.@@N@@
open Jvm Jvm.ClassFile Sem Op Lib Jvm.Free Jvm.Stand Jvm.LawKit Jvm.RoadKit Bundle Jvm.Pilot.@@N@@.Jvm.D

theorem own_intv {args : Array Value} {s : State} {t : Term} {i : Int32} (h : (Jvm.Cond.eq t (Term.int i)).value args s none s [] = some true) : t.eval args s none [] s = some (.int i) := by
  cases e : t.eval args s none [] s with
  | none => simp [Cond.value, e] at h
  | some v => cases v <;> simp [Cond.value, Term.int_eval, e] at h; rw [h]
theorem own_ord {args : Array Value} {s : State} {tA tB : Term} {a b : Addr} {C n d : String} {i j : Int32} (hA : tA.eval args s none [] s = some (.ref a)) (hB : tB.eval args s none [] s = some (.ref b)) (h1 : (Jvm.Cond.eq (Term.field tA C n d) (Term.int i)).value args s none s [] = some true) (h2 : (Jvm.Cond.eq (Term.field tB C n d) (Term.int j)).value args s none s [] = some true) (hn : i ≠ j) : a ≠ b := fun e => by
  subst e
  have q1 := own_intv h1
  have q2 := own_intv h2
  rw [fld_at hA] at q1
  rw [fld_at hB] at q2
  exact hn (Value.int.inj (Option.some.inj (q1.symm.trans q2)))
theorem own_zero {p : Int32} (h1 : ¬ p < 0) (h2 : ¬ 0 < p) : p = 0 := by
  rw [Int32.lt_iff_toInt_lt] at h1 h2
  exact Int32.toInt_inj.mp (by omega)
theorem own_asym {p : Int32} (h1 : p < 0) : ¬ 0 < p := by
  rw [Int32.lt_iff_toInt_lt] at h1 ⊢
  omega

theorem d1_0 : decode prog_44_method_4_code 0 = .ok (.iload_n 0, 1) := by decide +kernel
theorem d1_1 : decode prog_44_method_4_code 1 = .ok (.ifCond .ge 10, 3) := by decide +kernel
theorem d1_4 : decode prog_44_method_4_code 4 = .ok (.getstatic 3, 3) := by decide +kernel
theorem d1_7 : decode prog_44_method_4_code 7 = .ok (.astore_n 1, 1) := by decide +kernel
theorem d1_8 : decode prog_44_method_4_code 8 = .ok (.goto 18, 3) := by decide +kernel
theorem d1_26 : decode prog_44_method_4_code 26 = .ok (.aload_n 1, 1) := by decide +kernel
theorem d1_27 : decode prog_44_method_4_code 27 = .ok (.areturn, 1) := by decide +kernel
theorem pn_0 : plainName "com/example/frisk/frisk/Order" = true := by first | (simp [plainName, overriddenIn]; done) | decide +kernel
theorem ef_1a (m : MethodId) (q0 : Int32) : entryFrame m #[(.int q0)] 2 = mkF m 0 #[.val (.int q0), .unset] [] := by first | (simp [entryFrame, mkF, argsToLocals, Value.category]; done) | rfl
def Q1a (Z : State) (q0 : Int32) (r : Addr) (h0 : Heap) (n0 : Nat) (v : Option Value) (h : Heap) (L : List Loc) : Prop := v = some (.ref r) ∧ Fr n0 L ∧ h = h0
set_option maxRecDepth 65536 in
set_option maxHeartbeats 40000000 in
theorem rm1a (l : Launch) (Z : State) (a0 : Array Value) (hw : ∀ d ∈ tables_1, d.before a0 Z = true) (ws : List Jvm.Cond) (q0 : Int32) (r : Addr) (h0 : Heap) (n0 : Nat) (Z0 : n0 ≤ h0.size) (P0 : Sta Z h0 "com/example/frisk/frisk/Order" "LESS" "Lcom/example/frisk/frisk/Order;" (.ref r)) (h1 : q0 < (0 : Int32)) :
    MetFree l (⟨"com/example/frisk/frisk/Order", "of", "(I)Lcom/example/frisk/frisk/Order;"⟩ : MethodName) (head1 (Jvm.Cond.code (⟨"com/example/frisk/frisk/Order", "of", "(I)Lcom/example/frisk/frisk/Order;"⟩ : MethodName) prog_44_method_4_code 2 (some (.object "com/example/frisk/frisk/Order")) :: ws) ({ frames := 0, cells := 0, slots := 0, locals := 0 } : Room)) (fun ar_ U => ar_ = #[(.int q0)] ∧ Z.Warmed39 U.vm ∧ U.heap = h0) (fun _ _ _ _ _ => True) (fun _ U o U' => ∃ v L, o = .returned v ∧ Q1a Z q0 r h0 n0 v U'.heap L ∧ FrameEnd U o U' L ({ frames := 0, cells := 0, slots := 0, locals := 0 } : Room).cells ({ frames := 0, cells := 0, slots := 0, locals := 0 } : Room).slots) := by
  refine MetFree.of_bodySF (plainFor_of_name pn_0) hisR ?_
  intro p e s m args below meth c s₁ Bd hml0 hP hK
  obtain ⟨rfl, hZ, hh⟩ := hP
  have hx := Bd.exec
  have hby := Bd.bytes
  have hml : c.maxLocals = 2 := hml0
  have hown : s.vm.findClass "com/example/frisk/frisk/Order" = some m.cls := findClass_of_methodNamed Bd.named
  have hnm := (name_of_methodNamed Bd.named Bd.method).1
  have X0 : Stand p l e ({ frames := 0, cells := 0, slots := 0, locals := 0 } : Room) s m #[(.int q0)] below meth c s₁ [] 0 0 := Stand.of_body Bd
  have e0 : s₁.heap = h0 := by rw [← hh, Bd.state]; rfl
  have N0 := Fr.nil n0
  refine own_gl ?_
  refine own_st (S' := s₁.setTop (mkF m 0 #[.val (.int q0), .unset] [])) (fun t_ k_ => castTop (ef_1a m q0) k_) ?_
  refine own_st (S' := s₁.setTop (mkF m 1 #[.val (.int q0), .unset] [(.int q0)])) (fun t_ k_ => XS.iloadN X0.here hx rfl (hb hby d1_0) rfl k_) ?_
  refine own_st (S' := s₁.setTop (mkF m 4 #[.val (.int q0), .unset] [])) (fun t_ k_ => XS.ifNo X0.here hx rfl (hb hby d1_1) rfl ((if0 _ _).trans (tlt h1).2.1) k_) ?_
  obtain ⟨T_1, X_1, e_1, st_1⟩ := getS2 X0 hx hZ hown (host := "") (Or.inl (hw _ (List.mem_of_getElem? (i := 14) rfl))) Via.refl e0 P0 (g := (mkF m 4 #[.val (.int q0), .unset] [])) rfl (hb hby d1_4)
  refine own_st (S' := T_1.setTop (mkF m 7 #[.val (.int q0), .unset] [(.ref r)])) st_1 ?_
  refine own_st (S' := T_1.setTop (mkF m 8 #[.val (.int q0), .val (.ref r)] [])) (fun t_ k_ => XS.astoreN X_1.here hx rfl (hb hby d1_7) rfl rfl (l' := #[.val (.int q0), .val (.ref r)]) rfl k_) ?_
  refine own_st (S' := T_1.setTop (mkF m 26 #[.val (.int q0), .val (.ref r)] [])) (fun t_ k_ => XS.goto X_1.here hx rfl (pc0 := 8) (pc' := 26) rfl (hb hby d1_8) (by decide) (by decide) k_) ?_
  refine own_st (S' := T_1.setTop (mkF m 27 #[.val (.int q0), .val (.ref r)] [(.ref r)])) (fun t_ k_ => XS.aloadN X_1.here hx rfl (hb hby d1_26) rfl rfl k_) ?_
  obtain ⟨fs, hr, hrun, hended, hW, hsame⟩ := X_1.leave (v := some (.ref r)) (fun h => by rw [Bd.returns] at h; cases h)
  refine ⟨_, _, own_retR X_1 hx Bd.returns rfl rfl (hb hby d1_27) hr, hrun, hended, _, _, rfl, ?_, ⟨_, rfl⟩, hW, hsame.mono (by decide) (by decide)⟩
  show Q1a Z q0 r h0 n0 _ T_1.heap _
  rw [e_1]
  exact ⟨rfl, N0, rfl⟩
theorem d1_11 : decode prog_44_method_4_code 11 = .ok (.iload_n 0, 1) := by decide +kernel
theorem d1_12 : decode prog_44_method_4_code 12 = .ok (.ifCond .le 10, 3) := by decide +kernel
theorem d1_15 : decode prog_44_method_4_code 15 = .ok (.getstatic 10, 3) := by decide +kernel
theorem d1_18 : decode prog_44_method_4_code 18 = .ok (.astore_n 1, 1) := by decide +kernel
theorem d1_19 : decode prog_44_method_4_code 19 = .ok (.goto 7, 3) := by decide +kernel
theorem ef_1b (m : MethodId) (q0 : Int32) : entryFrame m #[(.int q0)] 2 = mkF m 0 #[.val (.int q0), .unset] [] := by first | (simp [entryFrame, mkF, argsToLocals, Value.category]; done) | rfl
def Q1b (Z : State) (q0 : Int32) (r : Addr) (h0 : Heap) (n0 : Nat) (v : Option Value) (h : Heap) (L : List Loc) : Prop := v = some (.ref r) ∧ Fr n0 L ∧ h = h0
set_option maxRecDepth 65536 in
set_option maxHeartbeats 40000000 in
theorem rm1b (l : Launch) (Z : State) (a0 : Array Value) (hw : ∀ d ∈ tables_1, d.before a0 Z = true) (ws : List Jvm.Cond) (q0 : Int32) (r : Addr) (h0 : Heap) (n0 : Nat) (Z0 : n0 ≤ h0.size) (P0 : Sta Z h0 "com/example/frisk/frisk/Order" "GREATER" "Lcom/example/frisk/frisk/Order;" (.ref r)) (h1 : ¬ (q0 < (0 : Int32))) (h2 : (0 : Int32) < q0) :
    MetFree l (⟨"com/example/frisk/frisk/Order", "of", "(I)Lcom/example/frisk/frisk/Order;"⟩ : MethodName) (head1 (Jvm.Cond.code (⟨"com/example/frisk/frisk/Order", "of", "(I)Lcom/example/frisk/frisk/Order;"⟩ : MethodName) prog_44_method_4_code 2 (some (.object "com/example/frisk/frisk/Order")) :: ws) ({ frames := 0, cells := 0, slots := 0, locals := 0 } : Room)) (fun ar_ U => ar_ = #[(.int q0)] ∧ Z.Warmed39 U.vm ∧ U.heap = h0) (fun _ _ _ _ _ => True) (fun _ U o U' => ∃ v L, o = .returned v ∧ Q1b Z q0 r h0 n0 v U'.heap L ∧ FrameEnd U o U' L ({ frames := 0, cells := 0, slots := 0, locals := 0 } : Room).cells ({ frames := 0, cells := 0, slots := 0, locals := 0 } : Room).slots) := by
  refine MetFree.of_bodySF (plainFor_of_name pn_0) hisR ?_
  intro p e s m args below meth c s₁ Bd hml0 hP hK
  obtain ⟨rfl, hZ, hh⟩ := hP
  have hx := Bd.exec
  have hby := Bd.bytes
  have hml : c.maxLocals = 2 := hml0
  have hown : s.vm.findClass "com/example/frisk/frisk/Order" = some m.cls := findClass_of_methodNamed Bd.named
  have hnm := (name_of_methodNamed Bd.named Bd.method).1
  have X0 : Stand p l e ({ frames := 0, cells := 0, slots := 0, locals := 0 } : Room) s m #[(.int q0)] below meth c s₁ [] 0 0 := Stand.of_body Bd
  have e0 : s₁.heap = h0 := by rw [← hh, Bd.state]; rfl
  have N0 := Fr.nil n0
  refine own_gl ?_
  refine own_st (S' := s₁.setTop (mkF m 0 #[.val (.int q0), .unset] [])) (fun t_ k_ => castTop (ef_1b m q0) k_) ?_
  refine own_st (S' := s₁.setTop (mkF m 1 #[.val (.int q0), .unset] [(.int q0)])) (fun t_ k_ => XS.iloadN X0.here hx rfl (hb hby d1_0) rfl k_) ?_
  refine own_st (S' := s₁.setTop (mkF m 11 #[.val (.int q0), .unset] [])) (fun t_ k_ => XS.ifYes X0.here hx rfl (pc0 := 1) (pc' := 11) rfl (hb hby d1_1) rfl ((if0 _ _).trans (flt h1).2.1) (by decide) (by decide) k_) ?_
  refine own_st (S' := s₁.setTop (mkF m 12 #[.val (.int q0), .unset] [(.int q0)])) (fun t_ k_ => XS.iloadN X0.here hx rfl (hb hby d1_11) rfl k_) ?_
  refine own_st (S' := s₁.setTop (mkF m 15 #[.val (.int q0), .unset] [])) (fun t_ k_ => XS.ifNo X0.here hx rfl (hb hby d1_12) rfl ((if0 _ _).trans (tlt h2).2.2.2) k_) ?_
  obtain ⟨T_1, X_1, e_1, st_1⟩ := getS2 X0 hx hZ hown (host := "") (Or.inl (hw _ (List.mem_of_getElem? (i := 13) rfl))) Via.refl e0 P0 (g := (mkF m 15 #[.val (.int q0), .unset] [])) rfl (hb hby d1_15)
  refine own_st (S' := T_1.setTop (mkF m 18 #[.val (.int q0), .unset] [(.ref r)])) st_1 ?_
  refine own_st (S' := T_1.setTop (mkF m 19 #[.val (.int q0), .val (.ref r)] [])) (fun t_ k_ => XS.astoreN X_1.here hx rfl (hb hby d1_18) rfl rfl (l' := #[.val (.int q0), .val (.ref r)]) rfl k_) ?_
  refine own_st (S' := T_1.setTop (mkF m 26 #[.val (.int q0), .val (.ref r)] [])) (fun t_ k_ => XS.goto X_1.here hx rfl (pc0 := 19) (pc' := 26) rfl (hb hby d1_19) (by decide) (by decide) k_) ?_
  refine own_st (S' := T_1.setTop (mkF m 27 #[.val (.int q0), .val (.ref r)] [(.ref r)])) (fun t_ k_ => XS.aloadN X_1.here hx rfl (hb hby d1_26) rfl rfl k_) ?_
  obtain ⟨fs, hr, hrun, hended, hW, hsame⟩ := X_1.leave (v := some (.ref r)) (fun h => by rw [Bd.returns] at h; cases h)
  refine ⟨_, _, own_retR X_1 hx Bd.returns rfl rfl (hb hby d1_27) hr, hrun, hended, _, _, rfl, ?_, ⟨_, rfl⟩, hW, hsame.mono (by decide) (by decide)⟩
  show Q1b Z q0 r h0 n0 _ T_1.heap _
  rw [e_1]
  exact ⟨rfl, N0, rfl⟩
theorem d1_22 : decode prog_44_method_4_code 22 = .ok (.getstatic 7, 3) := by decide +kernel
theorem d1_25 : decode prog_44_method_4_code 25 = .ok (.astore_n 1, 1) := by decide +kernel
theorem ef_1c (m : MethodId) (q0 : Int32) : entryFrame m #[(.int q0)] 2 = mkF m 0 #[.val (.int q0), .unset] [] := by first | (simp [entryFrame, mkF, argsToLocals, Value.category]; done) | rfl
def Q1c (Z : State) (q0 : Int32) (r : Addr) (h0 : Heap) (n0 : Nat) (v : Option Value) (h : Heap) (L : List Loc) : Prop := v = some (.ref r) ∧ Fr n0 L ∧ h = h0
set_option maxRecDepth 65536 in
set_option maxHeartbeats 40000000 in
theorem rm1c (l : Launch) (Z : State) (a0 : Array Value) (hw : ∀ d ∈ tables_1, d.before a0 Z = true) (ws : List Jvm.Cond) (q0 : Int32) (r : Addr) (h0 : Heap) (n0 : Nat) (Z0 : n0 ≤ h0.size) (P0 : Sta Z h0 "com/example/frisk/frisk/Order" "EQUAL" "Lcom/example/frisk/frisk/Order;" (.ref r)) (h1 : ¬ (q0 < (0 : Int32))) (h2 : ¬ ((0 : Int32) < q0)) :
    MetFree l (⟨"com/example/frisk/frisk/Order", "of", "(I)Lcom/example/frisk/frisk/Order;"⟩ : MethodName) (head1 (Jvm.Cond.code (⟨"com/example/frisk/frisk/Order", "of", "(I)Lcom/example/frisk/frisk/Order;"⟩ : MethodName) prog_44_method_4_code 2 (some (.object "com/example/frisk/frisk/Order")) :: ws) ({ frames := 0, cells := 0, slots := 0, locals := 0 } : Room)) (fun ar_ U => ar_ = #[(.int q0)] ∧ Z.Warmed39 U.vm ∧ U.heap = h0) (fun _ _ _ _ _ => True) (fun _ U o U' => ∃ v L, o = .returned v ∧ Q1c Z q0 r h0 n0 v U'.heap L ∧ FrameEnd U o U' L ({ frames := 0, cells := 0, slots := 0, locals := 0 } : Room).cells ({ frames := 0, cells := 0, slots := 0, locals := 0 } : Room).slots) := by
  refine MetFree.of_bodySF (plainFor_of_name pn_0) hisR ?_
  intro p e s m args below meth c s₁ Bd hml0 hP hK
  obtain ⟨rfl, hZ, hh⟩ := hP
  have hx := Bd.exec
  have hby := Bd.bytes
  have hml : c.maxLocals = 2 := hml0
  have hown : s.vm.findClass "com/example/frisk/frisk/Order" = some m.cls := findClass_of_methodNamed Bd.named
  have hnm := (name_of_methodNamed Bd.named Bd.method).1
  have X0 : Stand p l e ({ frames := 0, cells := 0, slots := 0, locals := 0 } : Room) s m #[(.int q0)] below meth c s₁ [] 0 0 := Stand.of_body Bd
  have e0 : s₁.heap = h0 := by rw [← hh, Bd.state]; rfl
  have N0 := Fr.nil n0
  refine own_gl ?_
  refine own_st (S' := s₁.setTop (mkF m 0 #[.val (.int q0), .unset] [])) (fun t_ k_ => castTop (ef_1c m q0) k_) ?_
  refine own_st (S' := s₁.setTop (mkF m 1 #[.val (.int q0), .unset] [(.int q0)])) (fun t_ k_ => XS.iloadN X0.here hx rfl (hb hby d1_0) rfl k_) ?_
  refine own_st (S' := s₁.setTop (mkF m 11 #[.val (.int q0), .unset] [])) (fun t_ k_ => XS.ifYes X0.here hx rfl (pc0 := 1) (pc' := 11) rfl (hb hby d1_1) rfl ((if0 _ _).trans (flt h1).2.1) (by decide) (by decide) k_) ?_
  refine own_st (S' := s₁.setTop (mkF m 12 #[.val (.int q0), .unset] [(.int q0)])) (fun t_ k_ => XS.iloadN X0.here hx rfl (hb hby d1_11) rfl k_) ?_
  refine own_st (S' := s₁.setTop (mkF m 22 #[.val (.int q0), .unset] [])) (fun t_ k_ => XS.ifYes X0.here hx rfl (pc0 := 12) (pc' := 22) rfl (hb hby d1_12) rfl ((if0 _ _).trans (flt h2).2.2.2) (by decide) (by decide) k_) ?_
  obtain ⟨T_1, X_1, e_1, st_1⟩ := getS2 X0 hx hZ hown (host := "") (Or.inl (hw _ (List.mem_of_getElem? (i := 4) rfl))) Via.refl e0 P0 (g := (mkF m 22 #[.val (.int q0), .unset] [])) rfl (hb hby d1_22)
  refine own_st (S' := T_1.setTop (mkF m 25 #[.val (.int q0), .unset] [(.ref r)])) st_1 ?_
  refine own_st (S' := T_1.setTop (mkF m 26 #[.val (.int q0), .val (.ref r)] [])) (fun t_ k_ => XS.astoreN X_1.here hx rfl (hb hby d1_25) rfl rfl (l' := #[.val (.int q0), .val (.ref r)]) rfl k_) ?_
  refine own_st (S' := T_1.setTop (mkF m 27 #[.val (.int q0), .val (.ref r)] [(.ref r)])) (fun t_ k_ => XS.aloadN X_1.here hx rfl (hb hby d1_26) rfl rfl k_) ?_
  obtain ⟨fs, hr, hrun, hended, hW, hsame⟩ := X_1.leave (v := some (.ref r)) (fun h => by rw [Bd.returns] at h; cases h)
  refine ⟨_, _, own_retR X_1 hx Bd.returns rfl rfl (hb hby d1_27) hr, hrun, hended, _, _, rfl, ?_, ⟨_, rfl⟩, hW, hsame.mono (by decide) (by decide)⟩
  show Q1c Z q0 r h0 n0 _ T_1.heap _
  rw [e_1]
  exact ⟨rfl, N0, rfl⟩
theorem pn_1 : plainName "com/example/frisk/frisk/OrderOfPinLaw" = true := by first | (simp [plainName, overriddenIn]; done) | decide +kernel
theorem ef_0 (m : MethodId) (p0 : Int32) : entryFrame m #[(.int p0)] maxLocals = mkF m 0 #[.val (.int p0), .unset, .unset, .unset, .unset, .unset] [] := by first | (simp [entryFrame, mkF, argsToLocals, Value.category, maxLocals]; done) | rfl
theorem pd_0 : parseMethodDescriptor "(I)Lcom/example/frisk/frisk/Order;" = some ⟨[.int], some (.object "com/example/frisk/frisk/Order")⟩ := by decide +kernel
def Q0 (Z : State) (p0 : Int32) (aLESS : Addr) (aEQUAL : Addr) (aGREATER : Addr) (aINCOMPARABLE : Addr) (h0 : Heap) (n0 : Nat) (v : Option Value) (h : Heap) (L : List Loc) : Prop := v = some (.int (1 : Int32)) ∧ Fr n0 L
set_option maxRecDepth 65536 in
set_option maxHeartbeats 40000000 in
theorem rm0 (l : Launch) (Z : State) (a0 : Array Value) (hw : ∀ d ∈ tables_1, d.before a0 Z = true) (ws : List Jvm.Cond) (p0 : Int32) (aLESS : Addr) (aEQUAL : Addr) (aGREATER : Addr) (aINCOMPARABLE : Addr) (h0 : Heap) (n0 : Nat) (Z0 : n0 ≤ h0.size) (P0 : Sta Z h0 "com/example/frisk/frisk/Order" "LESS" "Lcom/example/frisk/frisk/Order;" (.ref aLESS)) (P1 : Sta Z h0 "com/example/frisk/frisk/Order" "EQUAL" "Lcom/example/frisk/frisk/Order;" (.ref aEQUAL)) (P2 : Sta Z h0 "com/example/frisk/frisk/Order" "GREATER" "Lcom/example/frisk/frisk/Order;" (.ref aGREATER)) (P3 : Sta Z h0 "com/example/frisk/frisk/Order" "INCOMPARABLE" "Lcom/example/frisk/frisk/Order;" (.ref aINCOMPARABLE)) (ne_aLESS_aEQUAL : aLESS ≠ aEQUAL) (ne_aLESS_aGREATER : aLESS ≠ aGREATER) (ne_aLESS_aINCOMPARABLE : aLESS ≠ aINCOMPARABLE) (ne_aEQUAL_aGREATER : aEQUAL ≠ aGREATER) (ne_aEQUAL_aINCOMPARABLE : aEQUAL ≠ aINCOMPARABLE) (ne_aGREATER_aINCOMPARABLE : aGREATER ≠ aINCOMPARABLE) :
    MetFree l x (head1 (Jvm.Cond.code x code maxLocals ret :: ws) room_1) (fun ar_ U => ar_ = #[(.int p0)] ∧ Z.Warmed39 U.vm ∧ U.heap = h0) (fun _ _ _ _ _ => True) (fun _ U o U' => ∃ v L, o = .returned v ∧ Q0 Z p0 aLESS aEQUAL aGREATER aINCOMPARABLE h0 n0 v U'.heap L ∧ FrameEnd U o U' L room_1.cells room_1.slots) := by
  refine MetFree.of_bodySF (plainFor_of_name pn_1) hisR ?_
  intro p e s m args below meth c s₁ Bd hml0 hP hK
  obtain ⟨rfl, hZ, hh⟩ := hP
  have hx := Bd.exec
  have hby := Bd.bytes
  have hml : c.maxLocals = 6 := hml0
  have hown : s.vm.findClass "com/example/frisk/frisk/OrderOfPinLaw" = some m.cls := findClass_of_methodNamed Bd.named
  have hnm := (name_of_methodNamed Bd.named Bd.method).1
  have X0 : Stand p l e room_1 s m #[(.int p0)] below meth c s₁ [] 0 0 := Stand.of_body Bd
  have e0 : s₁.heap = h0 := by rw [← hh, Bd.state]; rfl
  have N0 := Fr.nil n0
  refine own_gl ?_
  refine own_st (S' := s₁.setTop (mkF m 0 #[.val (.int p0), .unset, .unset, .unset, .unset, .unset] [])) (fun t_ k_ => castTop (ef_0 m p0) k_) ?_
  refine own_st (S' := s₁.setTop (mkF m 1 #[.val (.int p0), .unset, .unset, .unset, .unset, .unset] [(.int p0)])) (fun t_ k_ => XS.iloadN X0.here hx rfl (hb hby at_0) rfl k_) ?_
  by_cases hl : p0 < (0 : Int32)
  · by_cases hg : (0 : Int32) < p0
    · exact absurd hg (own_asym hl)
    · obtain ⟨_, _, ⟨T_1, L_1, k_1, n_1⟩, -, X_1, ⟨Lc_1, hQ_1, l_1, y_1, z_1⟩, st_1⟩ := Jvm.LawKit.callS X0 hx (y := (⟨"com/example/frisk/frisk/Order", "of", "(I)Lcom/example/frisk/frisk/Order;"⟩ : MethodName)) hown (mvT hZ (hw _ (List.mem_of_getElem? (i := 0) rfl))) (mvT hZ (hw _ (List.mem_of_getElem? (i := 1) rfl))) (mvT hZ (hw _ (List.mem_of_getElem? (i := 2) rfl))) (mvT hZ (hw _ (List.mem_of_getElem? (i := 3) rfl))) (by decide) (backOf (W := 0) (rm1a l Z a0 hw [] p0 aLESS h0 n0 Z0 P0 hl) hZ (hw _ (List.mem_of_getElem? (i := 3) rfl)) (hw _ (List.mem_of_getElem? (i := 2) rfl)) (by decide) (by decide)) (g := (mkF m 1 #[.val (.int p0), .unset, .unset, .unset, .unset, .unset] [(.int p0)])) rfl (by rw [hml]; rfl) (argsL := [(.int p0)]) (rest := []) (lenOf pd_0 rfl) rfl (by show 2 * 0 + _ ≤ _; exact Nat.le_of_eq rfl) (hb hby at_1) (fun _ _ => ⟨rfl, e0, (by decide : 0 + 0 ≤ _), (by decide : 0 + 0 ≤ _)⟩)
      dsimp only [Pt.U, Pt.locs, Pt.cells, Pt.slots] at X_1 l_1 y_1 z_1 st_1 hQ_1
      subst l_1 y_1 z_1
      obtain ⟨rfl, M_1, q_1⟩ := hQ_1
      have N_1 := Fr.app N0 M_1
      refine own_st (S' := T_1.setTop (mkF m 4 #[.val (.int p0), .unset, .unset, .unset, .unset, .unset] [(.ref aLESS)])) st_1 ?_
      refine own_st (S' := T_1.setTop (mkF m 5 #[.val (.int p0), .val (.ref aLESS), .unset, .unset, .unset, .unset] [])) (fun t_ k_ => XS.astoreN X_1.here hx rfl (hb hby at_4) rfl rfl (l' := #[.val (.int p0), .val (.ref aLESS), .unset, .unset, .unset, .unset]) rfl k_) ?_
      refine own_st (S' := T_1.setTop (mkF m 6 #[.val (.int p0), .val (.ref aLESS), .unset, .unset, .unset, .unset] [(.ref aLESS)])) (fun t_ k_ => XS.aloadN X_1.here hx rfl (hb hby at_5) rfl rfl k_) ?_
      obtain ⟨T_2, X_2, e_2, st_2⟩ := getS2 X_1 hx hZ hown (host := "") (Or.inl (hw _ (List.mem_of_getElem? (i := 6) rfl))) Via.refl q_1 P0 (g := (mkF m 6 #[.val (.int p0), .val (.ref aLESS), .unset, .unset, .unset, .unset] [(.ref aLESS)])) rfl (hb hby at_6)
      refine own_st (S' := T_2.setTop (mkF m 9 #[.val (.int p0), .val (.ref aLESS), .unset, .unset, .unset, .unset] [(.ref aLESS), (.ref aLESS)])) st_2 ?_
      refine own_st (S' := T_2.setTop (mkF m 12 #[.val (.int p0), .val (.ref aLESS), .unset, .unset, .unset, .unset] [])) (fun t_ k_ => Jvm.RoadKit.acmp (g := (mkF m 9 #[.val (.int p0), .val (.ref aLESS), .unset, .unset, .unset, .unset] [(.ref aLESS), (.ref aLESS)])) X_2 hx rfl rfl rfl (pc0 := 9) (pc' := 12) (same := true) rfl (hb hby at_9) rfl (decide_eq_true rfl) (by decide) (by decide) k_) ?_
      refine own_st (S' := T_2.setTop (mkF m 13 #[.val (.int p0), .val (.ref aLESS), .unset, .unset, .unset, .unset] [(.int (1 : Int32))])) (fun t_ k_ => XS.iconst X_2.here hx rfl (hb hby at_12) k_) ?_
      refine own_st (S' := T_2.setTop (mkF m 17 #[.val (.int p0), .val (.ref aLESS), .unset, .unset, .unset, .unset] [(.int (1 : Int32))])) (fun t_ k_ => XS.goto X_2.here hx rfl (pc0 := 13) (pc' := 17) rfl (hb hby at_13) (by decide) (by decide) k_) ?_
      refine own_st (S' := T_2.setTop (mkF m 18 #[.val (.int p0), .val (.ref aLESS), .val (.int (1 : Int32)), .unset, .unset, .unset] [])) (fun t_ k_ => XS.istoreN X_2.here hx rfl (hb hby at_17) rfl (l' := #[.val (.int p0), .val (.ref aLESS), .val (.int (1 : Int32)), .unset, .unset, .unset]) rfl k_) ?_
      refine own_st (S' := T_2.setTop (mkF m 19 #[.val (.int p0), .val (.ref aLESS), .val (.int (1 : Int32)), .unset, .unset, .unset] [(.ref aLESS)])) (fun t_ k_ => XS.aloadN X_2.here hx rfl (hb hby at_18) rfl rfl k_) ?_
      obtain ⟨T_3, X_3, e_3, st_3⟩ := getS2 X_2 hx hZ hown (host := "") (Or.inl (hw _ (List.mem_of_getElem? (i := 8) rfl))) Via.refl e_2 P1 (g := (mkF m 19 #[.val (.int p0), .val (.ref aLESS), .val (.int (1 : Int32)), .unset, .unset, .unset] [(.ref aLESS)])) rfl (hb hby at_19)
      refine own_st (S' := T_3.setTop (mkF m 22 #[.val (.int p0), .val (.ref aLESS), .val (.int (1 : Int32)), .unset, .unset, .unset] [(.ref aEQUAL), (.ref aLESS)])) st_3 ?_
      refine own_st (S' := T_3.setTop (mkF m 29 #[.val (.int p0), .val (.ref aLESS), .val (.int (1 : Int32)), .unset, .unset, .unset] [])) (fun t_ k_ => Jvm.RoadKit.acmp (g := (mkF m 22 #[.val (.int p0), .val (.ref aLESS), .val (.int (1 : Int32)), .unset, .unset, .unset] [(.ref aEQUAL), (.ref aLESS)])) X_3 hx rfl rfl rfl (pc0 := 22) (pc' := 29) (same := false) rfl (hb hby at_22) rfl (decide_eq_false fun q => ne_aLESS_aEQUAL (Value.ref.inj q)) (by decide) (by decide) k_) ?_
      refine own_st (S' := T_3.setTop (mkF m 30 #[.val (.int p0), .val (.ref aLESS), .val (.int (1 : Int32)), .unset, .unset, .unset] [(.int (0 : Int32))])) (fun t_ k_ => XS.iconst X_3.here hx rfl (hb hby at_29) k_) ?_
      refine own_st (S' := T_3.setTop (mkF m 31 #[.val (.int p0), .val (.ref aLESS), .val (.int (1 : Int32)), .val (.int (0 : Int32)), .unset, .unset] [])) (fun t_ k_ => XS.istoreN X_3.here hx rfl (hb hby at_30) rfl (l' := #[.val (.int p0), .val (.ref aLESS), .val (.int (1 : Int32)), .val (.int (0 : Int32)), .unset, .unset]) rfl k_) ?_
      refine own_st (S' := T_3.setTop (mkF m 32 #[.val (.int p0), .val (.ref aLESS), .val (.int (1 : Int32)), .val (.int (0 : Int32)), .unset, .unset] [(.ref aLESS)])) (fun t_ k_ => XS.aloadN X_3.here hx rfl (hb hby at_31) rfl rfl k_) ?_
      obtain ⟨T_4, X_4, e_4, st_4⟩ := getS2 X_3 hx hZ hown (host := "") (Or.inl (hw _ (List.mem_of_getElem? (i := 9) rfl))) Via.refl e_3 P2 (g := (mkF m 32 #[.val (.int p0), .val (.ref aLESS), .val (.int (1 : Int32)), .val (.int (0 : Int32)), .unset, .unset] [(.ref aLESS)])) rfl (hb hby at_32)
      refine own_st (S' := T_4.setTop (mkF m 35 #[.val (.int p0), .val (.ref aLESS), .val (.int (1 : Int32)), .val (.int (0 : Int32)), .unset, .unset] [(.ref aGREATER), (.ref aLESS)])) st_4 ?_
      refine own_st (S' := T_4.setTop (mkF m 42 #[.val (.int p0), .val (.ref aLESS), .val (.int (1 : Int32)), .val (.int (0 : Int32)), .unset, .unset] [])) (fun t_ k_ => Jvm.RoadKit.acmp (g := (mkF m 35 #[.val (.int p0), .val (.ref aLESS), .val (.int (1 : Int32)), .val (.int (0 : Int32)), .unset, .unset] [(.ref aGREATER), (.ref aLESS)])) X_4 hx rfl rfl rfl (pc0 := 35) (pc' := 42) (same := false) rfl (hb hby at_35) rfl (decide_eq_false fun q => ne_aLESS_aGREATER (Value.ref.inj q)) (by decide) (by decide) k_) ?_
      refine own_st (S' := T_4.setTop (mkF m 43 #[.val (.int p0), .val (.ref aLESS), .val (.int (1 : Int32)), .val (.int (0 : Int32)), .unset, .unset] [(.int (0 : Int32))])) (fun t_ k_ => XS.iconst X_4.here hx rfl (hb hby at_42) k_) ?_
      refine own_st (S' := T_4.setTop (mkF m 45 #[.val (.int p0), .val (.ref aLESS), .val (.int (1 : Int32)), .val (.int (0 : Int32)), .val (.int (0 : Int32)), .unset] [])) (fun t_ k_ => XS.istore X_4.here hx rfl (hb hby at_43) rfl (l' := #[.val (.int p0), .val (.ref aLESS), .val (.int (1 : Int32)), .val (.int (0 : Int32)), .val (.int (0 : Int32)), .unset]) rfl k_) ?_
      refine own_st (S' := T_4.setTop (mkF m 46 #[.val (.int p0), .val (.ref aLESS), .val (.int (1 : Int32)), .val (.int (0 : Int32)), .val (.int (0 : Int32)), .unset] [(.ref aLESS)])) (fun t_ k_ => XS.aloadN X_4.here hx rfl (hb hby at_45) rfl rfl k_) ?_
      obtain ⟨T_5, X_5, e_5, st_5⟩ := getS2 X_4 hx hZ hown (host := "") (Or.inl (hw _ (List.mem_of_getElem? (i := 11) rfl))) Via.refl e_4 P3 (g := (mkF m 46 #[.val (.int p0), .val (.ref aLESS), .val (.int (1 : Int32)), .val (.int (0 : Int32)), .val (.int (0 : Int32)), .unset] [(.ref aLESS)])) rfl (hb hby at_46)
      refine own_st (S' := T_5.setTop (mkF m 49 #[.val (.int p0), .val (.ref aLESS), .val (.int (1 : Int32)), .val (.int (0 : Int32)), .val (.int (0 : Int32)), .unset] [(.ref aINCOMPARABLE), (.ref aLESS)])) st_5 ?_
      refine own_st (S' := T_5.setTop (mkF m 56 #[.val (.int p0), .val (.ref aLESS), .val (.int (1 : Int32)), .val (.int (0 : Int32)), .val (.int (0 : Int32)), .unset] [])) (fun t_ k_ => Jvm.RoadKit.acmp (g := (mkF m 49 #[.val (.int p0), .val (.ref aLESS), .val (.int (1 : Int32)), .val (.int (0 : Int32)), .val (.int (0 : Int32)), .unset] [(.ref aINCOMPARABLE), (.ref aLESS)])) X_5 hx rfl rfl rfl (pc0 := 49) (pc' := 56) (same := false) rfl (hb hby at_49) rfl (decide_eq_false fun q => ne_aLESS_aINCOMPARABLE (Value.ref.inj q)) (by decide) (by decide) k_) ?_
      refine own_st (S' := T_5.setTop (mkF m 57 #[.val (.int p0), .val (.ref aLESS), .val (.int (1 : Int32)), .val (.int (0 : Int32)), .val (.int (0 : Int32)), .unset] [(.int (0 : Int32))])) (fun t_ k_ => XS.iconst X_5.here hx rfl (hb hby at_56) k_) ?_
      refine own_st (S' := T_5.setTop (mkF m 59 #[.val (.int p0), .val (.ref aLESS), .val (.int (1 : Int32)), .val (.int (0 : Int32)), .val (.int (0 : Int32)), .val (.int (0 : Int32))] [])) (fun t_ k_ => XS.istore X_5.here hx rfl (hb hby at_57) rfl (l' := #[.val (.int p0), .val (.ref aLESS), .val (.int (1 : Int32)), .val (.int (0 : Int32)), .val (.int (0 : Int32)), .val (.int (0 : Int32))]) rfl k_) ?_
      refine own_st (S' := T_5.setTop (mkF m 60 #[.val (.int p0), .val (.ref aLESS), .val (.int (1 : Int32)), .val (.int (0 : Int32)), .val (.int (0 : Int32)), .val (.int (0 : Int32))] [(.int (1 : Int32))])) (fun t_ k_ => XS.iloadN X_5.here hx rfl (hb hby at_59) rfl k_) ?_
      refine own_st (S' := T_5.setTop (mkF m 61 #[.val (.int p0), .val (.ref aLESS), .val (.int (1 : Int32)), .val (.int (0 : Int32)), .val (.int (0 : Int32)), .val (.int (0 : Int32))] [(.int p0), (.int (1 : Int32))])) (fun t_ k_ => XS.iloadN X_5.here hx rfl (hb hby at_60) rfl k_) ?_
      refine own_st (S' := T_5.setTop (mkF m 64 #[.val (.int p0), .val (.ref aLESS), .val (.int (1 : Int32)), .val (.int (0 : Int32)), .val (.int (0 : Int32)), .val (.int (0 : Int32))] [(.int (1 : Int32))])) (fun t_ k_ => XS.ifNo X_5.here hx rfl (hb hby at_61) rfl ((if0 _ _).trans (tlt hl).2.1) k_) ?_
      refine own_st (S' := T_5.setTop (mkF m 65 #[.val (.int p0), .val (.ref aLESS), .val (.int (1 : Int32)), .val (.int (0 : Int32)), .val (.int (0 : Int32)), .val (.int (0 : Int32))] [(.int (1 : Int32)), (.int (1 : Int32))])) (fun t_ k_ => XS.iconst X_5.here hx rfl (hb hby at_64) k_) ?_
      refine own_st (S' := T_5.setTop (mkF m 69 #[.val (.int p0), .val (.ref aLESS), .val (.int (1 : Int32)), .val (.int (0 : Int32)), .val (.int (0 : Int32)), .val (.int (0 : Int32))] [(.int (1 : Int32)), (.int (1 : Int32))])) (fun t_ k_ => XS.goto X_5.here hx rfl (pc0 := 65) (pc' := 69) rfl (hb hby at_65) (by decide) (by decide) k_) ?_
      refine own_st (S' := T_5.setTop (mkF m 72 #[.val (.int p0), .val (.ref aLESS), .val (.int (1 : Int32)), .val (.int (0 : Int32)), .val (.int (0 : Int32)), .val (.int (0 : Int32))] [])) (fun t_ k_ => XS.icmpNo X_5.here hx rfl (hb hby at_69) rfl (teq (by decide : (1 : Int32) = (1 : Int32))).2 k_) ?_
      refine own_st (S' := T_5.setTop (mkF m 73 #[.val (.int p0), .val (.ref aLESS), .val (.int (1 : Int32)), .val (.int (0 : Int32)), .val (.int (0 : Int32)), .val (.int (0 : Int32))] [(.int (0 : Int32))])) (fun t_ k_ => XS.iloadN X_5.here hx rfl (hb hby at_72) rfl k_) ?_
      refine own_st (S' := T_5.setTop (mkF m 74 #[.val (.int p0), .val (.ref aLESS), .val (.int (1 : Int32)), .val (.int (0 : Int32)), .val (.int (0 : Int32)), .val (.int (0 : Int32))] [(.int p0), (.int (0 : Int32))])) (fun t_ k_ => XS.iloadN X_5.here hx rfl (hb hby at_73) rfl k_) ?_
      by_cases hc74 : p0 = (0 : Int32)
      · rw [hc74] at hl; exact absurd hl (by decide)
      · refine own_st (S' := T_5.setTop (mkF m 81 #[.val (.int p0), .val (.ref aLESS), .val (.int (1 : Int32)), .val (.int (0 : Int32)), .val (.int (0 : Int32)), .val (.int (0 : Int32))] [(.int (0 : Int32))])) (fun t_ k_ => XS.ifYes X_5.here hx rfl (pc0 := 74) (pc' := 81) rfl (hb hby at_74) rfl ((if0 _ _).trans (feq hc74).2) (by decide) (by decide) k_) ?_
        refine own_st (S' := T_5.setTop (mkF m 82 #[.val (.int p0), .val (.ref aLESS), .val (.int (1 : Int32)), .val (.int (0 : Int32)), .val (.int (0 : Int32)), .val (.int (0 : Int32))] [(.int (0 : Int32)), (.int (0 : Int32))])) (fun t_ k_ => XS.iconst X_5.here hx rfl (hb hby at_81) k_) ?_
        refine own_st (S' := T_5.setTop (mkF m 85 #[.val (.int p0), .val (.ref aLESS), .val (.int (1 : Int32)), .val (.int (0 : Int32)), .val (.int (0 : Int32)), .val (.int (0 : Int32))] [])) (fun t_ k_ => XS.icmpNo X_5.here hx rfl (hb hby at_82) rfl (teq (by decide : (0 : Int32) = (0 : Int32))).2 k_) ?_
        refine own_st (S' := T_5.setTop (mkF m 87 #[.val (.int p0), .val (.ref aLESS), .val (.int (1 : Int32)), .val (.int (0 : Int32)), .val (.int (0 : Int32)), .val (.int (0 : Int32))] [(.int (0 : Int32))])) (fun t_ k_ => XS.iload X_5.here hx rfl (hb hby at_85) rfl k_) ?_
        refine own_st (S' := T_5.setTop (mkF m 88 #[.val (.int p0), .val (.ref aLESS), .val (.int (1 : Int32)), .val (.int (0 : Int32)), .val (.int (0 : Int32)), .val (.int (0 : Int32))] [(.int p0), (.int (0 : Int32))])) (fun t_ k_ => XS.iloadN X_5.here hx rfl (hb hby at_87) rfl k_) ?_
        refine own_st (S' := T_5.setTop (mkF m 95 #[.val (.int p0), .val (.ref aLESS), .val (.int (1 : Int32)), .val (.int (0 : Int32)), .val (.int (0 : Int32)), .val (.int (0 : Int32))] [(.int (0 : Int32))])) (fun t_ k_ => XS.ifYes X_5.here hx rfl (pc0 := 88) (pc' := 95) rfl (hb hby at_88) rfl ((if0 _ _).trans (flt hg).2.2.2) (by decide) (by decide) k_) ?_
        refine own_st (S' := T_5.setTop (mkF m 96 #[.val (.int p0), .val (.ref aLESS), .val (.int (1 : Int32)), .val (.int (0 : Int32)), .val (.int (0 : Int32)), .val (.int (0 : Int32))] [(.int (0 : Int32)), (.int (0 : Int32))])) (fun t_ k_ => XS.iconst X_5.here hx rfl (hb hby at_95) k_) ?_
        refine own_st (S' := T_5.setTop (mkF m 99 #[.val (.int p0), .val (.ref aLESS), .val (.int (1 : Int32)), .val (.int (0 : Int32)), .val (.int (0 : Int32)), .val (.int (0 : Int32))] [])) (fun t_ k_ => XS.icmpNo X_5.here hx rfl (hb hby at_96) rfl (teq (by decide : (0 : Int32) = (0 : Int32))).2 k_) ?_
        refine own_st (S' := T_5.setTop (mkF m 101 #[.val (.int p0), .val (.ref aLESS), .val (.int (1 : Int32)), .val (.int (0 : Int32)), .val (.int (0 : Int32)), .val (.int (0 : Int32))] [(.int (0 : Int32))])) (fun t_ k_ => XS.iload X_5.here hx rfl (hb hby at_99) rfl k_) ?_
        refine own_st (S' := T_5.setTop (mkF m 104 #[.val (.int p0), .val (.ref aLESS), .val (.int (1 : Int32)), .val (.int (0 : Int32)), .val (.int (0 : Int32)), .val (.int (0 : Int32))] [])) (fun t_ k_ => XS.ifNo X_5.here hx rfl (hb hby at_101) rfl ((if0 _ _).trans (teq (by decide : (0 : Int32) = (0 : Int32))).2) k_) ?_
        refine own_st (S' := T_5.setTop (mkF m 105 #[.val (.int p0), .val (.ref aLESS), .val (.int (1 : Int32)), .val (.int (0 : Int32)), .val (.int (0 : Int32)), .val (.int (0 : Int32))] [(.int (1 : Int32))])) (fun t_ k_ => XS.iconst X_5.here hx rfl (hb hby at_104) k_) ?_
        refine own_st (S' := T_5.setTop (mkF m 109 #[.val (.int p0), .val (.ref aLESS), .val (.int (1 : Int32)), .val (.int (0 : Int32)), .val (.int (0 : Int32)), .val (.int (0 : Int32))] [(.int (1 : Int32))])) (fun t_ k_ => XS.goto X_5.here hx rfl (pc0 := 105) (pc' := 109) rfl (hb hby at_105) (by decide) (by decide) k_) ?_
        obtain ⟨fs, hr, hrun, hended, hW, hsame⟩ := X_5.leave (v := some (.int (1 : Int32))) (fun h => by rw [Bd.returns] at h; cases h)
        refine ⟨_, _, retN X_5 hx (t := .boolean) Bd.returns (by simp) (hb hby at_109) hr, hrun, hended, _, _, rfl, ?_, ⟨_, rfl⟩, hW, hsame.mono (by decide) (by decide)⟩
        show Q0 Z p0 aLESS aEQUAL aGREATER aINCOMPARABLE h0 n0 _ T_5.heap _
        rw [e_5]
        exact ⟨rfl, N_1⟩
  · by_cases hg : (0 : Int32) < p0
    · obtain ⟨_, _, ⟨T_6, L_6, k_6, n_6⟩, -, X_6, ⟨Lc_6, hQ_6, l_6, y_6, z_6⟩, st_6⟩ := Jvm.LawKit.callS X0 hx (y := (⟨"com/example/frisk/frisk/Order", "of", "(I)Lcom/example/frisk/frisk/Order;"⟩ : MethodName)) hown (mvT hZ (hw _ (List.mem_of_getElem? (i := 0) rfl))) (mvT hZ (hw _ (List.mem_of_getElem? (i := 1) rfl))) (mvT hZ (hw _ (List.mem_of_getElem? (i := 2) rfl))) (mvT hZ (hw _ (List.mem_of_getElem? (i := 3) rfl))) (by decide) (backOf (W := 0) (rm1b l Z a0 hw [] p0 aGREATER h0 n0 Z0 P2 hl hg) hZ (hw _ (List.mem_of_getElem? (i := 3) rfl)) (hw _ (List.mem_of_getElem? (i := 2) rfl)) (by decide) (by decide)) (g := (mkF m 1 #[.val (.int p0), .unset, .unset, .unset, .unset, .unset] [(.int p0)])) rfl (by rw [hml]; rfl) (argsL := [(.int p0)]) (rest := []) (lenOf pd_0 rfl) rfl (by show 2 * 0 + _ ≤ _; exact Nat.le_of_eq rfl) (hb hby at_1) (fun _ _ => ⟨rfl, e0, (by decide : 0 + 0 ≤ _), (by decide : 0 + 0 ≤ _)⟩)
      dsimp only [Pt.U, Pt.locs, Pt.cells, Pt.slots] at X_6 l_6 y_6 z_6 st_6 hQ_6
      subst l_6 y_6 z_6
      obtain ⟨rfl, M_6, q_6⟩ := hQ_6
      have N_6 := Fr.app N0 M_6
      refine own_st (S' := T_6.setTop (mkF m 4 #[.val (.int p0), .unset, .unset, .unset, .unset, .unset] [(.ref aGREATER)])) st_6 ?_
      refine own_st (S' := T_6.setTop (mkF m 5 #[.val (.int p0), .val (.ref aGREATER), .unset, .unset, .unset, .unset] [])) (fun t_ k_ => XS.astoreN X_6.here hx rfl (hb hby at_4) rfl rfl (l' := #[.val (.int p0), .val (.ref aGREATER), .unset, .unset, .unset, .unset]) rfl k_) ?_
      refine own_st (S' := T_6.setTop (mkF m 6 #[.val (.int p0), .val (.ref aGREATER), .unset, .unset, .unset, .unset] [(.ref aGREATER)])) (fun t_ k_ => XS.aloadN X_6.here hx rfl (hb hby at_5) rfl rfl k_) ?_
      obtain ⟨T_7, X_7, e_7, st_7⟩ := getS2 X_6 hx hZ hown (host := "") (Or.inl (hw _ (List.mem_of_getElem? (i := 6) rfl))) Via.refl q_6 P0 (g := (mkF m 6 #[.val (.int p0), .val (.ref aGREATER), .unset, .unset, .unset, .unset] [(.ref aGREATER)])) rfl (hb hby at_6)
      refine own_st (S' := T_7.setTop (mkF m 9 #[.val (.int p0), .val (.ref aGREATER), .unset, .unset, .unset, .unset] [(.ref aLESS), (.ref aGREATER)])) st_7 ?_
      refine own_st (S' := T_7.setTop (mkF m 16 #[.val (.int p0), .val (.ref aGREATER), .unset, .unset, .unset, .unset] [])) (fun t_ k_ => Jvm.RoadKit.acmp (g := (mkF m 9 #[.val (.int p0), .val (.ref aGREATER), .unset, .unset, .unset, .unset] [(.ref aLESS), (.ref aGREATER)])) X_7 hx rfl rfl rfl (pc0 := 9) (pc' := 16) (same := false) rfl (hb hby at_9) rfl (decide_eq_false fun q => (Ne.symm ne_aLESS_aGREATER) (Value.ref.inj q)) (by decide) (by decide) k_) ?_
      refine own_st (S' := T_7.setTop (mkF m 17 #[.val (.int p0), .val (.ref aGREATER), .unset, .unset, .unset, .unset] [(.int (0 : Int32))])) (fun t_ k_ => XS.iconst X_7.here hx rfl (hb hby at_16) k_) ?_
      refine own_st (S' := T_7.setTop (mkF m 18 #[.val (.int p0), .val (.ref aGREATER), .val (.int (0 : Int32)), .unset, .unset, .unset] [])) (fun t_ k_ => XS.istoreN X_7.here hx rfl (hb hby at_17) rfl (l' := #[.val (.int p0), .val (.ref aGREATER), .val (.int (0 : Int32)), .unset, .unset, .unset]) rfl k_) ?_
      refine own_st (S' := T_7.setTop (mkF m 19 #[.val (.int p0), .val (.ref aGREATER), .val (.int (0 : Int32)), .unset, .unset, .unset] [(.ref aGREATER)])) (fun t_ k_ => XS.aloadN X_7.here hx rfl (hb hby at_18) rfl rfl k_) ?_
      obtain ⟨T_8, X_8, e_8, st_8⟩ := getS2 X_7 hx hZ hown (host := "") (Or.inl (hw _ (List.mem_of_getElem? (i := 8) rfl))) Via.refl e_7 P1 (g := (mkF m 19 #[.val (.int p0), .val (.ref aGREATER), .val (.int (0 : Int32)), .unset, .unset, .unset] [(.ref aGREATER)])) rfl (hb hby at_19)
      refine own_st (S' := T_8.setTop (mkF m 22 #[.val (.int p0), .val (.ref aGREATER), .val (.int (0 : Int32)), .unset, .unset, .unset] [(.ref aEQUAL), (.ref aGREATER)])) st_8 ?_
      refine own_st (S' := T_8.setTop (mkF m 29 #[.val (.int p0), .val (.ref aGREATER), .val (.int (0 : Int32)), .unset, .unset, .unset] [])) (fun t_ k_ => Jvm.RoadKit.acmp (g := (mkF m 22 #[.val (.int p0), .val (.ref aGREATER), .val (.int (0 : Int32)), .unset, .unset, .unset] [(.ref aEQUAL), (.ref aGREATER)])) X_8 hx rfl rfl rfl (pc0 := 22) (pc' := 29) (same := false) rfl (hb hby at_22) rfl (decide_eq_false fun q => (Ne.symm ne_aEQUAL_aGREATER) (Value.ref.inj q)) (by decide) (by decide) k_) ?_
      refine own_st (S' := T_8.setTop (mkF m 30 #[.val (.int p0), .val (.ref aGREATER), .val (.int (0 : Int32)), .unset, .unset, .unset] [(.int (0 : Int32))])) (fun t_ k_ => XS.iconst X_8.here hx rfl (hb hby at_29) k_) ?_
      refine own_st (S' := T_8.setTop (mkF m 31 #[.val (.int p0), .val (.ref aGREATER), .val (.int (0 : Int32)), .val (.int (0 : Int32)), .unset, .unset] [])) (fun t_ k_ => XS.istoreN X_8.here hx rfl (hb hby at_30) rfl (l' := #[.val (.int p0), .val (.ref aGREATER), .val (.int (0 : Int32)), .val (.int (0 : Int32)), .unset, .unset]) rfl k_) ?_
      refine own_st (S' := T_8.setTop (mkF m 32 #[.val (.int p0), .val (.ref aGREATER), .val (.int (0 : Int32)), .val (.int (0 : Int32)), .unset, .unset] [(.ref aGREATER)])) (fun t_ k_ => XS.aloadN X_8.here hx rfl (hb hby at_31) rfl rfl k_) ?_
      obtain ⟨T_9, X_9, e_9, st_9⟩ := getS2 X_8 hx hZ hown (host := "") (Or.inl (hw _ (List.mem_of_getElem? (i := 9) rfl))) Via.refl e_8 P2 (g := (mkF m 32 #[.val (.int p0), .val (.ref aGREATER), .val (.int (0 : Int32)), .val (.int (0 : Int32)), .unset, .unset] [(.ref aGREATER)])) rfl (hb hby at_32)
      refine own_st (S' := T_9.setTop (mkF m 35 #[.val (.int p0), .val (.ref aGREATER), .val (.int (0 : Int32)), .val (.int (0 : Int32)), .unset, .unset] [(.ref aGREATER), (.ref aGREATER)])) st_9 ?_
      refine own_st (S' := T_9.setTop (mkF m 38 #[.val (.int p0), .val (.ref aGREATER), .val (.int (0 : Int32)), .val (.int (0 : Int32)), .unset, .unset] [])) (fun t_ k_ => Jvm.RoadKit.acmp (g := (mkF m 35 #[.val (.int p0), .val (.ref aGREATER), .val (.int (0 : Int32)), .val (.int (0 : Int32)), .unset, .unset] [(.ref aGREATER), (.ref aGREATER)])) X_9 hx rfl rfl rfl (pc0 := 35) (pc' := 38) (same := true) rfl (hb hby at_35) rfl (decide_eq_true rfl) (by decide) (by decide) k_) ?_
      refine own_st (S' := T_9.setTop (mkF m 39 #[.val (.int p0), .val (.ref aGREATER), .val (.int (0 : Int32)), .val (.int (0 : Int32)), .unset, .unset] [(.int (1 : Int32))])) (fun t_ k_ => XS.iconst X_9.here hx rfl (hb hby at_38) k_) ?_
      refine own_st (S' := T_9.setTop (mkF m 43 #[.val (.int p0), .val (.ref aGREATER), .val (.int (0 : Int32)), .val (.int (0 : Int32)), .unset, .unset] [(.int (1 : Int32))])) (fun t_ k_ => XS.goto X_9.here hx rfl (pc0 := 39) (pc' := 43) rfl (hb hby at_39) (by decide) (by decide) k_) ?_
      refine own_st (S' := T_9.setTop (mkF m 45 #[.val (.int p0), .val (.ref aGREATER), .val (.int (0 : Int32)), .val (.int (0 : Int32)), .val (.int (1 : Int32)), .unset] [])) (fun t_ k_ => XS.istore X_9.here hx rfl (hb hby at_43) rfl (l' := #[.val (.int p0), .val (.ref aGREATER), .val (.int (0 : Int32)), .val (.int (0 : Int32)), .val (.int (1 : Int32)), .unset]) rfl k_) ?_
      refine own_st (S' := T_9.setTop (mkF m 46 #[.val (.int p0), .val (.ref aGREATER), .val (.int (0 : Int32)), .val (.int (0 : Int32)), .val (.int (1 : Int32)), .unset] [(.ref aGREATER)])) (fun t_ k_ => XS.aloadN X_9.here hx rfl (hb hby at_45) rfl rfl k_) ?_
      obtain ⟨T_10, X_10, e_10, st_10⟩ := getS2 X_9 hx hZ hown (host := "") (Or.inl (hw _ (List.mem_of_getElem? (i := 11) rfl))) Via.refl e_9 P3 (g := (mkF m 46 #[.val (.int p0), .val (.ref aGREATER), .val (.int (0 : Int32)), .val (.int (0 : Int32)), .val (.int (1 : Int32)), .unset] [(.ref aGREATER)])) rfl (hb hby at_46)
      refine own_st (S' := T_10.setTop (mkF m 49 #[.val (.int p0), .val (.ref aGREATER), .val (.int (0 : Int32)), .val (.int (0 : Int32)), .val (.int (1 : Int32)), .unset] [(.ref aINCOMPARABLE), (.ref aGREATER)])) st_10 ?_
      refine own_st (S' := T_10.setTop (mkF m 56 #[.val (.int p0), .val (.ref aGREATER), .val (.int (0 : Int32)), .val (.int (0 : Int32)), .val (.int (1 : Int32)), .unset] [])) (fun t_ k_ => Jvm.RoadKit.acmp (g := (mkF m 49 #[.val (.int p0), .val (.ref aGREATER), .val (.int (0 : Int32)), .val (.int (0 : Int32)), .val (.int (1 : Int32)), .unset] [(.ref aINCOMPARABLE), (.ref aGREATER)])) X_10 hx rfl rfl rfl (pc0 := 49) (pc' := 56) (same := false) rfl (hb hby at_49) rfl (decide_eq_false fun q => ne_aGREATER_aINCOMPARABLE (Value.ref.inj q)) (by decide) (by decide) k_) ?_
      refine own_st (S' := T_10.setTop (mkF m 57 #[.val (.int p0), .val (.ref aGREATER), .val (.int (0 : Int32)), .val (.int (0 : Int32)), .val (.int (1 : Int32)), .unset] [(.int (0 : Int32))])) (fun t_ k_ => XS.iconst X_10.here hx rfl (hb hby at_56) k_) ?_
      refine own_st (S' := T_10.setTop (mkF m 59 #[.val (.int p0), .val (.ref aGREATER), .val (.int (0 : Int32)), .val (.int (0 : Int32)), .val (.int (1 : Int32)), .val (.int (0 : Int32))] [])) (fun t_ k_ => XS.istore X_10.here hx rfl (hb hby at_57) rfl (l' := #[.val (.int p0), .val (.ref aGREATER), .val (.int (0 : Int32)), .val (.int (0 : Int32)), .val (.int (1 : Int32)), .val (.int (0 : Int32))]) rfl k_) ?_
      refine own_st (S' := T_10.setTop (mkF m 60 #[.val (.int p0), .val (.ref aGREATER), .val (.int (0 : Int32)), .val (.int (0 : Int32)), .val (.int (1 : Int32)), .val (.int (0 : Int32))] [(.int (0 : Int32))])) (fun t_ k_ => XS.iloadN X_10.here hx rfl (hb hby at_59) rfl k_) ?_
      refine own_st (S' := T_10.setTop (mkF m 61 #[.val (.int p0), .val (.ref aGREATER), .val (.int (0 : Int32)), .val (.int (0 : Int32)), .val (.int (1 : Int32)), .val (.int (0 : Int32))] [(.int p0), (.int (0 : Int32))])) (fun t_ k_ => XS.iloadN X_10.here hx rfl (hb hby at_60) rfl k_) ?_
      refine own_st (S' := T_10.setTop (mkF m 68 #[.val (.int p0), .val (.ref aGREATER), .val (.int (0 : Int32)), .val (.int (0 : Int32)), .val (.int (1 : Int32)), .val (.int (0 : Int32))] [(.int (0 : Int32))])) (fun t_ k_ => XS.ifYes X_10.here hx rfl (pc0 := 61) (pc' := 68) rfl (hb hby at_61) rfl ((if0 _ _).trans (flt hl).2.1) (by decide) (by decide) k_) ?_
      refine own_st (S' := T_10.setTop (mkF m 69 #[.val (.int p0), .val (.ref aGREATER), .val (.int (0 : Int32)), .val (.int (0 : Int32)), .val (.int (1 : Int32)), .val (.int (0 : Int32))] [(.int (0 : Int32)), (.int (0 : Int32))])) (fun t_ k_ => XS.iconst X_10.here hx rfl (hb hby at_68) k_) ?_
      refine own_st (S' := T_10.setTop (mkF m 72 #[.val (.int p0), .val (.ref aGREATER), .val (.int (0 : Int32)), .val (.int (0 : Int32)), .val (.int (1 : Int32)), .val (.int (0 : Int32))] [])) (fun t_ k_ => XS.icmpNo X_10.here hx rfl (hb hby at_69) rfl (teq (by decide : (0 : Int32) = (0 : Int32))).2 k_) ?_
      refine own_st (S' := T_10.setTop (mkF m 73 #[.val (.int p0), .val (.ref aGREATER), .val (.int (0 : Int32)), .val (.int (0 : Int32)), .val (.int (1 : Int32)), .val (.int (0 : Int32))] [(.int (0 : Int32))])) (fun t_ k_ => XS.iloadN X_10.here hx rfl (hb hby at_72) rfl k_) ?_
      refine own_st (S' := T_10.setTop (mkF m 74 #[.val (.int p0), .val (.ref aGREATER), .val (.int (0 : Int32)), .val (.int (0 : Int32)), .val (.int (1 : Int32)), .val (.int (0 : Int32))] [(.int p0), (.int (0 : Int32))])) (fun t_ k_ => XS.iloadN X_10.here hx rfl (hb hby at_73) rfl k_) ?_
      by_cases hc74 : p0 = (0 : Int32)
      · rw [hc74] at hg; exact absurd hg (by decide)
      · refine own_st (S' := T_10.setTop (mkF m 81 #[.val (.int p0), .val (.ref aGREATER), .val (.int (0 : Int32)), .val (.int (0 : Int32)), .val (.int (1 : Int32)), .val (.int (0 : Int32))] [(.int (0 : Int32))])) (fun t_ k_ => XS.ifYes X_10.here hx rfl (pc0 := 74) (pc' := 81) rfl (hb hby at_74) rfl ((if0 _ _).trans (feq hc74).2) (by decide) (by decide) k_) ?_
        refine own_st (S' := T_10.setTop (mkF m 82 #[.val (.int p0), .val (.ref aGREATER), .val (.int (0 : Int32)), .val (.int (0 : Int32)), .val (.int (1 : Int32)), .val (.int (0 : Int32))] [(.int (0 : Int32)), (.int (0 : Int32))])) (fun t_ k_ => XS.iconst X_10.here hx rfl (hb hby at_81) k_) ?_
        refine own_st (S' := T_10.setTop (mkF m 85 #[.val (.int p0), .val (.ref aGREATER), .val (.int (0 : Int32)), .val (.int (0 : Int32)), .val (.int (1 : Int32)), .val (.int (0 : Int32))] [])) (fun t_ k_ => XS.icmpNo X_10.here hx rfl (hb hby at_82) rfl (teq (by decide : (0 : Int32) = (0 : Int32))).2 k_) ?_
        refine own_st (S' := T_10.setTop (mkF m 87 #[.val (.int p0), .val (.ref aGREATER), .val (.int (0 : Int32)), .val (.int (0 : Int32)), .val (.int (1 : Int32)), .val (.int (0 : Int32))] [(.int (1 : Int32))])) (fun t_ k_ => XS.iload X_10.here hx rfl (hb hby at_85) rfl k_) ?_
        refine own_st (S' := T_10.setTop (mkF m 88 #[.val (.int p0), .val (.ref aGREATER), .val (.int (0 : Int32)), .val (.int (0 : Int32)), .val (.int (1 : Int32)), .val (.int (0 : Int32))] [(.int p0), (.int (1 : Int32))])) (fun t_ k_ => XS.iloadN X_10.here hx rfl (hb hby at_87) rfl k_) ?_
        refine own_st (S' := T_10.setTop (mkF m 91 #[.val (.int p0), .val (.ref aGREATER), .val (.int (0 : Int32)), .val (.int (0 : Int32)), .val (.int (1 : Int32)), .val (.int (0 : Int32))] [(.int (1 : Int32))])) (fun t_ k_ => XS.ifNo X_10.here hx rfl (hb hby at_88) rfl ((if0 _ _).trans (tlt hg).2.2.2) k_) ?_
        refine own_st (S' := T_10.setTop (mkF m 92 #[.val (.int p0), .val (.ref aGREATER), .val (.int (0 : Int32)), .val (.int (0 : Int32)), .val (.int (1 : Int32)), .val (.int (0 : Int32))] [(.int (1 : Int32)), (.int (1 : Int32))])) (fun t_ k_ => XS.iconst X_10.here hx rfl (hb hby at_91) k_) ?_
        refine own_st (S' := T_10.setTop (mkF m 96 #[.val (.int p0), .val (.ref aGREATER), .val (.int (0 : Int32)), .val (.int (0 : Int32)), .val (.int (1 : Int32)), .val (.int (0 : Int32))] [(.int (1 : Int32)), (.int (1 : Int32))])) (fun t_ k_ => XS.goto X_10.here hx rfl (pc0 := 92) (pc' := 96) rfl (hb hby at_92) (by decide) (by decide) k_) ?_
        refine own_st (S' := T_10.setTop (mkF m 99 #[.val (.int p0), .val (.ref aGREATER), .val (.int (0 : Int32)), .val (.int (0 : Int32)), .val (.int (1 : Int32)), .val (.int (0 : Int32))] [])) (fun t_ k_ => XS.icmpNo X_10.here hx rfl (hb hby at_96) rfl (teq (by decide : (1 : Int32) = (1 : Int32))).2 k_) ?_
        refine own_st (S' := T_10.setTop (mkF m 101 #[.val (.int p0), .val (.ref aGREATER), .val (.int (0 : Int32)), .val (.int (0 : Int32)), .val (.int (1 : Int32)), .val (.int (0 : Int32))] [(.int (0 : Int32))])) (fun t_ k_ => XS.iload X_10.here hx rfl (hb hby at_99) rfl k_) ?_
        refine own_st (S' := T_10.setTop (mkF m 104 #[.val (.int p0), .val (.ref aGREATER), .val (.int (0 : Int32)), .val (.int (0 : Int32)), .val (.int (1 : Int32)), .val (.int (0 : Int32))] [])) (fun t_ k_ => XS.ifNo X_10.here hx rfl (hb hby at_101) rfl ((if0 _ _).trans (teq (by decide : (0 : Int32) = (0 : Int32))).2) k_) ?_
        refine own_st (S' := T_10.setTop (mkF m 105 #[.val (.int p0), .val (.ref aGREATER), .val (.int (0 : Int32)), .val (.int (0 : Int32)), .val (.int (1 : Int32)), .val (.int (0 : Int32))] [(.int (1 : Int32))])) (fun t_ k_ => XS.iconst X_10.here hx rfl (hb hby at_104) k_) ?_
        refine own_st (S' := T_10.setTop (mkF m 109 #[.val (.int p0), .val (.ref aGREATER), .val (.int (0 : Int32)), .val (.int (0 : Int32)), .val (.int (1 : Int32)), .val (.int (0 : Int32))] [(.int (1 : Int32))])) (fun t_ k_ => XS.goto X_10.here hx rfl (pc0 := 105) (pc' := 109) rfl (hb hby at_105) (by decide) (by decide) k_) ?_
        obtain ⟨fs, hr, hrun, hended, hW, hsame⟩ := X_10.leave (v := some (.int (1 : Int32))) (fun h => by rw [Bd.returns] at h; cases h)
        refine ⟨_, _, retN X_10 hx (t := .boolean) Bd.returns (by simp) (hb hby at_109) hr, hrun, hended, _, _, rfl, ?_, ⟨_, rfl⟩, hW, hsame.mono (by decide) (by decide)⟩
        show Q0 Z p0 aLESS aEQUAL aGREATER aINCOMPARABLE h0 n0 _ T_10.heap _
        rw [e_10]
        exact ⟨rfl, N_6⟩
    · obtain ⟨_, _, ⟨T_11, L_11, k_11, n_11⟩, -, X_11, ⟨Lc_11, hQ_11, l_11, y_11, z_11⟩, st_11⟩ := Jvm.LawKit.callS X0 hx (y := (⟨"com/example/frisk/frisk/Order", "of", "(I)Lcom/example/frisk/frisk/Order;"⟩ : MethodName)) hown (mvT hZ (hw _ (List.mem_of_getElem? (i := 0) rfl))) (mvT hZ (hw _ (List.mem_of_getElem? (i := 1) rfl))) (mvT hZ (hw _ (List.mem_of_getElem? (i := 2) rfl))) (mvT hZ (hw _ (List.mem_of_getElem? (i := 3) rfl))) (by decide) (backOf (W := 0) (rm1c l Z a0 hw [] p0 aEQUAL h0 n0 Z0 P1 hl hg) hZ (hw _ (List.mem_of_getElem? (i := 3) rfl)) (hw _ (List.mem_of_getElem? (i := 2) rfl)) (by decide) (by decide)) (g := (mkF m 1 #[.val (.int p0), .unset, .unset, .unset, .unset, .unset] [(.int p0)])) rfl (by rw [hml]; rfl) (argsL := [(.int p0)]) (rest := []) (lenOf pd_0 rfl) rfl (by show 2 * 0 + _ ≤ _; exact Nat.le_of_eq rfl) (hb hby at_1) (fun _ _ => ⟨rfl, e0, (by decide : 0 + 0 ≤ _), (by decide : 0 + 0 ≤ _)⟩)
      dsimp only [Pt.U, Pt.locs, Pt.cells, Pt.slots] at X_11 l_11 y_11 z_11 st_11 hQ_11
      subst l_11 y_11 z_11
      obtain ⟨rfl, M_11, q_11⟩ := hQ_11
      have N_11 := Fr.app N0 M_11
      refine own_st (S' := T_11.setTop (mkF m 4 #[.val (.int p0), .unset, .unset, .unset, .unset, .unset] [(.ref aEQUAL)])) st_11 ?_
      refine own_st (S' := T_11.setTop (mkF m 5 #[.val (.int p0), .val (.ref aEQUAL), .unset, .unset, .unset, .unset] [])) (fun t_ k_ => XS.astoreN X_11.here hx rfl (hb hby at_4) rfl rfl (l' := #[.val (.int p0), .val (.ref aEQUAL), .unset, .unset, .unset, .unset]) rfl k_) ?_
      refine own_st (S' := T_11.setTop (mkF m 6 #[.val (.int p0), .val (.ref aEQUAL), .unset, .unset, .unset, .unset] [(.ref aEQUAL)])) (fun t_ k_ => XS.aloadN X_11.here hx rfl (hb hby at_5) rfl rfl k_) ?_
      obtain ⟨T_12, X_12, e_12, st_12⟩ := getS2 X_11 hx hZ hown (host := "") (Or.inl (hw _ (List.mem_of_getElem? (i := 6) rfl))) Via.refl q_11 P0 (g := (mkF m 6 #[.val (.int p0), .val (.ref aEQUAL), .unset, .unset, .unset, .unset] [(.ref aEQUAL)])) rfl (hb hby at_6)
      refine own_st (S' := T_12.setTop (mkF m 9 #[.val (.int p0), .val (.ref aEQUAL), .unset, .unset, .unset, .unset] [(.ref aLESS), (.ref aEQUAL)])) st_12 ?_
      refine own_st (S' := T_12.setTop (mkF m 16 #[.val (.int p0), .val (.ref aEQUAL), .unset, .unset, .unset, .unset] [])) (fun t_ k_ => Jvm.RoadKit.acmp (g := (mkF m 9 #[.val (.int p0), .val (.ref aEQUAL), .unset, .unset, .unset, .unset] [(.ref aLESS), (.ref aEQUAL)])) X_12 hx rfl rfl rfl (pc0 := 9) (pc' := 16) (same := false) rfl (hb hby at_9) rfl (decide_eq_false fun q => (Ne.symm ne_aLESS_aEQUAL) (Value.ref.inj q)) (by decide) (by decide) k_) ?_
      refine own_st (S' := T_12.setTop (mkF m 17 #[.val (.int p0), .val (.ref aEQUAL), .unset, .unset, .unset, .unset] [(.int (0 : Int32))])) (fun t_ k_ => XS.iconst X_12.here hx rfl (hb hby at_16) k_) ?_
      refine own_st (S' := T_12.setTop (mkF m 18 #[.val (.int p0), .val (.ref aEQUAL), .val (.int (0 : Int32)), .unset, .unset, .unset] [])) (fun t_ k_ => XS.istoreN X_12.here hx rfl (hb hby at_17) rfl (l' := #[.val (.int p0), .val (.ref aEQUAL), .val (.int (0 : Int32)), .unset, .unset, .unset]) rfl k_) ?_
      refine own_st (S' := T_12.setTop (mkF m 19 #[.val (.int p0), .val (.ref aEQUAL), .val (.int (0 : Int32)), .unset, .unset, .unset] [(.ref aEQUAL)])) (fun t_ k_ => XS.aloadN X_12.here hx rfl (hb hby at_18) rfl rfl k_) ?_
      obtain ⟨T_13, X_13, e_13, st_13⟩ := getS2 X_12 hx hZ hown (host := "") (Or.inl (hw _ (List.mem_of_getElem? (i := 8) rfl))) Via.refl e_12 P1 (g := (mkF m 19 #[.val (.int p0), .val (.ref aEQUAL), .val (.int (0 : Int32)), .unset, .unset, .unset] [(.ref aEQUAL)])) rfl (hb hby at_19)
      refine own_st (S' := T_13.setTop (mkF m 22 #[.val (.int p0), .val (.ref aEQUAL), .val (.int (0 : Int32)), .unset, .unset, .unset] [(.ref aEQUAL), (.ref aEQUAL)])) st_13 ?_
      refine own_st (S' := T_13.setTop (mkF m 25 #[.val (.int p0), .val (.ref aEQUAL), .val (.int (0 : Int32)), .unset, .unset, .unset] [])) (fun t_ k_ => Jvm.RoadKit.acmp (g := (mkF m 22 #[.val (.int p0), .val (.ref aEQUAL), .val (.int (0 : Int32)), .unset, .unset, .unset] [(.ref aEQUAL), (.ref aEQUAL)])) X_13 hx rfl rfl rfl (pc0 := 22) (pc' := 25) (same := true) rfl (hb hby at_22) rfl (decide_eq_true rfl) (by decide) (by decide) k_) ?_
      refine own_st (S' := T_13.setTop (mkF m 26 #[.val (.int p0), .val (.ref aEQUAL), .val (.int (0 : Int32)), .unset, .unset, .unset] [(.int (1 : Int32))])) (fun t_ k_ => XS.iconst X_13.here hx rfl (hb hby at_25) k_) ?_
      refine own_st (S' := T_13.setTop (mkF m 30 #[.val (.int p0), .val (.ref aEQUAL), .val (.int (0 : Int32)), .unset, .unset, .unset] [(.int (1 : Int32))])) (fun t_ k_ => XS.goto X_13.here hx rfl (pc0 := 26) (pc' := 30) rfl (hb hby at_26) (by decide) (by decide) k_) ?_
      refine own_st (S' := T_13.setTop (mkF m 31 #[.val (.int p0), .val (.ref aEQUAL), .val (.int (0 : Int32)), .val (.int (1 : Int32)), .unset, .unset] [])) (fun t_ k_ => XS.istoreN X_13.here hx rfl (hb hby at_30) rfl (l' := #[.val (.int p0), .val (.ref aEQUAL), .val (.int (0 : Int32)), .val (.int (1 : Int32)), .unset, .unset]) rfl k_) ?_
      refine own_st (S' := T_13.setTop (mkF m 32 #[.val (.int p0), .val (.ref aEQUAL), .val (.int (0 : Int32)), .val (.int (1 : Int32)), .unset, .unset] [(.ref aEQUAL)])) (fun t_ k_ => XS.aloadN X_13.here hx rfl (hb hby at_31) rfl rfl k_) ?_
      obtain ⟨T_14, X_14, e_14, st_14⟩ := getS2 X_13 hx hZ hown (host := "") (Or.inl (hw _ (List.mem_of_getElem? (i := 9) rfl))) Via.refl e_13 P2 (g := (mkF m 32 #[.val (.int p0), .val (.ref aEQUAL), .val (.int (0 : Int32)), .val (.int (1 : Int32)), .unset, .unset] [(.ref aEQUAL)])) rfl (hb hby at_32)
      refine own_st (S' := T_14.setTop (mkF m 35 #[.val (.int p0), .val (.ref aEQUAL), .val (.int (0 : Int32)), .val (.int (1 : Int32)), .unset, .unset] [(.ref aGREATER), (.ref aEQUAL)])) st_14 ?_
      refine own_st (S' := T_14.setTop (mkF m 42 #[.val (.int p0), .val (.ref aEQUAL), .val (.int (0 : Int32)), .val (.int (1 : Int32)), .unset, .unset] [])) (fun t_ k_ => Jvm.RoadKit.acmp (g := (mkF m 35 #[.val (.int p0), .val (.ref aEQUAL), .val (.int (0 : Int32)), .val (.int (1 : Int32)), .unset, .unset] [(.ref aGREATER), (.ref aEQUAL)])) X_14 hx rfl rfl rfl (pc0 := 35) (pc' := 42) (same := false) rfl (hb hby at_35) rfl (decide_eq_false fun q => ne_aEQUAL_aGREATER (Value.ref.inj q)) (by decide) (by decide) k_) ?_
      refine own_st (S' := T_14.setTop (mkF m 43 #[.val (.int p0), .val (.ref aEQUAL), .val (.int (0 : Int32)), .val (.int (1 : Int32)), .unset, .unset] [(.int (0 : Int32))])) (fun t_ k_ => XS.iconst X_14.here hx rfl (hb hby at_42) k_) ?_
      refine own_st (S' := T_14.setTop (mkF m 45 #[.val (.int p0), .val (.ref aEQUAL), .val (.int (0 : Int32)), .val (.int (1 : Int32)), .val (.int (0 : Int32)), .unset] [])) (fun t_ k_ => XS.istore X_14.here hx rfl (hb hby at_43) rfl (l' := #[.val (.int p0), .val (.ref aEQUAL), .val (.int (0 : Int32)), .val (.int (1 : Int32)), .val (.int (0 : Int32)), .unset]) rfl k_) ?_
      refine own_st (S' := T_14.setTop (mkF m 46 #[.val (.int p0), .val (.ref aEQUAL), .val (.int (0 : Int32)), .val (.int (1 : Int32)), .val (.int (0 : Int32)), .unset] [(.ref aEQUAL)])) (fun t_ k_ => XS.aloadN X_14.here hx rfl (hb hby at_45) rfl rfl k_) ?_
      obtain ⟨T_15, X_15, e_15, st_15⟩ := getS2 X_14 hx hZ hown (host := "") (Or.inl (hw _ (List.mem_of_getElem? (i := 11) rfl))) Via.refl e_14 P3 (g := (mkF m 46 #[.val (.int p0), .val (.ref aEQUAL), .val (.int (0 : Int32)), .val (.int (1 : Int32)), .val (.int (0 : Int32)), .unset] [(.ref aEQUAL)])) rfl (hb hby at_46)
      refine own_st (S' := T_15.setTop (mkF m 49 #[.val (.int p0), .val (.ref aEQUAL), .val (.int (0 : Int32)), .val (.int (1 : Int32)), .val (.int (0 : Int32)), .unset] [(.ref aINCOMPARABLE), (.ref aEQUAL)])) st_15 ?_
      refine own_st (S' := T_15.setTop (mkF m 56 #[.val (.int p0), .val (.ref aEQUAL), .val (.int (0 : Int32)), .val (.int (1 : Int32)), .val (.int (0 : Int32)), .unset] [])) (fun t_ k_ => Jvm.RoadKit.acmp (g := (mkF m 49 #[.val (.int p0), .val (.ref aEQUAL), .val (.int (0 : Int32)), .val (.int (1 : Int32)), .val (.int (0 : Int32)), .unset] [(.ref aINCOMPARABLE), (.ref aEQUAL)])) X_15 hx rfl rfl rfl (pc0 := 49) (pc' := 56) (same := false) rfl (hb hby at_49) rfl (decide_eq_false fun q => ne_aEQUAL_aINCOMPARABLE (Value.ref.inj q)) (by decide) (by decide) k_) ?_
      refine own_st (S' := T_15.setTop (mkF m 57 #[.val (.int p0), .val (.ref aEQUAL), .val (.int (0 : Int32)), .val (.int (1 : Int32)), .val (.int (0 : Int32)), .unset] [(.int (0 : Int32))])) (fun t_ k_ => XS.iconst X_15.here hx rfl (hb hby at_56) k_) ?_
      refine own_st (S' := T_15.setTop (mkF m 59 #[.val (.int p0), .val (.ref aEQUAL), .val (.int (0 : Int32)), .val (.int (1 : Int32)), .val (.int (0 : Int32)), .val (.int (0 : Int32))] [])) (fun t_ k_ => XS.istore X_15.here hx rfl (hb hby at_57) rfl (l' := #[.val (.int p0), .val (.ref aEQUAL), .val (.int (0 : Int32)), .val (.int (1 : Int32)), .val (.int (0 : Int32)), .val (.int (0 : Int32))]) rfl k_) ?_
      refine own_st (S' := T_15.setTop (mkF m 60 #[.val (.int p0), .val (.ref aEQUAL), .val (.int (0 : Int32)), .val (.int (1 : Int32)), .val (.int (0 : Int32)), .val (.int (0 : Int32))] [(.int (0 : Int32))])) (fun t_ k_ => XS.iloadN X_15.here hx rfl (hb hby at_59) rfl k_) ?_
      refine own_st (S' := T_15.setTop (mkF m 61 #[.val (.int p0), .val (.ref aEQUAL), .val (.int (0 : Int32)), .val (.int (1 : Int32)), .val (.int (0 : Int32)), .val (.int (0 : Int32))] [(.int p0), (.int (0 : Int32))])) (fun t_ k_ => XS.iloadN X_15.here hx rfl (hb hby at_60) rfl k_) ?_
      refine own_st (S' := T_15.setTop (mkF m 68 #[.val (.int p0), .val (.ref aEQUAL), .val (.int (0 : Int32)), .val (.int (1 : Int32)), .val (.int (0 : Int32)), .val (.int (0 : Int32))] [(.int (0 : Int32))])) (fun t_ k_ => XS.ifYes X_15.here hx rfl (pc0 := 61) (pc' := 68) rfl (hb hby at_61) rfl ((if0 _ _).trans (flt hl).2.1) (by decide) (by decide) k_) ?_
      refine own_st (S' := T_15.setTop (mkF m 69 #[.val (.int p0), .val (.ref aEQUAL), .val (.int (0 : Int32)), .val (.int (1 : Int32)), .val (.int (0 : Int32)), .val (.int (0 : Int32))] [(.int (0 : Int32)), (.int (0 : Int32))])) (fun t_ k_ => XS.iconst X_15.here hx rfl (hb hby at_68) k_) ?_
      refine own_st (S' := T_15.setTop (mkF m 72 #[.val (.int p0), .val (.ref aEQUAL), .val (.int (0 : Int32)), .val (.int (1 : Int32)), .val (.int (0 : Int32)), .val (.int (0 : Int32))] [])) (fun t_ k_ => XS.icmpNo X_15.here hx rfl (hb hby at_69) rfl (teq (by decide : (0 : Int32) = (0 : Int32))).2 k_) ?_
      refine own_st (S' := T_15.setTop (mkF m 73 #[.val (.int p0), .val (.ref aEQUAL), .val (.int (0 : Int32)), .val (.int (1 : Int32)), .val (.int (0 : Int32)), .val (.int (0 : Int32))] [(.int (1 : Int32))])) (fun t_ k_ => XS.iloadN X_15.here hx rfl (hb hby at_72) rfl k_) ?_
      refine own_st (S' := T_15.setTop (mkF m 74 #[.val (.int p0), .val (.ref aEQUAL), .val (.int (0 : Int32)), .val (.int (1 : Int32)), .val (.int (0 : Int32)), .val (.int (0 : Int32))] [(.int p0), (.int (1 : Int32))])) (fun t_ k_ => XS.iloadN X_15.here hx rfl (hb hby at_73) rfl k_) ?_
      by_cases hc74 : p0 = (0 : Int32)
      · refine own_st (S' := T_15.setTop (mkF m 77 #[.val (.int p0), .val (.ref aEQUAL), .val (.int (0 : Int32)), .val (.int (1 : Int32)), .val (.int (0 : Int32)), .val (.int (0 : Int32))] [(.int (1 : Int32))])) (fun t_ k_ => XS.ifNo X_15.here hx rfl (hb hby at_74) rfl ((if0 _ _).trans (teq hc74).2) k_) ?_
        refine own_st (S' := T_15.setTop (mkF m 78 #[.val (.int p0), .val (.ref aEQUAL), .val (.int (0 : Int32)), .val (.int (1 : Int32)), .val (.int (0 : Int32)), .val (.int (0 : Int32))] [(.int (1 : Int32)), (.int (1 : Int32))])) (fun t_ k_ => XS.iconst X_15.here hx rfl (hb hby at_77) k_) ?_
        refine own_st (S' := T_15.setTop (mkF m 82 #[.val (.int p0), .val (.ref aEQUAL), .val (.int (0 : Int32)), .val (.int (1 : Int32)), .val (.int (0 : Int32)), .val (.int (0 : Int32))] [(.int (1 : Int32)), (.int (1 : Int32))])) (fun t_ k_ => XS.goto X_15.here hx rfl (pc0 := 78) (pc' := 82) rfl (hb hby at_78) (by decide) (by decide) k_) ?_
        refine own_st (S' := T_15.setTop (mkF m 85 #[.val (.int p0), .val (.ref aEQUAL), .val (.int (0 : Int32)), .val (.int (1 : Int32)), .val (.int (0 : Int32)), .val (.int (0 : Int32))] [])) (fun t_ k_ => XS.icmpNo X_15.here hx rfl (hb hby at_82) rfl (teq (by decide : (1 : Int32) = (1 : Int32))).2 k_) ?_
        refine own_st (S' := T_15.setTop (mkF m 87 #[.val (.int p0), .val (.ref aEQUAL), .val (.int (0 : Int32)), .val (.int (1 : Int32)), .val (.int (0 : Int32)), .val (.int (0 : Int32))] [(.int (0 : Int32))])) (fun t_ k_ => XS.iload X_15.here hx rfl (hb hby at_85) rfl k_) ?_
        refine own_st (S' := T_15.setTop (mkF m 88 #[.val (.int p0), .val (.ref aEQUAL), .val (.int (0 : Int32)), .val (.int (1 : Int32)), .val (.int (0 : Int32)), .val (.int (0 : Int32))] [(.int p0), (.int (0 : Int32))])) (fun t_ k_ => XS.iloadN X_15.here hx rfl (hb hby at_87) rfl k_) ?_
        refine own_st (S' := T_15.setTop (mkF m 95 #[.val (.int p0), .val (.ref aEQUAL), .val (.int (0 : Int32)), .val (.int (1 : Int32)), .val (.int (0 : Int32)), .val (.int (0 : Int32))] [(.int (0 : Int32))])) (fun t_ k_ => XS.ifYes X_15.here hx rfl (pc0 := 88) (pc' := 95) rfl (hb hby at_88) rfl ((if0 _ _).trans (flt hg).2.2.2) (by decide) (by decide) k_) ?_
        refine own_st (S' := T_15.setTop (mkF m 96 #[.val (.int p0), .val (.ref aEQUAL), .val (.int (0 : Int32)), .val (.int (1 : Int32)), .val (.int (0 : Int32)), .val (.int (0 : Int32))] [(.int (0 : Int32)), (.int (0 : Int32))])) (fun t_ k_ => XS.iconst X_15.here hx rfl (hb hby at_95) k_) ?_
        refine own_st (S' := T_15.setTop (mkF m 99 #[.val (.int p0), .val (.ref aEQUAL), .val (.int (0 : Int32)), .val (.int (1 : Int32)), .val (.int (0 : Int32)), .val (.int (0 : Int32))] [])) (fun t_ k_ => XS.icmpNo X_15.here hx rfl (hb hby at_96) rfl (teq (by decide : (0 : Int32) = (0 : Int32))).2 k_) ?_
        refine own_st (S' := T_15.setTop (mkF m 101 #[.val (.int p0), .val (.ref aEQUAL), .val (.int (0 : Int32)), .val (.int (1 : Int32)), .val (.int (0 : Int32)), .val (.int (0 : Int32))] [(.int (0 : Int32))])) (fun t_ k_ => XS.iload X_15.here hx rfl (hb hby at_99) rfl k_) ?_
        refine own_st (S' := T_15.setTop (mkF m 104 #[.val (.int p0), .val (.ref aEQUAL), .val (.int (0 : Int32)), .val (.int (1 : Int32)), .val (.int (0 : Int32)), .val (.int (0 : Int32))] [])) (fun t_ k_ => XS.ifNo X_15.here hx rfl (hb hby at_101) rfl ((if0 _ _).trans (teq (by decide : (0 : Int32) = (0 : Int32))).2) k_) ?_
        refine own_st (S' := T_15.setTop (mkF m 105 #[.val (.int p0), .val (.ref aEQUAL), .val (.int (0 : Int32)), .val (.int (1 : Int32)), .val (.int (0 : Int32)), .val (.int (0 : Int32))] [(.int (1 : Int32))])) (fun t_ k_ => XS.iconst X_15.here hx rfl (hb hby at_104) k_) ?_
        refine own_st (S' := T_15.setTop (mkF m 109 #[.val (.int p0), .val (.ref aEQUAL), .val (.int (0 : Int32)), .val (.int (1 : Int32)), .val (.int (0 : Int32)), .val (.int (0 : Int32))] [(.int (1 : Int32))])) (fun t_ k_ => XS.goto X_15.here hx rfl (pc0 := 105) (pc' := 109) rfl (hb hby at_105) (by decide) (by decide) k_) ?_
        obtain ⟨fs, hr, hrun, hended, hW, hsame⟩ := X_15.leave (v := some (.int (1 : Int32))) (fun h => by rw [Bd.returns] at h; cases h)
        refine ⟨_, _, retN X_15 hx (t := .boolean) Bd.returns (by simp) (hb hby at_109) hr, hrun, hended, _, _, rfl, ?_, ⟨_, rfl⟩, hW, hsame.mono (by decide) (by decide)⟩
        show Q0 Z p0 aLESS aEQUAL aGREATER aINCOMPARABLE h0 n0 _ T_15.heap _
        rw [e_15]
        exact ⟨rfl, N_11⟩
      · exact absurd (own_zero hl hg) hc74
set_option maxRecDepth 65536 in
set_option maxHeartbeats 40000000 in
theorem comes_1 {Post : Tables → Env → Array Value → State → Outcome → State → Prop} (hpost : ∀ tb e args s v u, (limb_1_1.after args s (.returned v) u = true ∧ limb_1_2.after args s (.returned v) u = true ∧ True) → FrameEnd s (.returned v) u (Jvm.fieldLocs frame_1_writes args s ++ Jvm.arrayLocs frame_1_arrays args s ++ Jvm.staticLocs frame_1_statics s) 0 0 → Post tb e args s (.returned v) u) :
    ArmFor flags0 classFile x code maxLocals ret World_1 tables_1 room_1 Calls_1 rest_1 Pre_1 Post := by
  intro l hfl _ _ p e ha hc hk s m args below hf hA hF happ hP
  obtain ⟨hcalls, hrest, hpre⟩ := hP
  obtain ⟨-, -, -, hnamed, -, -, -, hat⟩ := (Spec.applies_iff hf).mp happ
  obtain ⟨hg, hn⟩ := and_e (Cond.before_iff.mp (show (Jvm.Cond.and given_1 narrow_1).before args s = true from hpre))
  obtain ⟨hcount, ht0⟩ := and_e hg
  obtain ⟨w0, rfl⟩ : ∃ w0 : Value, args = #[w0] := by
    have hs : args.size = 1 := by simpa [Cond.value, given_1] using hcount
    obtain ⟨L⟩ := args
    match L, hs with
    | [w0], _ => exact ⟨w0, rfl⟩
  have hw := fun d (hd : d ∈ tables_1) => atoms_spec (ws := Jvm.Cond.code x code maxLocals ret :: tables_1) hat d (List.mem_cons_of_mem _ hd)
  have hfit : Fit s := fun {y c} hc i hi => by
    obtain ⟨ha, rfl⟩ := Array.getElem?_eq_some_iff.mp hc
    have q := List.all_eq_true.mp ((Array.all_eq_true_iff_forall_mem.mp hF) _ (Array.getElem_mem ha)) i (List.mem_range.mpr hi)
    simpa [Array.getElem?_eq_getElem hi] using q
  obtain ⟨i0, ei0⟩ := is_v ht0
  obtain rfl : w0 = (.int i0) := Option.some.inj ei0
  obtain ⟨hx_EQUAL, hn0⟩ := and_e hn
  obtain ⟨hx_LESS, hn1⟩ := and_e hn0
  obtain ⟨ho_EQUAL, hn2⟩ := and_e hn1
  obtain ⟨ho_LESS, hn3⟩ := and_e hn2
  obtain ⟨hx_GREATER, hn4⟩ := and_e hn3
  obtain ⟨ho_GREATER, hn5⟩ := and_e hn4
  obtain ⟨hx_INCOMPARABLE, hn6⟩ := and_e hn5
  have ho_INCOMPARABLE := hn6
  obtain ⟨aEQUAL, evEQUAL⟩ := exa_v hx_EQUAL
  have ExEQUAL := Exa.start evEQUAL hx_EQUAL
  have SEQUAL := Sta.start evEQUAL (Or.inr ⟨(hw _ (List.mem_of_getElem? (i := 2) rfl)), (hw _ (List.mem_of_getElem? (i := 5) rfl))⟩)
  obtain ⟨aLESS, evLESS⟩ := exa_v hx_LESS
  have ExLESS := Exa.start evLESS hx_LESS
  have SLESS := Sta.start evLESS (Or.inr ⟨(hw _ (List.mem_of_getElem? (i := 2) rfl)), (hw _ (List.mem_of_getElem? (i := 7) rfl))⟩)
  obtain ⟨aGREATER, evGREATER⟩ := exa_v hx_GREATER
  have ExGREATER := Exa.start evGREATER hx_GREATER
  have SGREATER := Sta.start evGREATER (Or.inr ⟨(hw _ (List.mem_of_getElem? (i := 2) rfl)), (hw _ (List.mem_of_getElem? (i := 10) rfl))⟩)
  obtain ⟨aINCOMPARABLE, evINCOMPARABLE⟩ := exa_v hx_INCOMPARABLE
  have ExINCOMPARABLE := Exa.start evINCOMPARABLE hx_INCOMPARABLE
  have SINCOMPARABLE := Sta.start evINCOMPARABLE (Or.inr ⟨(hw _ (List.mem_of_getElem? (i := 2) rfl)), (hw _ (List.mem_of_getElem? (i := 12) rfl))⟩)
  have neEQUALLESS := own_ord evEQUAL evLESS ho_EQUAL ho_LESS (by decide)
  have neEQUALGREATER := own_ord evEQUAL evGREATER ho_EQUAL ho_GREATER (by decide)
  have neEQUALINCOMPARABLE := own_ord evEQUAL evINCOMPARABLE ho_EQUAL ho_INCOMPARABLE (by decide)
  have neLESSGREATER := own_ord evLESS evGREATER ho_LESS ho_GREATER (by decide)
  have neLESSINCOMPARABLE := own_ord evLESS evINCOMPARABLE ho_LESS ho_INCOMPARABLE (by decide)
  have neGREATERINCOMPARABLE := own_ord evGREATER evINCOMPARABLE ho_GREATER ho_INCOMPARABLE (by decide)
  obtain ⟨n, o, h1, h2, h3, _, L, rfl, ⟨rfl, N⟩, hq⟩ := rm0 l s _ hw tables_1 i0 aLESS aEQUAL aGREATER aINCOMPARABLE s.heap s.heap.size (Nat.le_refl _) SLESS SEQUAL SGREATER SINCOMPARABLE (Ne.symm neEQUALLESS) neLESSGREATER neLESSINCOMPARABLE neEQUALGREATER neEQUALINCOMPARABLE neGREATERINCOMPARABLE p e ha hc hk s m _ below hf ((Spec.applies_iff_loose hf).mp happ).1 ⟨rfl, State.Warmed39.refl s, rfl⟩ trivial
  refine ⟨n, _, h1, h2, h3, hpost _ _ _ _ _ _ ⟨Cond.after_iff.mpr rfl, Cond.after_iff.mpr (eq_i res_at (Term.int_eval (1)) rfl), trivial⟩ ⟨hq.1, hq.2.1, (hq.2.2.sift fun y hy => Or.inr (N y hy)).mono (by decide) (by decide)⟩⟩
theorem main_1_1 : Claimed_1_1 := comes_1 fun _ _ _ _ _ _ h hF => ⟨h.1, hF⟩
theorem main_1_2 : Claimed_1_2 := comes_1 fun _ _ _ _ _ _ h hF => ⟨h.2.1, hF⟩
end Jvm.Pilot.@@N@@
namespace Jvm.Pilot.@@N@@
open Jvm Jvm.ClassFile Sem Op Lib Jvm.Free Jvm.Stand Jvm.Pilot.@@N@@.Jvm.D
/-! MADE BY PROGRAM (witnessworld.py) out of the Statement's table words and the real class files: 12 classes; the members and pool entries that the words name. The judged class is class 1, her method 1. -/
namespace start1
open Jvm.ClassFile
def u (s : String) : CpInfo := .utf8 (stringToUtf16 s)
/-- a pool by its gaps: so many unusable entries, then the entry; so many at the end -/
def gap : Nat → List CpInfo → List CpInfo
  | 0, r => r
  | n + 1, r => .unusable :: gap n r
def poolList (es : List (Nat × CpInfo)) (last : Nat) : List CpInfo := es.foldr (fun e r => gap e.1 (e.2 :: r)) (gap last [])
def pool (es : List (Nat × CpInfo)) (last : Nat) : Array CpInfo := ⟨poolList es last⟩
def fileOf (pool : Array CpInfo) (this : Nat) (attrs : Array Attribute := #[]) (ms : Array MethodInfo := #[]) (fl : Nat := 33) (sup : Nat := 0) (ifs : Array Nat := #[]) (fds : Array FieldInfo := #[]) : ClassFile where
  minorVersion := 0
  majorVersion := 65
  constantPool := pool
  accessFlags := fl
  thisClass := this
  superClass := sup
  interfaces := ifs
  fields := fds
  methods := ms
  attributes := attrs
def plain (name : String) (sup : Option ClassId) : Class where
  name := name
  kind := .ordinary
  loader := none
  accessFlags := 33
  super := sup
  interfaces := #[]
  cf := none
  fields := #[]
  methods := #[]
  instanceTypes := #[]
  staticTypes := #[]
  resolved := #[]
  callSites := []
  init := .initialized
  statics := none
  mirror := none

def pool0 : Array CpInfo := pool [(5, u "<init>"), (0, u "()V"), (1, .class_ 10), (1, u "java/lang/Object")] 113

def k0m0 : Method := { name := "<init>", desc := "()V", sig := { parameters := [], returnType := none }, accessFlags := 1, code := none }
/-- java/lang/Object -/
def k0 : Class := { plain "java/lang/Object" none with
  accessFlags := 33
  interfaces := #[]
  cf := some (fileOf pool0 8 #[] #[{ accessFlags := 1, nameIndex := 5, descriptorIndex := 6, attributes := #[] }] 33 0 #[] #[])
  fields := #[]
  methods := #[k0m0]
  instanceTypes := #[]
  staticTypes := #[]
  resolved := Array.replicate 124 none
  statics := none }

def pool1 : Array CpInfo := pool [(2, .class_ 4), (1, u "java/lang/Object"), (0, u "<init>"), (0, u "()V"), (0, .methodref 8 9), (0, .class_ 10), (0, .nameAndType 11 12), (0, u "com/example/frisk/frisk/Order"), (0, u "of"), (0, u "(I)Lcom/example/frisk/frisk/Order;"), (0, .fieldref 8 14), (0, .nameAndType 15 16), (0, u "LESS"), (0, u "Lcom/example/frisk/frisk/Order;"), (0, .fieldref 8 18), (0, .nameAndType 19 16), (0, u "EQUAL"), (0, .fieldref 8 21), (0, .nameAndType 22 16), (0, u "GREATER"), (0, .fieldref 8 24), (0, .nameAndType 25 16), (0, u "INCOMPARABLE"), (0, .class_ 27), (0, u "com/example/frisk/frisk/OrderOfPinLaw"), (2, u "law"), (0, u "(I)Z")] 3

def k1m0 : Method := { name := "<init>", desc := "()V", sig := { parameters := [], returnType := none }, accessFlags := 1, code := none }
def k1c1 : Code := { maxStack := 2, maxLocals := 6, code := code, exceptionTable := #[], attributes := #[] }
def k1m1 : Method := { name := "law", desc := "(I)Z", sig := { parameters := [.int], returnType := some .boolean }, accessFlags := 9, code := some k1c1 }
/-- com/example/frisk/frisk/OrderOfPinLaw -/
def k1 : Class := { plain "com/example/frisk/frisk/OrderOfPinLaw" (some 0) with
  accessFlags := 49
  interfaces := #[]
  cf := some (fileOf pool1 26 #[] #[{ accessFlags := 1, nameIndex := 5, descriptorIndex := 6, attributes := #[] }, { accessFlags := 9, nameIndex := 30, descriptorIndex := 31, attributes := #[] }] 49 2 #[] #[])
  fields := #[]
  methods := #[k1m0, k1m1]
  instanceTypes := #[]
  staticTypes := #[]
  resolved := Array.replicate 35 none
  statics := none }

def pool2 : Array CpInfo := pool [(1, .class_ 2), (0, u "java/lang/constant/Constable"), (0, .class_ 4), (0, u "java/lang/Object")] 6

/-- java/lang/constant/Constable -/
def k2 : Class := { plain "java/lang/constant/Constable" (some 0) with
  accessFlags := 1537
  interfaces := #[]
  cf := some (fileOf pool2 1 #[] #[] 1537 3 #[] #[])
  fields := #[]
  methods := #[]
  instanceTypes := #[]
  staticTypes := #[]
  resolved := Array.replicate 11 none
  statics := none }

def pool3 : Array CpInfo := pool [(1, .class_ 2), (0, u "java/lang/Comparable"), (0, .class_ 4), (0, u "java/lang/Object")] 7

/-- java/lang/Comparable -/
def k3 : Class := { plain "java/lang/Comparable" (some 0) with
  accessFlags := 1537
  interfaces := #[]
  cf := some (fileOf pool3 1 #[] #[] 1537 3 #[] #[])
  fields := #[]
  methods := #[]
  instanceTypes := #[]
  staticTypes := #[]
  resolved := Array.replicate 12 none
  statics := none }

def pool4 : Array CpInfo := pool [(1, .class_ 2), (0, u "java/io/Serializable"), (0, .class_ 4), (0, u "java/lang/Object")] 2

/-- java/io/Serializable -/
def k4 : Class := { plain "java/io/Serializable" (some 0) with
  accessFlags := 1537
  interfaces := #[]
  cf := some (fileOf pool4 1 #[] #[] 1537 3 #[] #[])
  fields := #[]
  methods := #[]
  instanceTypes := #[]
  staticTypes := #[]
  resolved := Array.replicate 7 none
  statics := none }

def pool5 : Array CpInfo := pool [(2, .class_ 4), (1, u "java/lang/Enum"), (0, u "name"), (0, u "Ljava/lang/String;"), (2, u "ordinal"), (0, u "I"), (1, .class_ 14), (1, u "java/lang/Object"), (4, u "hash"), (86, .class_ 108), (1, u "java/lang/Enum$EnumDesc"), (2, .class_ 112), (0, u "java/lang/constant/Constable"), (0, .class_ 114), (0, u "java/lang/Comparable"), (0, .class_ 116), (0, u "java/io/Serializable")] 87

/-- java/lang/Enum -/
def k5 : Class := { plain "java/lang/Enum" (some 0) with
  accessFlags := 1057
  interfaces := #[2, 3, 4]
  cf := some (fileOf pool5 2 #[.nestMembers #[106]] #[] 1057 12 #[111, 113, 115] #[{ accessFlags := 18, nameIndex := 5, descriptorIndex := 6, attributes := #[] }, { accessFlags := 18, nameIndex := 9, descriptorIndex := 10, attributes := #[] }, { accessFlags := 2, nameIndex := 19, descriptorIndex := 10, attributes := #[] }])
  fields := #[{ name := "name", type := (.object "java/lang/String"), accessFlags := 18, slot := 0, constantValue := 0 }, { name := "ordinal", type := .int, accessFlags := 18, slot := 1, constantValue := 0 }, { name := "hash", type := .int, accessFlags := 2, slot := 2, constantValue := 0 }]
  methods := #[]
  instanceTypes := #[(.object "java/lang/String"), .int, .int]
  staticTypes := #[]
  resolved := Array.replicate 204 none
  statics := none }

def pool6 : Array CpInfo := pool [(1, .class_ 2), (0, u "com/example/frisk/frisk/Order"), (0, .fieldref 1 4), (0, .nameAndType 5 6), (0, u "LESS"), (0, u "Lcom/example/frisk/frisk/Order;"), (0, .fieldref 1 8), (0, .nameAndType 9 6), (0, u "EQUAL"), (0, .fieldref 1 11), (0, .nameAndType 12 6), (0, u "GREATER"), (2, u "INCOMPARABLE"), (2, u "$VALUES"), (0, u "[Lcom/example/frisk/frisk/Order;"), (6, .class_ 28), (1, u "java/lang/Enum"), (36, u "of"), (0, u "(I)Lcom/example/frisk/frisk/Order;")] 7

def k6c0 : Code := { maxStack := 1, maxLocals := 2, code := prog_44_method_4_code, exceptionTable := #[], attributes := #[] }
def k6m0 : Method := { name := "of", desc := "(I)Lcom/example/frisk/frisk/Order;", sig := { parameters := [.int], returnType := some (.object "com/example/frisk/frisk/Order") }, accessFlags := 8, code := some k6c0 }
/-- com/example/frisk/frisk/Order -/
def k6 : Class := { plain "com/example/frisk/frisk/Order" (some 5) with
  accessFlags := 16433
  interfaces := #[]
  cf := some (fileOf pool6 1 #[] #[{ accessFlags := 8, nameIndex := 65, descriptorIndex := 66, attributes := #[] }] 16433 26 #[] #[{ accessFlags := 16409, nameIndex := 5, descriptorIndex := 6, attributes := #[] }, { accessFlags := 16409, nameIndex := 9, descriptorIndex := 6, attributes := #[] }, { accessFlags := 16409, nameIndex := 12, descriptorIndex := 6, attributes := #[] }, { accessFlags := 16409, nameIndex := 15, descriptorIndex := 6, attributes := #[] }, { accessFlags := 4122, nameIndex := 18, descriptorIndex := 19, attributes := #[] }])
  fields := #[{ name := "LESS", type := (.object "com/example/frisk/frisk/Order"), accessFlags := 16409, slot := 0, constantValue := 0 }, { name := "EQUAL", type := (.object "com/example/frisk/frisk/Order"), accessFlags := 16409, slot := 1, constantValue := 0 }, { name := "GREATER", type := (.object "com/example/frisk/frisk/Order"), accessFlags := 16409, slot := 2, constantValue := 0 }, { name := "INCOMPARABLE", type := (.object "com/example/frisk/frisk/Order"), accessFlags := 16409, slot := 3, constantValue := 0 }, { name := "$VALUES", type := (.array (.object "com/example/frisk/frisk/Order")), accessFlags := 4122, slot := 4, constantValue := 0 }]
  methods := #[k6m0]
  instanceTypes := #[(.object "java/lang/String"), .int, .int]
  staticTypes := #[(.object "com/example/frisk/frisk/Order"), (.object "com/example/frisk/frisk/Order"), (.object "com/example/frisk/frisk/Order"), (.object "com/example/frisk/frisk/Order"), (.array (.object "com/example/frisk/frisk/Order"))]
  resolved := Array.replicate 74 none
  statics := some 0 }

def pool7 : Array CpInfo := pool [(1, u "java/lang/Cloneable"), (0, .class_ 1), (0, u "java/lang/Object"), (0, .class_ 3)] 3

/-- java/lang/Cloneable -/
def k7 : Class := { plain "java/lang/Cloneable" (some 0) with
  accessFlags := 1537
  interfaces := #[]
  cf := some (fileOf pool7 2 #[] #[] 1537 4 #[] #[])
  fields := #[]
  methods := #[]
  instanceTypes := #[]
  staticTypes := #[]
  resolved := Array.replicate 8 none
  statics := none }

/-- the primitive byte -/
def k8 : Class := { plain "byte" none with kind := .primitive 'B', accessFlags := 0x411 }
/-- [B -/
def k9 : Class := { plain "[B" (some 0) with kind := .array 8 .byte, interfaces := #[7, 4], accessFlags := 1041 }

/-- the primitive int -/
def k10 : Class := { plain "int" none with kind := .primitive 'I', accessFlags := 0x411 }
/-- [I -/
def k11 : Class := { plain "[I" (some 0) with kind := .array 10 .int, interfaces := #[7, 4], accessFlags := 1041 }

def heap : Heap := #[{ cls := 6, slots := #[.ref 1, .ref 2, .ref 3, .ref 4, .null], vm := .statics 6 },
  { cls := 6, slots := #[.null, .int 0, .int 0], vm := .none },
  { cls := 6, slots := #[.null, .int 1, .int 0], vm := .none },
  { cls := 6, slots := #[.null, .int 2, .int 0], vm := .none },
  { cls := 6, slots := #[.null, .int 3, .int 0], vm := .none }]
def classes : Array Class := #[k0, k1, k2, k3, k4, k5, k6, k7, k8, k9, k10, k11]
def interned : List (Array UInt16 × Addr) := []
def slotsUsed : Nat := 17
def theMethod : MethodId := ⟨1, 1⟩
def args0 : Array Value := #[.int 5]
def aboutOver (below : List Frame) : State where
  vm := { classes := classes, interned := interned.toArray }
  heap := heap
  slotsUsed := slotsUsed
  threads := #[{ frames := .invoking theMethod args0 :: below }]
def below0 : List Frame := [.native { method := ⟨0, 0⟩, args := #[] }]
def about1 : State := aboutOver below0
def p0 : Program := .bare "" "" ""
def e0 : Env := launch0.env 0 0 0
theorem w_frames : about1.frames = Frame.invoking theMethod args0 :: below0 := rfl
set_option maxRecDepth 65536 in
theorem w_args : argsFit about1.vm theMethod args0 = true := by decide +kernel
set_option maxRecDepth 65536 in
theorem w_heap : heapFits about1 = true := by decide +kernel
set_option maxRecDepth 65536 in
theorem w_runnable : about1.curStatus? = some .runnable := by decide +kernel
set_option maxRecDepth 65536 in
theorem w_alone : about1.alone = true := by decide +kernel
set_option maxRecDepth 65536 in
theorem w_named : about1.methodNamed? x = some theMethod := by decide +kernel
set_option maxRecDepth 65536 in
theorem w_hears : about1.hears theMethod below0 = true := by decide +kernel
set_option maxRecDepth 65536 in
theorem w_ripe : about1.ripe theMethod args0 below0 = true := by decide +kernel
theorem w_running : about1.status = .running := rfl
set_option maxRecDepth 65536 in
theorem w_room : about1.hasRoom e0.platform room_1 = true :=
  launch0.hasRoom_least _ room_1 (by decide +kernel) (by decide +kernel) (by decide +kernel) (by decide +kernel) (by decide +kernel) (by decide +kernel)
theorem allAtoms_all (ts : List Jvm.Cond) (a : Array Jvm.Value) (st : Jvm.State) : (allAtoms ts).before a st = ts.all (fun c => c.before a st) := by
  induction ts with
  | nil => rfl
  | cons c t ih =>
    show (Jvm.Cond.and c (allAtoms t)).before a st = _
    rw [Jvm.Cond.before_and, ih, List.all_cons]
def words1 : List Jvm.Cond := Jvm.Cond.code x code maxLocals ret :: tables_1
/-- a 'code' word, met by the world's own term for the bytes: nothing is compared byte by byte -/
theorem code_word {y : MethodName} {bytes : ByteArray} {mx : Nat} {rt : Option FieldType} {a : Array Value} {s : State} {m : MethodId} {meth : Method} {c : Code} (h1 : s.methodNamed? y = some m) (h2 : s.vm.method? m = some meth) (h3 : meth.code = some c) (h4 : c.code = bytes)
    (h5 : (c.maxLocals == mx && c.exceptionTable.isEmpty && decide (c.maxStack ≤ mostOperands) && decide (meth.sig.returnType = rt) && !meth.locks && decide (parseMethodDescriptor y.desc = some meth.sig)) = true) : (Jvm.Cond.code y bytes mx rt).before a s = true := by
  simp only [Bool.and_eq_true, beq_iff_eq, Bool.not_eq_true', decide_eq_true_eq] at h5
  obtain ⟨⟨⟨⟨⟨g1, g2⟩, g3⟩, g4⟩, g5⟩, g6⟩ := h5
  simp [Cond.before, Cond.holds, Cond.value, h1, h2, h3, h4, g1, g2, g3, g4, g5, g6]
def isCode : Jvm.Cond → Bool
  | .code _ _ _ _ => true
  | _ => false
theorem all_split {L : List Jvm.Cond} {P : Jvm.Cond → Bool} (h1 : L.all (fun c => isCode c || P c) = true) (h2 : ∀ c ∈ L.filter isCode, P c = true) : L.all P = true := by
  refine List.all_eq_true.mpr fun c hc => ?_
  have h := List.all_eq_true.mp h1 c hc
  rcases Bool.eq_false_or_eq_true (isCode c) with hi | hi
  · exact h2 c (List.mem_filter.mpr ⟨hc, hi⟩)
  · simpa [hi] using h
set_option maxRecDepth 65536 in
theorem w_c0 : (Jvm.Cond.code x code maxLocals ret).before args0 about1 = true := code_word (m := ⟨1, 1⟩) (meth := k1m1) (c := k1c1) (by decide +kernel) rfl rfl rfl (by decide +kernel)
set_option maxRecDepth 65536 in
theorem w_c1 : (Jvm.Cond.code ({ cls := "com/example/frisk/frisk/Order", name := "of", desc := "(I)Lcom/example/frisk/frisk/Order;" } : Jvm.MethodName) prog_44_method_4_code (2 : Nat) (Option.some (Jvm.ClassFile.FieldType.object "com/example/frisk/frisk/Order"))).before args0 about1 = true := code_word (m := ⟨6, 0⟩) (meth := k6m0) (c := k6c0) (by decide +kernel) rfl rfl rfl (by decide +kernel)
def codes1 : List Jvm.Cond := [Jvm.Cond.code x code maxLocals ret, Jvm.Cond.code ({ cls := "com/example/frisk/frisk/Order", name := "of", desc := "(I)Lcom/example/frisk/frisk/Order;" } : Jvm.MethodName) prog_44_method_4_code (2 : Nat) (Option.some (Jvm.ClassFile.FieldType.object "com/example/frisk/frisk/Order"))]
set_option maxRecDepth 65536 in
theorem codes_eq : words1.filter isCode = codes1 := rfl
theorem w_codes : ∀ c ∈ words1.filter isCode, c.before args0 about1 = true := by
  rw [codes_eq]
  intro c hc
  simp only [codes1, List.mem_cons, List.not_mem_nil, or_false] at hc
  rcases hc with rfl | rfl
  · exact w_c0
  · exact w_c1
set_option maxRecDepth 65536 in
theorem w_t1 : words1.all (fun c => isCode c || c.before args0 about1) = true := by decide +kernel
theorem w_tables : (allAtoms (Jvm.Cond.code x code maxLocals ret :: tables_1)).before args0 about1 = true := by
  rw [allAtoms_all]
  show words1.all (fun c => c.before args0 about1) = true
  refine all_split ?_ w_codes
  rw [w_t1]
set_option maxRecDepth 65536 in
theorem w_case : (Jvm.Cond.and given_1 narrow_1).before args0 about1 = true := by decide +kernel
theorem w_applies : (headSpec (Jvm.Cond.code x code maxLocals ret :: tables_1) room_1).applies x e0.platform about1 = true :=
  (Spec.applies_iff w_frames).mpr ⟨w_running, w_runnable, w_alone, w_named, w_hears, w_ripe, w_room, w_tables⟩
theorem atStart : AtStart classFile x code maxLocals ret World_1 tables_1 room_1 Calls_1 rest_1 Pre_1 launch0 p0 e0 about1 theMethod args0 below0 :=
  ⟨lists_1, trivial, launch0.admits_env _ _ _, launch0.least_env, fairChoices_fair.cas, fairChoices_fair.clock, w_frames, w_args, w_heap, w_applies, trivial, trivial, w_case⟩
end start1
theorem witness_1 : WitnessClaimed_1 := ⟨start1.p0, start1.e0, start1.about1, start1.theMethod, start1.args0, start1.below0, start1.atStart⟩
end Jvm.Pilot.@@N@@
