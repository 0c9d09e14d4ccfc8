import JvmDerived
import JvmDerived.Pilot.@@N@@Statement
import JvmDerived.Pilot.@@N@@Code
set_option linter.unusedVariables false
set_option linter.unusedSimpArgs false
namespace Jvm.RoadKit
open Sem ClassFile Op Lib Jvm.Stand Jvm.Free Jvm.LawKit
section New
variable {p : Program} {l : Launch} {e : Env} {R : Room} {s : State} {m : MethodId} {args : Array Value} {below : List Frame} {meth : Method} {c : Code} {T : State} {locs : List Loc} {cells slots : Nat}
theorem retI (X : Stand p l e R s m args below meth c T locs cells slots) (hx : p.tables.exec = Jvm.exec) {pc : Nat} {Ls : Array Slot} {z : Int32} {rest : List Value} (hret : meth.sig.returnType = some .int) (hd : decode c.code pc = .ok (.ireturn, 1)) {fs : List Frame}
    (hl : ∀ (f : JFrame) (acts : List Action), f.method = m → f.locked = none → f.entered = [] → (doReturn e (T.setTop f) acts (some (.int z))).1 = T.setFrames fs) : Steps p.tables e below (T.setTop (mkF m pc Ls (.int z :: rest))) (T.setFrames fs) :=
  retOut X hx hret rfl (Or.inl ⟨rfl, Or.inl rfl, _, rfl⟩) hd hl
theorem own_retJ (X : Stand p l e R s m args below meth c T locs cells slots) (hx : p.tables.exec = Jvm.exec) {pc : Nat} {Ls : Array Slot} {z : Int64} {rest : List Value} (hret : meth.sig.returnType = some .long) (hd : decode c.code pc = .ok (.lreturn, 1)) {fs : List Frame}
    (hl : ∀ (f : JFrame) (acts : List Action), f.method = m → f.locked = none → f.entered = [] → (doReturn e (T.setTop f) acts (some (.long z))).1 = T.setFrames fs) : Steps p.tables e below (T.setTop (mkF m pc Ls (.long z :: rest))) (T.setFrames fs) :=
  retOut X hx hret rfl (Or.inr (Or.inl ⟨rfl, rfl, _, rfl⟩)) hd hl
theorem own_retD (X : Stand p l e R s m args below meth c T locs cells slots) (hx : p.tables.exec = Jvm.exec) {pc : Nat} {Ls : Array Slot} {z : UInt64} {rest : List Value} (hret : meth.sig.returnType = some .double) (hd : decode c.code pc = .ok (.dreturn, 1)) {fs : List Frame}
    (hl : ∀ (f : JFrame) (acts : List Action), f.method = m → f.locked = none → f.entered = [] → (doReturn e (T.setTop f) acts (some (.double z))).1 = T.setFrames fs) : Steps p.tables e below (T.setTop (mkF m pc Ls (.double z :: rest))) (T.setFrames fs) :=
  retOut X hx hret rfl (Or.inr (Or.inr (Or.inl ⟨rfl, rfl, _, rfl⟩))) hd hl
theorem own_retR (X : Stand p l e R s m args below meth c T locs cells slots) (hx : p.tables.exec = Jvm.exec) {pc : Nat} {Ls : Array Slot} {w : Value} {t : FieldType} {rest : List Value} (hret : meth.sig.returnType = some t) (ht : t.isReference = true) (hv : w.isRef = true) (hd : decode c.code pc = .ok (.areturn, 1)) {fs : List Frame}
    (hl : ∀ (f : JFrame) (acts : List Action), f.method = m → f.locked = none → f.entered = [] → (doReturn e (T.setTop f) acts (some w)).1 = T.setFrames fs) : Steps p.tables e below (T.setTop (mkF m pc Ls (w :: rest))) (T.setFrames fs) :=
  retOut X hx hret (by rcases ref_cases hv with rfl | ⟨a, rfl⟩ <;> cases t <;> first | rfl | cases ht) (Or.inr (Or.inr (Or.inr (Or.inr ⟨rfl, ht, hv⟩)))) hd hl
end New
section Own
variable {p : Program} {e : Env} {below : List Frame}
/-- the run from S ends as P says -/
def own_Gl (p : Program) (e : Env) (below : List Frame) (P : Outcome → State → Prop) (S : State) : Prop := ∃ s₂ o, Steps p.tables e below S s₂ ∧ s₂.status = .running ∧ Ended s₂ below o ∧ P o s₂
theorem own_gl {P : Outcome → State → Prop} {S : State} (h : own_Gl p e below P S) : ∃ s₂ o, Steps p.tables e below S s₂ ∧ s₂.status = .running ∧ Ended s₂ below o ∧ P o s₂ := h
theorem own_st {P : Outcome → State → Prop} {S S' : State} (h : ∀ t, Steps p.tables e below S' t → Steps p.tables e below S t) (k : own_Gl p e below P S') : own_Gl p e below P S := by
  obtain ⟨s₂, o, h1, h2⟩ := k
  exact ⟨s₂, o, h _ h1, h2⟩
theorem own_cast {P : Outcome → State → Prop} {S S' : State} (h : S' = S) (k : own_Gl p e below P S') : own_Gl p e below P S := h ▸ k
theorem own_join {P : Outcome → State → Prop} {S : State} {α : Type} {F : α → State} {H : α → Prop} (J : ∀ x, H x → own_Gl p e below P (F x)) (k : (∀ x, H x → own_Gl p e below P (F x)) → own_Gl p e below P S) : own_Gl p e below P S := k J
theorem own_selfsel {s : State} {args : Array Value} {y : MethodName} {n : Nat} (wi : (Cond.instantiable y.cls n).before args s = true) (wp : (Cond.privateMethod y).before args s = true) (hinst : (Cond.instanceMethod y).before args s = true) (hy : y.cls ≠ "java/lang/invoke/MethodHandle" ∧ y.cls ≠ "java/lang/invoke/VarHandle") : (Cond.selects y.cls y y).before args s = true := by
  obtain ⟨c, k, h1, h2, -, h3, -⟩ := Cond.instantiable_spec wi
  exact selects_self_of_private h1 h2 (by simp only [Bool.or_eq_false_iff] at h3; exact h3.1) (Cond.privateMethod_at wp) hinst hy
/-- a place of an array is written, whatever it holds -/
theorem own_arv_any {Z : State} {h h' : Heap} {a : Addr} {c : Cell} {k : ClassId} {ty : FieldType} {z j : Int32} {vs : List Value} {dv v : Value} (A : Arr Z h a c ty) (q1 : c.cls = k) (S : c.slots.size = z.toNatClampNeg) (q3 : ¬ z < 0) (H : Has c vs dv) (G : ∀ i, i < c.slots.size → fits ty (vs.getD i dv) = true) (hv : fits ty v = true) (W : Wr h h' a j.toNatClampNeg v) (hj : ¬ (j < 0 ∨ c.slots.size ≤ j.toNatClampNeg)) : ∃ vs', Arv Z h' a k ty z vs' dv := by
  have F : Arv Z h a k ty z (vs ++ List.replicate z.toNatClampNeg dv) dv := Arv.pad ⟨c, A, q1, S, q3, H, G⟩ (pad_rep vs dv _)
  obtain ⟨c', A', r1, r2, r3, r4, r5⟩ := F
  cases A.1.symm.trans A'.1
  exact ⟨_, Arv.set A' r1 r2 r3 r4 r5 hv W j.toNatClampNeg rfl (by
    have q := Nat.lt_of_not_le fun y => hj (Or.inr y)
    rw [S] at q
    simp only [List.length_append, List.length_replicate]
    omega)⟩
end Own
end Jvm.RoadKit

namespace Jvm.Pilot.@@N@@
open Jvm Jvm.ClassFile Sem Op Lib Jvm.Free Jvm.Stand Jvm.LawKit Jvm.RoadKit Bundle Jvm.Pilot.@@N@@.Jvm.D

theorem own_intv {args : Array Value} {s : State} {t : Term} {i : Int32} (h : (Jvm.Cond.eq t (Term.int i)).value args s none s [] = some true) : t.eval args s none [] s = some (.int i) := by
  cases e : t.eval args s none [] s with
  | none => simp [Cond.value, e] at h
  | some v => cases v <;> simp [Cond.value, Term.int_eval, e] at h; rw [h]
theorem own_ord {args : Array Value} {s : State} {tA tB : Term} {a b : Addr} {C n d : String} {i j : Int32} (hA : tA.eval args s none [] s = some (.ref a)) (hB : tB.eval args s none [] s = some (.ref b)) (h1 : (Jvm.Cond.eq (Term.field tA C n d) (Term.int i)).value args s none s [] = some true) (h2 : (Jvm.Cond.eq (Term.field tB C n d) (Term.int j)).value args s none s [] = some true) (hn : i ≠ j) : a ≠ b := fun e => by
  subst e
  have q1 := own_intv h1
  have q2 := own_intv h2
  rw [fld_at hA] at q1
  rw [fld_at hB] at q2
  exact hn (Value.int.inj (Option.some.inj (q1.symm.trans q2)))
theorem own_bit {x : Int32} (h : ¬ (x &&& (1 : Int32)) = 0) : (x &&& (1 : Int32)) = 1 := (and_one x).resolve_left h
theorem own_empty {s : State} {args : Array Value} {t : Term} {a : Addr} {c : Cell} {ty : FieldType} (hf : Fit s) (ev : t.eval args s none [] s = some (.ref a)) (A : Arr s s.heap a c ty) (h : (Jvm.Cond.eq (Term.length t) (Term.int (0 : Int32))).value args s none s [] = some true) : Arv s s.heap a c.cls ty (0 : Int32) [] (defaultValue ty) := by
  have q := own_intv h
  have ha : s.arrayAt? a = some c := A.fin (Vm.Alike.refl _)
  simp only [Term.eval, ev, ha, Option.bind_eq_bind, Option.bind_some] at q
  split at q
  · rename_i hl
    have e : c.slots.size.toInt32 = 0 := by simpa using q
    exact Arv.start hf A hl e (by decide) rfl trivial
  · cases q

theorem d1_0 : decode jdk_22_method_1_code 0 = .ok (.aload_n 0, 1) := by decide +kernel
theorem d1_1 : decode jdk_22_method_1_code 1 = .ok (.invokespecial 1, 3) := by decide +kernel
theorem d1_4 : decode jdk_22_method_1_code 4 = .ok (.return_, 1) := by decide +kernel
theorem pn_0 : plainName "java/util/AbstractCollection" = true := by first | (simp [plainName, overriddenIn]; done) | decide +kernel
theorem ef_1 (m : MethodId) (a : Addr) : entryFrame m #[(.ref a)] 1 = mkF m 0 #[.val (.ref a)] [] := by first | (simp [entryFrame, mkF, argsToLocals, Value.category]; done) | rfl
def Q1 (Z : State) (a : Addr) (h0 : Heap) (n0 : Nat) (v_ : Option Value) (h_ : Heap) (L_ : List Loc) : Prop := v_ = none ∧ Fr n0 L_ ∧ h_ = h0
set_option maxRecDepth 65536 in
set_option maxHeartbeats 40000000 in
theorem rm1 (l : Launch) (Z : State) (a0 : Array Value) (hw : ∀ d ∈ tables_1, d.before a0 Z = true) (ws : List Jvm.Cond) (a : Addr) (h0 : Heap) (n0 : Nat) (Z0 : n0 ≤ h0.size)  :
    MetFree l (⟨"java/util/AbstractCollection", "<init>", "()V"⟩ : MethodName) (head1 (Jvm.Cond.code (⟨"java/util/AbstractCollection", "<init>", "()V"⟩ : MethodName) jdk_22_method_1_code 1 none :: ws) ({ frames := 1, cells := 0, slots := 0, locals := 12 } : Room)) (fun ar_ U_ => ar_ = #[(.ref a)] ∧ Z.Warmed39 U_.vm ∧ U_.heap = h0) (fun _ _ _ _ _ => True) (fun _ U_ o_ U2_ => ∃ v_ L_, o_ = .returned v_ ∧ Q1 Z a h0 n0 v_ U2_.heap L_ ∧ FrameEnd U_ o_ U2_ L_ ({ frames := 1, cells := 0, slots := 0, locals := 12 } : Room).cells ({ frames := 1, cells := 0, slots := 0, locals := 12 } : Room).slots) := by
  refine MetFree.of_bodySF (plainFor_of_name pn_0) hisR ?_
  intro p e s m args below meth c s₁ Bd hml0 hP hK
  obtain ⟨rfl, hZ, hh⟩ := hP
  have hx := Bd.exec
  have hby := Bd.bytes
  have hml : c.maxLocals = 1 := hml0
  have hown : s.vm.findClass "java/util/AbstractCollection" = some m.cls := findClass_of_methodNamed Bd.named
  have hnm := (name_of_methodNamed Bd.named Bd.method).1
  have X0 : Stand p l e ({ frames := 1, cells := 0, slots := 0, locals := 12 } : Room) s m #[(.ref a)] below meth c s₁ [] 0 0 := Stand.of_body Bd
  have e0 : s₁.heap = h0 := by rw [← hh, Bd.state]; rfl
  have N0 := Fr.nil n0
  refine own_gl ?_
  refine own_st (S' := s₁.setTop (mkF m 0 #[.val (.ref a)] [])) (fun t_ k_ => castTop (ef_1 m a) k_) ?_
  refine own_st (S' := s₁.setTop (mkF m 1 #[.val (.ref a)] [(.ref a)])) (fun t_ k_ => XS.aloadN X0.here hx rfl (hb hby d1_0) rfl rfl k_) ?_
  obtain ⟨T_1, X_1, e_1, st_1⟩ := initO X0 hx hZ hown (hw _ (List.mem_of_getElem? (i := 19) rfl)) (hw _ (List.mem_of_getElem? (i := 20) rfl)) (hw _ (List.mem_of_getElem? (i := 21) rfl)) e0 (g := (mkF m 1 #[.val (.ref a)] [(.ref a)])) rfl (by rw [hml]; rfl) rfl (hb hby d1_1) (by decide) (W := 0) (by show 2 * 0 + _ ≤ _; exact Nat.le_of_eq rfl) (by decide)
  refine own_st (S' := T_1.setTop (mkF m 4 #[.val (.ref a)] [])) st_1 ?_
  obtain ⟨fs, hr, hrun, hended, hW, hsame⟩ := X_1.leave (v := none) (fun _ => rfl)
  refine ⟨_, _, X_1.returnOut hx Bd.returns (hb hby d1_4) hr, hrun, hended, _, _, rfl, ?_, ⟨_, rfl⟩, hW, hsame.mono (by decide) (by decide)⟩
  show Q1 Z a h0 n0 _ T_1.heap _
  rw [e_1]
  exact ⟨rfl, N0, rfl⟩
theorem d2_0 : decode jdk_39_method_1_code 0 = .ok (.aload_n 0, 1) := by decide +kernel
theorem d2_1 : decode jdk_39_method_1_code 1 = .ok (.invokespecial 1, 3) := by decide +kernel
theorem d2_4 : decode jdk_39_method_1_code 4 = .ok (.aload_n 0, 1) := by decide +kernel
theorem d2_5 : decode jdk_39_method_1_code 5 = .ok (.iconst 0, 1) := by decide +kernel
theorem d2_6 : decode jdk_39_method_1_code 6 = .ok (.putfield 7, 3) := by decide +kernel
theorem d2_9 : decode jdk_39_method_1_code 9 = .ok (.return_, 1) := by decide +kernel
theorem pn_1 : plainName "java/util/AbstractList" = true := by first | (simp [plainName, overriddenIn]; done) | decide +kernel
theorem ef_2 (m : MethodId) (a : Addr) : entryFrame m #[(.ref a)] 1 = mkF m 0 #[.val (.ref a)] [] := by first | (simp [entryFrame, mkF, argsToLocals, Value.category]; done) | rfl
theorem pd_0 : parseMethodDescriptor "()V" = some ⟨[], none⟩ := by decide +kernel
def Q2 (Z : State) (a : Addr) (h0 : Heap) (n0 : Nat) (v_ : Option Value) (h_ : Heap) (L_ : List Loc) : Prop := v_ = none ∧ Fr n0 L_ ∧ Keep h0 h_ [a] ∧ Exa Z h_ a "java/util/ArrayList" ∧ Fld Z h_ a "java/util/ArrayList" "elementData" "[Ljava/lang/Object;" .null ∧ Fld Z h_ a "java/util/ArrayList" "size" "I" (.int (0 : Int32))
set_option maxRecDepth 65536 in
set_option maxHeartbeats 40000000 in
theorem rm2 (l : Launch) (Z : State) (a0 : Array Value) (hw : ∀ d ∈ tables_1, d.before a0 Z = true) (ws : List Jvm.Cond) (a : Addr) (h0 : Heap) (n0 : Nat) (Z0 : n0 ≤ h0.size) (P0 : Exa Z h0 a "java/util/ArrayList") (P1 : Fld Z h0 a "java/util/AbstractList" "modCount" "I" (.int (0 : Int32))) (P2 : Fld Z h0 a "java/util/ArrayList" "elementData" "[Ljava/lang/Object;" .null) (P3 : Fld Z h0 a "java/util/ArrayList" "size" "I" (.int (0 : Int32))) (g_a : n0 ≤ a) :
    MetFree l (⟨"java/util/AbstractList", "<init>", "()V"⟩ : MethodName) (head1 (Jvm.Cond.code (⟨"java/util/AbstractList", "<init>", "()V"⟩ : MethodName) jdk_39_method_1_code 1 none :: ws) ({ frames := 2, cells := 0, slots := 0, locals := 24 } : Room)) (fun ar_ U_ => ar_ = #[(.ref a)] ∧ Z.Warmed39 U_.vm ∧ U_.heap = h0) (fun _ _ _ _ _ => True) (fun _ U_ o_ U2_ => ∃ v_ L_, o_ = .returned v_ ∧ Q2 Z a h0 n0 v_ U2_.heap L_ ∧ FrameEnd U_ o_ U2_ L_ ({ frames := 2, cells := 0, slots := 0, locals := 24 } : Room).cells ({ frames := 2, cells := 0, slots := 0, locals := 24 } : Room).slots) := by
  refine MetFree.of_bodySF (plainFor_of_name pn_1) hisR ?_
  intro p e s m args below meth c s₁ Bd hml0 hP hK
  obtain ⟨rfl, hZ, hh⟩ := hP
  have hx := Bd.exec
  have hby := Bd.bytes
  have hml : c.maxLocals = 1 := hml0
  have hown : s.vm.findClass "java/util/AbstractList" = some m.cls := findClass_of_methodNamed Bd.named
  have hnm := (name_of_methodNamed Bd.named Bd.method).1
  have X0 : Stand p l e ({ frames := 2, cells := 0, slots := 0, locals := 24 } : Room) s m #[(.ref a)] below meth c s₁ [] 0 0 := Stand.of_body Bd
  have e0 : s₁.heap = h0 := by rw [← hh, Bd.state]; rfl
  have N0 := Fr.nil n0
  refine own_gl ?_
  refine own_st (S' := s₁.setTop (mkF m 0 #[.val (.ref a)] [])) (fun t_ k_ => castTop (ef_2 m a) k_) ?_
  refine own_st (S' := s₁.setTop (mkF m 1 #[.val (.ref a)] [(.ref a)])) (fun t_ k_ => XS.aloadN X0.here hx rfl (hb hby d2_0) rfl rfl k_) ?_
  obtain ⟨_, _, ⟨T_1, L_1, k_1, n_1⟩, -, X_1, ⟨Lc_1, hQ_1, l_1, y_1, z_1⟩, st_1⟩ := X0.specialBack hx (y := (⟨"java/util/AbstractCollection", "<init>", "()V"⟩ : MethodName)) rfl hown (mvT hZ (hw _ (List.mem_of_getElem? (i := 13) rfl))) (mvT hZ (hw _ (List.mem_of_getElem? (i := 14) rfl))) (mvT hZ (hw _ (List.mem_of_getElem? (i := 18) rfl))) (by decide) (backOf (W := 0) (rm1 l Z a0 hw [] a h0 n0 Z0 ) hZ (hw _ (List.mem_of_getElem? (i := 18) rfl)) (hw _ (List.mem_of_getElem? (i := 17) rfl)) (by decide) (by decide)) (g := (mkF m 1 #[.val (.ref a)] [(.ref a)])) rfl (by rw [hml]; rfl) (Steps.refl _) (a := a) (argsL := []) (rest := []) (lenOf pd_0 rfl) rfl (by show 2 * 0 + _ ≤ _; exact Nat.le_of_eq rfl) (hb hby d2_1) (fun _ _ => ⟨rfl, e0, (by decide : 0 + 0 ≤ _), (by decide : 0 + 0 ≤ _)⟩)
  dsimp only [Pt.U, Pt.locs, Pt.cells, Pt.slots] at X_1 l_1 y_1 z_1 st_1 hQ_1
  subst l_1 y_1 z_1
  obtain ⟨rfl, M_1, q_1⟩ := hQ_1
  have N_1 := Fr.app N0 M_1
  refine own_st (S' := T_1.setTop (mkF m 4 #[.val (.ref a)] [])) (fun t_ k_ => st_1.trans k_) ?_
  refine own_st (S' := T_1.setTop (mkF m 5 #[.val (.ref a)] [(.ref a)])) (fun t_ k_ => XS.aloadN X_1.here hx rfl (hb hby d2_4) rfl rfl k_) ?_
  refine own_st (S' := T_1.setTop (mkF m 6 #[.val (.ref a)] [(.int (0 : Int32)), (.ref a)])) (fun t_ k_ => XS.iconst X_1.here hx rfl (hb hby d2_5) k_) ?_
  obtain ⟨T_2, h_2, X_2, e_2, W_2, st_2⟩ := putF X_1 hx hZ hown (host := "") (Or.inl (hw _ (List.mem_of_getElem? (i := 22) rfl))) Via.refl q_1 P1 P0 (Or.inl (hw _ (List.mem_of_getElem? (i := 23) rfl))) (hw _ (List.mem_of_getElem? (i := 2) rfl)) (ty := .int) (by decide) rfl rfl (g := (mkF m 6 #[.val (.ref a)] [(.int (0 : Int32)), (.ref a)])) rfl rfl (hb hby d2_6)
  have Z_2 : n0 ≤ h_2.size := Nat.le_trans Z0 (Keep.of_wr W_2).1
  have N_2 := Fr.snoc X_2 N_1 g_a
  have K_2 : Keep h0 h_2 [a] := (Keep.refl h0 [a]).wr W_2 (Or.inl (List.mem_of_getElem? (i := 0) rfl))
  have f_2 : Fld Z h_2 a "java/util/AbstractList" "modCount" "I" (.int (0 : Int32)) := Fld.same W_2 P1
  refine own_st (S' := T_2.setTop (mkF m 9 #[.val (.ref a)] [])) st_2 ?_
  obtain ⟨fs, hr, hrun, hended, hW, hsame⟩ := X_2.leave (v := none) (fun _ => rfl)
  have f_3 : Exa Z h_2 a "java/util/ArrayList" := (Exa.wr W_2 P0)
  have f_4 : Fld Z h_2 a "java/util/ArrayList" "elementData" "[Ljava/lang/Object;" .null := (Fld.other W_2 P2 (Or.inr (slot_ne (Or.inl (hw _ (List.mem_of_getElem? (i := 26) rfl))) (Or.inl (hw _ (List.mem_of_getElem? (i := 23) rfl))) (by decide) (t := (.array (.object "java/lang/Object"))) (t' := .int) (by decide) (by decide))))
  have f_5 : Fld Z h_2 a "java/util/ArrayList" "size" "I" (.int (0 : Int32)) := (Fld.other W_2 P3 (Or.inr (slot_ne (Or.inl (hw _ (List.mem_of_getElem? (i := 74) rfl))) (Or.inl (hw _ (List.mem_of_getElem? (i := 23) rfl))) (by decide) (t := .int) (t' := .int) (by decide) (by decide))))
  refine ⟨_, _, X_2.returnOut hx Bd.returns (hb hby d2_9) hr, hrun, hended, _, _, rfl, ?_, ⟨_, rfl⟩, hW, hsame.mono (by decide) (by decide)⟩
  show Q2 Z a h0 n0 _ T_2.heap _
  rw [e_2]
  exact ⟨rfl, N_2, K_2, f_3, f_4, f_5⟩
theorem d3_0 : decode jdk_38_method_2_code 0 = .ok (.aload_n 0, 1) := by decide +kernel
theorem d3_1 : decode jdk_38_method_2_code 1 = .ok (.invokespecial 1, 3) := by decide +kernel
theorem d3_4 : decode jdk_38_method_2_code 4 = .ok (.aload_n 0, 1) := by decide +kernel
theorem d3_5 : decode jdk_38_method_2_code 5 = .ok (.getstatic 39, 3) := by decide +kernel
theorem d3_8 : decode jdk_38_method_2_code 8 = .ok (.putfield 9, 3) := by decide +kernel
theorem d3_11 : decode jdk_38_method_2_code 11 = .ok (.return_, 1) := by decide +kernel
theorem pn_2 : plainName "java/util/ArrayList" = true := by first | (simp [plainName, overriddenIn]; done) | decide +kernel
theorem ef_3 (m : MethodId) (a : Addr) : entryFrame m #[(.ref a)] 1 = mkF m 0 #[.val (.ref a)] [] := by first | (simp [entryFrame, mkF, argsToLocals, Value.category]; done) | rfl
def Q3 (Z : State) (a : Addr) (dd : Addr) (h0 : Heap) (n0 : Nat) (v_ : Option Value) (h_ : Heap) (L_ : List Loc) : Prop := v_ = none ∧ Fr n0 L_ ∧ Keep h0 h_ [a] ∧ Exa Z h_ a "java/util/ArrayList" ∧ Fld Z h_ a "java/util/ArrayList" "elementData" "[Ljava/lang/Object;" (.ref dd) ∧ Fld Z h_ a "java/util/ArrayList" "size" "I" (.int (0 : Int32))
set_option maxRecDepth 65536 in
set_option maxHeartbeats 40000000 in
theorem rm3 (l : Launch) (Z : State) (a0 : Array Value) (hw : ∀ d ∈ tables_1, d.before a0 Z = true) (ws : List Jvm.Cond) (a : Addr) (dd : Addr) (h0 : Heap) (n0 : Nat) (Z0 : n0 ≤ h0.size) (P0 : Exa Z h0 a "java/util/ArrayList") (P1 : Fld Z h0 a "java/util/AbstractList" "modCount" "I" (.int (0 : Int32))) (P2 : Fld Z h0 a "java/util/ArrayList" "elementData" "[Ljava/lang/Object;" .null) (P3 : Fld Z h0 a "java/util/ArrayList" "size" "I" (.int (0 : Int32))) (Y0 : Sta Z Z.heap "java/util/ArrayList" "DEFAULTCAPACITY_EMPTY_ELEMENTDATA" "[Ljava/lang/Object;" (.ref dd)) (O0 : Old Z n0 h0) (g_a : n0 ≤ a) :
    MetFree l (⟨"java/util/ArrayList", "<init>", "()V"⟩ : MethodName) (head1 (Jvm.Cond.code (⟨"java/util/ArrayList", "<init>", "()V"⟩ : MethodName) jdk_38_method_2_code 1 none :: ws) ({ frames := 3, cells := 0, slots := 0, locals := 36 } : Room)) (fun ar_ U_ => ar_ = #[(.ref a)] ∧ Z.Warmed39 U_.vm ∧ U_.heap = h0) (fun _ _ _ _ _ => True) (fun _ U_ o_ U2_ => ∃ v_ L_, o_ = .returned v_ ∧ Q3 Z a dd h0 n0 v_ U2_.heap L_ ∧ FrameEnd U_ o_ U2_ L_ ({ frames := 3, cells := 0, slots := 0, locals := 36 } : Room).cells ({ frames := 3, cells := 0, slots := 0, locals := 36 } : Room).slots) := by
  refine MetFree.of_bodySF (plainFor_of_name pn_2) hisR ?_
  intro p e s m args below meth c s₁ Bd hml0 hP hK
  obtain ⟨rfl, hZ, hh⟩ := hP
  have hx := Bd.exec
  have hby := Bd.bytes
  have hml : c.maxLocals = 1 := hml0
  have hown : s.vm.findClass "java/util/ArrayList" = some m.cls := findClass_of_methodNamed Bd.named
  have hnm := (name_of_methodNamed Bd.named Bd.method).1
  have X0 : Stand p l e ({ frames := 3, cells := 0, slots := 0, locals := 36 } : Room) s m #[(.ref a)] below meth c s₁ [] 0 0 := Stand.of_body Bd
  have e0 : s₁.heap = h0 := by rw [← hh, Bd.state]; rfl
  have N0 := Fr.nil n0
  refine own_gl ?_
  refine own_st (S' := s₁.setTop (mkF m 0 #[.val (.ref a)] [])) (fun t_ k_ => castTop (ef_3 m a) k_) ?_
  refine own_st (S' := s₁.setTop (mkF m 1 #[.val (.ref a)] [(.ref a)])) (fun t_ k_ => XS.aloadN X0.here hx rfl (hb hby d3_0) rfl rfl k_) ?_
  obtain ⟨_, _, ⟨T_1, L_1, k_1, n_1⟩, -, X_1, ⟨Lc_1, hQ_1, l_1, y_1, z_1⟩, st_1⟩ := X0.specialBack hx (y := (⟨"java/util/AbstractList", "<init>", "()V"⟩ : MethodName)) rfl hown (mvT hZ (hw _ (List.mem_of_getElem? (i := 7) rfl))) (mvT hZ (hw _ (List.mem_of_getElem? (i := 8) rfl))) (mvT hZ (hw _ (List.mem_of_getElem? (i := 12) rfl))) (by decide) (backOf (W := 0) (rm2 l Z a0 hw [] a h0 n0 Z0 P0 P1 P2 P3 g_a) hZ (hw _ (List.mem_of_getElem? (i := 12) rfl)) (hw _ (List.mem_of_getElem? (i := 11) rfl)) (by decide) (by decide)) (g := (mkF m 1 #[.val (.ref a)] [(.ref a)])) rfl (by rw [hml]; rfl) (Steps.refl _) (a := a) (argsL := []) (rest := []) (lenOf pd_0 rfl) rfl (by show 2 * 0 + _ ≤ _; exact Nat.le_of_eq rfl) (hb hby d3_1) (fun _ _ => ⟨rfl, e0, (by decide : 0 + 0 ≤ _), (by decide : 0 + 0 ≤ _)⟩)
  dsimp only [Pt.U, Pt.locs, Pt.cells, Pt.slots] at X_1 l_1 y_1 z_1 st_1 hQ_1
  subst l_1 y_1 z_1
  obtain ⟨rfl, M_1, K_1c, c_1_0, c_1_1, c_1_2⟩ := hQ_1
  have N_1 := Fr.app N0 M_1
  have K_1 : Keep h0 T_1.heap [a] := (Keep.refl h0 [a]).trans K_1c (allS (Or.inl (List.mem_of_getElem? (i := 0) rfl)) all0)
  have Z_1 : n0 ≤ T_1.heap.size := Nat.le_trans Z0 K_1c.1
  refine own_st (S' := T_1.setTop (mkF m 4 #[.val (.ref a)] [])) (fun t_ k_ => st_1.trans k_) ?_
  refine own_st (S' := T_1.setTop (mkF m 5 #[.val (.ref a)] [(.ref a)])) (fun t_ k_ => XS.aloadN X_1.here hx rfl (hb hby d3_4) rfl rfl k_) ?_
  have f_3 : Old Z n0 T_1.heap := (O0.keep K_1c (allS g_a all0))
  have f_2 : Sta Z T_1.heap "java/util/ArrayList" "DEFAULTCAPACITY_EMPTY_ELEMENTDATA" "[Ljava/lang/Object;" (.ref dd) := Sta.ext f_3.2 Y0
  obtain ⟨T_4, X_4, e_4, st_4⟩ := getS2 X_1 hx hZ hown (host := "") (Or.inl (hw _ (List.mem_of_getElem? (i := 24) rfl))) Via.refl rfl f_2 (g := (mkF m 5 #[.val (.ref a)] [(.ref a)])) rfl (hb hby d3_5)
  refine own_st (S' := T_4.setTop (mkF m 8 #[.val (.ref a)] [(.ref dd), (.ref a)])) st_4 ?_
  obtain ⟨T_5, h_5, X_5, e_5, W_5, st_5⟩ := putF X_4 hx hZ hown (host := "") (Or.inl (hw _ (List.mem_of_getElem? (i := 25) rfl))) Via.refl e_4 c_1_1 c_1_0 (Or.inl (hw _ (List.mem_of_getElem? (i := 26) rfl))) (hw _ (List.mem_of_getElem? (i := 2) rfl)) (ty := (.array (.object "java/lang/Object"))) (by decide) rfl rfl (g := (mkF m 8 #[.val (.ref a)] [(.ref dd), (.ref a)])) rfl rfl (hb hby d3_8)
  have Z_5 : n0 ≤ h_5.size := Nat.le_trans Z_1 (Keep.of_wr W_5).1
  have N_5 := Fr.snoc X_5 N_1 g_a
  have K_5 : Keep h0 h_5 [a] := K_1.wr W_5 (Or.inl (List.mem_of_getElem? (i := 0) rfl))
  have f_5 : Fld Z h_5 a "java/util/ArrayList" "elementData" "[Ljava/lang/Object;" (.ref dd) := Fld.same W_5 c_1_1
  refine own_st (S' := T_5.setTop (mkF m 11 #[.val (.ref a)] [])) st_5 ?_
  obtain ⟨fs, hr, hrun, hended, hW, hsame⟩ := X_5.leave (v := none) (fun _ => rfl)
  have f_6 : Exa Z h_5 a "java/util/ArrayList" := (Exa.wr W_5 c_1_0)
  have f_7 : Fld Z h_5 a "java/util/ArrayList" "size" "I" (.int (0 : Int32)) := (Fld.other W_5 c_1_2 (Or.inr (slot_ne (Or.inl (hw _ (List.mem_of_getElem? (i := 74) rfl))) (Or.inl (hw _ (List.mem_of_getElem? (i := 26) rfl))) (by decide) (t := .int) (t' := (.array (.object "java/lang/Object"))) (by decide) (by decide))))
  refine ⟨_, _, X_5.returnOut hx Bd.returns (hb hby d3_11) hr, hrun, hended, _, _, rfl, ?_, ⟨_, rfl⟩, hW, hsame.mono (by decide) (by decide)⟩
  show Q3 Z a dd h0 n0 _ T_5.heap _
  rw [e_5]
  exact ⟨rfl, N_5, K_5, f_6, f_5, f_7⟩
theorem d4_0 : decode jdk_38_method_8_code 0 = .ok (.aload_n 0, 1) := by decide +kernel
theorem d4_1 : decode jdk_38_method_8_code 1 = .ok (.getfield 48, 3) := by decide +kernel
theorem d4_4 : decode jdk_38_method_8_code 4 = .ok (.ireturn, 1) := by decide +kernel
theorem ef_4 (m : MethodId) (a : Addr) : entryFrame m #[(.ref a)] 1 = mkF m 0 #[.val (.ref a)] [] := by first | (simp [entryFrame, mkF, argsToLocals, Value.category]; done) | rfl
def Q4 (Z : State) (a : Addr) (h0 : Heap) (n0 : Nat) (v_ : Option Value) (h_ : Heap) (L_ : List Loc) : Prop := v_ = some (.int (0 : Int32)) ∧ Fr n0 L_ ∧ h_ = h0
set_option maxRecDepth 65536 in
set_option maxHeartbeats 40000000 in
theorem rm4 (l : Launch) (Z : State) (a0 : Array Value) (hw : ∀ d ∈ tables_1, d.before a0 Z = true) (ws : List Jvm.Cond) (a : Addr) (h0 : Heap) (n0 : Nat) (Z0 : n0 ≤ h0.size) (P0 : Fld Z h0 a "java/util/ArrayList" "size" "I" (.int (0 : Int32))) :
    MetFree l (⟨"java/util/ArrayList", "size", "()I"⟩ : MethodName) (head1 (Jvm.Cond.code (⟨"java/util/ArrayList", "size", "()I"⟩ : MethodName) jdk_38_method_8_code 1 (some .int) :: ws) ({ frames := 0, cells := 0, slots := 0, locals := 0 } : Room)) (fun ar_ U_ => ar_ = #[(.ref a)] ∧ Z.Warmed39 U_.vm ∧ U_.heap = h0) (fun _ _ _ _ _ => True) (fun _ U_ o_ U2_ => ∃ v_ L_, o_ = .returned v_ ∧ Q4 Z a h0 n0 v_ U2_.heap L_ ∧ FrameEnd U_ o_ U2_ L_ ({ frames := 0, cells := 0, slots := 0, locals := 0 } : Room).cells ({ frames := 0, cells := 0, slots := 0, locals := 0 } : Room).slots) := by
  refine MetFree.of_bodySF (plainFor_of_name pn_2) hisR ?_
  intro p e s m args below meth c s₁ Bd hml0 hP hK
  obtain ⟨rfl, hZ, hh⟩ := hP
  have hx := Bd.exec
  have hby := Bd.bytes
  have hml : c.maxLocals = 1 := hml0
  have hown : s.vm.findClass "java/util/ArrayList" = some m.cls := findClass_of_methodNamed Bd.named
  have hnm := (name_of_methodNamed Bd.named Bd.method).1
  have X0 : Stand p l e ({ frames := 0, cells := 0, slots := 0, locals := 0 } : Room) s m #[(.ref a)] below meth c s₁ [] 0 0 := Stand.of_body Bd
  have e0 : s₁.heap = h0 := by rw [← hh, Bd.state]; rfl
  have N0 := Fr.nil n0
  refine own_gl ?_
  refine own_st (S' := s₁.setTop (mkF m 0 #[.val (.ref a)] [])) (fun t_ k_ => castTop (ef_4 m a) k_) ?_
  refine own_st (S' := s₁.setTop (mkF m 1 #[.val (.ref a)] [(.ref a)])) (fun t_ k_ => XS.aloadN X0.here hx rfl (hb hby d4_0) rfl rfl k_) ?_
  obtain ⟨T_1, X_1, e_1, st_1⟩ := getF X0 hx hZ hown (host := "") (Or.inl (hw _ (List.mem_of_getElem? (i := 73) rfl))) Via.refl e0 P0 (g := (mkF m 1 #[.val (.ref a)] [(.ref a)])) rfl rfl (hb hby d4_1)
  refine own_st (S' := T_1.setTop (mkF m 4 #[.val (.ref a)] [(.int (0 : Int32))])) st_1 ?_
  obtain ⟨fs, hr, hrun, hended, hW, hsame⟩ := X_1.leave (v := some (.int (0 : Int32))) (fun h => by rw [Bd.returns] at h; cases h)
  refine ⟨_, _, retI X_1 hx Bd.returns (hb hby d4_4) hr, hrun, hended, _, _, rfl, ?_, ⟨_, rfl⟩, hW, hsame.mono (by decide) (by decide)⟩
  show Q4 Z a h0 n0 _ T_1.heap _
  rw [e_1]
  exact ⟨rfl, N0, rfl⟩
theorem d5_0 : decode jdk_65_method_123_code 0 = .ok (.iload_n 1, 1) := by decide +kernel
theorem d5_1 : decode jdk_65_method_123_code 1 = .ok (.aload_n 0, 1) := by decide +kernel
theorem d5_2 : decode jdk_65_method_123_code 2 = .ok (.arraylength, 1) := by decide +kernel
theorem d5_3 : decode jdk_65_method_123_code 3 = .ok (.if_icmp .ne 11, 3) := by decide +kernel
theorem d5_6 : decode jdk_65_method_123_code 6 = .ok (.aload_n 0, 1) := by decide +kernel
theorem d5_7 : decode jdk_65_method_123_code 7 = .ok (.invokevirtual 316, 3) := by decide +kernel
theorem d5_10 : decode jdk_65_method_123_code 10 = .ok (.checkcast 317, 3) := by decide +kernel
theorem d5_13 : decode jdk_65_method_123_code 13 = .ok (.areturn, 1) := by decide +kernel
theorem pn_3 : plainName "java/util/Arrays" = true := by first | (simp [plainName, overriddenIn]; done) | decide +kernel
theorem ef_5 (m : MethodId) (d : Addr) : entryFrame m #[(.ref d), (.int (2 : Int32))] 3 = mkF m 0 #[.val (.ref d), .val (.int (2 : Int32)), .unset] [] := by first | (simp [entryFrame, mkF, argsToLocals, Value.category]; done) | rfl
def Q5 (Z : State) (d : Addr) (k : ClassId) (v0 : Int32) (v1 : Int32) (h0 : Heap) (n0 : Nat) (v_ : Option Value) (h_ : Heap) (L_ : List Loc) : Prop := ∃ b : Addr, v_ = some (.ref b) ∧ Fr n0 L_ ∧ Keep h0 h_ [] ∧ h0.size ≤ b ∧ Arv Z h_ b k .int (2 : Int32) [(.int v0), (.int v1)] (.int (0 : Int32)) ∧ Exa Z h_ b "[I"
set_option maxRecDepth 65536 in
set_option maxHeartbeats 40000000 in
theorem rm5 (l : Launch) (Z : State) (a0 : Array Value) (hw : ∀ d ∈ tables_1, d.before a0 Z = true) (ws : List Jvm.Cond) (d : Addr) (k : ClassId) (v0 : Int32) (v1 : Int32) (h0 : Heap) (n0 : Nat) (Z0 : n0 ≤ h0.size) (P0 : Arv Z h0 d k .int (2 : Int32) [(.int v0), (.int v1)] (.int (0 : Int32))) (P1 : Exa Z h0 d "[I") :
    MetFree l (⟨"java/util/Arrays", "copyOf", "([II)[I"⟩ : MethodName) (head1 (Jvm.Cond.code (⟨"java/util/Arrays", "copyOf", "([II)[I"⟩ : MethodName) jdk_65_method_123_code 3 (some (.array .int)) :: ws) ({ frames := 1, cells := 1, slots := 2, locals := 14 } : Room)) (fun ar_ U_ => ar_ = #[(.ref d), (.int (2 : Int32))] ∧ Z.Warmed39 U_.vm ∧ U_.heap = h0) (fun _ _ _ _ _ => True) (fun _ U_ o_ U2_ => ∃ v_ L_, o_ = .returned v_ ∧ Q5 Z d k v0 v1 h0 n0 v_ U2_.heap L_ ∧ FrameEnd U_ o_ U2_ L_ ({ frames := 1, cells := 1, slots := 2, locals := 14 } : Room).cells ({ frames := 1, cells := 1, slots := 2, locals := 14 } : Room).slots) := by
  refine MetFree.of_bodySF (plainFor_of_name pn_3) hisR ?_
  intro p e s m args below meth c s₁ Bd hml0 hP hK
  obtain ⟨rfl, hZ, hh⟩ := hP
  have hx := Bd.exec
  have hby := Bd.bytes
  have hml : c.maxLocals = 3 := hml0
  have hown : s.vm.findClass "java/util/Arrays" = some m.cls := findClass_of_methodNamed Bd.named
  have hnm := (name_of_methodNamed Bd.named Bd.method).1
  have X0 : Stand p l e ({ frames := 1, cells := 1, slots := 2, locals := 14 } : Room) s m #[(.ref d), (.int (2 : Int32))] below meth c s₁ [] 0 0 := Stand.of_body Bd
  have e0 : s₁.heap = h0 := by rw [← hh, Bd.state]; rfl
  have N0 := Fr.nil n0
  refine own_gl ?_
  refine own_st (S' := s₁.setTop (mkF m 0 #[.val (.ref d), .val (.int (2 : Int32)), .unset] [])) (fun t_ k_ => castTop (ef_5 m d) k_) ?_
  refine own_st (S' := s₁.setTop (mkF m 1 #[.val (.ref d), .val (.int (2 : Int32)), .unset] [(.int (2 : Int32))])) (fun t_ k_ => XS.iloadN X0.here hx rfl (hb hby d5_0) rfl k_) ?_
  refine own_st (S' := s₁.setTop (mkF m 2 #[.val (.ref d), .val (.int (2 : Int32)), .unset] [(.ref d), (.int (2 : Int32))])) (fun t_ k_ => XS.aloadN X0.here hx rfl (hb hby d5_1) rfl rfl k_) ?_
  obtain ⟨cl_1, Ar_1, q_1, S_1, M_1, H_1, G_1⟩ := id P0
  refine own_st (S' := s₁.setTop (mkF m 3 #[.val (.ref d), .val (.int (2 : Int32)), .unset] [(.int (2 : Int32)), (.int (2 : Int32))])) (fun t_ k_ => X0.arraylength hx (by rw [e0]; exact Ar_1.1) (State.isArrayOf_alike hZ.alike Ar_1.2.1) (g := (mkF m 2 #[.val (.ref d), .val (.int (2 : Int32)), .unset] [(.ref d), (.int (2 : Int32))])) rfl rfl (hb hby d5_2) _ (by rw [len_of S_1 M_1]; exact k_)) ?_
  refine own_st (S' := s₁.setTop (mkF m 6 #[.val (.ref d), .val (.int (2 : Int32)), .unset] [])) (fun t_ k_ => XS.icmpNo X0.here hx rfl (hb hby d5_3) rfl (teq (by decide : (2 : Int32) = (2 : Int32))).2 k_) ?_
  refine own_st (S' := s₁.setTop (mkF m 7 #[.val (.ref d), .val (.int (2 : Int32)), .unset] [(.ref d)])) (fun t_ k_ => XS.aloadN X0.here hx rfl (hb hby d5_6) rfl rfl k_) ?_
  obtain ⟨T_2, h_2, X_2, e_2, E_2, V_2, A_2, st_2⟩ := cloneH X0 hx hZ hown (hw _ (List.mem_of_getElem? (i := 38) rfl)) (hw _ (List.mem_of_getElem? (i := 39) rfl)) (hw _ (List.mem_of_getElem? (i := 43) rfl)) (hw _ (List.mem_of_getElem? (i := 41) rfl)) (hw _ (List.mem_of_getElem? (i := 42) rfl)) (hw _ (List.mem_of_getElem? (i := 44) rfl)) e0 (Arv.arh P0) P1 (g := (mkF m 7 #[.val (.ref d), .val (.int (2 : Int32)), .unset] [(.ref d)])) rfl (by rw [hml]; rfl) rfl (hb hby d5_7) (by decide) (W := 0) (cap := 2) (by show 2 * 0 + _ ≤ _; exact Nat.le_of_eq rfl) (by decide) (by decide) (by decide) (by decide)
  obtain ⟨b_2, gg_2⟩ : ∃ z, z = h0.size := ⟨_, rfl⟩
  rw [← gg_2] at A_2 V_2 st_2
  have ne_d_b_2 : d ≠ b_2 := Nat.ne_of_lt (Nat.lt_of_lt_of_le P1.lt (Nat.le_of_eq gg_2.symm))
  have g_b_2 : n0 ≤ b_2 := Nat.le_trans Z0 (Nat.le_of_eq gg_2.symm)
  have sz_b_2 : h0.size ≤ b_2 := Nat.le_trans (Keep.refl h0 []).1 (Nat.le_of_eq gg_2.symm)
  have Z_2 : n0 ≤ h_2.size := Nat.le_trans Z0 E_2.1
  have K_2 : Keep h0 h_2 [] := (Keep.refl h0 []).ext E_2
  have V_2a : Arv Z h_2 b_2 k .int (2 : Int32) [(.int v0), (.int v1)] (.int (0 : Int32)) := V_2
  refine own_st (S' := T_2.setTop (mkF m 10 #[.val (.ref d), .val (.int (2 : Int32)), .unset] [(.ref b_2)])) st_2 ?_
  obtain ⟨T_3, X_3, e_3, st_3⟩ := castY X_2 hx hZ hown (hw _ (List.mem_of_getElem? (i := 45) rfl)) e_2 (Ins.self A_2) (g := (mkF m 10 #[.val (.ref d), .val (.int (2 : Int32)), .unset] [(.ref b_2)])) rfl rfl (hb hby d5_10)
  refine own_st (S' := T_3.setTop (mkF m 13 #[.val (.ref d), .val (.int (2 : Int32)), .unset] [(.ref b_2)])) st_3 ?_
  obtain ⟨fs, hr, hrun, hended, hW, hsame⟩ := X_3.leave (v := some (.ref b_2)) (fun h => by rw [Bd.returns] at h; cases h)
  refine ⟨_, _, own_retR X_3 hx Bd.returns rfl rfl (hb hby d5_13) hr, hrun, hended, _, _, rfl, ?_, ⟨_, rfl⟩, hW, hsame.mono (by decide) (by decide)⟩
  show Q5 Z d k v0 v1 h0 n0 _ T_3.heap _
  rw [e_3]
  exact ⟨b_2, rfl, N0, K_2, sz_b_2, V_2a, A_2⟩
theorem d6_0 : decode jdk_65_method_103_code 0 = .ok (.iconst 0, 1) := by decide +kernel
theorem d6_1 : decode jdk_65_method_103_code 1 = .ok (.istore_n 2, 1) := by decide +kernel
theorem d6_2 : decode jdk_65_method_103_code 2 = .ok (.aload_n 0, 1) := by decide +kernel
theorem d6_3 : decode jdk_65_method_103_code 3 = .ok (.arraylength, 1) := by decide +kernel
theorem d6_4 : decode jdk_65_method_103_code 4 = .ok (.istore_n 3, 1) := by decide +kernel
theorem d6_5 : decode jdk_65_method_103_code 5 = .ok (.iload_n 2, 1) := by decide +kernel
theorem d6_6 : decode jdk_65_method_103_code 6 = .ok (.iload_n 3, 1) := by decide +kernel
theorem d6_7 : decode jdk_65_method_103_code 7 = .ok (.if_icmp .ge 13, 3) := by decide +kernel
theorem d6_20 : decode jdk_65_method_103_code 20 = .ok (.return_, 1) := by decide +kernel
theorem ef_6 (m : MethodId) (d : Addr) (n : Int32) : entryFrame m #[(.ref d), (.int n)] 4 = mkF m 0 #[.val (.ref d), .val (.int n), .unset, .unset] [] := by first | (simp [entryFrame, mkF, argsToLocals, Value.category]; done) | rfl
def Q6 (Z : State) (d : Addr) (n : Int32) (k : ClassId) (h0 : Heap) (n0 : Nat) (v_ : Option Value) (h_ : Heap) (L_ : List Loc) : Prop := v_ = none ∧ Fr n0 L_ ∧ h_ = h0
set_option maxRecDepth 65536 in
set_option maxHeartbeats 40000000 in
theorem rm6 (l : Launch) (Z : State) (a0 : Array Value) (hw : ∀ d ∈ tables_1, d.before a0 Z = true) (ws : List Jvm.Cond) (d : Addr) (n : Int32) (k : ClassId) (h0 : Heap) (n0 : Nat) (Z0 : n0 ≤ h0.size) (P0 : Arv Z h0 d k .int (0 : Int32) [] (.int (0 : Int32))) :
    MetFree l (⟨"java/util/Arrays", "fill", "([II)V"⟩ : MethodName) (head1 (Jvm.Cond.code (⟨"java/util/Arrays", "fill", "([II)V"⟩ : MethodName) jdk_65_method_103_code 4 none :: ws) ({ frames := 0, cells := 0, slots := 0, locals := 0 } : Room)) (fun ar_ U_ => ar_ = #[(.ref d), (.int n)] ∧ Z.Warmed39 U_.vm ∧ U_.heap = h0) (fun _ _ _ _ _ => True) (fun _ U_ o_ U2_ => ∃ v_ L_, o_ = .returned v_ ∧ Q6 Z d n k h0 n0 v_ U2_.heap L_ ∧ FrameEnd U_ o_ U2_ L_ ({ frames := 0, cells := 0, slots := 0, locals := 0 } : Room).cells ({ frames := 0, cells := 0, slots := 0, locals := 0 } : Room).slots) := by
  refine MetFree.of_bodySF (plainFor_of_name pn_3) hisR ?_
  intro p e s m args below meth c s₁ Bd hml0 hP hK
  obtain ⟨rfl, hZ, hh⟩ := hP
  have hx := Bd.exec
  have hby := Bd.bytes
  have hml : c.maxLocals = 4 := hml0
  have hown : s.vm.findClass "java/util/Arrays" = some m.cls := findClass_of_methodNamed Bd.named
  have hnm := (name_of_methodNamed Bd.named Bd.method).1
  have X0 : Stand p l e ({ frames := 0, cells := 0, slots := 0, locals := 0 } : Room) s m #[(.ref d), (.int n)] below meth c s₁ [] 0 0 := Stand.of_body Bd
  have e0 : s₁.heap = h0 := by rw [← hh, Bd.state]; rfl
  have N0 := Fr.nil n0
  refine own_gl ?_
  refine own_st (S' := s₁.setTop (mkF m 0 #[.val (.ref d), .val (.int n), .unset, .unset] [])) (fun t_ k_ => castTop (ef_6 m d n) k_) ?_
  refine own_st (S' := s₁.setTop (mkF m 1 #[.val (.ref d), .val (.int n), .unset, .unset] [(.int (0 : Int32))])) (fun t_ k_ => XS.iconst X0.here hx rfl (hb hby d6_0) k_) ?_
  refine own_st (S' := s₁.setTop (mkF m 2 #[.val (.ref d), .val (.int n), .val (.int (0 : Int32)), .unset] [])) (fun t_ k_ => XS.istoreN X0.here hx rfl (hb hby d6_1) rfl (l' := #[.val (.ref d), .val (.int n), .val (.int (0 : Int32)), .unset]) rfl k_) ?_
  refine own_st (S' := s₁.setTop (mkF m 3 #[.val (.ref d), .val (.int n), .val (.int (0 : Int32)), .unset] [(.ref d)])) (fun t_ k_ => XS.aloadN X0.here hx rfl (hb hby d6_2) rfl rfl k_) ?_
  obtain ⟨cl_1, Ar_1, q_1, S_1, M_1, H_1, G_1⟩ := id P0
  refine own_st (S' := s₁.setTop (mkF m 4 #[.val (.ref d), .val (.int n), .val (.int (0 : Int32)), .unset] [(.int (0 : Int32))])) (fun t_ k_ => X0.arraylength hx (by rw [e0]; exact Ar_1.1) (State.isArrayOf_alike hZ.alike Ar_1.2.1) (g := (mkF m 3 #[.val (.ref d), .val (.int n), .val (.int (0 : Int32)), .unset] [(.ref d)])) rfl rfl (hb hby d6_3) _ (by rw [len_of S_1 M_1]; exact k_)) ?_
  refine own_st (S' := s₁.setTop (mkF m 5 #[.val (.ref d), .val (.int n), .val (.int (0 : Int32)), .val (.int (0 : Int32))] [])) (fun t_ k_ => XS.istoreN X0.here hx rfl (hb hby d6_4) rfl (l' := #[.val (.ref d), .val (.int n), .val (.int (0 : Int32)), .val (.int (0 : Int32))]) rfl k_) ?_
  refine own_st (S' := s₁.setTop (mkF m 6 #[.val (.ref d), .val (.int n), .val (.int (0 : Int32)), .val (.int (0 : Int32))] [(.int (0 : Int32))])) (fun t_ k_ => XS.iloadN X0.here hx rfl (hb hby d6_5) rfl k_) ?_
  refine own_st (S' := s₁.setTop (mkF m 7 #[.val (.ref d), .val (.int n), .val (.int (0 : Int32)), .val (.int (0 : Int32))] [(.int (0 : Int32)), (.int (0 : Int32))])) (fun t_ k_ => XS.iloadN X0.here hx rfl (hb hby d6_6) rfl k_) ?_
  refine own_st (S' := s₁.setTop (mkF m 20 #[.val (.ref d), .val (.int n), .val (.int (0 : Int32)), .val (.int (0 : Int32))] [])) (fun t_ k_ => XS.icmpYes X0.here hx rfl (pc0 := 7) (pc' := 20) rfl (hb hby d6_7) rfl (flt (by decide : ¬ ((0 : Int32) < (0 : Int32)))).2.1 (by decide) (by decide) k_) ?_
  obtain ⟨fs, hr, hrun, hended, hW, hsame⟩ := X0.leave (v := none) (fun _ => rfl)
  refine ⟨_, _, X0.returnOut hx Bd.returns (hb hby d6_20) hr, hrun, hended, _, _, rfl, ?_, ⟨_, rfl⟩, hW, hsame.mono (by decide) (by decide)⟩
  show Q6 Z d n k h0 n0 _ s₁.heap _
  rw [e0]
  exact ⟨rfl, N0, rfl⟩
theorem d7_0 : decode jdk_38_method_17_code 0 = .ok (.aload_n 1, 1) := by decide +kernel
theorem d7_1 : decode jdk_38_method_17_code 1 = .ok (.arraylength, 1) := by decide +kernel
theorem d7_2 : decode jdk_38_method_17_code 2 = .ok (.aload_n 0, 1) := by decide +kernel
theorem d7_3 : decode jdk_38_method_17_code 3 = .ok (.getfield 48, 3) := by decide +kernel
theorem d7_6 : decode jdk_38_method_17_code 6 = .ok (.if_icmp .ge 19, 3) := by decide +kernel
theorem d7_25 : decode jdk_38_method_17_code 25 = .ok (.aload_n 0, 1) := by decide +kernel
theorem d7_26 : decode jdk_38_method_17_code 26 = .ok (.getfield 9, 3) := by decide +kernel
theorem d7_29 : decode jdk_38_method_17_code 29 = .ok (.iconst 0, 1) := by decide +kernel
theorem d7_30 : decode jdk_38_method_17_code 30 = .ok (.aload_n 1, 1) := by decide +kernel
theorem d7_31 : decode jdk_38_method_17_code 31 = .ok (.iconst 0, 1) := by decide +kernel
theorem d7_32 : decode jdk_38_method_17_code 32 = .ok (.aload_n 0, 1) := by decide +kernel
theorem d7_33 : decode jdk_38_method_17_code 33 = .ok (.getfield 48, 3) := by decide +kernel
theorem d7_36 : decode jdk_38_method_17_code 36 = .ok (.invokestatic 112, 3) := by decide +kernel
theorem d7_39 : decode jdk_38_method_17_code 39 = .ok (.aload_n 1, 1) := by decide +kernel
theorem d7_40 : decode jdk_38_method_17_code 40 = .ok (.arraylength, 1) := by decide +kernel
theorem d7_41 : decode jdk_38_method_17_code 41 = .ok (.aload_n 0, 1) := by decide +kernel
theorem d7_42 : decode jdk_38_method_17_code 42 = .ok (.getfield 48, 3) := by decide +kernel
theorem d7_45 : decode jdk_38_method_17_code 45 = .ok (.if_icmp .le 10, 3) := by decide +kernel
theorem d7_55 : decode jdk_38_method_17_code 55 = .ok (.aload_n 1, 1) := by decide +kernel
theorem d7_56 : decode jdk_38_method_17_code 56 = .ok (.areturn, 1) := by decide +kernel
theorem ef_7 (m : MethodId) (a : Addr) (t1 : Addr) : entryFrame m #[(.ref a), (.ref t1)] 2 = mkF m 0 #[.val (.ref a), .val (.ref t1)] [] := by first | (simp [entryFrame, mkF, argsToLocals, Value.category]; done) | rfl
def Q7 (Z : State) (a : Addr) (t1 : Addr) (dd : Addr) (kd : ClassId) (kt : ClassId) (h0 : Heap) (n0 : Nat) (v_ : Option Value) (h_ : Heap) (L_ : List Loc) : Prop := v_ = some (.ref t1) ∧ Fr n0 L_ ∧ Keep h0 h_ [t1]
set_option maxRecDepth 65536 in
set_option maxHeartbeats 40000000 in
theorem rm7 (l : Launch) (Z : State) (a0 : Array Value) (hw : ∀ d ∈ tables_1, d.before a0 Z = true) (ws : List Jvm.Cond) (a : Addr) (t1 : Addr) (dd : Addr) (kd : ClassId) (kt : ClassId) (h0 : Heap) (n0 : Nat) (Z0 : n0 ≤ h0.size) (P0 : Fld Z h0 a "java/util/ArrayList" "elementData" "[Ljava/lang/Object;" (.ref dd)) (P1 : Fld Z h0 a "java/util/ArrayList" "size" "I" (.int (0 : Int32))) (P2 : Arv Z h0 t1 kt (.object "com/example/frisk/frisk/pattern/CharacterClass") (0 : Int32) [] .null) (Y0 : Arv Z Z.heap dd kd (.object "java/lang/Object") (0 : Int32) [] .null) (O0 : Old Z n0 h0) (g_t1 : n0 ≤ t1) (ne_a_t1 : a ≠ t1) :
    MetFree l (⟨"java/util/ArrayList", "toArray", "([Ljava/lang/Object;)[Ljava/lang/Object;"⟩ : MethodName) (head1 (Jvm.Cond.code (⟨"java/util/ArrayList", "toArray", "([Ljava/lang/Object;)[Ljava/lang/Object;"⟩ : MethodName) jdk_38_method_17_code 2 (some (.array (.object "java/lang/Object"))) :: ws) ({ frames := 1, cells := 0, slots := 0, locals := 18 } : Room)) (fun ar_ U_ => ar_ = #[(.ref a), (.ref t1)] ∧ Z.Warmed39 U_.vm ∧ U_.heap = h0) (fun _ _ _ _ _ => True) (fun _ U_ o_ U2_ => ∃ v_ L_, o_ = .returned v_ ∧ Q7 Z a t1 dd kd kt h0 n0 v_ U2_.heap L_ ∧ FrameEnd U_ o_ U2_ L_ ({ frames := 1, cells := 0, slots := 0, locals := 18 } : Room).cells ({ frames := 1, cells := 0, slots := 0, locals := 18 } : Room).slots) := by
  refine MetFree.of_bodySF (plainFor_of_name pn_2) hisR ?_
  intro p e s m args below meth c s₁ Bd hml0 hP hK
  obtain ⟨rfl, hZ, hh⟩ := hP
  have hx := Bd.exec
  have hby := Bd.bytes
  have hml : c.maxLocals = 2 := hml0
  have hown : s.vm.findClass "java/util/ArrayList" = some m.cls := findClass_of_methodNamed Bd.named
  have hnm := (name_of_methodNamed Bd.named Bd.method).1
  have X0 : Stand p l e ({ frames := 1, cells := 0, slots := 0, locals := 18 } : Room) s m #[(.ref a), (.ref t1)] below meth c s₁ [] 0 0 := Stand.of_body Bd
  have e0 : s₁.heap = h0 := by rw [← hh, Bd.state]; rfl
  have N0 := Fr.nil n0
  refine own_gl ?_
  refine own_st (S' := s₁.setTop (mkF m 0 #[.val (.ref a), .val (.ref t1)] [])) (fun t_ k_ => castTop (ef_7 m a t1) k_) ?_
  refine own_st (S' := s₁.setTop (mkF m 1 #[.val (.ref a), .val (.ref t1)] [(.ref t1)])) (fun t_ k_ => XS.aloadN X0.here hx rfl (hb hby d7_0) rfl rfl k_) ?_
  obtain ⟨cl_1, Ar_1, q_1, S_1, M_1, H_1, G_1⟩ := id P2
  refine own_st (S' := s₁.setTop (mkF m 2 #[.val (.ref a), .val (.ref t1)] [(.int (0 : Int32))])) (fun t_ k_ => X0.arraylength hx (by rw [e0]; exact Ar_1.1) (State.isArrayOf_alike hZ.alike Ar_1.2.1) (g := (mkF m 1 #[.val (.ref a), .val (.ref t1)] [(.ref t1)])) rfl rfl (hb hby d7_1) _ (by rw [len_of S_1 M_1]; exact k_)) ?_
  refine own_st (S' := s₁.setTop (mkF m 3 #[.val (.ref a), .val (.ref t1)] [(.ref a), (.int (0 : Int32))])) (fun t_ k_ => XS.aloadN X0.here hx rfl (hb hby d7_2) rfl rfl k_) ?_
  obtain ⟨T_2, X_2, e_2, st_2⟩ := getF X0 hx hZ hown (host := "") (Or.inl (hw _ (List.mem_of_getElem? (i := 73) rfl))) Via.refl e0 P1 (g := (mkF m 3 #[.val (.ref a), .val (.ref t1)] [(.ref a), (.int (0 : Int32))])) rfl rfl (hb hby d7_3)
  refine own_st (S' := T_2.setTop (mkF m 6 #[.val (.ref a), .val (.ref t1)] [(.int (0 : Int32)), (.int (0 : Int32))])) st_2 ?_
  refine own_st (S' := T_2.setTop (mkF m 25 #[.val (.ref a), .val (.ref t1)] [])) (fun t_ k_ => XS.icmpYes X_2.here hx rfl (pc0 := 6) (pc' := 25) rfl (hb hby d7_6) rfl (flt (by decide : ¬ ((0 : Int32) < (0 : Int32)))).2.1 (by decide) (by decide) k_) ?_
  refine own_st (S' := T_2.setTop (mkF m 26 #[.val (.ref a), .val (.ref t1)] [(.ref a)])) (fun t_ k_ => XS.aloadN X_2.here hx rfl (hb hby d7_25) rfl rfl k_) ?_
  obtain ⟨T_3, X_3, e_3, st_3⟩ := getF X_2 hx hZ hown (host := "") (Or.inl (hw _ (List.mem_of_getElem? (i := 25) rfl))) Via.refl e_2 P0 (g := (mkF m 26 #[.val (.ref a), .val (.ref t1)] [(.ref a)])) rfl rfl (hb hby d7_26)
  refine own_st (S' := T_3.setTop (mkF m 29 #[.val (.ref a), .val (.ref t1)] [(.ref dd)])) st_3 ?_
  refine own_st (S' := T_3.setTop (mkF m 30 #[.val (.ref a), .val (.ref t1)] [(.int (0 : Int32)), (.ref dd)])) (fun t_ k_ => XS.iconst X_3.here hx rfl (hb hby d7_29) k_) ?_
  refine own_st (S' := T_3.setTop (mkF m 31 #[.val (.ref a), .val (.ref t1)] [(.ref t1), (.int (0 : Int32)), (.ref dd)])) (fun t_ k_ => XS.aloadN X_3.here hx rfl (hb hby d7_30) rfl rfl k_) ?_
  refine own_st (S' := T_3.setTop (mkF m 32 #[.val (.ref a), .val (.ref t1)] [(.int (0 : Int32)), (.ref t1), (.int (0 : Int32)), (.ref dd)])) (fun t_ k_ => XS.iconst X_3.here hx rfl (hb hby d7_31) k_) ?_
  refine own_st (S' := T_3.setTop (mkF m 33 #[.val (.ref a), .val (.ref t1)] [(.ref a), (.int (0 : Int32)), (.ref t1), (.int (0 : Int32)), (.ref dd)])) (fun t_ k_ => XS.aloadN X_3.here hx rfl (hb hby d7_32) rfl rfl k_) ?_
  obtain ⟨T_4, X_4, e_4, st_4⟩ := getF X_3 hx hZ hown (host := "") (Or.inl (hw _ (List.mem_of_getElem? (i := 73) rfl))) Via.refl e_3 P1 (g := (mkF m 33 #[.val (.ref a), .val (.ref t1)] [(.ref a), (.int (0 : Int32)), (.ref t1), (.int (0 : Int32)), (.ref dd)])) rfl rfl (hb hby d7_33)
  refine own_st (S' := T_4.setTop (mkF m 36 #[.val (.ref a), .val (.ref t1)] [(.int (0 : Int32)), (.int (0 : Int32)), (.ref t1), (.int (0 : Int32)), (.ref dd)])) st_4 ?_
  have f_5 : Arv Z h0 dd kd (.object "java/lang/Object") (0 : Int32) [] .null := Y0.ext O0.2
  obtain ⟨T_6, h_6, L_6, X_6, e_6, N_6, K_6c, V_6x, st_6⟩ := cpA X_4 hx hZ hown (hw _ (List.mem_of_getElem? (i := 90) rfl)) (hw _ (List.mem_of_getElem? (i := 93) rfl)) (hw _ (List.mem_of_getElem? (i := 91) rfl)) (hw _ (List.mem_of_getElem? (i := 92) rfl)) e_4 f_5 (Arv.pad P2 (pad_rep _ _ 200)) (us := []) (Or.inr ⟨rfl, rfl, trivial⟩) (sp := (0 : Int32)) (dp := (0 : Int32)) (nn := (0 : Int32)) (by decide) (by decide) (by decide) (by decide) (by decide) rfl (by simp only [List.length_append, List.length_replicate]; show 0 + 0 ≤ _; omega) N0 g_t1 (g := (mkF m 36 #[.val (.ref a), .val (.ref t1)] [(.int (0 : Int32)), (.int (0 : Int32)), (.ref t1), (.int (0 : Int32)), (.ref dd)])) rfl (by rw [hml]; rfl) rfl (hb hby d7_36) (by decide) (W := 0) (by show 2 * 0 + _ ≤ _; exact Nat.le_of_eq rfl) (by decide)
  obtain ⟨vs_6, V_6⟩ : ∃ vs, Arv Z h_6 t1 kt (.object "com/example/frisk/frisk/pattern/CharacterClass") (0 : Int32) vs .null := ⟨_, V_6x⟩
  have K_6 : Keep h0 h_6 [t1] := (Keep.refl h0 [t1]).trans K_6c (allS (Or.inl (List.mem_of_getElem? (i := 0) rfl)) all0)
  have Z_6 : n0 ≤ h_6.size := Nat.le_trans Z0 K_6c.1
  refine own_st (S' := T_6.setTop (mkF m 39 #[.val (.ref a), .val (.ref t1)] [])) st_6 ?_
  refine own_st (S' := T_6.setTop (mkF m 40 #[.val (.ref a), .val (.ref t1)] [(.ref t1)])) (fun t_ k_ => XS.aloadN X_6.here hx rfl (hb hby d7_39) rfl rfl k_) ?_
  obtain ⟨cl_7, Ar_7, q_7, S_7, M_7, H_7, G_7⟩ := id V_6
  refine own_st (S' := T_6.setTop (mkF m 41 #[.val (.ref a), .val (.ref t1)] [(.int (0 : Int32))])) (fun t_ k_ => X_6.arraylength hx (by rw [e_6]; exact Ar_7.1) (State.isArrayOf_alike hZ.alike Ar_7.2.1) (g := (mkF m 40 #[.val (.ref a), .val (.ref t1)] [(.ref t1)])) rfl rfl (hb hby d7_40) _ (by rw [len_of S_7 M_7]; exact k_)) ?_
  refine own_st (S' := T_6.setTop (mkF m 42 #[.val (.ref a), .val (.ref t1)] [(.ref a), (.int (0 : Int32))])) (fun t_ k_ => XS.aloadN X_6.here hx rfl (hb hby d7_41) rfl rfl k_) ?_
  have f_8 : Fld Z h_6 a "java/util/ArrayList" "size" "I" (.int (0 : Int32)) := (P1.keep K_6c (ninS ne_a_t1 nin0))
  obtain ⟨T_9, X_9, e_9, st_9⟩ := getF X_6 hx hZ hown (host := "") (Or.inl (hw _ (List.mem_of_getElem? (i := 73) rfl))) Via.refl e_6 f_8 (g := (mkF m 42 #[.val (.ref a), .val (.ref t1)] [(.ref a), (.int (0 : Int32))])) rfl rfl (hb hby d7_42)
  refine own_st (S' := T_9.setTop (mkF m 45 #[.val (.ref a), .val (.ref t1)] [(.int (0 : Int32)), (.int (0 : Int32))])) st_9 ?_
  refine own_st (S' := T_9.setTop (mkF m 55 #[.val (.ref a), .val (.ref t1)] [])) (fun t_ k_ => XS.icmpYes X_9.here hx rfl (pc0 := 45) (pc' := 55) rfl (hb hby d7_45) rfl (flt (by decide : ¬ ((0 : Int32) < (0 : Int32)))).2.2.2 (by decide) (by decide) k_) ?_
  refine own_st (S' := T_9.setTop (mkF m 56 #[.val (.ref a), .val (.ref t1)] [(.ref t1)])) (fun t_ k_ => XS.aloadN X_9.here hx rfl (hb hby d7_55) rfl rfl k_) ?_
  obtain ⟨fs, hr, hrun, hended, hW, hsame⟩ := X_9.leave (v := some (.ref t1)) (fun h => by rw [Bd.returns] at h; cases h)
  refine ⟨_, _, own_retR X_9 hx Bd.returns rfl rfl (hb hby d7_56) hr, hrun, hended, _, _, rfl, ?_, ⟨_, rfl⟩, hW, hsame.mono (by decide) (by decide)⟩
  show Q7 Z a t1 dd kd kt h0 n0 _ T_9.heap _
  rw [e_9]
  exact ⟨rfl, N_6, K_6⟩
theorem d8_0 : decode prog_109_method_18_code 0 = .ok (.aload_n 1, 1) := by decide +kernel
theorem d8_1 : decode prog_109_method_18_code 1 = .ok (.invokeinterface 64 1, 5) := by decide +kernel
theorem d8_6 : decode prog_109_method_18_code 6 = .ok (.newarray .int, 2) := by decide +kernel
theorem d8_8 : decode prog_109_method_18_code 8 = .ok (.astore_n 2, 1) := by decide +kernel
theorem d8_9 : decode prog_109_method_18_code 9 = .ok (.aload_n 2, 1) := by decide +kernel
theorem d8_10 : decode prog_109_method_18_code 10 = .ok (.iconst (-1), 1) := by decide +kernel
theorem d8_11 : decode prog_109_method_18_code 11 = .ok (.invokestatic 68, 3) := by decide +kernel
theorem d8_14 : decode prog_109_method_18_code 14 = .ok (.new 72, 3) := by decide +kernel
theorem d8_17 : decode prog_109_method_18_code 17 = .ok (.dup, 1) := by decide +kernel
theorem d8_18 : decode prog_109_method_18_code 18 = .ok (.invokespecial 74, 3) := by decide +kernel
theorem d8_21 : decode prog_109_method_18_code 21 = .ok (.astore_n 3, 1) := by decide +kernel
theorem d8_22 : decode prog_109_method_18_code 22 = .ok (.iconst 0, 1) := by decide +kernel
theorem d8_23 : decode prog_109_method_18_code 23 = .ok (.istore 4, 2) := by decide +kernel
theorem d8_25 : decode prog_109_method_18_code 25 = .ok (.iload 4, 2) := by decide +kernel
theorem d8_27 : decode prog_109_method_18_code 27 = .ok (.aload_n 0, 1) := by decide +kernel
theorem d8_28 : decode prog_109_method_18_code 28 = .ok (.arraylength, 1) := by decide +kernel
theorem d8_29 : decode prog_109_method_18_code 29 = .ok (.if_icmp .ge 63, 3) := by decide +kernel
theorem d8_32 : decode prog_109_method_18_code 32 = .ok (.aload_n 0, 1) := by decide +kernel
theorem d8_33 : decode prog_109_method_18_code 33 = .ok (.iload 4, 2) := by decide +kernel
theorem d8_35 : decode prog_109_method_18_code 35 = .ok (.iaload, 1) := by decide +kernel
theorem d8_36 : decode prog_109_method_18_code 36 = .ok (.istore 5, 2) := by decide +kernel
theorem d8_38 : decode prog_109_method_18_code 38 = .ok (.iload 5, 2) := by decide +kernel
theorem d8_40 : decode prog_109_method_18_code 40 = .ok (.ifCond .lt 46, 3) := by decide +kernel
theorem d8_86 : decode prog_109_method_18_code 86 = .ok (.iinc 4 1, 3) := by decide +kernel
theorem d8_89 : decode prog_109_method_18_code 89 = .ok (.goto (-64), 3) := by decide +kernel
theorem d8_92 : decode prog_109_method_18_code 92 = .ok (.aload_n 3, 1) := by decide +kernel
theorem d8_93 : decode prog_109_method_18_code 93 = .ok (.iconst 0, 1) := by decide +kernel
theorem d8_94 : decode prog_109_method_18_code 94 = .ok (.anewarray 79, 3) := by decide +kernel
theorem d8_97 : decode prog_109_method_18_code 97 = .ok (.invokeinterface 85 2, 5) := by decide +kernel
theorem d8_102 : decode prog_109_method_18_code 102 = .ok (.checkcast 89, 3) := by decide +kernel
theorem d8_105 : decode prog_109_method_18_code 105 = .ok (.areturn, 1) := by decide +kernel
theorem pn_4 : plainName "com/example/frisk/frisk/pattern/StateGraph" = true := by first | (simp [plainName, overriddenIn]; done) | decide +kernel
theorem ef_8 (m : MethodId) (d : Addr) (a : Addr) : entryFrame m #[(.ref d), (.ref a)] 6 = mkF m 0 #[.val (.ref d), .val (.ref a), .unset, .unset, .unset, .unset] [] := by first | (simp [entryFrame, mkF, argsToLocals, Value.category]; done) | rfl
theorem pd_1 : parseMethodDescriptor "()I" = some ⟨[], some .int⟩ := by decide +kernel
theorem pd_2 : parseMethodDescriptor "([II)V" = some ⟨[(.array .int), .int], none⟩ := by decide +kernel
theorem pd_3 : parseMethodDescriptor "([Ljava/lang/Object;)[Ljava/lang/Object;" = some ⟨[(.array (.object "java/lang/Object"))], some (.array (.object "java/lang/Object"))⟩ := by decide +kernel
def Q8 (Z : State) (d : Addr) (a : Addr) (dd : Addr) (kd : ClassId) (k : ClassId) (h0 : Heap) (n0 : Nat) (v_ : Option Value) (h_ : Heap) (L_ : List Loc) : Prop := ∃ b : Addr, v_ = some (.ref b) ∧ Fr n0 L_ ∧ Keep h0 h_ [] ∧ h0.size ≤ b
set_option maxRecDepth 65536 in
set_option maxHeartbeats 40000000 in
theorem rm8 (l : Launch) (Z : State) (a0 : Array Value) (hw : ∀ d ∈ tables_1, d.before a0 Z = true) (ws : List Jvm.Cond) (d : Addr) (a : Addr) (dd : Addr) (kd : ClassId) (k : ClassId) (h0 : Heap) (n0 : Nat) (Z0 : n0 ≤ h0.size) (P0 : Arv Z h0 d k .int (2 : Int32) [(.int (-1 : Int32)), (.int (-2 : Int32))] (.int (0 : Int32))) (P1 : Exa Z h0 a "java/util/ArrayList") (P2 : Fld Z h0 a "java/util/ArrayList" "size" "I" (.int (0 : Int32))) (Y0 : Sta Z Z.heap "java/util/ArrayList" "DEFAULTCAPACITY_EMPTY_ELEMENTDATA" "[Ljava/lang/Object;" (.ref dd)) (Y1 : Arv Z Z.heap dd kd (.object "java/lang/Object") (0 : Int32) [] .null) (O0 : Old Z n0 h0) :
    MetFree l (⟨"com/example/frisk/frisk/pattern/StateGraph", "renumberClasses", "([ILjava/util/List;)[Lcom/example/frisk/frisk/pattern/CharacterClass;"⟩ : MethodName) (head1 (Jvm.Cond.code (⟨"com/example/frisk/frisk/pattern/StateGraph", "renumberClasses", "([ILjava/util/List;)[Lcom/example/frisk/frisk/pattern/CharacterClass;"⟩ : MethodName) prog_109_method_18_code 6 (some (.array (.object "com/example/frisk/frisk/pattern/CharacterClass"))) :: ws) ({ frames := 4, cells := 3, slots := 3, locals := 49 } : Room)) (fun ar_ U_ => ar_ = #[(.ref d), (.ref a)] ∧ Z.Warmed39 U_.vm ∧ U_.heap = h0) (fun _ _ _ _ _ => True) (fun _ U_ o_ U2_ => ∃ v_ L_, o_ = .returned v_ ∧ Q8 Z d a dd kd k h0 n0 v_ U2_.heap L_ ∧ FrameEnd U_ o_ U2_ L_ ({ frames := 4, cells := 3, slots := 3, locals := 49 } : Room).cells ({ frames := 4, cells := 3, slots := 3, locals := 49 } : Room).slots) := by
  refine MetFree.of_bodySF (plainFor_of_name pn_4) hisR ?_
  intro p e s m args below meth c s₁ Bd hml0 hP hK
  obtain ⟨rfl, hZ, hh⟩ := hP
  have hx := Bd.exec
  have hby := Bd.bytes
  have hml : c.maxLocals = 6 := hml0
  have hown : s.vm.findClass "com/example/frisk/frisk/pattern/StateGraph" = some m.cls := findClass_of_methodNamed Bd.named
  have hnm := (name_of_methodNamed Bd.named Bd.method).1
  have X0 : Stand p l e ({ frames := 4, cells := 3, slots := 3, locals := 49 } : Room) s m #[(.ref d), (.ref a)] below meth c s₁ [] 0 0 := Stand.of_body Bd
  have e0 : s₁.heap = h0 := by rw [← hh, Bd.state]; rfl
  have N0 := Fr.nil n0
  refine own_gl ?_
  refine own_st (S' := s₁.setTop (mkF m 0 #[.val (.ref d), .val (.ref a), .unset, .unset, .unset, .unset] [])) (fun t_ k_ => castTop (ef_8 m d a) k_) ?_
  refine own_st (S' := s₁.setTop (mkF m 1 #[.val (.ref d), .val (.ref a), .unset, .unset, .unset, .unset] [(.ref a)])) (fun t_ k_ => XS.aloadN X0.here hx rfl (hb hby d8_0) rfl rfl k_) ?_
  obtain ⟨cq_1, kq_1, q_1a, q_1b, q_1c⟩ := isOf hZ e0 P1
  obtain ⟨_, _, ⟨T_1, L_1, k_1, n_1⟩, -, X_1, ⟨Lc_1, hQ_1, l_1, y_1, z_1⟩, st_1⟩ := X0.interfaceBack hx (xi := (⟨"java/util/List", "size", "()I"⟩ : MethodName)) (y := (⟨"java/util/ArrayList", "size", "()I"⟩ : MethodName)) hown (mvT hZ (hw _ (List.mem_of_getElem? (i := 64) rfl))) (mvT hZ (hw _ (List.mem_of_getElem? (i := 65) rfl))) (mvT hZ (hw _ (List.mem_of_getElem? (i := 66) rfl))) (mvT hZ (hw _ (List.mem_of_getElem? (i := 67) rfl))) (mvT hZ (hw _ (List.mem_of_getElem? (i := 68) rfl))) (mvT hZ (hw _ (List.mem_of_getElem? (i := 69) rfl))) (mvT hZ (hw _ (List.mem_of_getElem? (i := 70) rfl))) (mvT hZ (hw _ (List.mem_of_getElem? (i := 71) rfl))) (by decide) (backOf (W := 0) (rm4 l Z a0 hw [] a h0 n0 Z0 P2) hZ (hw _ (List.mem_of_getElem? (i := 72) rfl)) (hw _ (List.mem_of_getElem? (i := 3) rfl)) (by decide) (by decide)) q_1a q_1b q_1c (g := (mkF m 1 #[.val (.ref d), .val (.ref a), .unset, .unset, .unset, .unset] [(.ref a)])) rfl (by rw [hml]; rfl) (Steps.refl _) (argsL := []) (rest := []) (lenOf pd_1 rfl) rfl (by show 2 * 0 + _ ≤ _; exact Nat.le_of_eq rfl) (hb hby d8_1) (fun _ _ => ⟨rfl, e0, (by decide : 0 + 0 ≤ _), (by decide : 0 + 0 ≤ _)⟩)
  dsimp only [Pt.U, Pt.locs, Pt.cells, Pt.slots] at X_1 l_1 y_1 z_1 st_1 hQ_1
  subst l_1 y_1 z_1
  obtain ⟨rfl, M_1, q_1⟩ := hQ_1
  have N_1 := Fr.app N0 M_1
  refine own_st (S' := T_1.setTop (mkF m 6 #[.val (.ref d), .val (.ref a), .unset, .unset, .unset, .unset] [(.int (0 : Int32))])) (fun t_ k_ => st_1.trans k_) ?_
  obtain ⟨T_2, h_2, k_2, X_2, e_2, E_2, A_2, B_2, st_2⟩ := newPE X_1 hx hZ (hw _ (List.mem_of_getElem? (i := 0) rfl)) q_1 (g := (mkF m 6 #[.val (.ref d), .val (.ref a), .unset, .unset, .unset, .unset] [(.int (0 : Int32))])) rfl (hb hby d8_6) rfl (by decide) (cap := 0) (by decide) (by decide) (by decide) (by decide) (ad := "[I") (by decide)
  obtain ⟨b_2, gg_2⟩ : ∃ z, z = h0.size := ⟨_, rfl⟩
  rw [← gg_2] at A_2 B_2 st_2
  have ne_a_b_2 : a ≠ b_2 := Nat.ne_of_lt (Nat.lt_of_lt_of_le P1.lt (Nat.le_of_eq gg_2.symm))
  have ne_d_b_2 : d ≠ b_2 := Nat.ne_of_lt (Nat.lt_of_lt_of_le P0.lt (Nat.le_of_eq gg_2.symm))
  have g_b_2 : n0 ≤ b_2 := Nat.le_trans Z0 (Nat.le_of_eq gg_2.symm)
  have sz_b_2 : h0.size ≤ b_2 := Nat.le_trans (Keep.refl h0 []).1 (Nat.le_of_eq gg_2.symm)
  have Z_2 : n0 ≤ h_2.size := Nat.le_trans Z0 E_2.1
  have K_2 : Keep h0 h_2 [] := (Keep.refl h0 []).ext E_2
  have V_2 : Arv Z h_2 b_2 k_2 .int (0 : Int32) [] (.int (0 : Int32)) := Arv.new A_2 (by decide)
  refine own_st (S' := T_2.setTop (mkF m 8 #[.val (.ref d), .val (.ref a), .unset, .unset, .unset, .unset] [(.ref b_2)])) st_2 ?_
  refine own_st (S' := T_2.setTop (mkF m 9 #[.val (.ref d), .val (.ref a), .val (.ref b_2), .unset, .unset, .unset] [])) (fun t_ k_ => XS.astoreN X_2.here hx rfl (hb hby d8_8) rfl rfl (l' := #[.val (.ref d), .val (.ref a), .val (.ref b_2), .unset, .unset, .unset]) rfl k_) ?_
  refine own_st (S' := T_2.setTop (mkF m 10 #[.val (.ref d), .val (.ref a), .val (.ref b_2), .unset, .unset, .unset] [(.ref b_2)])) (fun t_ k_ => XS.aloadN X_2.here hx rfl (hb hby d8_9) rfl rfl k_) ?_
  refine own_st (S' := T_2.setTop (mkF m 11 #[.val (.ref d), .val (.ref a), .val (.ref b_2), .unset, .unset, .unset] [(.int (-1 : Int32)), (.ref b_2)])) (fun t_ k_ => XS.iconst X_2.here hx rfl (hb hby d8_10) k_) ?_
  obtain ⟨_, _, ⟨T_3, L_3, k_3, n_3⟩, -, X_3, ⟨Lc_3, hQ_3, l_3, y_3, z_3⟩, st_3⟩ := Jvm.LawKit.callS X_2 hx (y := (⟨"java/util/Arrays", "fill", "([II)V"⟩ : MethodName)) hown (mvT hZ (hw _ (List.mem_of_getElem? (i := 75) rfl))) (mvT hZ (hw _ (List.mem_of_getElem? (i := 76) rfl))) (mvT hZ (hw _ (List.mem_of_getElem? (i := 36) rfl))) (mvT hZ (hw _ (List.mem_of_getElem? (i := 77) rfl))) (by decide) (backOf (W := 0) (rm6 l Z a0 hw [] b_2 (-1 : Int32) k_2 h_2 n0 Z_2 V_2) hZ (hw _ (List.mem_of_getElem? (i := 77) rfl)) (hw _ (List.mem_of_getElem? (i := 36) rfl)) (by decide) (by decide)) (g := (mkF m 11 #[.val (.ref d), .val (.ref a), .val (.ref b_2), .unset, .unset, .unset] [(.int (-1 : Int32)), (.ref b_2)])) rfl (by rw [hml]; rfl) (argsL := [(.ref b_2), (.int (-1 : Int32))]) (rest := []) (lenOf pd_2 rfl) rfl (by show 2 * 0 + _ ≤ _; exact Nat.le_of_eq rfl) (hb hby d8_11) (fun _ _ => ⟨rfl, e_2, (by decide : 1 + 0 ≤ _), (by decide : 0 + 0 ≤ _)⟩)
  dsimp only [Pt.U, Pt.locs, Pt.cells, Pt.slots] at X_3 l_3 y_3 z_3 st_3 hQ_3
  subst l_3 y_3 z_3
  obtain ⟨rfl, M_3, q_3⟩ := hQ_3
  have N_3 := Fr.app N_1 M_3
  refine own_st (S' := T_3.setTop (mkF m 14 #[.val (.ref d), .val (.ref a), .val (.ref b_2), .unset, .unset, .unset] [])) st_3 ?_
  have f_4 : Exa Z h_2 a "java/util/ArrayList" := (Exa.ext E_2 P1)
  have f_5 : Arv Z h_2 d k .int (2 : Int32) [(.int (-1 : Int32)), (.int (-2 : Int32))] (.int (0 : Int32)) := (P0.ext E_2)
  obtain ⟨T_6, h_6, X_6, e_6, E_6, A_6, D_6, -, st_6⟩ := newO X_3 hx hZ hown (hw _ (List.mem_of_getElem? (i := 78) rfl)) (hw _ (List.mem_of_getElem? (i := 2) rfl)) (hw _ (List.mem_of_getElem? (i := 3) rfl)) q_3 (g := (mkF m 14 #[.val (.ref d), .val (.ref a), .val (.ref b_2), .unset, .unset, .unset] [])) rfl (hb hby d8_14) (by decide) (by decide)
  obtain ⟨b_6, gg_6⟩ : ∃ z, z = h_2.size := ⟨_, rfl⟩
  rw [← gg_6] at A_6 D_6 st_6
  have ne_a_b_6 : a ≠ b_6 := Nat.ne_of_lt (Nat.lt_of_lt_of_le f_4.lt (Nat.le_of_eq gg_6.symm))
  have ne_b_2_b_6 : b_2 ≠ b_6 := Nat.ne_of_lt (Nat.lt_of_lt_of_le B_2.lt (Nat.le_of_eq gg_6.symm))
  have ne_d_b_6 : d ≠ b_6 := Nat.ne_of_lt (Nat.lt_of_lt_of_le f_5.lt (Nat.le_of_eq gg_6.symm))
  have g_b_6 : n0 ≤ b_6 := Nat.le_trans Z_2 (Nat.le_of_eq gg_6.symm)
  have sz_b_6 : h0.size ≤ b_6 := Nat.le_trans K_2.1 (Nat.le_of_eq gg_6.symm)
  have Z_6 : n0 ≤ h_6.size := Nat.le_trans Z_2 E_6.1
  have K_6 : Keep h0 h_6 [] := K_2.ext E_6
  have F_6_modCount : Fld Z h_6 b_6 "java/util/AbstractList" "modCount" "I" (.int (0 : Int32)) := D_6 (Or.inl (hw _ (List.mem_of_getElem? (i := 23) rfl))) (ty := .int) (by decide)
  have F_6_elementData : Fld Z h_6 b_6 "java/util/ArrayList" "elementData" "[Ljava/lang/Object;" .null := D_6 (Or.inl (hw _ (List.mem_of_getElem? (i := 26) rfl))) (ty := (.array (.object "java/lang/Object"))) (by decide)
  have F_6_size : Fld Z h_6 b_6 "java/util/ArrayList" "size" "I" (.int (0 : Int32)) := D_6 (Or.inl (hw _ (List.mem_of_getElem? (i := 74) rfl))) (ty := .int) (by decide)
  refine own_st (S' := T_6.setTop (mkF m 17 #[.val (.ref d), .val (.ref a), .val (.ref b_2), .unset, .unset, .unset] [(.ref b_6)])) st_6 ?_
  refine own_st (S' := T_6.setTop (mkF m 18 #[.val (.ref d), .val (.ref a), .val (.ref b_2), .unset, .unset, .unset] [(.ref b_6), (.ref b_6)])) (fun t_ k_ => XS.dup X_6.here hx rfl (hb hby d8_17) rfl rfl k_) ?_
  have f_7 : Old Z n0 h_6 := ((O0.ext E_2).ext E_6)
  obtain ⟨_, _, ⟨T_8, L_8, k_8, n_8⟩, -, X_8, ⟨Lc_8, hQ_8, l_8, y_8, z_8⟩, st_8⟩ := X_6.specialBack hx (y := (⟨"java/util/ArrayList", "<init>", "()V"⟩ : MethodName)) rfl hown (mvT hZ (hw _ (List.mem_of_getElem? (i := 79) rfl))) (mvT hZ (hw _ (List.mem_of_getElem? (i := 5) rfl))) (mvT hZ (hw _ (List.mem_of_getElem? (i := 6) rfl))) (by decide) (backOf (W := 1) (rm3 l Z a0 hw [] b_6 dd h_6 n0 Z_6 A_6 F_6_modCount F_6_elementData F_6_size Y0 f_7 g_b_6) hZ (hw _ (List.mem_of_getElem? (i := 6) rfl)) (hw _ (List.mem_of_getElem? (i := 3) rfl)) (by decide) (by decide)) (g := (mkF m 18 #[.val (.ref d), .val (.ref a), .val (.ref b_2), .unset, .unset, .unset] [(.ref b_6), (.ref b_6)])) rfl (by rw [hml]; rfl) (Steps.refl _) (a := b_6) (argsL := []) (rest := [(.ref b_6)]) (lenOf pd_0 rfl) rfl (by show 2 * 0 + _ ≤ _; exact Nat.le_of_eq rfl) (hb hby d8_18) (fun _ _ => ⟨rfl, e_6, (by decide : 2 + 0 ≤ _), (by decide : 3 + 0 ≤ _)⟩)
  dsimp only [Pt.U, Pt.locs, Pt.cells, Pt.slots] at X_8 l_8 y_8 z_8 st_8 hQ_8
  subst l_8 y_8 z_8
  obtain ⟨rfl, M_8, K_8c, c_8_0, c_8_1, c_8_2⟩ := hQ_8
  have N_8 := Fr.app N_3 M_8
  have K_8 : Keep h0 T_8.heap [] := K_6.trans K_8c (allS (Or.inr sz_b_6) all0)
  have Z_8 : n0 ≤ T_8.heap.size := Nat.le_trans Z_6 K_8c.1
  refine own_st (S' := T_8.setTop (mkF m 21 #[.val (.ref d), .val (.ref a), .val (.ref b_2), .unset, .unset, .unset] [(.ref b_6)])) (fun t_ k_ => st_8.trans k_) ?_
  refine own_st (S' := T_8.setTop (mkF m 22 #[.val (.ref d), .val (.ref a), .val (.ref b_2), .val (.ref b_6), .unset, .unset] [])) (fun t_ k_ => XS.astoreN X_8.here hx rfl (hb hby d8_21) rfl rfl (l' := #[.val (.ref d), .val (.ref a), .val (.ref b_2), .val (.ref b_6), .unset, .unset]) rfl k_) ?_
  refine own_st (S' := T_8.setTop (mkF m 23 #[.val (.ref d), .val (.ref a), .val (.ref b_2), .val (.ref b_6), .unset, .unset] [(.int (0 : Int32))])) (fun t_ k_ => XS.iconst X_8.here hx rfl (hb hby d8_22) k_) ?_
  refine own_st (S' := T_8.setTop (mkF m 25 #[.val (.ref d), .val (.ref a), .val (.ref b_2), .val (.ref b_6), .val (.int (0 : Int32)), .unset] [])) (fun t_ k_ => XS.istore X_8.here hx rfl (hb hby d8_23) rfl (l' := #[.val (.ref d), .val (.ref a), .val (.ref b_2), .val (.ref b_6), .val (.int (0 : Int32)), .unset]) rfl k_) ?_
  refine own_st (S' := T_8.setTop (mkF m 27 #[.val (.ref d), .val (.ref a), .val (.ref b_2), .val (.ref b_6), .val (.int (0 : Int32)), .unset] [(.int (0 : Int32))])) (fun t_ k_ => XS.iload X_8.here hx rfl (hb hby d8_25) rfl k_) ?_
  refine own_st (S' := T_8.setTop (mkF m 28 #[.val (.ref d), .val (.ref a), .val (.ref b_2), .val (.ref b_6), .val (.int (0 : Int32)), .unset] [(.ref d), (.int (0 : Int32))])) (fun t_ k_ => XS.aloadN X_8.here hx rfl (hb hby d8_27) rfl rfl k_) ?_
  have f_10 : Arv Z T_8.heap d k .int (2 : Int32) [(.int (-1 : Int32)), (.int (-2 : Int32))] (.int (0 : Int32)) := ((f_5.ext E_6).keep K_8c (ninS ne_d_b_6 nin0))
  obtain ⟨cl_9, Ar_9, q_9, S_9, M_9, H_9, G_9⟩ := id f_10
  refine own_st (S' := T_8.setTop (mkF m 29 #[.val (.ref d), .val (.ref a), .val (.ref b_2), .val (.ref b_6), .val (.int (0 : Int32)), .unset] [(.int (2 : Int32)), (.int (0 : Int32))])) (fun t_ k_ => X_8.arraylength hx Ar_9.1 (State.isArrayOf_alike hZ.alike Ar_9.2.1) (g := (mkF m 28 #[.val (.ref d), .val (.ref a), .val (.ref b_2), .val (.ref b_6), .val (.int (0 : Int32)), .unset] [(.ref d), (.int (0 : Int32))])) rfl rfl (hb hby d8_28) _ (by rw [len_of S_9 M_9]; exact k_)) ?_
  refine own_st (S' := T_8.setTop (mkF m 32 #[.val (.ref d), .val (.ref a), .val (.ref b_2), .val (.ref b_6), .val (.int (0 : Int32)), .unset] [])) (fun t_ k_ => XS.icmpNo X_8.here hx rfl (hb hby d8_29) rfl (tlt (by decide : (0 : Int32) < (2 : Int32))).2.1 k_) ?_
  refine own_st (S' := T_8.setTop (mkF m 33 #[.val (.ref d), .val (.ref a), .val (.ref b_2), .val (.ref b_6), .val (.int (0 : Int32)), .unset] [(.ref d)])) (fun t_ k_ => XS.aloadN X_8.here hx rfl (hb hby d8_32) rfl rfl k_) ?_
  refine own_st (S' := T_8.setTop (mkF m 35 #[.val (.ref d), .val (.ref a), .val (.ref b_2), .val (.ref b_6), .val (.int (0 : Int32)), .unset] [(.int (0 : Int32)), (.ref d)])) (fun t_ k_ => XS.iload X_8.here hx rfl (hb hby d8_33) rfl k_) ?_
  obtain ⟨cl_11, Ar_11, q_11, S_11, M_11, H_11, G_11⟩ := id f_10
  have hin_11 : ¬ ((0 : Int32) < 0 ∨ cl_11.slots.size ≤ ((0 : Int32)).toNatClampNeg) := inb_of S_11 ⟨by decide, by decide⟩
  have hat_11 : cl_11.slots[((0 : Int32)).toNatClampNeg]? = some (.int (-1 : Int32)) := H_11.at hin_11 rfl
  refine own_st (S' := T_8.setTop (mkF m 36 #[.val (.ref d), .val (.ref a), .val (.ref b_2), .val (.ref b_6), .val (.int (0 : Int32)), .unset] [(.int (-1 : Int32))])) (fun t_ k_ => X_8.iaload hx (j := (0 : Int32)) (v := (.int (-1 : Int32))) Ar_11.1 (State.isArrayOf_alike hZ.alike Ar_11.2.1) Ar_11.2.2 hin_11 hat_11 (g := (mkF m 35 #[.val (.ref d), .val (.ref a), .val (.ref b_2), .val (.ref b_6), .val (.int (0 : Int32)), .unset] [(.int (0 : Int32)), (.ref d)])) rfl rfl (hb hby d8_35) _ k_) ?_
  refine own_st (S' := T_8.setTop (mkF m 38 #[.val (.ref d), .val (.ref a), .val (.ref b_2), .val (.ref b_6), .val (.int (0 : Int32)), .val (.int (-1 : Int32))] [])) (fun t_ k_ => XS.istore X_8.here hx rfl (hb hby d8_36) rfl (l' := #[.val (.ref d), .val (.ref a), .val (.ref b_2), .val (.ref b_6), .val (.int (0 : Int32)), .val (.int (-1 : Int32))]) rfl k_) ?_
  refine own_st (S' := T_8.setTop (mkF m 40 #[.val (.ref d), .val (.ref a), .val (.ref b_2), .val (.ref b_6), .val (.int (0 : Int32)), .val (.int (-1 : Int32))] [(.int (-1 : Int32))])) (fun t_ k_ => XS.iload X_8.here hx rfl (hb hby d8_38) rfl k_) ?_
  refine own_st (S' := T_8.setTop (mkF m 86 #[.val (.ref d), .val (.ref a), .val (.ref b_2), .val (.ref b_6), .val (.int (0 : Int32)), .val (.int (-1 : Int32))] [])) (fun t_ k_ => XS.ifYes X_8.here hx rfl (pc0 := 40) (pc' := 86) rfl (hb hby d8_40) rfl ((if0 _ _).trans (tlt (by decide : (-1 : Int32) < (0 : Int32))).1) (by decide) (by decide) k_) ?_
  refine own_st (S' := T_8.setTop (mkF m 89 #[.val (.ref d), .val (.ref a), .val (.ref b_2), .val (.ref b_6), .val (.int ((0 : Int32) + (1 : Int32))), .val (.int (-1 : Int32))] [])) (fun t_ k_ => XS.iinc X_8.here hx rfl (hb hby d8_86) rfl (l' := #[.val (.ref d), .val (.ref a), .val (.ref b_2), .val (.ref b_6), .val (.int ((0 : Int32) + (1 : Int32))), .val (.int (-1 : Int32))]) rfl k_) ?_
  refine own_st (S' := T_8.setTop (mkF m 25 #[.val (.ref d), .val (.ref a), .val (.ref b_2), .val (.ref b_6), .val (.int ((0 : Int32) + (1 : Int32))), .val (.int (-1 : Int32))] [])) (fun t_ k_ => XS.goto X_8.here hx rfl (pc0 := 89) (pc' := 25) rfl (hb hby d8_89) (by decide) (by decide) k_) ?_
  refine own_st (S' := T_8.setTop (mkF m 27 #[.val (.ref d), .val (.ref a), .val (.ref b_2), .val (.ref b_6), .val (.int ((0 : Int32) + (1 : Int32))), .val (.int (-1 : Int32))] [(.int ((0 : Int32) + (1 : Int32)))])) (fun t_ k_ => XS.iload X_8.here hx rfl (hb hby d8_25) rfl k_) ?_
  refine own_st (S' := T_8.setTop (mkF m 28 #[.val (.ref d), .val (.ref a), .val (.ref b_2), .val (.ref b_6), .val (.int ((0 : Int32) + (1 : Int32))), .val (.int (-1 : Int32))] [(.ref d), (.int ((0 : Int32) + (1 : Int32)))])) (fun t_ k_ => XS.aloadN X_8.here hx rfl (hb hby d8_27) rfl rfl k_) ?_
  obtain ⟨cl_12, Ar_12, q_12, S_12, M_12, H_12, G_12⟩ := id f_10
  refine own_st (S' := T_8.setTop (mkF m 29 #[.val (.ref d), .val (.ref a), .val (.ref b_2), .val (.ref b_6), .val (.int ((0 : Int32) + (1 : Int32))), .val (.int (-1 : Int32))] [(.int (2 : Int32)), (.int ((0 : Int32) + (1 : Int32)))])) (fun t_ k_ => X_8.arraylength hx Ar_12.1 (State.isArrayOf_alike hZ.alike Ar_12.2.1) (g := (mkF m 28 #[.val (.ref d), .val (.ref a), .val (.ref b_2), .val (.ref b_6), .val (.int ((0 : Int32) + (1 : Int32))), .val (.int (-1 : Int32))] [(.ref d), (.int ((0 : Int32) + (1 : Int32)))])) rfl rfl (hb hby d8_28) _ (by rw [len_of S_12 M_12]; exact k_)) ?_
  refine own_st (S' := T_8.setTop (mkF m 32 #[.val (.ref d), .val (.ref a), .val (.ref b_2), .val (.ref b_6), .val (.int ((0 : Int32) + (1 : Int32))), .val (.int (-1 : Int32))] [])) (fun t_ k_ => XS.icmpNo X_8.here hx rfl (hb hby d8_29) rfl (tlt (by decide : ((0 : Int32) + (1 : Int32)) < (2 : Int32))).2.1 k_) ?_
  refine own_st (S' := T_8.setTop (mkF m 33 #[.val (.ref d), .val (.ref a), .val (.ref b_2), .val (.ref b_6), .val (.int ((0 : Int32) + (1 : Int32))), .val (.int (-1 : Int32))] [(.ref d)])) (fun t_ k_ => XS.aloadN X_8.here hx rfl (hb hby d8_32) rfl rfl k_) ?_
  refine own_st (S' := T_8.setTop (mkF m 35 #[.val (.ref d), .val (.ref a), .val (.ref b_2), .val (.ref b_6), .val (.int ((0 : Int32) + (1 : Int32))), .val (.int (-1 : Int32))] [(.int ((0 : Int32) + (1 : Int32))), (.ref d)])) (fun t_ k_ => XS.iload X_8.here hx rfl (hb hby d8_33) rfl k_) ?_
  obtain ⟨cl_13, Ar_13, q_13, S_13, M_13, H_13, G_13⟩ := id f_10
  have hin_13 : ¬ (((0 : Int32) + (1 : Int32)) < 0 ∨ cl_13.slots.size ≤ (((0 : Int32) + (1 : Int32))).toNatClampNeg) := inb_of S_13 ⟨by decide, by decide⟩
  have hat_13 : cl_13.slots[(((0 : Int32) + (1 : Int32))).toNatClampNeg]? = some (.int (-2 : Int32)) := H_13.at hin_13 rfl
  refine own_st (S' := T_8.setTop (mkF m 36 #[.val (.ref d), .val (.ref a), .val (.ref b_2), .val (.ref b_6), .val (.int ((0 : Int32) + (1 : Int32))), .val (.int (-1 : Int32))] [(.int (-2 : Int32))])) (fun t_ k_ => X_8.iaload hx (j := ((0 : Int32) + (1 : Int32))) (v := (.int (-2 : Int32))) Ar_13.1 (State.isArrayOf_alike hZ.alike Ar_13.2.1) Ar_13.2.2 hin_13 hat_13 (g := (mkF m 35 #[.val (.ref d), .val (.ref a), .val (.ref b_2), .val (.ref b_6), .val (.int ((0 : Int32) + (1 : Int32))), .val (.int (-1 : Int32))] [(.int ((0 : Int32) + (1 : Int32))), (.ref d)])) rfl rfl (hb hby d8_35) _ k_) ?_
  refine own_st (S' := T_8.setTop (mkF m 38 #[.val (.ref d), .val (.ref a), .val (.ref b_2), .val (.ref b_6), .val (.int ((0 : Int32) + (1 : Int32))), .val (.int (-2 : Int32))] [])) (fun t_ k_ => XS.istore X_8.here hx rfl (hb hby d8_36) rfl (l' := #[.val (.ref d), .val (.ref a), .val (.ref b_2), .val (.ref b_6), .val (.int ((0 : Int32) + (1 : Int32))), .val (.int (-2 : Int32))]) rfl k_) ?_
  refine own_st (S' := T_8.setTop (mkF m 40 #[.val (.ref d), .val (.ref a), .val (.ref b_2), .val (.ref b_6), .val (.int ((0 : Int32) + (1 : Int32))), .val (.int (-2 : Int32))] [(.int (-2 : Int32))])) (fun t_ k_ => XS.iload X_8.here hx rfl (hb hby d8_38) rfl k_) ?_
  refine own_st (S' := T_8.setTop (mkF m 86 #[.val (.ref d), .val (.ref a), .val (.ref b_2), .val (.ref b_6), .val (.int ((0 : Int32) + (1 : Int32))), .val (.int (-2 : Int32))] [])) (fun t_ k_ => XS.ifYes X_8.here hx rfl (pc0 := 40) (pc' := 86) rfl (hb hby d8_40) rfl ((if0 _ _).trans (tlt (by decide : (-2 : Int32) < (0 : Int32))).1) (by decide) (by decide) k_) ?_
  refine own_st (S' := T_8.setTop (mkF m 89 #[.val (.ref d), .val (.ref a), .val (.ref b_2), .val (.ref b_6), .val (.int (((0 : Int32) + (1 : Int32)) + (1 : Int32))), .val (.int (-2 : Int32))] [])) (fun t_ k_ => XS.iinc X_8.here hx rfl (hb hby d8_86) rfl (l' := #[.val (.ref d), .val (.ref a), .val (.ref b_2), .val (.ref b_6), .val (.int (((0 : Int32) + (1 : Int32)) + (1 : Int32))), .val (.int (-2 : Int32))]) rfl k_) ?_
  refine own_st (S' := T_8.setTop (mkF m 25 #[.val (.ref d), .val (.ref a), .val (.ref b_2), .val (.ref b_6), .val (.int (((0 : Int32) + (1 : Int32)) + (1 : Int32))), .val (.int (-2 : Int32))] [])) (fun t_ k_ => XS.goto X_8.here hx rfl (pc0 := 89) (pc' := 25) rfl (hb hby d8_89) (by decide) (by decide) k_) ?_
  refine own_st (S' := T_8.setTop (mkF m 27 #[.val (.ref d), .val (.ref a), .val (.ref b_2), .val (.ref b_6), .val (.int (((0 : Int32) + (1 : Int32)) + (1 : Int32))), .val (.int (-2 : Int32))] [(.int (((0 : Int32) + (1 : Int32)) + (1 : Int32)))])) (fun t_ k_ => XS.iload X_8.here hx rfl (hb hby d8_25) rfl k_) ?_
  refine own_st (S' := T_8.setTop (mkF m 28 #[.val (.ref d), .val (.ref a), .val (.ref b_2), .val (.ref b_6), .val (.int (((0 : Int32) + (1 : Int32)) + (1 : Int32))), .val (.int (-2 : Int32))] [(.ref d), (.int (((0 : Int32) + (1 : Int32)) + (1 : Int32)))])) (fun t_ k_ => XS.aloadN X_8.here hx rfl (hb hby d8_27) rfl rfl k_) ?_
  obtain ⟨cl_14, Ar_14, q_14, S_14, M_14, H_14, G_14⟩ := id f_10
  refine own_st (S' := T_8.setTop (mkF m 29 #[.val (.ref d), .val (.ref a), .val (.ref b_2), .val (.ref b_6), .val (.int (((0 : Int32) + (1 : Int32)) + (1 : Int32))), .val (.int (-2 : Int32))] [(.int (2 : Int32)), (.int (((0 : Int32) + (1 : Int32)) + (1 : Int32)))])) (fun t_ k_ => X_8.arraylength hx Ar_14.1 (State.isArrayOf_alike hZ.alike Ar_14.2.1) (g := (mkF m 28 #[.val (.ref d), .val (.ref a), .val (.ref b_2), .val (.ref b_6), .val (.int (((0 : Int32) + (1 : Int32)) + (1 : Int32))), .val (.int (-2 : Int32))] [(.ref d), (.int (((0 : Int32) + (1 : Int32)) + (1 : Int32)))])) rfl rfl (hb hby d8_28) _ (by rw [len_of S_14 M_14]; exact k_)) ?_
  refine own_st (S' := T_8.setTop (mkF m 92 #[.val (.ref d), .val (.ref a), .val (.ref b_2), .val (.ref b_6), .val (.int (((0 : Int32) + (1 : Int32)) + (1 : Int32))), .val (.int (-2 : Int32))] [])) (fun t_ k_ => XS.icmpYes X_8.here hx rfl (pc0 := 29) (pc' := 92) rfl (hb hby d8_29) rfl (flt (by decide : ¬ ((((0 : Int32) + (1 : Int32)) + (1 : Int32)) < (2 : Int32)))).2.1 (by decide) (by decide) k_) ?_
  refine own_st (S' := T_8.setTop (mkF m 93 #[.val (.ref d), .val (.ref a), .val (.ref b_2), .val (.ref b_6), .val (.int (((0 : Int32) + (1 : Int32)) + (1 : Int32))), .val (.int (-2 : Int32))] [(.ref b_6)])) (fun t_ k_ => XS.aloadN X_8.here hx rfl (hb hby d8_92) rfl rfl k_) ?_
  refine own_st (S' := T_8.setTop (mkF m 94 #[.val (.ref d), .val (.ref a), .val (.ref b_2), .val (.ref b_6), .val (.int (((0 : Int32) + (1 : Int32)) + (1 : Int32))), .val (.int (-2 : Int32))] [(.int (0 : Int32)), (.ref b_6)])) (fun t_ k_ => XS.iconst X_8.here hx rfl (hb hby d8_93) k_) ?_
  have f_15 : Exa Z T_8.heap a "java/util/ArrayList" := ((Exa.ext E_6 f_4).keep K_8c)
  have f_16 : Exa Z T_8.heap b_2 "[I" := ((Exa.ext E_6 B_2).keep K_8c)
  obtain ⟨T_17, h_17, k_17, X_17, e_17, E_17, A_17, B_17, O_17, st_17⟩ := newRE X_8 hx hZ hown (hw _ (List.mem_of_getElem? (i := 80) rfl)) (hw _ (List.mem_of_getElem? (i := 81) rfl)) rfl (g := (mkF m 94 #[.val (.ref d), .val (.ref a), .val (.ref b_2), .val (.ref b_6), .val (.int (((0 : Int32) + (1 : Int32)) + (1 : Int32))), .val (.int (-2 : Int32))] [(.int (0 : Int32)), (.ref b_6)])) rfl (hb hby d8_94) rfl (by decide) (cap := 0) (by decide) (by decide) (by decide) (by decide) (ad := "[Lcom/example/frisk/frisk/pattern/CharacterClass;") (by decide)
  obtain ⟨b_17, gg_17⟩ : ∃ z, z = T_8.heap.size := ⟨_, rfl⟩
  rw [← gg_17] at A_17 B_17 st_17
  have ne_a_b_17 : a ≠ b_17 := Nat.ne_of_lt (Nat.lt_of_lt_of_le f_15.lt (Nat.le_of_eq gg_17.symm))
  have ne_b_2_b_17 : b_2 ≠ b_17 := Nat.ne_of_lt (Nat.lt_of_lt_of_le f_16.lt (Nat.le_of_eq gg_17.symm))
  have ne_b_6_b_17 : b_6 ≠ b_17 := Nat.ne_of_lt (Nat.lt_of_lt_of_le c_8_0.lt (Nat.le_of_eq gg_17.symm))
  have ne_d_b_17 : d ≠ b_17 := Nat.ne_of_lt (Nat.lt_of_lt_of_le f_10.lt (Nat.le_of_eq gg_17.symm))
  have g_b_17 : n0 ≤ b_17 := Nat.le_trans Z_8 (Nat.le_of_eq gg_17.symm)
  have sz_b_17 : h0.size ≤ b_17 := Nat.le_trans K_8.1 (Nat.le_of_eq gg_17.symm)
  have Z_17 : n0 ≤ h_17.size := Nat.le_trans Z_8 E_17.1
  have K_17 : Keep h0 h_17 [] := K_8.ext E_17
  have V_17 : Arv Z h_17 b_17 k_17 (.object "com/example/frisk/frisk/pattern/CharacterClass") (0 : Int32) [] .null := Arv.new A_17 (by decide)
  refine own_st (S' := T_17.setTop (mkF m 97 #[.val (.ref d), .val (.ref a), .val (.ref b_2), .val (.ref b_6), .val (.int (((0 : Int32) + (1 : Int32)) + (1 : Int32))), .val (.int (-2 : Int32))] [(.ref b_17), (.ref b_6)])) st_17 ?_
  have f_18 : Fld Z h_17 b_6 "java/util/ArrayList" "elementData" "[Ljava/lang/Object;" (.ref dd) := (Fld.ext E_17 c_8_1)
  have f_19 : Fld Z h_17 b_6 "java/util/ArrayList" "size" "I" (.int (0 : Int32)) := (Fld.ext E_17 c_8_2)
  have f_20 : Old Z n0 h_17 := ((f_7.keep K_8c (allS g_b_6 all0)).ext E_17)
  have f_22 : Exa Z h_17 b_6 "java/util/ArrayList" := (Exa.ext E_17 c_8_0)
  obtain ⟨cq_21, kq_21, q_21a, q_21b, q_21c⟩ := isOf hZ e_17 f_22
  obtain ⟨_, _, ⟨T_21, L_21, k_21, n_21⟩, -, X_21, ⟨Lc_21, hQ_21, l_21, y_21, z_21⟩, st_21⟩ := X_17.interfaceBack hx (xi := (⟨"java/util/List", "toArray", "([Ljava/lang/Object;)[Ljava/lang/Object;"⟩ : MethodName)) (y := (⟨"java/util/ArrayList", "toArray", "([Ljava/lang/Object;)[Ljava/lang/Object;"⟩ : MethodName)) hown (mvT hZ (hw _ (List.mem_of_getElem? (i := 82) rfl))) (mvT hZ (hw _ (List.mem_of_getElem? (i := 83) rfl))) (mvT hZ (hw _ (List.mem_of_getElem? (i := 84) rfl))) (mvT hZ (hw _ (List.mem_of_getElem? (i := 85) rfl))) (mvT hZ (hw _ (List.mem_of_getElem? (i := 86) rfl))) (mvT hZ (hw _ (List.mem_of_getElem? (i := 87) rfl))) (mvT hZ (hw _ (List.mem_of_getElem? (i := 88) rfl))) (mvT hZ (hw _ (List.mem_of_getElem? (i := 71) rfl))) (by decide) (backOf (W := 0) (rm7 l Z a0 hw [] b_6 b_17 dd kd k_17 h_17 n0 Z_17 f_18 f_19 V_17 Y1 f_20 g_b_17 ne_b_6_b_17) hZ (hw _ (List.mem_of_getElem? (i := 89) rfl)) (hw _ (List.mem_of_getElem? (i := 3) rfl)) (by decide) (by decide)) q_21a q_21b q_21c (g := (mkF m 97 #[.val (.ref d), .val (.ref a), .val (.ref b_2), .val (.ref b_6), .val (.int (((0 : Int32) + (1 : Int32)) + (1 : Int32))), .val (.int (-2 : Int32))] [(.ref b_17), (.ref b_6)])) rfl (by rw [hml]; rfl) (Steps.refl _) (argsL := [(.ref b_17)]) (rest := []) (lenOf pd_3 rfl) rfl (by show 2 * 0 + _ ≤ _; exact Nat.le_of_eq rfl) (hb hby d8_97) (fun _ _ => ⟨rfl, e_17, (by decide : 3 + 0 ≤ _), (by decide : 3 + 0 ≤ _)⟩)
  dsimp only [Pt.U, Pt.locs, Pt.cells, Pt.slots] at X_21 l_21 y_21 z_21 st_21 hQ_21
  subst l_21 y_21 z_21
  obtain ⟨rfl, M_21, K_21c⟩ := hQ_21
  have N_21 := Fr.app N_8 M_21
  have K_21 : Keep h0 T_21.heap [] := K_17.trans K_21c (allS (Or.inr sz_b_17) all0)
  have Z_21 : n0 ≤ T_21.heap.size := Nat.le_trans Z_17 K_21c.1
  refine own_st (S' := T_21.setTop (mkF m 102 #[.val (.ref d), .val (.ref a), .val (.ref b_2), .val (.ref b_6), .val (.int (((0 : Int32) + (1 : Int32)) + (1 : Int32))), .val (.int (-2 : Int32))] [(.ref b_17)])) (fun t_ k_ => st_21.trans k_) ?_
  have f_23 : Exa Z T_21.heap b_17 "[Lcom/example/frisk/frisk/pattern/CharacterClass;" := (B_17.keep K_21c)
  obtain ⟨T_24, X_24, e_24, st_24⟩ := castY X_21 hx hZ hown (hw _ (List.mem_of_getElem? (i := 94) rfl)) rfl (Ins.self f_23) (g := (mkF m 102 #[.val (.ref d), .val (.ref a), .val (.ref b_2), .val (.ref b_6), .val (.int (((0 : Int32) + (1 : Int32)) + (1 : Int32))), .val (.int (-2 : Int32))] [(.ref b_17)])) rfl rfl (hb hby d8_102)
  refine own_st (S' := T_24.setTop (mkF m 105 #[.val (.ref d), .val (.ref a), .val (.ref b_2), .val (.ref b_6), .val (.int (((0 : Int32) + (1 : Int32)) + (1 : Int32))), .val (.int (-2 : Int32))] [(.ref b_17)])) st_24 ?_
  obtain ⟨fs, hr, hrun, hended, hW, hsame⟩ := X_24.leave (v := some (.ref b_17)) (fun h => by rw [Bd.returns] at h; cases h)
  refine ⟨_, _, own_retR X_24 hx Bd.returns rfl rfl (hb hby d8_105) hr, hrun, hended, _, _, rfl, ?_, ⟨_, rfl⟩, hW, hsame.mono (by decide) (by decide)⟩
  show Q8 Z d a dd kd k h0 n0 _ T_24.heap _
  rw [e_24]
  exact ⟨b_17, rfl, N_21, K_21, sz_b_17⟩
theorem d9_0 : decode prog_109_method_1_code 0 = .ok (.aload_n 0, 1) := by decide +kernel
theorem d9_1 : decode prog_109_method_1_code 1 = .ok (.invokespecial 1, 3) := by decide +kernel
theorem d9_4 : decode prog_109_method_1_code 4 = .ok (.aload_n 0, 1) := by decide +kernel
theorem d9_5 : decode prog_109_method_1_code 5 = .ok (.aload_n 2, 1) := by decide +kernel
theorem d9_6 : decode prog_109_method_1_code 6 = .ok (.iload_n 1, 1) := by decide +kernel
theorem d9_7 : decode prog_109_method_1_code 7 = .ok (.invokestatic 7, 3) := by decide +kernel
theorem d9_10 : decode prog_109_method_1_code 10 = .ok (.putfield 13, 3) := by decide +kernel
theorem d9_13 : decode prog_109_method_1_code 13 = .ok (.aload_n 0, 1) := by decide +kernel
theorem d9_14 : decode prog_109_method_1_code 14 = .ok (.aload_n 3, 1) := by decide +kernel
theorem d9_15 : decode prog_109_method_1_code 15 = .ok (.iload_n 1, 1) := by decide +kernel
theorem d9_16 : decode prog_109_method_1_code 16 = .ok (.invokestatic 7, 3) := by decide +kernel
theorem d9_19 : decode prog_109_method_1_code 19 = .ok (.putfield 19, 3) := by decide +kernel
theorem d9_22 : decode prog_109_method_1_code 22 = .ok (.aload_n 0, 1) := by decide +kernel
theorem d9_23 : decode prog_109_method_1_code 23 = .ok (.aload 4, 2) := by decide +kernel
theorem d9_25 : decode prog_109_method_1_code 25 = .ok (.iload_n 1, 1) := by decide +kernel
theorem d9_26 : decode prog_109_method_1_code 26 = .ok (.invokestatic 7, 3) := by decide +kernel
theorem d9_29 : decode prog_109_method_1_code 29 = .ok (.putfield 22, 3) := by decide +kernel
theorem d9_32 : decode prog_109_method_1_code 32 = .ok (.aload_n 0, 1) := by decide +kernel
theorem d9_33 : decode prog_109_method_1_code 33 = .ok (.aload 5, 2) := by decide +kernel
theorem d9_35 : decode prog_109_method_1_code 35 = .ok (.iload_n 1, 1) := by decide +kernel
theorem d9_36 : decode prog_109_method_1_code 36 = .ok (.invokestatic 7, 3) := by decide +kernel
theorem d9_39 : decode prog_109_method_1_code 39 = .ok (.putfield 25, 3) := by decide +kernel
theorem d9_42 : decode prog_109_method_1_code 42 = .ok (.aload_n 0, 1) := by decide +kernel
theorem d9_43 : decode prog_109_method_1_code 43 = .ok (.aload 6, 2) := by decide +kernel
theorem d9_45 : decode prog_109_method_1_code 45 = .ok (.iload_n 1, 1) := by decide +kernel
theorem d9_46 : decode prog_109_method_1_code 46 = .ok (.invokestatic 7, 3) := by decide +kernel
theorem d9_49 : decode prog_109_method_1_code 49 = .ok (.putfield 28, 3) := by decide +kernel
theorem d9_52 : decode prog_109_method_1_code 52 = .ok (.aload_n 0, 1) := by decide +kernel
theorem d9_53 : decode prog_109_method_1_code 53 = .ok (.iload_n 1, 1) := by decide +kernel
theorem d9_54 : decode prog_109_method_1_code 54 = .ok (.newarray .int, 2) := by decide +kernel
theorem d9_56 : decode prog_109_method_1_code 56 = .ok (.putfield 31, 3) := by decide +kernel
theorem d9_59 : decode prog_109_method_1_code 59 = .ok (.iconst 0, 1) := by decide +kernel
theorem d9_60 : decode prog_109_method_1_code 60 = .ok (.istore 9, 2) := by decide +kernel
theorem d9_62 : decode prog_109_method_1_code 62 = .ok (.iconst 0, 1) := by decide +kernel
theorem d9_63 : decode prog_109_method_1_code 63 = .ok (.istore 10, 2) := by decide +kernel
theorem d9_65 : decode prog_109_method_1_code 65 = .ok (.iload 10, 2) := by decide +kernel
theorem d9_67 : decode prog_109_method_1_code 67 = .ok (.iload_n 1, 1) := by decide +kernel
theorem d9_68 : decode prog_109_method_1_code 68 = .ok (.if_icmp .ge 34, 3) := by decide +kernel
theorem d9_71 : decode prog_109_method_1_code 71 = .ok (.aload_n 0, 1) := by decide +kernel
theorem d9_72 : decode prog_109_method_1_code 72 = .ok (.getfield 31, 3) := by decide +kernel
theorem d9_75 : decode prog_109_method_1_code 75 = .ok (.iload 10, 2) := by decide +kernel
theorem d9_77 : decode prog_109_method_1_code 77 = .ok (.aload 6, 2) := by decide +kernel
theorem d9_79 : decode prog_109_method_1_code 79 = .ok (.iload 10, 2) := by decide +kernel
theorem d9_81 : decode prog_109_method_1_code 81 = .ok (.iaload, 1) := by decide +kernel
theorem d9_82 : decode prog_109_method_1_code 82 = .ok (.iconst 1, 1) := by decide +kernel
theorem d9_83 : decode prog_109_method_1_code 83 = .ok (.if_icmp .le 11, 3) := by decide +kernel
theorem d9_94 : decode prog_109_method_1_code 94 = .ok (.iconst (-1), 1) := by decide +kernel
theorem d9_95 : decode prog_109_method_1_code 95 = .ok (.iastore, 1) := by decide +kernel
theorem d9_96 : decode prog_109_method_1_code 96 = .ok (.iinc 10 1, 3) := by decide +kernel
theorem d9_99 : decode prog_109_method_1_code 99 = .ok (.goto (-34), 3) := by decide +kernel
theorem d9_102 : decode prog_109_method_1_code 102 = .ok (.aload_n 0, 1) := by decide +kernel
theorem d9_103 : decode prog_109_method_1_code 103 = .ok (.iload 9, 2) := by decide +kernel
theorem d9_105 : decode prog_109_method_1_code 105 = .ok (.putfield 34, 3) := by decide +kernel
theorem d9_108 : decode prog_109_method_1_code 108 = .ok (.aload_n 0, 1) := by decide +kernel
theorem d9_109 : decode prog_109_method_1_code 109 = .ok (.aload_n 0, 1) := by decide +kernel
theorem d9_110 : decode prog_109_method_1_code 110 = .ok (.getfield 13, 3) := by decide +kernel
theorem d9_113 : decode prog_109_method_1_code 113 = .ok (.aload 7, 2) := by decide +kernel
theorem d9_115 : decode prog_109_method_1_code 115 = .ok (.invokestatic 38, 3) := by decide +kernel
theorem d9_118 : decode prog_109_method_1_code 118 = .ok (.putfield 42, 3) := by decide +kernel
theorem d9_121 : decode prog_109_method_1_code 121 = .ok (.aload_n 0, 1) := by decide +kernel
theorem d9_122 : decode prog_109_method_1_code 122 = .ok (.iload 8, 2) := by decide +kernel
theorem d9_124 : decode prog_109_method_1_code 124 = .ok (.putfield 46, 3) := by decide +kernel
theorem d9_127 : decode prog_109_method_1_code 127 = .ok (.return_, 1) := by decide +kernel
theorem ef_9 (m : MethodId) (g : Addr) (l1 : Addr) (x : Addr) (y : Addr) (u : Addr) (w : Addr) (a : Addr) : entryFrame m #[(.ref g), (.int (2 : Int32)), (.ref l1), (.ref x), (.ref y), (.ref u), (.ref w), (.ref a), (.int (0 : Int32))] 11 = mkF m 0 #[.val (.ref g), .val (.int (2 : Int32)), .val (.ref l1), .val (.ref x), .val (.ref y), .val (.ref u), .val (.ref w), .val (.ref a), .val (.int (0 : Int32)), .unset, .unset] [] := by first | (simp [entryFrame, mkF, argsToLocals, Value.category]; done) | rfl
theorem pd_4 : parseMethodDescriptor "([II)[I" = some ⟨[(.array .int), .int], some (.array .int)⟩ := by decide +kernel
theorem pd_5 : parseMethodDescriptor "([ILjava/util/List;)[Lcom/example/frisk/frisk/pattern/CharacterClass;" = some ⟨[(.array .int), (.object "java/util/List")], some (.array (.object "com/example/frisk/frisk/pattern/CharacterClass"))⟩ := by decide +kernel
def Q9 (Z : State) (g : Addr) (l1 : Addr) (x : Addr) (y : Addr) (u : Addr) (w : Addr) (a : Addr) (dd : Addr) (kd : ClassId) (kl1 : ClassId) (kx : ClassId) (ky : ClassId) (ku : ClassId) (kw : ClassId) (x0 : Int32) (x1 : Int32) (y0 : Int32) (y1 : Int32) (h0 : Heap) (n0 : Nat) (v_ : Option Value) (h_ : Heap) (L_ : List Loc) : Prop := ∃ bx : Addr, ∃ by_ : Addr, v_ = none ∧ Fr n0 L_ ∧ Keep h0 h_ [g] ∧ h0.size ≤ bx ∧ h0.size ≤ by_ ∧ Exa Z h_ g "com/example/frisk/frisk/pattern/StateGraph" ∧ Fld Z h_ g "com/example/frisk/frisk/pattern/StateGraph" "next" "[I" (.ref bx) ∧ Fld Z h_ g "com/example/frisk/frisk/pattern/StateGraph" "alternative" "[I" (.ref by_) ∧ Arv Z h_ bx kx .int (2 : Int32) [(.int x0), (.int x1)] (.int (0 : Int32)) ∧ Arv Z h_ by_ ky .int (2 : Int32) [(.int y0), (.int y1)] (.int (0 : Int32))
set_option maxRecDepth 65536 in
set_option maxHeartbeats 40000000 in
theorem rm9 (l : Launch) (Z : State) (a0 : Array Value) (hw : ∀ d ∈ tables_1, d.before a0 Z = true) (ws : List Jvm.Cond) (g : Addr) (l1 : Addr) (x : Addr) (y : Addr) (u : Addr) (w : Addr) (a : Addr) (dd : Addr) (kd : ClassId) (kl1 : ClassId) (kx : ClassId) (ky : ClassId) (ku : ClassId) (kw : ClassId) (x0 : Int32) (x1 : Int32) (y0 : Int32) (y1 : Int32) (h0 : Heap) (n0 : Nat) (Z0 : n0 ≤ h0.size) (P0 : Exa Z h0 g "com/example/frisk/frisk/pattern/StateGraph") (P1 : Fld Z h0 g "com/example/frisk/frisk/pattern/StateGraph" "labels" "[I" .null) (P2 : Fld Z h0 g "com/example/frisk/frisk/pattern/StateGraph" "next" "[I" .null) (P3 : Fld Z h0 g "com/example/frisk/frisk/pattern/StateGraph" "alternative" "[I" .null) (P4 : Fld Z h0 g "com/example/frisk/frisk/pattern/StateGraph" "leasts" "[I" .null) (P5 : Fld Z h0 g "com/example/frisk/frisk/pattern/StateGraph" "mosts" "[I" .null) (P6 : Fld Z h0 g "com/example/frisk/frisk/pattern/StateGraph" "counterNumbers" "[I" .null) (P7 : Fld Z h0 g "com/example/frisk/frisk/pattern/StateGraph" "classes" "[Lcom/example/frisk/frisk/pattern/CharacterClass;" .null) (P8 : Fld Z h0 g "com/example/frisk/frisk/pattern/StateGraph" "counterCount" "I" (.int (0 : Int32))) (P9 : Fld Z h0 g "com/example/frisk/frisk/pattern/StateGraph" "start" "I" (.int (0 : Int32))) (P10 : Arv Z h0 l1 kl1 .int (2 : Int32) [(.int (-1 : Int32)), (.int (-2 : Int32))] (.int (0 : Int32))) (P11 : Arv Z h0 x kx .int (2 : Int32) [(.int x0), (.int x1)] (.int (0 : Int32))) (P12 : Arv Z h0 y ky .int (2 : Int32) [(.int y0), (.int y1)] (.int (0 : Int32))) (P13 : Arv Z h0 u ku .int (2 : Int32) [(.int (1 : Int32)), (.int (1 : Int32))] (.int (0 : Int32))) (P14 : Arv Z h0 w kw .int (2 : Int32) [(.int (1 : Int32)), (.int (1 : Int32))] (.int (0 : Int32))) (P15 : Exa Z h0 l1 "[I") (P16 : Exa Z h0 x "[I") (P17 : Exa Z h0 y "[I") (P18 : Exa Z h0 u "[I") (P19 : Exa Z h0 w "[I") (P20 : Exa Z h0 a "java/util/ArrayList") (P21 : Fld Z h0 a "java/util/ArrayList" "size" "I" (.int (0 : Int32))) (Y0 : Sta Z Z.heap "java/util/ArrayList" "DEFAULTCAPACITY_EMPTY_ELEMENTDATA" "[Ljava/lang/Object;" (.ref dd)) (Y1 : Arv Z Z.heap dd kd (.object "java/lang/Object") (0 : Int32) [] .null) (O0 : Old Z n0 h0) (g_g : n0 ≤ g) (ne_g_l1 : g ≠ l1) (ne_g_x : g ≠ x) (ne_g_y : g ≠ y) (ne_g_u : g ≠ u) (ne_g_w : g ≠ w) (ne_g_a : g ≠ a) :
    MetFree l (⟨"com/example/frisk/frisk/pattern/StateGraph", "<init>", "(I[I[I[I[I[ILjava/util/List;I)V"⟩ : MethodName) (head1 (Jvm.Cond.code (⟨"com/example/frisk/frisk/pattern/StateGraph", "<init>", "(I[I[I[I[I[ILjava/util/List;I)V"⟩ : MethodName) prog_109_method_1_code 11 none :: ws) ({ frames := 5, cells := 9, slots := 15, locals := 67 } : Room)) (fun ar_ U_ => ar_ = #[(.ref g), (.int (2 : Int32)), (.ref l1), (.ref x), (.ref y), (.ref u), (.ref w), (.ref a), (.int (0 : Int32))] ∧ Z.Warmed39 U_.vm ∧ U_.heap = h0) (fun _ _ _ _ _ => True) (fun _ U_ o_ U2_ => ∃ v_ L_, o_ = .returned v_ ∧ Q9 Z g l1 x y u w a dd kd kl1 kx ky ku kw x0 x1 y0 y1 h0 n0 v_ U2_.heap L_ ∧ FrameEnd U_ o_ U2_ L_ ({ frames := 5, cells := 9, slots := 15, locals := 67 } : Room).cells ({ frames := 5, cells := 9, slots := 15, locals := 67 } : Room).slots) := by
  refine MetFree.of_bodySF (plainFor_of_name pn_4) hisR ?_
  intro p e s m args below meth c s₁ Bd hml0 hP hK
  obtain ⟨rfl, hZ, hh⟩ := hP
  have hx := Bd.exec
  have hby := Bd.bytes
  have hml : c.maxLocals = 11 := hml0
  have hown : s.vm.findClass "com/example/frisk/frisk/pattern/StateGraph" = some m.cls := findClass_of_methodNamed Bd.named
  have hnm := (name_of_methodNamed Bd.named Bd.method).1
  have X0 : Stand p l e ({ frames := 5, cells := 9, slots := 15, locals := 67 } : Room) s m #[(.ref g), (.int (2 : Int32)), (.ref l1), (.ref x), (.ref y), (.ref u), (.ref w), (.ref a), (.int (0 : Int32))] below meth c s₁ [] 0 0 := Stand.of_body Bd
  have e0 : s₁.heap = h0 := by rw [← hh, Bd.state]; rfl
  have N0 := Fr.nil n0
  refine own_gl ?_
  refine own_st (S' := s₁.setTop (mkF m 0 #[.val (.ref g), .val (.int (2 : Int32)), .val (.ref l1), .val (.ref x), .val (.ref y), .val (.ref u), .val (.ref w), .val (.ref a), .val (.int (0 : Int32)), .unset, .unset] [])) (fun t_ k_ => castTop (ef_9 m g l1 x y u w a) k_) ?_
  refine own_st (S' := s₁.setTop (mkF m 1 #[.val (.ref g), .val (.int (2 : Int32)), .val (.ref l1), .val (.ref x), .val (.ref y), .val (.ref u), .val (.ref w), .val (.ref a), .val (.int (0 : Int32)), .unset, .unset] [(.ref g)])) (fun t_ k_ => XS.aloadN X0.here hx rfl (hb hby d9_0) rfl rfl k_) ?_
  obtain ⟨T_1, X_1, e_1, st_1⟩ := initO X0 hx hZ hown (hw _ (List.mem_of_getElem? (i := 33) rfl)) (hw _ (List.mem_of_getElem? (i := 20) rfl)) (hw _ (List.mem_of_getElem? (i := 21) rfl)) e0 (g := (mkF m 1 #[.val (.ref g), .val (.int (2 : Int32)), .val (.ref l1), .val (.ref x), .val (.ref y), .val (.ref u), .val (.ref w), .val (.ref a), .val (.int (0 : Int32)), .unset, .unset] [(.ref g)])) rfl (by rw [hml]; rfl) rfl (hb hby d9_1) (by decide) (W := 0) (by show 2 * 0 + _ ≤ _; exact Nat.le_of_eq rfl) (by decide)
  refine own_st (S' := T_1.setTop (mkF m 4 #[.val (.ref g), .val (.int (2 : Int32)), .val (.ref l1), .val (.ref x), .val (.ref y), .val (.ref u), .val (.ref w), .val (.ref a), .val (.int (0 : Int32)), .unset, .unset] [])) st_1 ?_
  refine own_st (S' := T_1.setTop (mkF m 5 #[.val (.ref g), .val (.int (2 : Int32)), .val (.ref l1), .val (.ref x), .val (.ref y), .val (.ref u), .val (.ref w), .val (.ref a), .val (.int (0 : Int32)), .unset, .unset] [(.ref g)])) (fun t_ k_ => XS.aloadN X_1.here hx rfl (hb hby d9_4) rfl rfl k_) ?_
  refine own_st (S' := T_1.setTop (mkF m 6 #[.val (.ref g), .val (.int (2 : Int32)), .val (.ref l1), .val (.ref x), .val (.ref y), .val (.ref u), .val (.ref w), .val (.ref a), .val (.int (0 : Int32)), .unset, .unset] [(.ref l1), (.ref g)])) (fun t_ k_ => XS.aloadN X_1.here hx rfl (hb hby d9_5) rfl rfl k_) ?_
  refine own_st (S' := T_1.setTop (mkF m 7 #[.val (.ref g), .val (.int (2 : Int32)), .val (.ref l1), .val (.ref x), .val (.ref y), .val (.ref u), .val (.ref w), .val (.ref a), .val (.int (0 : Int32)), .unset, .unset] [(.int (2 : Int32)), (.ref l1), (.ref g)])) (fun t_ k_ => XS.iloadN X_1.here hx rfl (hb hby d9_6) rfl k_) ?_
  obtain ⟨_, _, ⟨T_2, L_2, k_2, n_2⟩, -, X_2, ⟨Lc_2, hQ_2, l_2, y_2, z_2⟩, st_2⟩ := Jvm.LawKit.callS X_1 hx (y := (⟨"java/util/Arrays", "copyOf", "([II)[I"⟩ : MethodName)) hown (mvT hZ (hw _ (List.mem_of_getElem? (i := 34) rfl))) (mvT hZ (hw _ (List.mem_of_getElem? (i := 35) rfl))) (mvT hZ (hw _ (List.mem_of_getElem? (i := 36) rfl))) (mvT hZ (hw _ (List.mem_of_getElem? (i := 37) rfl))) (by decide) (backOf (W := 1) (rm5 l Z a0 hw [] l1 kl1 (-1 : Int32) (-2 : Int32) h0 n0 Z0 P10 P15) hZ (hw _ (List.mem_of_getElem? (i := 37) rfl)) (hw _ (List.mem_of_getElem? (i := 36) rfl)) (by decide) (by decide)) (g := (mkF m 7 #[.val (.ref g), .val (.int (2 : Int32)), .val (.ref l1), .val (.ref x), .val (.ref y), .val (.ref u), .val (.ref w), .val (.ref a), .val (.int (0 : Int32)), .unset, .unset] [(.int (2 : Int32)), (.ref l1), (.ref g)])) rfl (by rw [hml]; rfl) (argsL := [(.ref l1), (.int (2 : Int32))]) (rest := [(.ref g)]) (lenOf pd_4 rfl) rfl (by show 2 * 0 + _ ≤ _; exact Nat.le_of_eq rfl) (hb hby d9_7) (fun _ _ => ⟨rfl, e_1, (by decide : 0 + 1 ≤ _), (by decide : 0 + 2 ≤ _)⟩)
  dsimp only [Pt.U, Pt.locs, Pt.cells, Pt.slots] at X_2 l_2 y_2 z_2 st_2 hQ_2
  subst l_2 y_2 z_2
  obtain ⟨x_2_b, rfl, M_2, K_2c, z_2_0, c_2_0, c_2_1⟩ := hQ_2
  have N_2 := Fr.app N0 M_2
  have K_2 : Keep h0 T_2.heap [g] := (Keep.refl h0 [g]).trans K_2c all0
  have ne_a_x_2_b : a ≠ x_2_b := Nat.ne_of_lt (Nat.lt_of_lt_of_le P20.lt z_2_0)
  have ne_g_x_2_b : g ≠ x_2_b := Nat.ne_of_lt (Nat.lt_of_lt_of_le P0.lt z_2_0)
  have ne_l1_x_2_b : l1 ≠ x_2_b := Nat.ne_of_lt (Nat.lt_of_lt_of_le P15.lt z_2_0)
  have ne_u_x_2_b : u ≠ x_2_b := Nat.ne_of_lt (Nat.lt_of_lt_of_le P18.lt z_2_0)
  have ne_w_x_2_b : w ≠ x_2_b := Nat.ne_of_lt (Nat.lt_of_lt_of_le P19.lt z_2_0)
  have ne_x_x_2_b : x ≠ x_2_b := Nat.ne_of_lt (Nat.lt_of_lt_of_le P16.lt z_2_0)
  have ne_y_x_2_b : y ≠ x_2_b := Nat.ne_of_lt (Nat.lt_of_lt_of_le P17.lt z_2_0)
  have g_x_2_b : n0 ≤ x_2_b := Nat.le_trans Z0 z_2_0
  have sz_x_2_b : h0.size ≤ x_2_b := Nat.le_trans ((Keep.refl h0 [g])).1 z_2_0
  have Z_2 : n0 ≤ T_2.heap.size := Nat.le_trans Z0 K_2c.1
  refine own_st (S' := T_2.setTop (mkF m 10 #[.val (.ref g), .val (.int (2 : Int32)), .val (.ref l1), .val (.ref x), .val (.ref y), .val (.ref u), .val (.ref w), .val (.ref a), .val (.int (0 : Int32)), .unset, .unset] [(.ref x_2_b), (.ref g)])) st_2 ?_
  have f_3 : Fld Z T_2.heap g "com/example/frisk/frisk/pattern/StateGraph" "labels" "[I" .null := (P1.keep K_2c nin0)
  have f_4 : Exa Z T_2.heap g "com/example/frisk/frisk/pattern/StateGraph" := (P0.keep K_2c)
  obtain ⟨T_5, h_5, X_5, e_5, W_5, st_5⟩ := putF X_2 hx hZ hown (host := "") (Or.inl (hw _ (List.mem_of_getElem? (i := 47) rfl))) Via.refl rfl f_3 f_4 (Or.inr ⟨(hw _ (List.mem_of_getElem? (i := 48) rfl)), rfl, hnm⟩) (hw _ (List.mem_of_getElem? (i := 28) rfl)) (ty := (.array .int)) (by decide) rfl rfl (g := (mkF m 10 #[.val (.ref g), .val (.int (2 : Int32)), .val (.ref l1), .val (.ref x), .val (.ref y), .val (.ref u), .val (.ref w), .val (.ref a), .val (.int (0 : Int32)), .unset, .unset] [(.ref x_2_b), (.ref g)])) rfl rfl (hb hby d9_10)
  have Z_5 : n0 ≤ h_5.size := Nat.le_trans Z_2 (Keep.of_wr W_5).1
  have N_5 := Fr.snoc X_5 N_2 g_g
  have K_5 : Keep h0 h_5 [g] := K_2.wr W_5 (Or.inl (List.mem_of_getElem? (i := 0) rfl))
  have f_5 : Fld Z h_5 g "com/example/frisk/frisk/pattern/StateGraph" "labels" "[I" (.ref x_2_b) := Fld.same W_5 f_3
  refine own_st (S' := T_5.setTop (mkF m 13 #[.val (.ref g), .val (.int (2 : Int32)), .val (.ref l1), .val (.ref x), .val (.ref y), .val (.ref u), .val (.ref w), .val (.ref a), .val (.int (0 : Int32)), .unset, .unset] [])) st_5 ?_
  refine own_st (S' := T_5.setTop (mkF m 14 #[.val (.ref g), .val (.int (2 : Int32)), .val (.ref l1), .val (.ref x), .val (.ref y), .val (.ref u), .val (.ref w), .val (.ref a), .val (.int (0 : Int32)), .unset, .unset] [(.ref g)])) (fun t_ k_ => XS.aloadN X_5.here hx rfl (hb hby d9_13) rfl rfl k_) ?_
  refine own_st (S' := T_5.setTop (mkF m 15 #[.val (.ref g), .val (.int (2 : Int32)), .val (.ref l1), .val (.ref x), .val (.ref y), .val (.ref u), .val (.ref w), .val (.ref a), .val (.int (0 : Int32)), .unset, .unset] [(.ref x), (.ref g)])) (fun t_ k_ => XS.aloadN X_5.here hx rfl (hb hby d9_14) rfl rfl k_) ?_
  refine own_st (S' := T_5.setTop (mkF m 16 #[.val (.ref g), .val (.int (2 : Int32)), .val (.ref l1), .val (.ref x), .val (.ref y), .val (.ref u), .val (.ref w), .val (.ref a), .val (.int (0 : Int32)), .unset, .unset] [(.int (2 : Int32)), (.ref x), (.ref g)])) (fun t_ k_ => XS.iloadN X_5.here hx rfl (hb hby d9_15) rfl k_) ?_
  have f_6 : Arv Z h_5 x kx .int (2 : Int32) [(.int x0), (.int x1)] (.int (0 : Int32)) := ((P11.keep K_2c nin0).other W_5 (Ne.symm ne_g_x))
  have f_7 : Exa Z h_5 x "[I" := (Exa.wr W_5 (P16.keep K_2c))
  have f_8 : Exa Z h_5 a "java/util/ArrayList" := (Exa.wr W_5 (P20.keep K_2c))
  have f_9 : Exa Z h_5 l1 "[I" := (Exa.wr W_5 (P15.keep K_2c))
  have f_10 : Exa Z h_5 u "[I" := (Exa.wr W_5 (P18.keep K_2c))
  have f_11 : Exa Z h_5 w "[I" := (Exa.wr W_5 (P19.keep K_2c))
  have f_12 : Exa Z h_5 x_2_b "[I" := (Exa.wr W_5 c_2_1)
  have f_13 : Exa Z h_5 y "[I" := (Exa.wr W_5 (P17.keep K_2c))
  obtain ⟨_, _, ⟨T_14, L_14, k_14, n_14⟩, -, X_14, ⟨Lc_14, hQ_14, l_14, y_14, z_14⟩, st_14⟩ := Jvm.LawKit.callS X_5 hx (y := (⟨"java/util/Arrays", "copyOf", "([II)[I"⟩ : MethodName)) hown (mvT hZ (hw _ (List.mem_of_getElem? (i := 34) rfl))) (mvT hZ (hw _ (List.mem_of_getElem? (i := 35) rfl))) (mvT hZ (hw _ (List.mem_of_getElem? (i := 36) rfl))) (mvT hZ (hw _ (List.mem_of_getElem? (i := 37) rfl))) (by decide) (backOf (W := 1) (rm5 l Z a0 hw [] x kx x0 x1 h_5 n0 Z_5 f_6 f_7) hZ (hw _ (List.mem_of_getElem? (i := 37) rfl)) (hw _ (List.mem_of_getElem? (i := 36) rfl)) (by decide) (by decide)) (g := (mkF m 16 #[.val (.ref g), .val (.int (2 : Int32)), .val (.ref l1), .val (.ref x), .val (.ref y), .val (.ref u), .val (.ref w), .val (.ref a), .val (.int (0 : Int32)), .unset, .unset] [(.int (2 : Int32)), (.ref x), (.ref g)])) rfl (by rw [hml]; rfl) (argsL := [(.ref x), (.int (2 : Int32))]) (rest := [(.ref g)]) (lenOf pd_4 rfl) rfl (by show 2 * 0 + _ ≤ _; exact Nat.le_of_eq rfl) (hb hby d9_16) (fun _ _ => ⟨rfl, e_5, (by decide : 1 + 1 ≤ _), (by decide : 2 + 2 ≤ _)⟩)
  dsimp only [Pt.U, Pt.locs, Pt.cells, Pt.slots] at X_14 l_14 y_14 z_14 st_14 hQ_14
  subst l_14 y_14 z_14
  obtain ⟨x_14_b, rfl, M_14, K_14c, z_14_0, c_14_0, c_14_1⟩ := hQ_14
  have N_14 := Fr.app N_5 M_14
  have K_14 : Keep h0 T_14.heap [g] := K_5.trans K_14c all0
  have ne_a_x_14_b : a ≠ x_14_b := Nat.ne_of_lt (Nat.lt_of_lt_of_le f_8.lt z_14_0)
  have ne_g_x_14_b : g ≠ x_14_b := Nat.ne_of_lt (Nat.lt_of_lt_of_le f_5.lt z_14_0)
  have ne_l1_x_14_b : l1 ≠ x_14_b := Nat.ne_of_lt (Nat.lt_of_lt_of_le f_9.lt z_14_0)
  have ne_u_x_14_b : u ≠ x_14_b := Nat.ne_of_lt (Nat.lt_of_lt_of_le f_10.lt z_14_0)
  have ne_w_x_14_b : w ≠ x_14_b := Nat.ne_of_lt (Nat.lt_of_lt_of_le f_11.lt z_14_0)
  have ne_x_x_14_b : x ≠ x_14_b := Nat.ne_of_lt (Nat.lt_of_lt_of_le f_7.lt z_14_0)
  have ne_x_2_b_x_14_b : x_2_b ≠ x_14_b := Nat.ne_of_lt (Nat.lt_of_lt_of_le f_12.lt z_14_0)
  have ne_y_x_14_b : y ≠ x_14_b := Nat.ne_of_lt (Nat.lt_of_lt_of_le f_13.lt z_14_0)
  have g_x_14_b : n0 ≤ x_14_b := Nat.le_trans Z_5 z_14_0
  have sz_x_14_b : h0.size ≤ x_14_b := Nat.le_trans (K_5).1 z_14_0
  have Z_14 : n0 ≤ T_14.heap.size := Nat.le_trans Z_5 K_14c.1
  refine own_st (S' := T_14.setTop (mkF m 19 #[.val (.ref g), .val (.int (2 : Int32)), .val (.ref l1), .val (.ref x), .val (.ref y), .val (.ref u), .val (.ref w), .val (.ref a), .val (.int (0 : Int32)), .unset, .unset] [(.ref x_14_b), (.ref g)])) st_14 ?_
  have f_15 : Fld Z T_14.heap g "com/example/frisk/frisk/pattern/StateGraph" "next" "[I" .null := ((Fld.other W_5 (P2.keep K_2c nin0) (Or.inr (slot_ne (Or.inr (hw _ (List.mem_of_getElem? (i := 50) rfl))) (Or.inr (hw _ (List.mem_of_getElem? (i := 48) rfl))) (by decide) (t := (.array .int)) (t' := (.array .int)) (by decide) (by decide)))).keep K_14c nin0)
  have f_16 : Exa Z T_14.heap g "com/example/frisk/frisk/pattern/StateGraph" := ((Exa.wr W_5 f_4).keep K_14c)
  obtain ⟨T_17, h_17, X_17, e_17, W_17, st_17⟩ := putF X_14 hx hZ hown (host := "") (Or.inl (hw _ (List.mem_of_getElem? (i := 49) rfl))) Via.refl rfl f_15 f_16 (Or.inr ⟨(hw _ (List.mem_of_getElem? (i := 50) rfl)), rfl, hnm⟩) (hw _ (List.mem_of_getElem? (i := 28) rfl)) (ty := (.array .int)) (by decide) rfl rfl (g := (mkF m 19 #[.val (.ref g), .val (.int (2 : Int32)), .val (.ref l1), .val (.ref x), .val (.ref y), .val (.ref u), .val (.ref w), .val (.ref a), .val (.int (0 : Int32)), .unset, .unset] [(.ref x_14_b), (.ref g)])) rfl rfl (hb hby d9_19)
  have Z_17 : n0 ≤ h_17.size := Nat.le_trans Z_14 (Keep.of_wr W_17).1
  have N_17 := Fr.snoc X_17 N_14 g_g
  have K_17 : Keep h0 h_17 [g] := K_14.wr W_17 (Or.inl (List.mem_of_getElem? (i := 0) rfl))
  have f_17 : Fld Z h_17 g "com/example/frisk/frisk/pattern/StateGraph" "next" "[I" (.ref x_14_b) := Fld.same W_17 f_15
  refine own_st (S' := T_17.setTop (mkF m 22 #[.val (.ref g), .val (.int (2 : Int32)), .val (.ref l1), .val (.ref x), .val (.ref y), .val (.ref u), .val (.ref w), .val (.ref a), .val (.int (0 : Int32)), .unset, .unset] [])) st_17 ?_
  refine own_st (S' := T_17.setTop (mkF m 23 #[.val (.ref g), .val (.int (2 : Int32)), .val (.ref l1), .val (.ref x), .val (.ref y), .val (.ref u), .val (.ref w), .val (.ref a), .val (.int (0 : Int32)), .unset, .unset] [(.ref g)])) (fun t_ k_ => XS.aloadN X_17.here hx rfl (hb hby d9_22) rfl rfl k_) ?_
  refine own_st (S' := T_17.setTop (mkF m 25 #[.val (.ref g), .val (.int (2 : Int32)), .val (.ref l1), .val (.ref x), .val (.ref y), .val (.ref u), .val (.ref w), .val (.ref a), .val (.int (0 : Int32)), .unset, .unset] [(.ref y), (.ref g)])) (fun t_ k_ => XS.aload X_17.here hx rfl (hb hby d9_23) rfl rfl k_) ?_
  refine own_st (S' := T_17.setTop (mkF m 26 #[.val (.ref g), .val (.int (2 : Int32)), .val (.ref l1), .val (.ref x), .val (.ref y), .val (.ref u), .val (.ref w), .val (.ref a), .val (.int (0 : Int32)), .unset, .unset] [(.int (2 : Int32)), (.ref y), (.ref g)])) (fun t_ k_ => XS.iloadN X_17.here hx rfl (hb hby d9_25) rfl k_) ?_
  have f_18 : Arv Z h_17 y ky .int (2 : Int32) [(.int y0), (.int y1)] (.int (0 : Int32)) := ((((P12.keep K_2c nin0).other W_5 (Ne.symm ne_g_y)).keep K_14c nin0).other W_17 (Ne.symm ne_g_y))
  have f_19 : Exa Z h_17 y "[I" := (Exa.wr W_17 (f_13.keep K_14c))
  have f_20 : Exa Z h_17 a "java/util/ArrayList" := (Exa.wr W_17 (f_8.keep K_14c))
  have f_21 : Exa Z h_17 l1 "[I" := (Exa.wr W_17 (f_9.keep K_14c))
  have f_22 : Exa Z h_17 u "[I" := (Exa.wr W_17 (f_10.keep K_14c))
  have f_23 : Exa Z h_17 w "[I" := (Exa.wr W_17 (f_11.keep K_14c))
  have f_24 : Exa Z h_17 x "[I" := (Exa.wr W_17 (f_7.keep K_14c))
  have f_25 : Exa Z h_17 x_14_b "[I" := (Exa.wr W_17 c_14_1)
  have f_26 : Exa Z h_17 x_2_b "[I" := (Exa.wr W_17 (f_12.keep K_14c))
  obtain ⟨_, _, ⟨T_27, L_27, k_27, n_27⟩, -, X_27, ⟨Lc_27, hQ_27, l_27, y_27, z_27⟩, st_27⟩ := Jvm.LawKit.callS X_17 hx (y := (⟨"java/util/Arrays", "copyOf", "([II)[I"⟩ : MethodName)) hown (mvT hZ (hw _ (List.mem_of_getElem? (i := 34) rfl))) (mvT hZ (hw _ (List.mem_of_getElem? (i := 35) rfl))) (mvT hZ (hw _ (List.mem_of_getElem? (i := 36) rfl))) (mvT hZ (hw _ (List.mem_of_getElem? (i := 37) rfl))) (by decide) (backOf (W := 1) (rm5 l Z a0 hw [] y ky y0 y1 h_17 n0 Z_17 f_18 f_19) hZ (hw _ (List.mem_of_getElem? (i := 37) rfl)) (hw _ (List.mem_of_getElem? (i := 36) rfl)) (by decide) (by decide)) (g := (mkF m 26 #[.val (.ref g), .val (.int (2 : Int32)), .val (.ref l1), .val (.ref x), .val (.ref y), .val (.ref u), .val (.ref w), .val (.ref a), .val (.int (0 : Int32)), .unset, .unset] [(.int (2 : Int32)), (.ref y), (.ref g)])) rfl (by rw [hml]; rfl) (argsL := [(.ref y), (.int (2 : Int32))]) (rest := [(.ref g)]) (lenOf pd_4 rfl) rfl (by show 2 * 0 + _ ≤ _; exact Nat.le_of_eq rfl) (hb hby d9_26) (fun _ _ => ⟨rfl, e_17, (by decide : 2 + 1 ≤ _), (by decide : 4 + 2 ≤ _)⟩)
  dsimp only [Pt.U, Pt.locs, Pt.cells, Pt.slots] at X_27 l_27 y_27 z_27 st_27 hQ_27
  subst l_27 y_27 z_27
  obtain ⟨x_27_b, rfl, M_27, K_27c, z_27_0, c_27_0, c_27_1⟩ := hQ_27
  have N_27 := Fr.app N_17 M_27
  have K_27 : Keep h0 T_27.heap [g] := K_17.trans K_27c all0
  have ne_a_x_27_b : a ≠ x_27_b := Nat.ne_of_lt (Nat.lt_of_lt_of_le f_20.lt z_27_0)
  have ne_g_x_27_b : g ≠ x_27_b := Nat.ne_of_lt (Nat.lt_of_lt_of_le f_17.lt z_27_0)
  have ne_l1_x_27_b : l1 ≠ x_27_b := Nat.ne_of_lt (Nat.lt_of_lt_of_le f_21.lt z_27_0)
  have ne_u_x_27_b : u ≠ x_27_b := Nat.ne_of_lt (Nat.lt_of_lt_of_le f_22.lt z_27_0)
  have ne_w_x_27_b : w ≠ x_27_b := Nat.ne_of_lt (Nat.lt_of_lt_of_le f_23.lt z_27_0)
  have ne_x_x_27_b : x ≠ x_27_b := Nat.ne_of_lt (Nat.lt_of_lt_of_le f_24.lt z_27_0)
  have ne_x_14_b_x_27_b : x_14_b ≠ x_27_b := Nat.ne_of_lt (Nat.lt_of_lt_of_le f_25.lt z_27_0)
  have ne_x_2_b_x_27_b : x_2_b ≠ x_27_b := Nat.ne_of_lt (Nat.lt_of_lt_of_le f_26.lt z_27_0)
  have ne_y_x_27_b : y ≠ x_27_b := Nat.ne_of_lt (Nat.lt_of_lt_of_le f_19.lt z_27_0)
  have g_x_27_b : n0 ≤ x_27_b := Nat.le_trans Z_17 z_27_0
  have sz_x_27_b : h0.size ≤ x_27_b := Nat.le_trans (K_17).1 z_27_0
  have Z_27 : n0 ≤ T_27.heap.size := Nat.le_trans Z_17 K_27c.1
  refine own_st (S' := T_27.setTop (mkF m 29 #[.val (.ref g), .val (.int (2 : Int32)), .val (.ref l1), .val (.ref x), .val (.ref y), .val (.ref u), .val (.ref w), .val (.ref a), .val (.int (0 : Int32)), .unset, .unset] [(.ref x_27_b), (.ref g)])) st_27 ?_
  have f_28 : Fld Z T_27.heap g "com/example/frisk/frisk/pattern/StateGraph" "alternative" "[I" .null := ((Fld.other W_17 ((Fld.other W_5 (P3.keep K_2c nin0) (Or.inr (slot_ne (Or.inr (hw _ (List.mem_of_getElem? (i := 52) rfl))) (Or.inr (hw _ (List.mem_of_getElem? (i := 48) rfl))) (by decide) (t := (.array .int)) (t' := (.array .int)) (by decide) (by decide)))).keep K_14c nin0) (Or.inr (slot_ne (Or.inr (hw _ (List.mem_of_getElem? (i := 52) rfl))) (Or.inr (hw _ (List.mem_of_getElem? (i := 50) rfl))) (by decide) (t := (.array .int)) (t' := (.array .int)) (by decide) (by decide)))).keep K_27c nin0)
  have f_29 : Exa Z T_27.heap g "com/example/frisk/frisk/pattern/StateGraph" := ((Exa.wr W_17 f_16).keep K_27c)
  obtain ⟨T_30, h_30, X_30, e_30, W_30, st_30⟩ := putF X_27 hx hZ hown (host := "") (Or.inl (hw _ (List.mem_of_getElem? (i := 51) rfl))) Via.refl rfl f_28 f_29 (Or.inr ⟨(hw _ (List.mem_of_getElem? (i := 52) rfl)), rfl, hnm⟩) (hw _ (List.mem_of_getElem? (i := 28) rfl)) (ty := (.array .int)) (by decide) rfl rfl (g := (mkF m 29 #[.val (.ref g), .val (.int (2 : Int32)), .val (.ref l1), .val (.ref x), .val (.ref y), .val (.ref u), .val (.ref w), .val (.ref a), .val (.int (0 : Int32)), .unset, .unset] [(.ref x_27_b), (.ref g)])) rfl rfl (hb hby d9_29)
  have Z_30 : n0 ≤ h_30.size := Nat.le_trans Z_27 (Keep.of_wr W_30).1
  have N_30 := Fr.snoc X_30 N_27 g_g
  have K_30 : Keep h0 h_30 [g] := K_27.wr W_30 (Or.inl (List.mem_of_getElem? (i := 0) rfl))
  have f_30 : Fld Z h_30 g "com/example/frisk/frisk/pattern/StateGraph" "alternative" "[I" (.ref x_27_b) := Fld.same W_30 f_28
  refine own_st (S' := T_30.setTop (mkF m 32 #[.val (.ref g), .val (.int (2 : Int32)), .val (.ref l1), .val (.ref x), .val (.ref y), .val (.ref u), .val (.ref w), .val (.ref a), .val (.int (0 : Int32)), .unset, .unset] [])) st_30 ?_
  refine own_st (S' := T_30.setTop (mkF m 33 #[.val (.ref g), .val (.int (2 : Int32)), .val (.ref l1), .val (.ref x), .val (.ref y), .val (.ref u), .val (.ref w), .val (.ref a), .val (.int (0 : Int32)), .unset, .unset] [(.ref g)])) (fun t_ k_ => XS.aloadN X_30.here hx rfl (hb hby d9_32) rfl rfl k_) ?_
  refine own_st (S' := T_30.setTop (mkF m 35 #[.val (.ref g), .val (.int (2 : Int32)), .val (.ref l1), .val (.ref x), .val (.ref y), .val (.ref u), .val (.ref w), .val (.ref a), .val (.int (0 : Int32)), .unset, .unset] [(.ref u), (.ref g)])) (fun t_ k_ => XS.aload X_30.here hx rfl (hb hby d9_33) rfl rfl k_) ?_
  refine own_st (S' := T_30.setTop (mkF m 36 #[.val (.ref g), .val (.int (2 : Int32)), .val (.ref l1), .val (.ref x), .val (.ref y), .val (.ref u), .val (.ref w), .val (.ref a), .val (.int (0 : Int32)), .unset, .unset] [(.int (2 : Int32)), (.ref u), (.ref g)])) (fun t_ k_ => XS.iloadN X_30.here hx rfl (hb hby d9_35) rfl k_) ?_
  have f_31 : Arv Z h_30 u ku .int (2 : Int32) [(.int (1 : Int32)), (.int (1 : Int32))] (.int (0 : Int32)) := ((((((P13.keep K_2c nin0).other W_5 (Ne.symm ne_g_u)).keep K_14c nin0).other W_17 (Ne.symm ne_g_u)).keep K_27c nin0).other W_30 (Ne.symm ne_g_u))
  have f_32 : Exa Z h_30 u "[I" := (Exa.wr W_30 (f_22.keep K_27c))
  have f_33 : Exa Z h_30 a "java/util/ArrayList" := (Exa.wr W_30 (f_20.keep K_27c))
  have f_34 : Exa Z h_30 l1 "[I" := (Exa.wr W_30 (f_21.keep K_27c))
  have f_35 : Exa Z h_30 w "[I" := (Exa.wr W_30 (f_23.keep K_27c))
  have f_36 : Exa Z h_30 x "[I" := (Exa.wr W_30 (f_24.keep K_27c))
  have f_37 : Exa Z h_30 x_14_b "[I" := (Exa.wr W_30 (f_25.keep K_27c))
  have f_38 : Exa Z h_30 x_27_b "[I" := (Exa.wr W_30 c_27_1)
  have f_39 : Exa Z h_30 x_2_b "[I" := (Exa.wr W_30 (f_26.keep K_27c))
  have f_40 : Exa Z h_30 y "[I" := (Exa.wr W_30 (f_19.keep K_27c))
  obtain ⟨_, _, ⟨T_41, L_41, k_41, n_41⟩, -, X_41, ⟨Lc_41, hQ_41, l_41, y_41, z_41⟩, st_41⟩ := Jvm.LawKit.callS X_30 hx (y := (⟨"java/util/Arrays", "copyOf", "([II)[I"⟩ : MethodName)) hown (mvT hZ (hw _ (List.mem_of_getElem? (i := 34) rfl))) (mvT hZ (hw _ (List.mem_of_getElem? (i := 35) rfl))) (mvT hZ (hw _ (List.mem_of_getElem? (i := 36) rfl))) (mvT hZ (hw _ (List.mem_of_getElem? (i := 37) rfl))) (by decide) (backOf (W := 1) (rm5 l Z a0 hw [] u ku (1 : Int32) (1 : Int32) h_30 n0 Z_30 f_31 f_32) hZ (hw _ (List.mem_of_getElem? (i := 37) rfl)) (hw _ (List.mem_of_getElem? (i := 36) rfl)) (by decide) (by decide)) (g := (mkF m 36 #[.val (.ref g), .val (.int (2 : Int32)), .val (.ref l1), .val (.ref x), .val (.ref y), .val (.ref u), .val (.ref w), .val (.ref a), .val (.int (0 : Int32)), .unset, .unset] [(.int (2 : Int32)), (.ref u), (.ref g)])) rfl (by rw [hml]; rfl) (argsL := [(.ref u), (.int (2 : Int32))]) (rest := [(.ref g)]) (lenOf pd_4 rfl) rfl (by show 2 * 0 + _ ≤ _; exact Nat.le_of_eq rfl) (hb hby d9_36) (fun _ _ => ⟨rfl, e_30, (by decide : 3 + 1 ≤ _), (by decide : 6 + 2 ≤ _)⟩)
  dsimp only [Pt.U, Pt.locs, Pt.cells, Pt.slots] at X_41 l_41 y_41 z_41 st_41 hQ_41
  subst l_41 y_41 z_41
  obtain ⟨x_41_b, rfl, M_41, K_41c, z_41_0, c_41_0, c_41_1⟩ := hQ_41
  have N_41 := Fr.app N_30 M_41
  have K_41 : Keep h0 T_41.heap [g] := K_30.trans K_41c all0
  have ne_a_x_41_b : a ≠ x_41_b := Nat.ne_of_lt (Nat.lt_of_lt_of_le f_33.lt z_41_0)
  have ne_g_x_41_b : g ≠ x_41_b := Nat.ne_of_lt (Nat.lt_of_lt_of_le f_30.lt z_41_0)
  have ne_l1_x_41_b : l1 ≠ x_41_b := Nat.ne_of_lt (Nat.lt_of_lt_of_le f_34.lt z_41_0)
  have ne_u_x_41_b : u ≠ x_41_b := Nat.ne_of_lt (Nat.lt_of_lt_of_le f_32.lt z_41_0)
  have ne_w_x_41_b : w ≠ x_41_b := Nat.ne_of_lt (Nat.lt_of_lt_of_le f_35.lt z_41_0)
  have ne_x_x_41_b : x ≠ x_41_b := Nat.ne_of_lt (Nat.lt_of_lt_of_le f_36.lt z_41_0)
  have ne_x_14_b_x_41_b : x_14_b ≠ x_41_b := Nat.ne_of_lt (Nat.lt_of_lt_of_le f_37.lt z_41_0)
  have ne_x_27_b_x_41_b : x_27_b ≠ x_41_b := Nat.ne_of_lt (Nat.lt_of_lt_of_le f_38.lt z_41_0)
  have ne_x_2_b_x_41_b : x_2_b ≠ x_41_b := Nat.ne_of_lt (Nat.lt_of_lt_of_le f_39.lt z_41_0)
  have ne_y_x_41_b : y ≠ x_41_b := Nat.ne_of_lt (Nat.lt_of_lt_of_le f_40.lt z_41_0)
  have g_x_41_b : n0 ≤ x_41_b := Nat.le_trans Z_30 z_41_0
  have sz_x_41_b : h0.size ≤ x_41_b := Nat.le_trans (K_30).1 z_41_0
  have Z_41 : n0 ≤ T_41.heap.size := Nat.le_trans Z_30 K_41c.1
  refine own_st (S' := T_41.setTop (mkF m 39 #[.val (.ref g), .val (.int (2 : Int32)), .val (.ref l1), .val (.ref x), .val (.ref y), .val (.ref u), .val (.ref w), .val (.ref a), .val (.int (0 : Int32)), .unset, .unset] [(.ref x_41_b), (.ref g)])) st_41 ?_
  have f_42 : Fld Z T_41.heap g "com/example/frisk/frisk/pattern/StateGraph" "leasts" "[I" .null := ((Fld.other W_30 ((Fld.other W_17 ((Fld.other W_5 (P4.keep K_2c nin0) (Or.inr (slot_ne (Or.inr (hw _ (List.mem_of_getElem? (i := 54) rfl))) (Or.inr (hw _ (List.mem_of_getElem? (i := 48) rfl))) (by decide) (t := (.array .int)) (t' := (.array .int)) (by decide) (by decide)))).keep K_14c nin0) (Or.inr (slot_ne (Or.inr (hw _ (List.mem_of_getElem? (i := 54) rfl))) (Or.inr (hw _ (List.mem_of_getElem? (i := 50) rfl))) (by decide) (t := (.array .int)) (t' := (.array .int)) (by decide) (by decide)))).keep K_27c nin0) (Or.inr (slot_ne (Or.inr (hw _ (List.mem_of_getElem? (i := 54) rfl))) (Or.inr (hw _ (List.mem_of_getElem? (i := 52) rfl))) (by decide) (t := (.array .int)) (t' := (.array .int)) (by decide) (by decide)))).keep K_41c nin0)
  have f_43 : Exa Z T_41.heap g "com/example/frisk/frisk/pattern/StateGraph" := ((Exa.wr W_30 f_29).keep K_41c)
  obtain ⟨T_44, h_44, X_44, e_44, W_44, st_44⟩ := putF X_41 hx hZ hown (host := "") (Or.inl (hw _ (List.mem_of_getElem? (i := 53) rfl))) Via.refl rfl f_42 f_43 (Or.inr ⟨(hw _ (List.mem_of_getElem? (i := 54) rfl)), rfl, hnm⟩) (hw _ (List.mem_of_getElem? (i := 28) rfl)) (ty := (.array .int)) (by decide) rfl rfl (g := (mkF m 39 #[.val (.ref g), .val (.int (2 : Int32)), .val (.ref l1), .val (.ref x), .val (.ref y), .val (.ref u), .val (.ref w), .val (.ref a), .val (.int (0 : Int32)), .unset, .unset] [(.ref x_41_b), (.ref g)])) rfl rfl (hb hby d9_39)
  have Z_44 : n0 ≤ h_44.size := Nat.le_trans Z_41 (Keep.of_wr W_44).1
  have N_44 := Fr.snoc X_44 N_41 g_g
  have K_44 : Keep h0 h_44 [g] := K_41.wr W_44 (Or.inl (List.mem_of_getElem? (i := 0) rfl))
  have f_44 : Fld Z h_44 g "com/example/frisk/frisk/pattern/StateGraph" "leasts" "[I" (.ref x_41_b) := Fld.same W_44 f_42
  refine own_st (S' := T_44.setTop (mkF m 42 #[.val (.ref g), .val (.int (2 : Int32)), .val (.ref l1), .val (.ref x), .val (.ref y), .val (.ref u), .val (.ref w), .val (.ref a), .val (.int (0 : Int32)), .unset, .unset] [])) st_44 ?_
  refine own_st (S' := T_44.setTop (mkF m 43 #[.val (.ref g), .val (.int (2 : Int32)), .val (.ref l1), .val (.ref x), .val (.ref y), .val (.ref u), .val (.ref w), .val (.ref a), .val (.int (0 : Int32)), .unset, .unset] [(.ref g)])) (fun t_ k_ => XS.aloadN X_44.here hx rfl (hb hby d9_42) rfl rfl k_) ?_
  refine own_st (S' := T_44.setTop (mkF m 45 #[.val (.ref g), .val (.int (2 : Int32)), .val (.ref l1), .val (.ref x), .val (.ref y), .val (.ref u), .val (.ref w), .val (.ref a), .val (.int (0 : Int32)), .unset, .unset] [(.ref w), (.ref g)])) (fun t_ k_ => XS.aload X_44.here hx rfl (hb hby d9_43) rfl rfl k_) ?_
  refine own_st (S' := T_44.setTop (mkF m 46 #[.val (.ref g), .val (.int (2 : Int32)), .val (.ref l1), .val (.ref x), .val (.ref y), .val (.ref u), .val (.ref w), .val (.ref a), .val (.int (0 : Int32)), .unset, .unset] [(.int (2 : Int32)), (.ref w), (.ref g)])) (fun t_ k_ => XS.iloadN X_44.here hx rfl (hb hby d9_45) rfl k_) ?_
  have f_45 : Arv Z h_44 w kw .int (2 : Int32) [(.int (1 : Int32)), (.int (1 : Int32))] (.int (0 : Int32)) := ((((((((P14.keep K_2c nin0).other W_5 (Ne.symm ne_g_w)).keep K_14c nin0).other W_17 (Ne.symm ne_g_w)).keep K_27c nin0).other W_30 (Ne.symm ne_g_w)).keep K_41c nin0).other W_44 (Ne.symm ne_g_w))
  have f_46 : Exa Z h_44 w "[I" := (Exa.wr W_44 (f_35.keep K_41c))
  have f_47 : Exa Z h_44 a "java/util/ArrayList" := (Exa.wr W_44 (f_33.keep K_41c))
  have f_48 : Exa Z h_44 l1 "[I" := (Exa.wr W_44 (f_34.keep K_41c))
  have f_49 : Exa Z h_44 u "[I" := (Exa.wr W_44 (f_32.keep K_41c))
  have f_50 : Exa Z h_44 x "[I" := (Exa.wr W_44 (f_36.keep K_41c))
  have f_51 : Exa Z h_44 x_14_b "[I" := (Exa.wr W_44 (f_37.keep K_41c))
  have f_52 : Exa Z h_44 x_27_b "[I" := (Exa.wr W_44 (f_38.keep K_41c))
  have f_53 : Exa Z h_44 x_2_b "[I" := (Exa.wr W_44 (f_39.keep K_41c))
  have f_54 : Exa Z h_44 x_41_b "[I" := (Exa.wr W_44 c_41_1)
  have f_55 : Exa Z h_44 y "[I" := (Exa.wr W_44 (f_40.keep K_41c))
  obtain ⟨_, _, ⟨T_56, L_56, k_56, n_56⟩, -, X_56, ⟨Lc_56, hQ_56, l_56, y_56, z_56⟩, st_56⟩ := Jvm.LawKit.callS X_44 hx (y := (⟨"java/util/Arrays", "copyOf", "([II)[I"⟩ : MethodName)) hown (mvT hZ (hw _ (List.mem_of_getElem? (i := 34) rfl))) (mvT hZ (hw _ (List.mem_of_getElem? (i := 35) rfl))) (mvT hZ (hw _ (List.mem_of_getElem? (i := 36) rfl))) (mvT hZ (hw _ (List.mem_of_getElem? (i := 37) rfl))) (by decide) (backOf (W := 1) (rm5 l Z a0 hw [] w kw (1 : Int32) (1 : Int32) h_44 n0 Z_44 f_45 f_46) hZ (hw _ (List.mem_of_getElem? (i := 37) rfl)) (hw _ (List.mem_of_getElem? (i := 36) rfl)) (by decide) (by decide)) (g := (mkF m 46 #[.val (.ref g), .val (.int (2 : Int32)), .val (.ref l1), .val (.ref x), .val (.ref y), .val (.ref u), .val (.ref w), .val (.ref a), .val (.int (0 : Int32)), .unset, .unset] [(.int (2 : Int32)), (.ref w), (.ref g)])) rfl (by rw [hml]; rfl) (argsL := [(.ref w), (.int (2 : Int32))]) (rest := [(.ref g)]) (lenOf pd_4 rfl) rfl (by show 2 * 0 + _ ≤ _; exact Nat.le_of_eq rfl) (hb hby d9_46) (fun _ _ => ⟨rfl, e_44, (by decide : 4 + 1 ≤ _), (by decide : 8 + 2 ≤ _)⟩)
  dsimp only [Pt.U, Pt.locs, Pt.cells, Pt.slots] at X_56 l_56 y_56 z_56 st_56 hQ_56
  subst l_56 y_56 z_56
  obtain ⟨x_56_b, rfl, M_56, K_56c, z_56_0, c_56_0, c_56_1⟩ := hQ_56
  have N_56 := Fr.app N_44 M_56
  have K_56 : Keep h0 T_56.heap [g] := K_44.trans K_56c all0
  have ne_a_x_56_b : a ≠ x_56_b := Nat.ne_of_lt (Nat.lt_of_lt_of_le f_47.lt z_56_0)
  have ne_g_x_56_b : g ≠ x_56_b := Nat.ne_of_lt (Nat.lt_of_lt_of_le f_44.lt z_56_0)
  have ne_l1_x_56_b : l1 ≠ x_56_b := Nat.ne_of_lt (Nat.lt_of_lt_of_le f_48.lt z_56_0)
  have ne_u_x_56_b : u ≠ x_56_b := Nat.ne_of_lt (Nat.lt_of_lt_of_le f_49.lt z_56_0)
  have ne_w_x_56_b : w ≠ x_56_b := Nat.ne_of_lt (Nat.lt_of_lt_of_le f_46.lt z_56_0)
  have ne_x_x_56_b : x ≠ x_56_b := Nat.ne_of_lt (Nat.lt_of_lt_of_le f_50.lt z_56_0)
  have ne_x_14_b_x_56_b : x_14_b ≠ x_56_b := Nat.ne_of_lt (Nat.lt_of_lt_of_le f_51.lt z_56_0)
  have ne_x_27_b_x_56_b : x_27_b ≠ x_56_b := Nat.ne_of_lt (Nat.lt_of_lt_of_le f_52.lt z_56_0)
  have ne_x_2_b_x_56_b : x_2_b ≠ x_56_b := Nat.ne_of_lt (Nat.lt_of_lt_of_le f_53.lt z_56_0)
  have ne_x_41_b_x_56_b : x_41_b ≠ x_56_b := Nat.ne_of_lt (Nat.lt_of_lt_of_le f_54.lt z_56_0)
  have ne_y_x_56_b : y ≠ x_56_b := Nat.ne_of_lt (Nat.lt_of_lt_of_le f_55.lt z_56_0)
  have g_x_56_b : n0 ≤ x_56_b := Nat.le_trans Z_44 z_56_0
  have sz_x_56_b : h0.size ≤ x_56_b := Nat.le_trans (K_44).1 z_56_0
  have Z_56 : n0 ≤ T_56.heap.size := Nat.le_trans Z_44 K_56c.1
  refine own_st (S' := T_56.setTop (mkF m 49 #[.val (.ref g), .val (.int (2 : Int32)), .val (.ref l1), .val (.ref x), .val (.ref y), .val (.ref u), .val (.ref w), .val (.ref a), .val (.int (0 : Int32)), .unset, .unset] [(.ref x_56_b), (.ref g)])) st_56 ?_
  have f_57 : Fld Z T_56.heap g "com/example/frisk/frisk/pattern/StateGraph" "mosts" "[I" .null := ((Fld.other W_44 ((Fld.other W_30 ((Fld.other W_17 ((Fld.other W_5 (P5.keep K_2c nin0) (Or.inr (slot_ne (Or.inr (hw _ (List.mem_of_getElem? (i := 56) rfl))) (Or.inr (hw _ (List.mem_of_getElem? (i := 48) rfl))) (by decide) (t := (.array .int)) (t' := (.array .int)) (by decide) (by decide)))).keep K_14c nin0) (Or.inr (slot_ne (Or.inr (hw _ (List.mem_of_getElem? (i := 56) rfl))) (Or.inr (hw _ (List.mem_of_getElem? (i := 50) rfl))) (by decide) (t := (.array .int)) (t' := (.array .int)) (by decide) (by decide)))).keep K_27c nin0) (Or.inr (slot_ne (Or.inr (hw _ (List.mem_of_getElem? (i := 56) rfl))) (Or.inr (hw _ (List.mem_of_getElem? (i := 52) rfl))) (by decide) (t := (.array .int)) (t' := (.array .int)) (by decide) (by decide)))).keep K_41c nin0) (Or.inr (slot_ne (Or.inr (hw _ (List.mem_of_getElem? (i := 56) rfl))) (Or.inr (hw _ (List.mem_of_getElem? (i := 54) rfl))) (by decide) (t := (.array .int)) (t' := (.array .int)) (by decide) (by decide)))).keep K_56c nin0)
  have f_58 : Exa Z T_56.heap g "com/example/frisk/frisk/pattern/StateGraph" := ((Exa.wr W_44 f_43).keep K_56c)
  obtain ⟨T_59, h_59, X_59, e_59, W_59, st_59⟩ := putF X_56 hx hZ hown (host := "") (Or.inl (hw _ (List.mem_of_getElem? (i := 55) rfl))) Via.refl rfl f_57 f_58 (Or.inr ⟨(hw _ (List.mem_of_getElem? (i := 56) rfl)), rfl, hnm⟩) (hw _ (List.mem_of_getElem? (i := 28) rfl)) (ty := (.array .int)) (by decide) rfl rfl (g := (mkF m 49 #[.val (.ref g), .val (.int (2 : Int32)), .val (.ref l1), .val (.ref x), .val (.ref y), .val (.ref u), .val (.ref w), .val (.ref a), .val (.int (0 : Int32)), .unset, .unset] [(.ref x_56_b), (.ref g)])) rfl rfl (hb hby d9_49)
  have Z_59 : n0 ≤ h_59.size := Nat.le_trans Z_56 (Keep.of_wr W_59).1
  have N_59 := Fr.snoc X_59 N_56 g_g
  have K_59 : Keep h0 h_59 [g] := K_56.wr W_59 (Or.inl (List.mem_of_getElem? (i := 0) rfl))
  have f_59 : Fld Z h_59 g "com/example/frisk/frisk/pattern/StateGraph" "mosts" "[I" (.ref x_56_b) := Fld.same W_59 f_57
  refine own_st (S' := T_59.setTop (mkF m 52 #[.val (.ref g), .val (.int (2 : Int32)), .val (.ref l1), .val (.ref x), .val (.ref y), .val (.ref u), .val (.ref w), .val (.ref a), .val (.int (0 : Int32)), .unset, .unset] [])) st_59 ?_
  refine own_st (S' := T_59.setTop (mkF m 53 #[.val (.ref g), .val (.int (2 : Int32)), .val (.ref l1), .val (.ref x), .val (.ref y), .val (.ref u), .val (.ref w), .val (.ref a), .val (.int (0 : Int32)), .unset, .unset] [(.ref g)])) (fun t_ k_ => XS.aloadN X_59.here hx rfl (hb hby d9_52) rfl rfl k_) ?_
  refine own_st (S' := T_59.setTop (mkF m 54 #[.val (.ref g), .val (.int (2 : Int32)), .val (.ref l1), .val (.ref x), .val (.ref y), .val (.ref u), .val (.ref w), .val (.ref a), .val (.int (0 : Int32)), .unset, .unset] [(.int (2 : Int32)), (.ref g)])) (fun t_ k_ => XS.iloadN X_59.here hx rfl (hb hby d9_53) rfl k_) ?_
  have f_60 : Exa Z h_59 a "java/util/ArrayList" := (Exa.wr W_59 (f_47.keep K_56c))
  have f_61 : Exa Z h_59 l1 "[I" := (Exa.wr W_59 (f_48.keep K_56c))
  have f_62 : Exa Z h_59 u "[I" := (Exa.wr W_59 (f_49.keep K_56c))
  have f_63 : Exa Z h_59 w "[I" := (Exa.wr W_59 (f_46.keep K_56c))
  have f_64 : Exa Z h_59 x "[I" := (Exa.wr W_59 (f_50.keep K_56c))
  have f_65 : Exa Z h_59 x_14_b "[I" := (Exa.wr W_59 (f_51.keep K_56c))
  have f_66 : Exa Z h_59 x_27_b "[I" := (Exa.wr W_59 (f_52.keep K_56c))
  have f_67 : Exa Z h_59 x_2_b "[I" := (Exa.wr W_59 (f_53.keep K_56c))
  have f_68 : Exa Z h_59 x_41_b "[I" := (Exa.wr W_59 (f_54.keep K_56c))
  have f_69 : Exa Z h_59 x_56_b "[I" := (Exa.wr W_59 c_56_1)
  have f_70 : Exa Z h_59 y "[I" := (Exa.wr W_59 (f_55.keep K_56c))
  obtain ⟨T_71, h_71, k_71, X_71, e_71, E_71, A_71, B_71, st_71⟩ := newPE X_59 hx hZ (hw _ (List.mem_of_getElem? (i := 0) rfl)) e_59 (g := (mkF m 54 #[.val (.ref g), .val (.int (2 : Int32)), .val (.ref l1), .val (.ref x), .val (.ref y), .val (.ref u), .val (.ref w), .val (.ref a), .val (.int (0 : Int32)), .unset, .unset] [(.int (2 : Int32)), (.ref g)])) rfl (hb hby d9_54) rfl (by decide) (cap := 2) (by decide) (by decide) (by decide) (by decide) (ad := "[I") (by decide)
  obtain ⟨b_71, gg_71⟩ : ∃ z, z = h_59.size := ⟨_, rfl⟩
  rw [← gg_71] at A_71 B_71 st_71
  have ne_a_b_71 : a ≠ b_71 := Nat.ne_of_lt (Nat.lt_of_lt_of_le f_60.lt (Nat.le_of_eq gg_71.symm))
  have ne_g_b_71 : g ≠ b_71 := Nat.ne_of_lt (Nat.lt_of_lt_of_le f_59.lt (Nat.le_of_eq gg_71.symm))
  have ne_l1_b_71 : l1 ≠ b_71 := Nat.ne_of_lt (Nat.lt_of_lt_of_le f_61.lt (Nat.le_of_eq gg_71.symm))
  have ne_u_b_71 : u ≠ b_71 := Nat.ne_of_lt (Nat.lt_of_lt_of_le f_62.lt (Nat.le_of_eq gg_71.symm))
  have ne_w_b_71 : w ≠ b_71 := Nat.ne_of_lt (Nat.lt_of_lt_of_le f_63.lt (Nat.le_of_eq gg_71.symm))
  have ne_x_b_71 : x ≠ b_71 := Nat.ne_of_lt (Nat.lt_of_lt_of_le f_64.lt (Nat.le_of_eq gg_71.symm))
  have ne_x_14_b_b_71 : x_14_b ≠ b_71 := Nat.ne_of_lt (Nat.lt_of_lt_of_le f_65.lt (Nat.le_of_eq gg_71.symm))
  have ne_x_27_b_b_71 : x_27_b ≠ b_71 := Nat.ne_of_lt (Nat.lt_of_lt_of_le f_66.lt (Nat.le_of_eq gg_71.symm))
  have ne_x_2_b_b_71 : x_2_b ≠ b_71 := Nat.ne_of_lt (Nat.lt_of_lt_of_le f_67.lt (Nat.le_of_eq gg_71.symm))
  have ne_x_41_b_b_71 : x_41_b ≠ b_71 := Nat.ne_of_lt (Nat.lt_of_lt_of_le f_68.lt (Nat.le_of_eq gg_71.symm))
  have ne_x_56_b_b_71 : x_56_b ≠ b_71 := Nat.ne_of_lt (Nat.lt_of_lt_of_le f_69.lt (Nat.le_of_eq gg_71.symm))
  have ne_y_b_71 : y ≠ b_71 := Nat.ne_of_lt (Nat.lt_of_lt_of_le f_70.lt (Nat.le_of_eq gg_71.symm))
  have g_b_71 : n0 ≤ b_71 := Nat.le_trans Z_59 (Nat.le_of_eq gg_71.symm)
  have sz_b_71 : h0.size ≤ b_71 := Nat.le_trans K_59.1 (Nat.le_of_eq gg_71.symm)
  have Z_71 : n0 ≤ h_71.size := Nat.le_trans Z_59 E_71.1
  have K_71 : Keep h0 h_71 [g] := K_59.ext E_71
  have V_71 : Arv Z h_71 b_71 k_71 .int (2 : Int32) [(.int (0 : Int32)), (.int (0 : Int32))] (.int (0 : Int32)) := (Arv.new A_71 (by decide)).pad (pad_rep [] (.int (0 : Int32)) 2)
  refine own_st (S' := T_71.setTop (mkF m 56 #[.val (.ref g), .val (.int (2 : Int32)), .val (.ref l1), .val (.ref x), .val (.ref y), .val (.ref u), .val (.ref w), .val (.ref a), .val (.int (0 : Int32)), .unset, .unset] [(.ref b_71), (.ref g)])) st_71 ?_
  have f_72 : Fld Z h_71 g "com/example/frisk/frisk/pattern/StateGraph" "counterNumbers" "[I" .null := (Fld.ext E_71 (Fld.other W_59 ((Fld.other W_44 ((Fld.other W_30 ((Fld.other W_17 ((Fld.other W_5 (P6.keep K_2c nin0) (Or.inr (slot_ne (Or.inr (hw _ (List.mem_of_getElem? (i := 58) rfl))) (Or.inr (hw _ (List.mem_of_getElem? (i := 48) rfl))) (by decide) (t := (.array .int)) (t' := (.array .int)) (by decide) (by decide)))).keep K_14c nin0) (Or.inr (slot_ne (Or.inr (hw _ (List.mem_of_getElem? (i := 58) rfl))) (Or.inr (hw _ (List.mem_of_getElem? (i := 50) rfl))) (by decide) (t := (.array .int)) (t' := (.array .int)) (by decide) (by decide)))).keep K_27c nin0) (Or.inr (slot_ne (Or.inr (hw _ (List.mem_of_getElem? (i := 58) rfl))) (Or.inr (hw _ (List.mem_of_getElem? (i := 52) rfl))) (by decide) (t := (.array .int)) (t' := (.array .int)) (by decide) (by decide)))).keep K_41c nin0) (Or.inr (slot_ne (Or.inr (hw _ (List.mem_of_getElem? (i := 58) rfl))) (Or.inr (hw _ (List.mem_of_getElem? (i := 54) rfl))) (by decide) (t := (.array .int)) (t' := (.array .int)) (by decide) (by decide)))).keep K_56c nin0) (Or.inr (slot_ne (Or.inr (hw _ (List.mem_of_getElem? (i := 58) rfl))) (Or.inr (hw _ (List.mem_of_getElem? (i := 56) rfl))) (by decide) (t := (.array .int)) (t' := (.array .int)) (by decide) (by decide)))))
  have f_73 : Exa Z h_71 g "com/example/frisk/frisk/pattern/StateGraph" := (Exa.ext E_71 (Exa.wr W_59 f_58))
  obtain ⟨T_74, h_74, X_74, e_74, W_74, st_74⟩ := putF X_71 hx hZ hown (host := "") (Or.inl (hw _ (List.mem_of_getElem? (i := 57) rfl))) Via.refl e_71 f_72 f_73 (Or.inr ⟨(hw _ (List.mem_of_getElem? (i := 58) rfl)), rfl, hnm⟩) (hw _ (List.mem_of_getElem? (i := 28) rfl)) (ty := (.array .int)) (by decide) rfl rfl (g := (mkF m 56 #[.val (.ref g), .val (.int (2 : Int32)), .val (.ref l1), .val (.ref x), .val (.ref y), .val (.ref u), .val (.ref w), .val (.ref a), .val (.int (0 : Int32)), .unset, .unset] [(.ref b_71), (.ref g)])) rfl rfl (hb hby d9_56)
  have Z_74 : n0 ≤ h_74.size := Nat.le_trans Z_71 (Keep.of_wr W_74).1
  have N_74 := Fr.snoc X_74 N_59 g_g
  have K_74 : Keep h0 h_74 [g] := K_71.wr W_74 (Or.inl (List.mem_of_getElem? (i := 0) rfl))
  have f_74 : Fld Z h_74 g "com/example/frisk/frisk/pattern/StateGraph" "counterNumbers" "[I" (.ref b_71) := Fld.same W_74 f_72
  refine own_st (S' := T_74.setTop (mkF m 59 #[.val (.ref g), .val (.int (2 : Int32)), .val (.ref l1), .val (.ref x), .val (.ref y), .val (.ref u), .val (.ref w), .val (.ref a), .val (.int (0 : Int32)), .unset, .unset] [])) st_74 ?_
  refine own_st (S' := T_74.setTop (mkF m 60 #[.val (.ref g), .val (.int (2 : Int32)), .val (.ref l1), .val (.ref x), .val (.ref y), .val (.ref u), .val (.ref w), .val (.ref a), .val (.int (0 : Int32)), .unset, .unset] [(.int (0 : Int32))])) (fun t_ k_ => XS.iconst X_74.here hx rfl (hb hby d9_59) k_) ?_
  refine own_st (S' := T_74.setTop (mkF m 62 #[.val (.ref g), .val (.int (2 : Int32)), .val (.ref l1), .val (.ref x), .val (.ref y), .val (.ref u), .val (.ref w), .val (.ref a), .val (.int (0 : Int32)), .val (.int (0 : Int32)), .unset] [])) (fun t_ k_ => XS.istore X_74.here hx rfl (hb hby d9_60) rfl (l' := #[.val (.ref g), .val (.int (2 : Int32)), .val (.ref l1), .val (.ref x), .val (.ref y), .val (.ref u), .val (.ref w), .val (.ref a), .val (.int (0 : Int32)), .val (.int (0 : Int32)), .unset]) rfl k_) ?_
  refine own_st (S' := T_74.setTop (mkF m 63 #[.val (.ref g), .val (.int (2 : Int32)), .val (.ref l1), .val (.ref x), .val (.ref y), .val (.ref u), .val (.ref w), .val (.ref a), .val (.int (0 : Int32)), .val (.int (0 : Int32)), .unset] [(.int (0 : Int32))])) (fun t_ k_ => XS.iconst X_74.here hx rfl (hb hby d9_62) k_) ?_
  refine own_st (S' := T_74.setTop (mkF m 65 #[.val (.ref g), .val (.int (2 : Int32)), .val (.ref l1), .val (.ref x), .val (.ref y), .val (.ref u), .val (.ref w), .val (.ref a), .val (.int (0 : Int32)), .val (.int (0 : Int32)), .val (.int (0 : Int32))] [])) (fun t_ k_ => XS.istore X_74.here hx rfl (hb hby d9_63) rfl (l' := #[.val (.ref g), .val (.int (2 : Int32)), .val (.ref l1), .val (.ref x), .val (.ref y), .val (.ref u), .val (.ref w), .val (.ref a), .val (.int (0 : Int32)), .val (.int (0 : Int32)), .val (.int (0 : Int32))]) rfl k_) ?_
  refine own_st (S' := T_74.setTop (mkF m 67 #[.val (.ref g), .val (.int (2 : Int32)), .val (.ref l1), .val (.ref x), .val (.ref y), .val (.ref u), .val (.ref w), .val (.ref a), .val (.int (0 : Int32)), .val (.int (0 : Int32)), .val (.int (0 : Int32))] [(.int (0 : Int32))])) (fun t_ k_ => XS.iload X_74.here hx rfl (hb hby d9_65) rfl k_) ?_
  refine own_st (S' := T_74.setTop (mkF m 68 #[.val (.ref g), .val (.int (2 : Int32)), .val (.ref l1), .val (.ref x), .val (.ref y), .val (.ref u), .val (.ref w), .val (.ref a), .val (.int (0 : Int32)), .val (.int (0 : Int32)), .val (.int (0 : Int32))] [(.int (2 : Int32)), (.int (0 : Int32))])) (fun t_ k_ => XS.iloadN X_74.here hx rfl (hb hby d9_67) rfl k_) ?_
  refine own_st (S' := T_74.setTop (mkF m 71 #[.val (.ref g), .val (.int (2 : Int32)), .val (.ref l1), .val (.ref x), .val (.ref y), .val (.ref u), .val (.ref w), .val (.ref a), .val (.int (0 : Int32)), .val (.int (0 : Int32)), .val (.int (0 : Int32))] [])) (fun t_ k_ => XS.icmpNo X_74.here hx rfl (hb hby d9_68) rfl (tlt (by decide : (0 : Int32) < (2 : Int32))).2.1 k_) ?_
  refine own_st (S' := T_74.setTop (mkF m 72 #[.val (.ref g), .val (.int (2 : Int32)), .val (.ref l1), .val (.ref x), .val (.ref y), .val (.ref u), .val (.ref w), .val (.ref a), .val (.int (0 : Int32)), .val (.int (0 : Int32)), .val (.int (0 : Int32))] [(.ref g)])) (fun t_ k_ => XS.aloadN X_74.here hx rfl (hb hby d9_71) rfl rfl k_) ?_
  obtain ⟨T_75, X_75, e_75, st_75⟩ := getF X_74 hx hZ hown (host := "") (Or.inl (hw _ (List.mem_of_getElem? (i := 57) rfl))) Via.refl e_74 f_74 (g := (mkF m 72 #[.val (.ref g), .val (.int (2 : Int32)), .val (.ref l1), .val (.ref x), .val (.ref y), .val (.ref u), .val (.ref w), .val (.ref a), .val (.int (0 : Int32)), .val (.int (0 : Int32)), .val (.int (0 : Int32))] [(.ref g)])) rfl rfl (hb hby d9_72)
  refine own_st (S' := T_75.setTop (mkF m 75 #[.val (.ref g), .val (.int (2 : Int32)), .val (.ref l1), .val (.ref x), .val (.ref y), .val (.ref u), .val (.ref w), .val (.ref a), .val (.int (0 : Int32)), .val (.int (0 : Int32)), .val (.int (0 : Int32))] [(.ref b_71)])) st_75 ?_
  refine own_st (S' := T_75.setTop (mkF m 77 #[.val (.ref g), .val (.int (2 : Int32)), .val (.ref l1), .val (.ref x), .val (.ref y), .val (.ref u), .val (.ref w), .val (.ref a), .val (.int (0 : Int32)), .val (.int (0 : Int32)), .val (.int (0 : Int32))] [(.int (0 : Int32)), (.ref b_71)])) (fun t_ k_ => XS.iload X_75.here hx rfl (hb hby d9_75) rfl k_) ?_
  refine own_st (S' := T_75.setTop (mkF m 79 #[.val (.ref g), .val (.int (2 : Int32)), .val (.ref l1), .val (.ref x), .val (.ref y), .val (.ref u), .val (.ref w), .val (.ref a), .val (.int (0 : Int32)), .val (.int (0 : Int32)), .val (.int (0 : Int32))] [(.ref w), (.int (0 : Int32)), (.ref b_71)])) (fun t_ k_ => XS.aload X_75.here hx rfl (hb hby d9_77) rfl rfl k_) ?_
  refine own_st (S' := T_75.setTop (mkF m 81 #[.val (.ref g), .val (.int (2 : Int32)), .val (.ref l1), .val (.ref x), .val (.ref y), .val (.ref u), .val (.ref w), .val (.ref a), .val (.int (0 : Int32)), .val (.int (0 : Int32)), .val (.int (0 : Int32))] [(.int (0 : Int32)), (.ref w), (.int (0 : Int32)), (.ref b_71)])) (fun t_ k_ => XS.iload X_75.here hx rfl (hb hby d9_79) rfl k_) ?_
  have f_77 : Arv Z h_74 w kw .int (2 : Int32) [(.int (1 : Int32)), (.int (1 : Int32))] (.int (0 : Int32)) := ((((f_45.keep K_56c nin0).other W_59 (Ne.symm ne_g_w)).ext E_71).other W_74 (Ne.symm ne_g_w))
  obtain ⟨cl_76, Ar_76, q_76, S_76, M_76, H_76, G_76⟩ := id f_77
  have hin_76 : ¬ ((0 : Int32) < 0 ∨ cl_76.slots.size ≤ ((0 : Int32)).toNatClampNeg) := inb_of S_76 ⟨by decide, by decide⟩
  have hat_76 : cl_76.slots[((0 : Int32)).toNatClampNeg]? = some (.int (1 : Int32)) := H_76.at hin_76 rfl
  refine own_st (S' := T_75.setTop (mkF m 82 #[.val (.ref g), .val (.int (2 : Int32)), .val (.ref l1), .val (.ref x), .val (.ref y), .val (.ref u), .val (.ref w), .val (.ref a), .val (.int (0 : Int32)), .val (.int (0 : Int32)), .val (.int (0 : Int32))] [(.int (1 : Int32)), (.int (0 : Int32)), (.ref b_71)])) (fun t_ k_ => X_75.iaload hx (j := (0 : Int32)) (v := (.int (1 : Int32))) (by rw [e_75]; exact Ar_76.1) (State.isArrayOf_alike hZ.alike Ar_76.2.1) Ar_76.2.2 hin_76 hat_76 (g := (mkF m 81 #[.val (.ref g), .val (.int (2 : Int32)), .val (.ref l1), .val (.ref x), .val (.ref y), .val (.ref u), .val (.ref w), .val (.ref a), .val (.int (0 : Int32)), .val (.int (0 : Int32)), .val (.int (0 : Int32))] [(.int (0 : Int32)), (.ref w), (.int (0 : Int32)), (.ref b_71)])) rfl rfl (hb hby d9_81) _ k_) ?_
  refine own_st (S' := T_75.setTop (mkF m 83 #[.val (.ref g), .val (.int (2 : Int32)), .val (.ref l1), .val (.ref x), .val (.ref y), .val (.ref u), .val (.ref w), .val (.ref a), .val (.int (0 : Int32)), .val (.int (0 : Int32)), .val (.int (0 : Int32))] [(.int (1 : Int32)), (.int (1 : Int32)), (.int (0 : Int32)), (.ref b_71)])) (fun t_ k_ => XS.iconst X_75.here hx rfl (hb hby d9_82) k_) ?_
  refine own_st (S' := T_75.setTop (mkF m 94 #[.val (.ref g), .val (.int (2 : Int32)), .val (.ref l1), .val (.ref x), .val (.ref y), .val (.ref u), .val (.ref w), .val (.ref a), .val (.int (0 : Int32)), .val (.int (0 : Int32)), .val (.int (0 : Int32))] [(.int (0 : Int32)), (.ref b_71)])) (fun t_ k_ => XS.icmpYes X_75.here hx rfl (pc0 := 83) (pc' := 94) rfl (hb hby d9_83) rfl (flt (by decide : ¬ ((1 : Int32) < (1 : Int32)))).2.2.2 (by decide) (by decide) k_) ?_
  refine own_st (S' := T_75.setTop (mkF m 95 #[.val (.ref g), .val (.int (2 : Int32)), .val (.ref l1), .val (.ref x), .val (.ref y), .val (.ref u), .val (.ref w), .val (.ref a), .val (.int (0 : Int32)), .val (.int (0 : Int32)), .val (.int (0 : Int32))] [(.int (-1 : Int32)), (.int (0 : Int32)), (.ref b_71)])) (fun t_ k_ => XS.iconst X_75.here hx rfl (hb hby d9_94) k_) ?_
  have f_79 : Arv Z h_74 b_71 k_71 .int (2 : Int32) [(.int (0 : Int32)), (.int (0 : Int32))] (.int (0 : Int32)) := (V_71.other W_74 (Ne.symm ne_g_b_71))
  obtain ⟨cl_78, Ar_78, q_78, S_78, M_78, H_78, G_78⟩ := id f_79
  have hin_78 : ¬ ((0 : Int32) < 0 ∨ cl_78.slots.size ≤ ((0 : Int32)).toNatClampNeg) := inb_of S_78 ⟨by decide, by decide⟩
  obtain ⟨T_78, h_78, X_78, e_78, W_78, st_78⟩ := stI X_75 hx hZ e_75 Ar_78 (j := (0 : Int32)) hin_78 (g := (mkF m 95 #[.val (.ref g), .val (.int (2 : Int32)), .val (.ref l1), .val (.ref x), .val (.ref y), .val (.ref u), .val (.ref w), .val (.ref a), .val (.int (0 : Int32)), .val (.int (0 : Int32)), .val (.int (0 : Int32))] [(.int (-1 : Int32)), (.int (0 : Int32)), (.ref b_71)])) rfl rfl (hb hby d9_95)
  have Z_78 : n0 ≤ h_78.size := Nat.le_trans Z_74 (Keep.of_wr W_78).1
  have N_78 := Fr.snoc X_78 N_74 g_b_71
  have K_78 : Keep h0 h_78 [g] := K_74.wr W_78 (Or.inr sz_b_71)
  have V_78 : Arv Z h_78 b_71 k_71 .int (2 : Int32) [(.int (-1 : Int32)), (.int (0 : Int32))] (.int (0 : Int32)) := Arv.set Ar_78 q_78 S_78 M_78 H_78 G_78 rfl W_78 0 rfl (Nat.le_of_ble_eq_true rfl)
  refine own_st (S' := T_78.setTop (mkF m 96 #[.val (.ref g), .val (.int (2 : Int32)), .val (.ref l1), .val (.ref x), .val (.ref y), .val (.ref u), .val (.ref w), .val (.ref a), .val (.int (0 : Int32)), .val (.int (0 : Int32)), .val (.int (0 : Int32))] [])) st_78 ?_
  refine own_st (S' := T_78.setTop (mkF m 99 #[.val (.ref g), .val (.int (2 : Int32)), .val (.ref l1), .val (.ref x), .val (.ref y), .val (.ref u), .val (.ref w), .val (.ref a), .val (.int (0 : Int32)), .val (.int (0 : Int32)), .val (.int ((0 : Int32) + (1 : Int32)))] [])) (fun t_ k_ => XS.iinc X_78.here hx rfl (hb hby d9_96) rfl (l' := #[.val (.ref g), .val (.int (2 : Int32)), .val (.ref l1), .val (.ref x), .val (.ref y), .val (.ref u), .val (.ref w), .val (.ref a), .val (.int (0 : Int32)), .val (.int (0 : Int32)), .val (.int ((0 : Int32) + (1 : Int32)))]) rfl k_) ?_
  refine own_st (S' := T_78.setTop (mkF m 65 #[.val (.ref g), .val (.int (2 : Int32)), .val (.ref l1), .val (.ref x), .val (.ref y), .val (.ref u), .val (.ref w), .val (.ref a), .val (.int (0 : Int32)), .val (.int (0 : Int32)), .val (.int ((0 : Int32) + (1 : Int32)))] [])) (fun t_ k_ => XS.goto X_78.here hx rfl (pc0 := 99) (pc' := 65) rfl (hb hby d9_99) (by decide) (by decide) k_) ?_
  refine own_st (S' := T_78.setTop (mkF m 67 #[.val (.ref g), .val (.int (2 : Int32)), .val (.ref l1), .val (.ref x), .val (.ref y), .val (.ref u), .val (.ref w), .val (.ref a), .val (.int (0 : Int32)), .val (.int (0 : Int32)), .val (.int ((0 : Int32) + (1 : Int32)))] [(.int ((0 : Int32) + (1 : Int32)))])) (fun t_ k_ => XS.iload X_78.here hx rfl (hb hby d9_65) rfl k_) ?_
  refine own_st (S' := T_78.setTop (mkF m 68 #[.val (.ref g), .val (.int (2 : Int32)), .val (.ref l1), .val (.ref x), .val (.ref y), .val (.ref u), .val (.ref w), .val (.ref a), .val (.int (0 : Int32)), .val (.int (0 : Int32)), .val (.int ((0 : Int32) + (1 : Int32)))] [(.int (2 : Int32)), (.int ((0 : Int32) + (1 : Int32)))])) (fun t_ k_ => XS.iloadN X_78.here hx rfl (hb hby d9_67) rfl k_) ?_
  refine own_st (S' := T_78.setTop (mkF m 71 #[.val (.ref g), .val (.int (2 : Int32)), .val (.ref l1), .val (.ref x), .val (.ref y), .val (.ref u), .val (.ref w), .val (.ref a), .val (.int (0 : Int32)), .val (.int (0 : Int32)), .val (.int ((0 : Int32) + (1 : Int32)))] [])) (fun t_ k_ => XS.icmpNo X_78.here hx rfl (hb hby d9_68) rfl (tlt (by decide : ((0 : Int32) + (1 : Int32)) < (2 : Int32))).2.1 k_) ?_
  refine own_st (S' := T_78.setTop (mkF m 72 #[.val (.ref g), .val (.int (2 : Int32)), .val (.ref l1), .val (.ref x), .val (.ref y), .val (.ref u), .val (.ref w), .val (.ref a), .val (.int (0 : Int32)), .val (.int (0 : Int32)), .val (.int ((0 : Int32) + (1 : Int32)))] [(.ref g)])) (fun t_ k_ => XS.aloadN X_78.here hx rfl (hb hby d9_71) rfl rfl k_) ?_
  have f_80 : Fld Z h_78 g "com/example/frisk/frisk/pattern/StateGraph" "counterNumbers" "[I" (.ref b_71) := (Fld.other W_78 f_74 (Or.inl ne_g_b_71))
  obtain ⟨T_81, X_81, e_81, st_81⟩ := getF X_78 hx hZ hown (host := "") (Or.inl (hw _ (List.mem_of_getElem? (i := 57) rfl))) Via.refl e_78 f_80 (g := (mkF m 72 #[.val (.ref g), .val (.int (2 : Int32)), .val (.ref l1), .val (.ref x), .val (.ref y), .val (.ref u), .val (.ref w), .val (.ref a), .val (.int (0 : Int32)), .val (.int (0 : Int32)), .val (.int ((0 : Int32) + (1 : Int32)))] [(.ref g)])) rfl rfl (hb hby d9_72)
  refine own_st (S' := T_81.setTop (mkF m 75 #[.val (.ref g), .val (.int (2 : Int32)), .val (.ref l1), .val (.ref x), .val (.ref y), .val (.ref u), .val (.ref w), .val (.ref a), .val (.int (0 : Int32)), .val (.int (0 : Int32)), .val (.int ((0 : Int32) + (1 : Int32)))] [(.ref b_71)])) st_81 ?_
  refine own_st (S' := T_81.setTop (mkF m 77 #[.val (.ref g), .val (.int (2 : Int32)), .val (.ref l1), .val (.ref x), .val (.ref y), .val (.ref u), .val (.ref w), .val (.ref a), .val (.int (0 : Int32)), .val (.int (0 : Int32)), .val (.int ((0 : Int32) + (1 : Int32)))] [(.int ((0 : Int32) + (1 : Int32))), (.ref b_71)])) (fun t_ k_ => XS.iload X_81.here hx rfl (hb hby d9_75) rfl k_) ?_
  refine own_st (S' := T_81.setTop (mkF m 79 #[.val (.ref g), .val (.int (2 : Int32)), .val (.ref l1), .val (.ref x), .val (.ref y), .val (.ref u), .val (.ref w), .val (.ref a), .val (.int (0 : Int32)), .val (.int (0 : Int32)), .val (.int ((0 : Int32) + (1 : Int32)))] [(.ref w), (.int ((0 : Int32) + (1 : Int32))), (.ref b_71)])) (fun t_ k_ => XS.aload X_81.here hx rfl (hb hby d9_77) rfl rfl k_) ?_
  refine own_st (S' := T_81.setTop (mkF m 81 #[.val (.ref g), .val (.int (2 : Int32)), .val (.ref l1), .val (.ref x), .val (.ref y), .val (.ref u), .val (.ref w), .val (.ref a), .val (.int (0 : Int32)), .val (.int (0 : Int32)), .val (.int ((0 : Int32) + (1 : Int32)))] [(.int ((0 : Int32) + (1 : Int32))), (.ref w), (.int ((0 : Int32) + (1 : Int32))), (.ref b_71)])) (fun t_ k_ => XS.iload X_81.here hx rfl (hb hby d9_79) rfl k_) ?_
  have f_83 : Arv Z h_78 w kw .int (2 : Int32) [(.int (1 : Int32)), (.int (1 : Int32))] (.int (0 : Int32)) := (f_77.other W_78 ne_w_b_71)
  obtain ⟨cl_82, Ar_82, q_82, S_82, M_82, H_82, G_82⟩ := id f_83
  have hin_82 : ¬ (((0 : Int32) + (1 : Int32)) < 0 ∨ cl_82.slots.size ≤ (((0 : Int32) + (1 : Int32))).toNatClampNeg) := inb_of S_82 ⟨by decide, by decide⟩
  have hat_82 : cl_82.slots[(((0 : Int32) + (1 : Int32))).toNatClampNeg]? = some (.int (1 : Int32)) := H_82.at hin_82 rfl
  refine own_st (S' := T_81.setTop (mkF m 82 #[.val (.ref g), .val (.int (2 : Int32)), .val (.ref l1), .val (.ref x), .val (.ref y), .val (.ref u), .val (.ref w), .val (.ref a), .val (.int (0 : Int32)), .val (.int (0 : Int32)), .val (.int ((0 : Int32) + (1 : Int32)))] [(.int (1 : Int32)), (.int ((0 : Int32) + (1 : Int32))), (.ref b_71)])) (fun t_ k_ => X_81.iaload hx (j := ((0 : Int32) + (1 : Int32))) (v := (.int (1 : Int32))) (by rw [e_81]; exact Ar_82.1) (State.isArrayOf_alike hZ.alike Ar_82.2.1) Ar_82.2.2 hin_82 hat_82 (g := (mkF m 81 #[.val (.ref g), .val (.int (2 : Int32)), .val (.ref l1), .val (.ref x), .val (.ref y), .val (.ref u), .val (.ref w), .val (.ref a), .val (.int (0 : Int32)), .val (.int (0 : Int32)), .val (.int ((0 : Int32) + (1 : Int32)))] [(.int ((0 : Int32) + (1 : Int32))), (.ref w), (.int ((0 : Int32) + (1 : Int32))), (.ref b_71)])) rfl rfl (hb hby d9_81) _ k_) ?_
  refine own_st (S' := T_81.setTop (mkF m 83 #[.val (.ref g), .val (.int (2 : Int32)), .val (.ref l1), .val (.ref x), .val (.ref y), .val (.ref u), .val (.ref w), .val (.ref a), .val (.int (0 : Int32)), .val (.int (0 : Int32)), .val (.int ((0 : Int32) + (1 : Int32)))] [(.int (1 : Int32)), (.int (1 : Int32)), (.int ((0 : Int32) + (1 : Int32))), (.ref b_71)])) (fun t_ k_ => XS.iconst X_81.here hx rfl (hb hby d9_82) k_) ?_
  refine own_st (S' := T_81.setTop (mkF m 94 #[.val (.ref g), .val (.int (2 : Int32)), .val (.ref l1), .val (.ref x), .val (.ref y), .val (.ref u), .val (.ref w), .val (.ref a), .val (.int (0 : Int32)), .val (.int (0 : Int32)), .val (.int ((0 : Int32) + (1 : Int32)))] [(.int ((0 : Int32) + (1 : Int32))), (.ref b_71)])) (fun t_ k_ => XS.icmpYes X_81.here hx rfl (pc0 := 83) (pc' := 94) rfl (hb hby d9_83) rfl (flt (by decide : ¬ ((1 : Int32) < (1 : Int32)))).2.2.2 (by decide) (by decide) k_) ?_
  refine own_st (S' := T_81.setTop (mkF m 95 #[.val (.ref g), .val (.int (2 : Int32)), .val (.ref l1), .val (.ref x), .val (.ref y), .val (.ref u), .val (.ref w), .val (.ref a), .val (.int (0 : Int32)), .val (.int (0 : Int32)), .val (.int ((0 : Int32) + (1 : Int32)))] [(.int (-1 : Int32)), (.int ((0 : Int32) + (1 : Int32))), (.ref b_71)])) (fun t_ k_ => XS.iconst X_81.here hx rfl (hb hby d9_94) k_) ?_
  obtain ⟨cl_84, Ar_84, q_84, S_84, M_84, H_84, G_84⟩ := id V_78
  have hin_84 : ¬ (((0 : Int32) + (1 : Int32)) < 0 ∨ cl_84.slots.size ≤ (((0 : Int32) + (1 : Int32))).toNatClampNeg) := inb_of S_84 ⟨by decide, by decide⟩
  obtain ⟨T_84, h_84, X_84, e_84, W_84, st_84⟩ := stI X_81 hx hZ e_81 Ar_84 (j := ((0 : Int32) + (1 : Int32))) hin_84 (g := (mkF m 95 #[.val (.ref g), .val (.int (2 : Int32)), .val (.ref l1), .val (.ref x), .val (.ref y), .val (.ref u), .val (.ref w), .val (.ref a), .val (.int (0 : Int32)), .val (.int (0 : Int32)), .val (.int ((0 : Int32) + (1 : Int32)))] [(.int (-1 : Int32)), (.int ((0 : Int32) + (1 : Int32))), (.ref b_71)])) rfl rfl (hb hby d9_95)
  have Z_84 : n0 ≤ h_84.size := Nat.le_trans Z_78 (Keep.of_wr W_84).1
  have N_84 := Fr.snoc X_84 N_78 g_b_71
  have K_84 : Keep h0 h_84 [g] := K_78.wr W_84 (Or.inr sz_b_71)
  have V_84 : Arv Z h_84 b_71 k_71 .int (2 : Int32) [(.int (-1 : Int32)), (.int (-1 : Int32))] (.int (0 : Int32)) := Arv.set Ar_84 q_84 S_84 M_84 H_84 G_84 rfl W_84 1 rfl (Nat.le_of_ble_eq_true rfl)
  refine own_st (S' := T_84.setTop (mkF m 96 #[.val (.ref g), .val (.int (2 : Int32)), .val (.ref l1), .val (.ref x), .val (.ref y), .val (.ref u), .val (.ref w), .val (.ref a), .val (.int (0 : Int32)), .val (.int (0 : Int32)), .val (.int ((0 : Int32) + (1 : Int32)))] [])) st_84 ?_
  refine own_st (S' := T_84.setTop (mkF m 99 #[.val (.ref g), .val (.int (2 : Int32)), .val (.ref l1), .val (.ref x), .val (.ref y), .val (.ref u), .val (.ref w), .val (.ref a), .val (.int (0 : Int32)), .val (.int (0 : Int32)), .val (.int (((0 : Int32) + (1 : Int32)) + (1 : Int32)))] [])) (fun t_ k_ => XS.iinc X_84.here hx rfl (hb hby d9_96) rfl (l' := #[.val (.ref g), .val (.int (2 : Int32)), .val (.ref l1), .val (.ref x), .val (.ref y), .val (.ref u), .val (.ref w), .val (.ref a), .val (.int (0 : Int32)), .val (.int (0 : Int32)), .val (.int (((0 : Int32) + (1 : Int32)) + (1 : Int32)))]) rfl k_) ?_
  refine own_st (S' := T_84.setTop (mkF m 65 #[.val (.ref g), .val (.int (2 : Int32)), .val (.ref l1), .val (.ref x), .val (.ref y), .val (.ref u), .val (.ref w), .val (.ref a), .val (.int (0 : Int32)), .val (.int (0 : Int32)), .val (.int (((0 : Int32) + (1 : Int32)) + (1 : Int32)))] [])) (fun t_ k_ => XS.goto X_84.here hx rfl (pc0 := 99) (pc' := 65) rfl (hb hby d9_99) (by decide) (by decide) k_) ?_
  refine own_st (S' := T_84.setTop (mkF m 67 #[.val (.ref g), .val (.int (2 : Int32)), .val (.ref l1), .val (.ref x), .val (.ref y), .val (.ref u), .val (.ref w), .val (.ref a), .val (.int (0 : Int32)), .val (.int (0 : Int32)), .val (.int (((0 : Int32) + (1 : Int32)) + (1 : Int32)))] [(.int (((0 : Int32) + (1 : Int32)) + (1 : Int32)))])) (fun t_ k_ => XS.iload X_84.here hx rfl (hb hby d9_65) rfl k_) ?_
  refine own_st (S' := T_84.setTop (mkF m 68 #[.val (.ref g), .val (.int (2 : Int32)), .val (.ref l1), .val (.ref x), .val (.ref y), .val (.ref u), .val (.ref w), .val (.ref a), .val (.int (0 : Int32)), .val (.int (0 : Int32)), .val (.int (((0 : Int32) + (1 : Int32)) + (1 : Int32)))] [(.int (2 : Int32)), (.int (((0 : Int32) + (1 : Int32)) + (1 : Int32)))])) (fun t_ k_ => XS.iloadN X_84.here hx rfl (hb hby d9_67) rfl k_) ?_
  refine own_st (S' := T_84.setTop (mkF m 102 #[.val (.ref g), .val (.int (2 : Int32)), .val (.ref l1), .val (.ref x), .val (.ref y), .val (.ref u), .val (.ref w), .val (.ref a), .val (.int (0 : Int32)), .val (.int (0 : Int32)), .val (.int (((0 : Int32) + (1 : Int32)) + (1 : Int32)))] [])) (fun t_ k_ => XS.icmpYes X_84.here hx rfl (pc0 := 68) (pc' := 102) rfl (hb hby d9_68) rfl (flt (by decide : ¬ ((((0 : Int32) + (1 : Int32)) + (1 : Int32)) < (2 : Int32)))).2.1 (by decide) (by decide) k_) ?_
  refine own_st (S' := T_84.setTop (mkF m 103 #[.val (.ref g), .val (.int (2 : Int32)), .val (.ref l1), .val (.ref x), .val (.ref y), .val (.ref u), .val (.ref w), .val (.ref a), .val (.int (0 : Int32)), .val (.int (0 : Int32)), .val (.int (((0 : Int32) + (1 : Int32)) + (1 : Int32)))] [(.ref g)])) (fun t_ k_ => XS.aloadN X_84.here hx rfl (hb hby d9_102) rfl rfl k_) ?_
  refine own_st (S' := T_84.setTop (mkF m 105 #[.val (.ref g), .val (.int (2 : Int32)), .val (.ref l1), .val (.ref x), .val (.ref y), .val (.ref u), .val (.ref w), .val (.ref a), .val (.int (0 : Int32)), .val (.int (0 : Int32)), .val (.int (((0 : Int32) + (1 : Int32)) + (1 : Int32)))] [(.int (0 : Int32)), (.ref g)])) (fun t_ k_ => XS.iload X_84.here hx rfl (hb hby d9_103) rfl k_) ?_
  have f_85 : Fld Z h_84 g "com/example/frisk/frisk/pattern/StateGraph" "counterCount" "I" (.int (0 : Int32)) := (Fld.other W_84 (Fld.other W_78 (Fld.other W_74 (Fld.ext E_71 (Fld.other W_59 ((Fld.other W_44 ((Fld.other W_30 ((Fld.other W_17 ((Fld.other W_5 (P8.keep K_2c nin0) (Or.inr (slot_ne (Or.inr (hw _ (List.mem_of_getElem? (i := 60) rfl))) (Or.inr (hw _ (List.mem_of_getElem? (i := 48) rfl))) (by decide) (t := .int) (t' := (.array .int)) (by decide) (by decide)))).keep K_14c nin0) (Or.inr (slot_ne (Or.inr (hw _ (List.mem_of_getElem? (i := 60) rfl))) (Or.inr (hw _ (List.mem_of_getElem? (i := 50) rfl))) (by decide) (t := .int) (t' := (.array .int)) (by decide) (by decide)))).keep K_27c nin0) (Or.inr (slot_ne (Or.inr (hw _ (List.mem_of_getElem? (i := 60) rfl))) (Or.inr (hw _ (List.mem_of_getElem? (i := 52) rfl))) (by decide) (t := .int) (t' := (.array .int)) (by decide) (by decide)))).keep K_41c nin0) (Or.inr (slot_ne (Or.inr (hw _ (List.mem_of_getElem? (i := 60) rfl))) (Or.inr (hw _ (List.mem_of_getElem? (i := 54) rfl))) (by decide) (t := .int) (t' := (.array .int)) (by decide) (by decide)))).keep K_56c nin0) (Or.inr (slot_ne (Or.inr (hw _ (List.mem_of_getElem? (i := 60) rfl))) (Or.inr (hw _ (List.mem_of_getElem? (i := 56) rfl))) (by decide) (t := .int) (t' := (.array .int)) (by decide) (by decide))))) (Or.inr (slot_ne (Or.inr (hw _ (List.mem_of_getElem? (i := 60) rfl))) (Or.inr (hw _ (List.mem_of_getElem? (i := 58) rfl))) (by decide) (t := .int) (t' := (.array .int)) (by decide) (by decide)))) (Or.inl ne_g_b_71)) (Or.inl ne_g_b_71))
  have f_86 : Exa Z h_84 g "com/example/frisk/frisk/pattern/StateGraph" := (Exa.wr W_84 (Exa.wr W_78 (Exa.wr W_74 f_73)))
  obtain ⟨T_87, h_87, X_87, e_87, W_87, st_87⟩ := putF X_84 hx hZ hown (host := "") (Or.inl (hw _ (List.mem_of_getElem? (i := 59) rfl))) Via.refl e_84 f_85 f_86 (Or.inr ⟨(hw _ (List.mem_of_getElem? (i := 60) rfl)), rfl, hnm⟩) (hw _ (List.mem_of_getElem? (i := 28) rfl)) (ty := .int) (by decide) rfl rfl (g := (mkF m 105 #[.val (.ref g), .val (.int (2 : Int32)), .val (.ref l1), .val (.ref x), .val (.ref y), .val (.ref u), .val (.ref w), .val (.ref a), .val (.int (0 : Int32)), .val (.int (0 : Int32)), .val (.int (((0 : Int32) + (1 : Int32)) + (1 : Int32)))] [(.int (0 : Int32)), (.ref g)])) rfl rfl (hb hby d9_105)
  have Z_87 : n0 ≤ h_87.size := Nat.le_trans Z_84 (Keep.of_wr W_87).1
  have N_87 := Fr.snoc X_87 N_84 g_g
  have K_87 : Keep h0 h_87 [g] := K_84.wr W_87 (Or.inl (List.mem_of_getElem? (i := 0) rfl))
  have f_87 : Fld Z h_87 g "com/example/frisk/frisk/pattern/StateGraph" "counterCount" "I" (.int (0 : Int32)) := Fld.same W_87 f_85
  refine own_st (S' := T_87.setTop (mkF m 108 #[.val (.ref g), .val (.int (2 : Int32)), .val (.ref l1), .val (.ref x), .val (.ref y), .val (.ref u), .val (.ref w), .val (.ref a), .val (.int (0 : Int32)), .val (.int (0 : Int32)), .val (.int (((0 : Int32) + (1 : Int32)) + (1 : Int32)))] [])) st_87 ?_
  refine own_st (S' := T_87.setTop (mkF m 109 #[.val (.ref g), .val (.int (2 : Int32)), .val (.ref l1), .val (.ref x), .val (.ref y), .val (.ref u), .val (.ref w), .val (.ref a), .val (.int (0 : Int32)), .val (.int (0 : Int32)), .val (.int (((0 : Int32) + (1 : Int32)) + (1 : Int32)))] [(.ref g)])) (fun t_ k_ => XS.aloadN X_87.here hx rfl (hb hby d9_108) rfl rfl k_) ?_
  refine own_st (S' := T_87.setTop (mkF m 110 #[.val (.ref g), .val (.int (2 : Int32)), .val (.ref l1), .val (.ref x), .val (.ref y), .val (.ref u), .val (.ref w), .val (.ref a), .val (.int (0 : Int32)), .val (.int (0 : Int32)), .val (.int (((0 : Int32) + (1 : Int32)) + (1 : Int32)))] [(.ref g), (.ref g)])) (fun t_ k_ => XS.aloadN X_87.here hx rfl (hb hby d9_109) rfl rfl k_) ?_
  have f_88 : Fld Z h_87 g "com/example/frisk/frisk/pattern/StateGraph" "labels" "[I" (.ref x_2_b) := (Fld.other W_87 (Fld.other W_84 (Fld.other W_78 (Fld.other W_74 (Fld.ext E_71 (Fld.other W_59 ((Fld.other W_44 ((Fld.other W_30 ((Fld.other W_17 (f_5.keep K_14c nin0) (Or.inr (slot_ne (Or.inr (hw _ (List.mem_of_getElem? (i := 48) rfl))) (Or.inr (hw _ (List.mem_of_getElem? (i := 50) rfl))) (by decide) (t := (.array .int)) (t' := (.array .int)) (by decide) (by decide)))).keep K_27c nin0) (Or.inr (slot_ne (Or.inr (hw _ (List.mem_of_getElem? (i := 48) rfl))) (Or.inr (hw _ (List.mem_of_getElem? (i := 52) rfl))) (by decide) (t := (.array .int)) (t' := (.array .int)) (by decide) (by decide)))).keep K_41c nin0) (Or.inr (slot_ne (Or.inr (hw _ (List.mem_of_getElem? (i := 48) rfl))) (Or.inr (hw _ (List.mem_of_getElem? (i := 54) rfl))) (by decide) (t := (.array .int)) (t' := (.array .int)) (by decide) (by decide)))).keep K_56c nin0) (Or.inr (slot_ne (Or.inr (hw _ (List.mem_of_getElem? (i := 48) rfl))) (Or.inr (hw _ (List.mem_of_getElem? (i := 56) rfl))) (by decide) (t := (.array .int)) (t' := (.array .int)) (by decide) (by decide))))) (Or.inr (slot_ne (Or.inr (hw _ (List.mem_of_getElem? (i := 48) rfl))) (Or.inr (hw _ (List.mem_of_getElem? (i := 58) rfl))) (by decide) (t := (.array .int)) (t' := (.array .int)) (by decide) (by decide)))) (Or.inl ne_g_b_71)) (Or.inl ne_g_b_71)) (Or.inr (slot_ne (Or.inr (hw _ (List.mem_of_getElem? (i := 48) rfl))) (Or.inr (hw _ (List.mem_of_getElem? (i := 60) rfl))) (by decide) (t := (.array .int)) (t' := .int) (by decide) (by decide))))
  obtain ⟨T_89, X_89, e_89, st_89⟩ := getF X_87 hx hZ hown (host := "") (Or.inl (hw _ (List.mem_of_getElem? (i := 47) rfl))) Via.refl e_87 f_88 (g := (mkF m 110 #[.val (.ref g), .val (.int (2 : Int32)), .val (.ref l1), .val (.ref x), .val (.ref y), .val (.ref u), .val (.ref w), .val (.ref a), .val (.int (0 : Int32)), .val (.int (0 : Int32)), .val (.int (((0 : Int32) + (1 : Int32)) + (1 : Int32)))] [(.ref g), (.ref g)])) rfl rfl (hb hby d9_110)
  refine own_st (S' := T_89.setTop (mkF m 113 #[.val (.ref g), .val (.int (2 : Int32)), .val (.ref l1), .val (.ref x), .val (.ref y), .val (.ref u), .val (.ref w), .val (.ref a), .val (.int (0 : Int32)), .val (.int (0 : Int32)), .val (.int (((0 : Int32) + (1 : Int32)) + (1 : Int32)))] [(.ref x_2_b), (.ref g)])) st_89 ?_
  refine own_st (S' := T_89.setTop (mkF m 115 #[.val (.ref g), .val (.int (2 : Int32)), .val (.ref l1), .val (.ref x), .val (.ref y), .val (.ref u), .val (.ref w), .val (.ref a), .val (.int (0 : Int32)), .val (.int (0 : Int32)), .val (.int (((0 : Int32) + (1 : Int32)) + (1 : Int32)))] [(.ref a), (.ref x_2_b), (.ref g)])) (fun t_ k_ => XS.aload X_89.here hx rfl (hb hby d9_113) rfl rfl k_) ?_
  have f_90 : Arv Z h_87 x_2_b kl1 .int (2 : Int32) [(.int (-1 : Int32)), (.int (-2 : Int32))] (.int (0 : Int32)) := ((((((((((((((c_2_0.other W_5 (Ne.symm ne_g_x_2_b)).keep K_14c nin0).other W_17 (Ne.symm ne_g_x_2_b)).keep K_27c nin0).other W_30 (Ne.symm ne_g_x_2_b)).keep K_41c nin0).other W_44 (Ne.symm ne_g_x_2_b)).keep K_56c nin0).other W_59 (Ne.symm ne_g_x_2_b)).ext E_71).other W_74 (Ne.symm ne_g_x_2_b)).other W_78 ne_x_2_b_b_71).other W_84 ne_x_2_b_b_71).other W_87 (Ne.symm ne_g_x_2_b))
  have f_91 : Exa Z h_87 a "java/util/ArrayList" := (Exa.wr W_87 (Exa.wr W_84 (Exa.wr W_78 (Exa.wr W_74 (Exa.ext E_71 f_60)))))
  have f_92 : Fld Z h_87 a "java/util/ArrayList" "size" "I" (.int (0 : Int32)) := (Fld.other W_87 (Fld.other W_84 (Fld.other W_78 (Fld.other W_74 (Fld.ext E_71 (Fld.other W_59 ((Fld.other W_44 ((Fld.other W_30 ((Fld.other W_17 ((Fld.other W_5 (P21.keep K_2c nin0) (Or.inl (Ne.symm ne_g_a))).keep K_14c nin0) (Or.inl (Ne.symm ne_g_a))).keep K_27c nin0) (Or.inl (Ne.symm ne_g_a))).keep K_41c nin0) (Or.inl (Ne.symm ne_g_a))).keep K_56c nin0) (Or.inl (Ne.symm ne_g_a)))) (Or.inl (Ne.symm ne_g_a))) (Or.inl ne_a_b_71)) (Or.inl ne_a_b_71)) (Or.inl (Ne.symm ne_g_a)))
  have f_93 : Old Z n0 h_87 := (((((((((((((((O0.keep K_2c all0).wr W_5 g_g).keep K_14c all0).wr W_17 g_g).keep K_27c all0).wr W_30 g_g).keep K_41c all0).wr W_44 g_g).keep K_56c all0).wr W_59 g_g).ext E_71).wr W_74 g_g).wr W_78 g_b_71).wr W_84 g_b_71).wr W_87 g_g)
  have f_94 : Arv Z h_87 b_71 k_71 .int (2 : Int32) [(.int (-1 : Int32)), (.int (-1 : Int32))] (.int (0 : Int32)) := (V_84.other W_87 (Ne.symm ne_g_b_71))
  have f_95 : Exa Z h_87 l1 "[I" := (Exa.wr W_87 (Exa.wr W_84 (Exa.wr W_78 (Exa.wr W_74 (Exa.ext E_71 f_61)))))
  have f_96 : Exa Z h_87 u "[I" := (Exa.wr W_87 (Exa.wr W_84 (Exa.wr W_78 (Exa.wr W_74 (Exa.ext E_71 f_62)))))
  have f_97 : Arv Z h_87 w kw .int (2 : Int32) [(.int (1 : Int32)), (.int (1 : Int32))] (.int (0 : Int32)) := ((f_83.other W_84 ne_w_b_71).other W_87 (Ne.symm ne_g_w))
  have f_98 : Exa Z h_87 x "[I" := (Exa.wr W_87 (Exa.wr W_84 (Exa.wr W_78 (Exa.wr W_74 (Exa.ext E_71 f_64)))))
  have f_99 : Exa Z h_87 x_14_b "[I" := (Exa.wr W_87 (Exa.wr W_84 (Exa.wr W_78 (Exa.wr W_74 (Exa.ext E_71 f_65)))))
  have f_100 : Exa Z h_87 x_27_b "[I" := (Exa.wr W_87 (Exa.wr W_84 (Exa.wr W_78 (Exa.wr W_74 (Exa.ext E_71 f_66)))))
  have f_101 : Exa Z h_87 x_41_b "[I" := (Exa.wr W_87 (Exa.wr W_84 (Exa.wr W_78 (Exa.wr W_74 (Exa.ext E_71 f_68)))))
  have f_102 : Exa Z h_87 x_56_b "[I" := (Exa.wr W_87 (Exa.wr W_84 (Exa.wr W_78 (Exa.wr W_74 (Exa.ext E_71 f_69)))))
  have f_103 : Exa Z h_87 y "[I" := (Exa.wr W_87 (Exa.wr W_84 (Exa.wr W_78 (Exa.wr W_74 (Exa.ext E_71 f_70)))))
  obtain ⟨_, _, ⟨T_104, L_104, k_104, n_104⟩, -, X_104, ⟨Lc_104, hQ_104, l_104, y_104, z_104⟩, st_104⟩ := Jvm.LawKit.callS X_89 hx (y := (⟨"com/example/frisk/frisk/pattern/StateGraph", "renumberClasses", "([ILjava/util/List;)[Lcom/example/frisk/frisk/pattern/CharacterClass;"⟩ : MethodName)) hown (mvT hZ (hw _ (List.mem_of_getElem? (i := 61) rfl))) (mvT hZ (hw _ (List.mem_of_getElem? (i := 62) rfl))) (mvT hZ (hw _ (List.mem_of_getElem? (i := 29) rfl))) (mvT hZ (hw _ (List.mem_of_getElem? (i := 63) rfl))) (by decide) (backOf (W := 1) (rm8 l Z a0 hw [] x_2_b a dd kd kl1 h_87 n0 Z_87 f_90 f_91 f_92 Y0 Y1 f_93) hZ (hw _ (List.mem_of_getElem? (i := 63) rfl)) (hw _ (List.mem_of_getElem? (i := 29) rfl)) (by decide) (by decide)) (g := (mkF m 115 #[.val (.ref g), .val (.int (2 : Int32)), .val (.ref l1), .val (.ref x), .val (.ref y), .val (.ref u), .val (.ref w), .val (.ref a), .val (.int (0 : Int32)), .val (.int (0 : Int32)), .val (.int (((0 : Int32) + (1 : Int32)) + (1 : Int32)))] [(.ref a), (.ref x_2_b), (.ref g)])) rfl (by rw [hml]; rfl) (argsL := [(.ref x_2_b), (.ref a)]) (rest := [(.ref g)]) (lenOf pd_5 rfl) rfl (by show 2 * 0 + _ ≤ _; exact Nat.le_of_eq rfl) (hb hby d9_115) (fun _ _ => ⟨rfl, e_89, (by decide : 6 + 3 ≤ _), (by decide : 12 + 3 ≤ _)⟩)
  dsimp only [Pt.U, Pt.locs, Pt.cells, Pt.slots] at X_104 l_104 y_104 z_104 st_104 hQ_104
  subst l_104 y_104 z_104
  obtain ⟨x_104_b, rfl, M_104, K_104c, z_104_0⟩ := hQ_104
  have N_104 := Fr.app N_87 M_104
  have K_104 : Keep h0 T_104.heap [g] := K_87.trans K_104c all0
  have ne_a_x_104_b : a ≠ x_104_b := Nat.ne_of_lt (Nat.lt_of_lt_of_le f_91.lt z_104_0)
  have ne_b_71_x_104_b : b_71 ≠ x_104_b := Nat.ne_of_lt (Nat.lt_of_lt_of_le f_94.lt z_104_0)
  have ne_g_x_104_b : g ≠ x_104_b := Nat.ne_of_lt (Nat.lt_of_lt_of_le f_88.lt z_104_0)
  have ne_l1_x_104_b : l1 ≠ x_104_b := Nat.ne_of_lt (Nat.lt_of_lt_of_le f_95.lt z_104_0)
  have ne_u_x_104_b : u ≠ x_104_b := Nat.ne_of_lt (Nat.lt_of_lt_of_le f_96.lt z_104_0)
  have ne_w_x_104_b : w ≠ x_104_b := Nat.ne_of_lt (Nat.lt_of_lt_of_le f_97.lt z_104_0)
  have ne_x_x_104_b : x ≠ x_104_b := Nat.ne_of_lt (Nat.lt_of_lt_of_le f_98.lt z_104_0)
  have ne_x_14_b_x_104_b : x_14_b ≠ x_104_b := Nat.ne_of_lt (Nat.lt_of_lt_of_le f_99.lt z_104_0)
  have ne_x_27_b_x_104_b : x_27_b ≠ x_104_b := Nat.ne_of_lt (Nat.lt_of_lt_of_le f_100.lt z_104_0)
  have ne_x_2_b_x_104_b : x_2_b ≠ x_104_b := Nat.ne_of_lt (Nat.lt_of_lt_of_le f_90.lt z_104_0)
  have ne_x_41_b_x_104_b : x_41_b ≠ x_104_b := Nat.ne_of_lt (Nat.lt_of_lt_of_le f_101.lt z_104_0)
  have ne_x_56_b_x_104_b : x_56_b ≠ x_104_b := Nat.ne_of_lt (Nat.lt_of_lt_of_le f_102.lt z_104_0)
  have ne_y_x_104_b : y ≠ x_104_b := Nat.ne_of_lt (Nat.lt_of_lt_of_le f_103.lt z_104_0)
  have g_x_104_b : n0 ≤ x_104_b := Nat.le_trans Z_87 z_104_0
  have sz_x_104_b : h0.size ≤ x_104_b := Nat.le_trans (K_87).1 z_104_0
  have Z_104 : n0 ≤ T_104.heap.size := Nat.le_trans Z_87 K_104c.1
  refine own_st (S' := T_104.setTop (mkF m 118 #[.val (.ref g), .val (.int (2 : Int32)), .val (.ref l1), .val (.ref x), .val (.ref y), .val (.ref u), .val (.ref w), .val (.ref a), .val (.int (0 : Int32)), .val (.int (0 : Int32)), .val (.int (((0 : Int32) + (1 : Int32)) + (1 : Int32)))] [(.ref x_104_b), (.ref g)])) st_104 ?_
  have f_105 : Fld Z T_104.heap g "com/example/frisk/frisk/pattern/StateGraph" "classes" "[Lcom/example/frisk/frisk/pattern/CharacterClass;" .null := ((Fld.other W_87 (Fld.other W_84 (Fld.other W_78 (Fld.other W_74 (Fld.ext E_71 (Fld.other W_59 ((Fld.other W_44 ((Fld.other W_30 ((Fld.other W_17 ((Fld.other W_5 (P7.keep K_2c nin0) (Or.inr (slot_ne (Or.inr (hw _ (List.mem_of_getElem? (i := 97) rfl))) (Or.inr (hw _ (List.mem_of_getElem? (i := 48) rfl))) (by decide) (t := (.array (.object "com/example/frisk/frisk/pattern/CharacterClass"))) (t' := (.array .int)) (by decide) (by decide)))).keep K_14c nin0) (Or.inr (slot_ne (Or.inr (hw _ (List.mem_of_getElem? (i := 97) rfl))) (Or.inr (hw _ (List.mem_of_getElem? (i := 50) rfl))) (by decide) (t := (.array (.object "com/example/frisk/frisk/pattern/CharacterClass"))) (t' := (.array .int)) (by decide) (by decide)))).keep K_27c nin0) (Or.inr (slot_ne (Or.inr (hw _ (List.mem_of_getElem? (i := 97) rfl))) (Or.inr (hw _ (List.mem_of_getElem? (i := 52) rfl))) (by decide) (t := (.array (.object "com/example/frisk/frisk/pattern/CharacterClass"))) (t' := (.array .int)) (by decide) (by decide)))).keep K_41c nin0) (Or.inr (slot_ne (Or.inr (hw _ (List.mem_of_getElem? (i := 97) rfl))) (Or.inr (hw _ (List.mem_of_getElem? (i := 54) rfl))) (by decide) (t := (.array (.object "com/example/frisk/frisk/pattern/CharacterClass"))) (t' := (.array .int)) (by decide) (by decide)))).keep K_56c nin0) (Or.inr (slot_ne (Or.inr (hw _ (List.mem_of_getElem? (i := 97) rfl))) (Or.inr (hw _ (List.mem_of_getElem? (i := 56) rfl))) (by decide) (t := (.array (.object "com/example/frisk/frisk/pattern/CharacterClass"))) (t' := (.array .int)) (by decide) (by decide))))) (Or.inr (slot_ne (Or.inr (hw _ (List.mem_of_getElem? (i := 97) rfl))) (Or.inr (hw _ (List.mem_of_getElem? (i := 58) rfl))) (by decide) (t := (.array (.object "com/example/frisk/frisk/pattern/CharacterClass"))) (t' := (.array .int)) (by decide) (by decide)))) (Or.inl ne_g_b_71)) (Or.inl ne_g_b_71)) (Or.inr (slot_ne (Or.inr (hw _ (List.mem_of_getElem? (i := 97) rfl))) (Or.inr (hw _ (List.mem_of_getElem? (i := 60) rfl))) (by decide) (t := (.array (.object "com/example/frisk/frisk/pattern/CharacterClass"))) (t' := .int) (by decide) (by decide)))).keep K_104c nin0)
  have f_106 : Exa Z T_104.heap g "com/example/frisk/frisk/pattern/StateGraph" := ((Exa.wr W_87 f_86).keep K_104c)
  obtain ⟨T_107, h_107, X_107, e_107, W_107, st_107⟩ := putF X_104 hx hZ hown (host := "") (Or.inl (hw _ (List.mem_of_getElem? (i := 96) rfl))) Via.refl rfl f_105 f_106 (Or.inr ⟨(hw _ (List.mem_of_getElem? (i := 97) rfl)), rfl, hnm⟩) (hw _ (List.mem_of_getElem? (i := 28) rfl)) (ty := (.array (.object "com/example/frisk/frisk/pattern/CharacterClass"))) (by decide) rfl rfl (g := (mkF m 118 #[.val (.ref g), .val (.int (2 : Int32)), .val (.ref l1), .val (.ref x), .val (.ref y), .val (.ref u), .val (.ref w), .val (.ref a), .val (.int (0 : Int32)), .val (.int (0 : Int32)), .val (.int (((0 : Int32) + (1 : Int32)) + (1 : Int32)))] [(.ref x_104_b), (.ref g)])) rfl rfl (hb hby d9_118)
  have Z_107 : n0 ≤ h_107.size := Nat.le_trans Z_104 (Keep.of_wr W_107).1
  have N_107 := Fr.snoc X_107 N_104 g_g
  have K_107 : Keep h0 h_107 [g] := K_104.wr W_107 (Or.inl (List.mem_of_getElem? (i := 0) rfl))
  have f_107 : Fld Z h_107 g "com/example/frisk/frisk/pattern/StateGraph" "classes" "[Lcom/example/frisk/frisk/pattern/CharacterClass;" (.ref x_104_b) := Fld.same W_107 f_105
  refine own_st (S' := T_107.setTop (mkF m 121 #[.val (.ref g), .val (.int (2 : Int32)), .val (.ref l1), .val (.ref x), .val (.ref y), .val (.ref u), .val (.ref w), .val (.ref a), .val (.int (0 : Int32)), .val (.int (0 : Int32)), .val (.int (((0 : Int32) + (1 : Int32)) + (1 : Int32)))] [])) st_107 ?_
  refine own_st (S' := T_107.setTop (mkF m 122 #[.val (.ref g), .val (.int (2 : Int32)), .val (.ref l1), .val (.ref x), .val (.ref y), .val (.ref u), .val (.ref w), .val (.ref a), .val (.int (0 : Int32)), .val (.int (0 : Int32)), .val (.int (((0 : Int32) + (1 : Int32)) + (1 : Int32)))] [(.ref g)])) (fun t_ k_ => XS.aloadN X_107.here hx rfl (hb hby d9_121) rfl rfl k_) ?_
  refine own_st (S' := T_107.setTop (mkF m 124 #[.val (.ref g), .val (.int (2 : Int32)), .val (.ref l1), .val (.ref x), .val (.ref y), .val (.ref u), .val (.ref w), .val (.ref a), .val (.int (0 : Int32)), .val (.int (0 : Int32)), .val (.int (((0 : Int32) + (1 : Int32)) + (1 : Int32)))] [(.int (0 : Int32)), (.ref g)])) (fun t_ k_ => XS.iload X_107.here hx rfl (hb hby d9_122) rfl k_) ?_
  have f_108 : Fld Z h_107 g "com/example/frisk/frisk/pattern/StateGraph" "start" "I" (.int (0 : Int32)) := (Fld.other W_107 ((Fld.other W_87 (Fld.other W_84 (Fld.other W_78 (Fld.other W_74 (Fld.ext E_71 (Fld.other W_59 ((Fld.other W_44 ((Fld.other W_30 ((Fld.other W_17 ((Fld.other W_5 (P9.keep K_2c nin0) (Or.inr (slot_ne (Or.inr (hw _ (List.mem_of_getElem? (i := 99) rfl))) (Or.inr (hw _ (List.mem_of_getElem? (i := 48) rfl))) (by decide) (t := .int) (t' := (.array .int)) (by decide) (by decide)))).keep K_14c nin0) (Or.inr (slot_ne (Or.inr (hw _ (List.mem_of_getElem? (i := 99) rfl))) (Or.inr (hw _ (List.mem_of_getElem? (i := 50) rfl))) (by decide) (t := .int) (t' := (.array .int)) (by decide) (by decide)))).keep K_27c nin0) (Or.inr (slot_ne (Or.inr (hw _ (List.mem_of_getElem? (i := 99) rfl))) (Or.inr (hw _ (List.mem_of_getElem? (i := 52) rfl))) (by decide) (t := .int) (t' := (.array .int)) (by decide) (by decide)))).keep K_41c nin0) (Or.inr (slot_ne (Or.inr (hw _ (List.mem_of_getElem? (i := 99) rfl))) (Or.inr (hw _ (List.mem_of_getElem? (i := 54) rfl))) (by decide) (t := .int) (t' := (.array .int)) (by decide) (by decide)))).keep K_56c nin0) (Or.inr (slot_ne (Or.inr (hw _ (List.mem_of_getElem? (i := 99) rfl))) (Or.inr (hw _ (List.mem_of_getElem? (i := 56) rfl))) (by decide) (t := .int) (t' := (.array .int)) (by decide) (by decide))))) (Or.inr (slot_ne (Or.inr (hw _ (List.mem_of_getElem? (i := 99) rfl))) (Or.inr (hw _ (List.mem_of_getElem? (i := 58) rfl))) (by decide) (t := .int) (t' := (.array .int)) (by decide) (by decide)))) (Or.inl ne_g_b_71)) (Or.inl ne_g_b_71)) (Or.inr (slot_ne (Or.inr (hw _ (List.mem_of_getElem? (i := 99) rfl))) (Or.inr (hw _ (List.mem_of_getElem? (i := 60) rfl))) (by decide) (t := .int) (t' := .int) (by decide) (by decide)))).keep K_104c nin0) (Or.inr (slot_ne (Or.inr (hw _ (List.mem_of_getElem? (i := 99) rfl))) (Or.inr (hw _ (List.mem_of_getElem? (i := 97) rfl))) (by decide) (t := .int) (t' := (.array (.object "com/example/frisk/frisk/pattern/CharacterClass"))) (by decide) (by decide))))
  have f_109 : Exa Z h_107 g "com/example/frisk/frisk/pattern/StateGraph" := (Exa.wr W_107 f_106)
  obtain ⟨T_110, h_110, X_110, e_110, W_110, st_110⟩ := putF X_107 hx hZ hown (host := "") (Or.inl (hw _ (List.mem_of_getElem? (i := 98) rfl))) Via.refl e_107 f_108 f_109 (Or.inr ⟨(hw _ (List.mem_of_getElem? (i := 99) rfl)), rfl, hnm⟩) (hw _ (List.mem_of_getElem? (i := 28) rfl)) (ty := .int) (by decide) rfl rfl (g := (mkF m 124 #[.val (.ref g), .val (.int (2 : Int32)), .val (.ref l1), .val (.ref x), .val (.ref y), .val (.ref u), .val (.ref w), .val (.ref a), .val (.int (0 : Int32)), .val (.int (0 : Int32)), .val (.int (((0 : Int32) + (1 : Int32)) + (1 : Int32)))] [(.int (0 : Int32)), (.ref g)])) rfl rfl (hb hby d9_124)
  have Z_110 : n0 ≤ h_110.size := Nat.le_trans Z_107 (Keep.of_wr W_110).1
  have N_110 := Fr.snoc X_110 N_107 g_g
  have K_110 : Keep h0 h_110 [g] := K_107.wr W_110 (Or.inl (List.mem_of_getElem? (i := 0) rfl))
  have f_110 : Fld Z h_110 g "com/example/frisk/frisk/pattern/StateGraph" "start" "I" (.int (0 : Int32)) := Fld.same W_110 f_108
  refine own_st (S' := T_110.setTop (mkF m 127 #[.val (.ref g), .val (.int (2 : Int32)), .val (.ref l1), .val (.ref x), .val (.ref y), .val (.ref u), .val (.ref w), .val (.ref a), .val (.int (0 : Int32)), .val (.int (0 : Int32)), .val (.int (((0 : Int32) + (1 : Int32)) + (1 : Int32)))] [])) st_110 ?_
  obtain ⟨fs, hr, hrun, hended, hW, hsame⟩ := X_110.leave (v := none) (fun _ => rfl)
  have f_111 : Exa Z h_110 g "com/example/frisk/frisk/pattern/StateGraph" := (Exa.wr W_110 f_109)
  have f_112 : Fld Z h_110 g "com/example/frisk/frisk/pattern/StateGraph" "next" "[I" (.ref x_14_b) := (Fld.other W_110 (Fld.other W_107 ((Fld.other W_87 (Fld.other W_84 (Fld.other W_78 (Fld.other W_74 (Fld.ext E_71 (Fld.other W_59 ((Fld.other W_44 ((Fld.other W_30 (f_17.keep K_27c nin0) (Or.inr (slot_ne (Or.inr (hw _ (List.mem_of_getElem? (i := 50) rfl))) (Or.inr (hw _ (List.mem_of_getElem? (i := 52) rfl))) (by decide) (t := (.array .int)) (t' := (.array .int)) (by decide) (by decide)))).keep K_41c nin0) (Or.inr (slot_ne (Or.inr (hw _ (List.mem_of_getElem? (i := 50) rfl))) (Or.inr (hw _ (List.mem_of_getElem? (i := 54) rfl))) (by decide) (t := (.array .int)) (t' := (.array .int)) (by decide) (by decide)))).keep K_56c nin0) (Or.inr (slot_ne (Or.inr (hw _ (List.mem_of_getElem? (i := 50) rfl))) (Or.inr (hw _ (List.mem_of_getElem? (i := 56) rfl))) (by decide) (t := (.array .int)) (t' := (.array .int)) (by decide) (by decide))))) (Or.inr (slot_ne (Or.inr (hw _ (List.mem_of_getElem? (i := 50) rfl))) (Or.inr (hw _ (List.mem_of_getElem? (i := 58) rfl))) (by decide) (t := (.array .int)) (t' := (.array .int)) (by decide) (by decide)))) (Or.inl ne_g_b_71)) (Or.inl ne_g_b_71)) (Or.inr (slot_ne (Or.inr (hw _ (List.mem_of_getElem? (i := 50) rfl))) (Or.inr (hw _ (List.mem_of_getElem? (i := 60) rfl))) (by decide) (t := (.array .int)) (t' := .int) (by decide) (by decide)))).keep K_104c nin0) (Or.inr (slot_ne (Or.inr (hw _ (List.mem_of_getElem? (i := 50) rfl))) (Or.inr (hw _ (List.mem_of_getElem? (i := 97) rfl))) (by decide) (t := (.array .int)) (t' := (.array (.object "com/example/frisk/frisk/pattern/CharacterClass"))) (by decide) (by decide)))) (Or.inr (slot_ne (Or.inr (hw _ (List.mem_of_getElem? (i := 50) rfl))) (Or.inr (hw _ (List.mem_of_getElem? (i := 99) rfl))) (by decide) (t := (.array .int)) (t' := .int) (by decide) (by decide))))
  have f_113 : Fld Z h_110 g "com/example/frisk/frisk/pattern/StateGraph" "alternative" "[I" (.ref x_27_b) := (Fld.other W_110 (Fld.other W_107 ((Fld.other W_87 (Fld.other W_84 (Fld.other W_78 (Fld.other W_74 (Fld.ext E_71 (Fld.other W_59 ((Fld.other W_44 (f_30.keep K_41c nin0) (Or.inr (slot_ne (Or.inr (hw _ (List.mem_of_getElem? (i := 52) rfl))) (Or.inr (hw _ (List.mem_of_getElem? (i := 54) rfl))) (by decide) (t := (.array .int)) (t' := (.array .int)) (by decide) (by decide)))).keep K_56c nin0) (Or.inr (slot_ne (Or.inr (hw _ (List.mem_of_getElem? (i := 52) rfl))) (Or.inr (hw _ (List.mem_of_getElem? (i := 56) rfl))) (by decide) (t := (.array .int)) (t' := (.array .int)) (by decide) (by decide))))) (Or.inr (slot_ne (Or.inr (hw _ (List.mem_of_getElem? (i := 52) rfl))) (Or.inr (hw _ (List.mem_of_getElem? (i := 58) rfl))) (by decide) (t := (.array .int)) (t' := (.array .int)) (by decide) (by decide)))) (Or.inl ne_g_b_71)) (Or.inl ne_g_b_71)) (Or.inr (slot_ne (Or.inr (hw _ (List.mem_of_getElem? (i := 52) rfl))) (Or.inr (hw _ (List.mem_of_getElem? (i := 60) rfl))) (by decide) (t := (.array .int)) (t' := .int) (by decide) (by decide)))).keep K_104c nin0) (Or.inr (slot_ne (Or.inr (hw _ (List.mem_of_getElem? (i := 52) rfl))) (Or.inr (hw _ (List.mem_of_getElem? (i := 97) rfl))) (by decide) (t := (.array .int)) (t' := (.array (.object "com/example/frisk/frisk/pattern/CharacterClass"))) (by decide) (by decide)))) (Or.inr (slot_ne (Or.inr (hw _ (List.mem_of_getElem? (i := 52) rfl))) (Or.inr (hw _ (List.mem_of_getElem? (i := 99) rfl))) (by decide) (t := (.array .int)) (t' := .int) (by decide) (by decide))))
  have f_114 : Arv Z h_110 x_14_b kx .int (2 : Int32) [(.int x0), (.int x1)] (.int (0 : Int32)) := (((((((((((((((c_14_0.other W_17 (Ne.symm ne_g_x_14_b)).keep K_27c nin0).other W_30 (Ne.symm ne_g_x_14_b)).keep K_41c nin0).other W_44 (Ne.symm ne_g_x_14_b)).keep K_56c nin0).other W_59 (Ne.symm ne_g_x_14_b)).ext E_71).other W_74 (Ne.symm ne_g_x_14_b)).other W_78 ne_x_14_b_b_71).other W_84 ne_x_14_b_b_71).other W_87 (Ne.symm ne_g_x_14_b)).keep K_104c nin0).other W_107 (Ne.symm ne_g_x_14_b)).other W_110 (Ne.symm ne_g_x_14_b))
  have f_115 : Arv Z h_110 x_27_b ky .int (2 : Int32) [(.int y0), (.int y1)] (.int (0 : Int32)) := (((((((((((((c_27_0.other W_30 (Ne.symm ne_g_x_27_b)).keep K_41c nin0).other W_44 (Ne.symm ne_g_x_27_b)).keep K_56c nin0).other W_59 (Ne.symm ne_g_x_27_b)).ext E_71).other W_74 (Ne.symm ne_g_x_27_b)).other W_78 ne_x_27_b_b_71).other W_84 ne_x_27_b_b_71).other W_87 (Ne.symm ne_g_x_27_b)).keep K_104c nin0).other W_107 (Ne.symm ne_g_x_27_b)).other W_110 (Ne.symm ne_g_x_27_b))
  refine ⟨_, _, X_110.returnOut hx Bd.returns (hb hby d9_127) hr, hrun, hended, _, _, rfl, ?_, ⟨_, rfl⟩, hW, hsame.mono (by decide) (by decide)⟩
  show Q9 Z g l1 x y u w a dd kd kl1 kx ky ku kw x0 x1 y0 y1 h0 n0 _ T_110.heap _
  rw [e_110]
  exact ⟨x_14_b, x_27_b, rfl, N_110, K_110, sz_x_14_b, sz_x_27_b, f_111, f_112, f_113, f_114, f_115⟩
theorem d10_0 : decode prog_109_method_9_code 0 = .ok (.aload_n 0, 1) := by decide +kernel
theorem d10_1 : decode prog_109_method_9_code 1 = .ok (.getfield 19, 3) := by decide +kernel
theorem d10_4 : decode prog_109_method_9_code 4 = .ok (.iload_n 1, 1) := by decide +kernel
theorem d10_5 : decode prog_109_method_9_code 5 = .ok (.iaload, 1) := by decide +kernel
theorem d10_6 : decode prog_109_method_9_code 6 = .ok (.iconst (-1), 1) := by decide +kernel
theorem d10_7 : decode prog_109_method_9_code 7 = .ok (.if_icmp .ne 10, 3) := by decide +kernel
theorem d10_10 : decode prog_109_method_9_code 10 = .ok (.iconst 0, 1) := by decide +kernel
theorem d10_11 : decode prog_109_method_9_code 11 = .ok (.newarray .int, 2) := by decide +kernel
theorem d10_13 : decode prog_109_method_9_code 13 = .ok (.astore_n 2, 1) := by decide +kernel
theorem d10_14 : decode prog_109_method_9_code 14 = .ok (.goto 51, 3) := by decide +kernel
theorem d10_65 : decode prog_109_method_9_code 65 = .ok (.aload_n 2, 1) := by decide +kernel
theorem d10_66 : decode prog_109_method_9_code 66 = .ok (.areturn, 1) := by decide +kernel
theorem ef_10a (m : MethodId) (g : Addr) : entryFrame m #[(.ref g), (.int (0 : Int32))] 3 = mkF m 0 #[.val (.ref g), .val (.int (0 : Int32)), .unset] [] := by first | (simp [entryFrame, mkF, argsToLocals, Value.category]; done) | rfl
def Q10a (Z : State) (g : Addr) (bx : Addr) (by_ : Addr) (kx : ClassId) (ky : ClassId) (x0 : Int32) (x1 : Int32) (y0 : Int32) (y1 : Int32) (h0 : Heap) (n0 : Nat) (v_ : Option Value) (h_ : Heap) (L_ : List Loc) : Prop := ∃ b : Addr, ∃ k : ClassId, v_ = some (.ref b) ∧ Fr n0 L_ ∧ Keep h0 h_ [] ∧ h0.size ≤ b ∧ Arv Z h_ b k .int (0 : Int32) [] (.int (0 : Int32))
set_option maxRecDepth 65536 in
set_option maxHeartbeats 40000000 in
theorem rm10a (l : Launch) (Z : State) (a0 : Array Value) (hw : ∀ d ∈ tables_1, d.before a0 Z = true) (ws : List Jvm.Cond) (g : Addr) (bx : Addr) (by_ : Addr) (kx : ClassId) (ky : ClassId) (x0 : Int32) (x1 : Int32) (y0 : Int32) (y1 : Int32) (h0 : Heap) (n0 : Nat) (Z0 : n0 ≤ h0.size) (P0 : Fld Z h0 g "com/example/frisk/frisk/pattern/StateGraph" "next" "[I" (.ref bx)) (P1 : Fld Z h0 g "com/example/frisk/frisk/pattern/StateGraph" "alternative" "[I" (.ref by_)) (P2 : Arv Z h0 bx kx .int (2 : Int32) [(.int x0), (.int x1)] (.int (0 : Int32))) (P3 : Arv Z h0 by_ ky .int (2 : Int32) [(.int y0), (.int y1)] (.int (0 : Int32))) (hh0 : x0 = (-1 : Int32)) :
    MetFree l (⟨"com/example/frisk/frisk/pattern/StateGraph", "successors", "(I)[I"⟩ : MethodName) (head1 (Jvm.Cond.code (⟨"com/example/frisk/frisk/pattern/StateGraph", "successors", "(I)[I"⟩ : MethodName) prog_109_method_9_code 3 (some (.array .int)) :: ws) ({ frames := 0, cells := 1, slots := 0, locals := 0 } : Room)) (fun ar_ U_ => ar_ = #[(.ref g), (.int (0 : Int32))] ∧ Z.Warmed39 U_.vm ∧ U_.heap = h0) (fun _ _ _ _ _ => True) (fun _ U_ o_ U2_ => ∃ v_ L_, o_ = .returned v_ ∧ Q10a Z g bx by_ kx ky x0 x1 y0 y1 h0 n0 v_ U2_.heap L_ ∧ FrameEnd U_ o_ U2_ L_ ({ frames := 0, cells := 1, slots := 0, locals := 0 } : Room).cells ({ frames := 0, cells := 1, slots := 0, locals := 0 } : Room).slots) := by
  refine MetFree.of_bodySF (plainFor_of_name pn_4) hisR ?_
  intro p e s m args below meth c s₁ Bd hml0 hP hK
  obtain ⟨rfl, hZ, hh⟩ := hP
  have hx := Bd.exec
  have hby := Bd.bytes
  have hml : c.maxLocals = 3 := hml0
  have hown : s.vm.findClass "com/example/frisk/frisk/pattern/StateGraph" = some m.cls := findClass_of_methodNamed Bd.named
  have hnm := (name_of_methodNamed Bd.named Bd.method).1
  have X0 : Stand p l e ({ frames := 0, cells := 1, slots := 0, locals := 0 } : Room) s m #[(.ref g), (.int (0 : Int32))] below meth c s₁ [] 0 0 := Stand.of_body Bd
  have e0 : s₁.heap = h0 := by rw [← hh, Bd.state]; rfl
  have N0 := Fr.nil n0
  refine own_gl ?_
  refine own_st (S' := s₁.setTop (mkF m 0 #[.val (.ref g), .val (.int (0 : Int32)), .unset] [])) (fun t_ k_ => castTop (ef_10a m g) k_) ?_
  refine own_st (S' := s₁.setTop (mkF m 1 #[.val (.ref g), .val (.int (0 : Int32)), .unset] [(.ref g)])) (fun t_ k_ => XS.aloadN X0.here hx rfl (hb hby d10_0) rfl rfl k_) ?_
  obtain ⟨T_1, X_1, e_1, st_1⟩ := getF X0 hx hZ hown (host := "") (Or.inl (hw _ (List.mem_of_getElem? (i := 49) rfl))) Via.refl e0 P0 (g := (mkF m 1 #[.val (.ref g), .val (.int (0 : Int32)), .unset] [(.ref g)])) rfl rfl (hb hby d10_1)
  refine own_st (S' := T_1.setTop (mkF m 4 #[.val (.ref g), .val (.int (0 : Int32)), .unset] [(.ref bx)])) st_1 ?_
  refine own_st (S' := T_1.setTop (mkF m 5 #[.val (.ref g), .val (.int (0 : Int32)), .unset] [(.int (0 : Int32)), (.ref bx)])) (fun t_ k_ => XS.iloadN X_1.here hx rfl (hb hby d10_4) rfl k_) ?_
  obtain ⟨cl_2, Ar_2, q_2, S_2, M_2, H_2, G_2⟩ := id P2
  have hin_2 : ¬ ((0 : Int32) < 0 ∨ cl_2.slots.size ≤ ((0 : Int32)).toNatClampNeg) := inb_of S_2 ⟨by decide, by decide⟩
  have hat_2 : cl_2.slots[((0 : Int32)).toNatClampNeg]? = some (.int x0) := H_2.at hin_2 rfl
  refine own_st (S' := T_1.setTop (mkF m 6 #[.val (.ref g), .val (.int (0 : Int32)), .unset] [(.int x0)])) (fun t_ k_ => X_1.iaload hx (j := (0 : Int32)) (v := (.int x0)) (by rw [e_1]; exact Ar_2.1) (State.isArrayOf_alike hZ.alike Ar_2.2.1) Ar_2.2.2 hin_2 hat_2 (g := (mkF m 5 #[.val (.ref g), .val (.int (0 : Int32)), .unset] [(.int (0 : Int32)), (.ref bx)])) rfl rfl (hb hby d10_5) _ k_) ?_
  refine own_st (S' := T_1.setTop (mkF m 7 #[.val (.ref g), .val (.int (0 : Int32)), .unset] [(.int (-1 : Int32)), (.int x0)])) (fun t_ k_ => XS.iconst X_1.here hx rfl (hb hby d10_6) k_) ?_
  refine own_st (S' := T_1.setTop (mkF m 10 #[.val (.ref g), .val (.int (0 : Int32)), .unset] [])) (fun t_ k_ => XS.icmpNo X_1.here hx rfl (hb hby d10_7) rfl (teq hh0).2 k_) ?_
  refine own_st (S' := T_1.setTop (mkF m 11 #[.val (.ref g), .val (.int (0 : Int32)), .unset] [(.int (0 : Int32))])) (fun t_ k_ => XS.iconst X_1.here hx rfl (hb hby d10_10) k_) ?_
  obtain ⟨T_3, h_3, k_3, X_3, e_3, E_3, A_3, B_3, st_3⟩ := newPE X_1 hx hZ (hw _ (List.mem_of_getElem? (i := 0) rfl)) e_1 (g := (mkF m 11 #[.val (.ref g), .val (.int (0 : Int32)), .unset] [(.int (0 : Int32))])) rfl (hb hby d10_11) rfl (by decide) (cap := 0) (by decide) (by decide) (by decide) (by decide) (ad := "[I") (by decide)
  obtain ⟨b_3, gg_3⟩ : ∃ z, z = h0.size := ⟨_, rfl⟩
  rw [← gg_3] at A_3 B_3 st_3
  have ne_bx_b_3 : bx ≠ b_3 := Nat.ne_of_lt (Nat.lt_of_lt_of_le P2.lt (Nat.le_of_eq gg_3.symm))
  have ne_by__b_3 : by_ ≠ b_3 := Nat.ne_of_lt (Nat.lt_of_lt_of_le P3.lt (Nat.le_of_eq gg_3.symm))
  have ne_g_b_3 : g ≠ b_3 := Nat.ne_of_lt (Nat.lt_of_lt_of_le P0.lt (Nat.le_of_eq gg_3.symm))
  have g_b_3 : n0 ≤ b_3 := Nat.le_trans Z0 (Nat.le_of_eq gg_3.symm)
  have sz_b_3 : h0.size ≤ b_3 := Nat.le_trans (Keep.refl h0 []).1 (Nat.le_of_eq gg_3.symm)
  have Z_3 : n0 ≤ h_3.size := Nat.le_trans Z0 E_3.1
  have K_3 : Keep h0 h_3 [] := (Keep.refl h0 []).ext E_3
  have V_3 : Arv Z h_3 b_3 k_3 .int (0 : Int32) [] (.int (0 : Int32)) := Arv.new A_3 (by decide)
  refine own_st (S' := T_3.setTop (mkF m 13 #[.val (.ref g), .val (.int (0 : Int32)), .unset] [(.ref b_3)])) st_3 ?_
  refine own_st (S' := T_3.setTop (mkF m 14 #[.val (.ref g), .val (.int (0 : Int32)), .val (.ref b_3)] [])) (fun t_ k_ => XS.astoreN X_3.here hx rfl (hb hby d10_13) rfl rfl (l' := #[.val (.ref g), .val (.int (0 : Int32)), .val (.ref b_3)]) rfl k_) ?_
  refine own_st (S' := T_3.setTop (mkF m 65 #[.val (.ref g), .val (.int (0 : Int32)), .val (.ref b_3)] [])) (fun t_ k_ => XS.goto X_3.here hx rfl (pc0 := 14) (pc' := 65) rfl (hb hby d10_14) (by decide) (by decide) k_) ?_
  refine own_st (S' := T_3.setTop (mkF m 66 #[.val (.ref g), .val (.int (0 : Int32)), .val (.ref b_3)] [(.ref b_3)])) (fun t_ k_ => XS.aloadN X_3.here hx rfl (hb hby d10_65) rfl rfl k_) ?_
  obtain ⟨fs, hr, hrun, hended, hW, hsame⟩ := X_3.leave (v := some (.ref b_3)) (fun h => by rw [Bd.returns] at h; cases h)
  refine ⟨_, _, own_retR X_3 hx Bd.returns rfl rfl (hb hby d10_66) hr, hrun, hended, _, _, rfl, ?_, ⟨_, rfl⟩, hW, hsame.mono (by decide) (by decide)⟩
  show Q10a Z g bx by_ kx ky x0 x1 y0 y1 h0 n0 _ T_3.heap _
  rw [e_3]
  exact ⟨b_3, k_3, rfl, N0, K_3, sz_b_3, V_3⟩
theorem d10_17 : decode prog_109_method_9_code 17 = .ok (.aload_n 0, 1) := by decide +kernel
theorem d10_18 : decode prog_109_method_9_code 18 = .ok (.getfield 22, 3) := by decide +kernel
theorem d10_21 : decode prog_109_method_9_code 21 = .ok (.iload_n 1, 1) := by decide +kernel
theorem d10_22 : decode prog_109_method_9_code 22 = .ok (.iaload, 1) := by decide +kernel
theorem d10_23 : decode prog_109_method_9_code 23 = .ok (.iconst (-1), 1) := by decide +kernel
theorem d10_24 : decode prog_109_method_9_code 24 = .ok (.if_icmp .ne 19, 3) := by decide +kernel
theorem d10_27 : decode prog_109_method_9_code 27 = .ok (.iconst 1, 1) := by decide +kernel
theorem d10_28 : decode prog_109_method_9_code 28 = .ok (.newarray .int, 2) := by decide +kernel
theorem d10_30 : decode prog_109_method_9_code 30 = .ok (.dup, 1) := by decide +kernel
theorem d10_31 : decode prog_109_method_9_code 31 = .ok (.iconst 0, 1) := by decide +kernel
theorem d10_32 : decode prog_109_method_9_code 32 = .ok (.aload_n 0, 1) := by decide +kernel
theorem d10_33 : decode prog_109_method_9_code 33 = .ok (.getfield 19, 3) := by decide +kernel
theorem d10_36 : decode prog_109_method_9_code 36 = .ok (.iload_n 1, 1) := by decide +kernel
theorem d10_37 : decode prog_109_method_9_code 37 = .ok (.iaload, 1) := by decide +kernel
theorem d10_38 : decode prog_109_method_9_code 38 = .ok (.iastore, 1) := by decide +kernel
theorem d10_39 : decode prog_109_method_9_code 39 = .ok (.astore_n 2, 1) := by decide +kernel
theorem d10_40 : decode prog_109_method_9_code 40 = .ok (.goto 25, 3) := by decide +kernel
theorem ef_10b (m : MethodId) (g : Addr) : entryFrame m #[(.ref g), (.int (0 : Int32))] 3 = mkF m 0 #[.val (.ref g), .val (.int (0 : Int32)), .unset] [] := by first | (simp [entryFrame, mkF, argsToLocals, Value.category]; done) | rfl
def Q10b (Z : State) (g : Addr) (bx : Addr) (by_ : Addr) (kx : ClassId) (ky : ClassId) (x0 : Int32) (x1 : Int32) (y0 : Int32) (y1 : Int32) (h0 : Heap) (n0 : Nat) (v_ : Option Value) (h_ : Heap) (L_ : List Loc) : Prop := ∃ b : Addr, ∃ k : ClassId, v_ = some (.ref b) ∧ Fr n0 L_ ∧ Keep h0 h_ [] ∧ h0.size ≤ b ∧ Arv Z h_ b k .int (1 : Int32) [(.int x0)] (.int (0 : Int32))
set_option maxRecDepth 65536 in
set_option maxHeartbeats 40000000 in
theorem rm10b (l : Launch) (Z : State) (a0 : Array Value) (hw : ∀ d ∈ tables_1, d.before a0 Z = true) (ws : List Jvm.Cond) (g : Addr) (bx : Addr) (by_ : Addr) (kx : ClassId) (ky : ClassId) (x0 : Int32) (x1 : Int32) (y0 : Int32) (y1 : Int32) (h0 : Heap) (n0 : Nat) (Z0 : n0 ≤ h0.size) (P0 : Fld Z h0 g "com/example/frisk/frisk/pattern/StateGraph" "next" "[I" (.ref bx)) (P1 : Fld Z h0 g "com/example/frisk/frisk/pattern/StateGraph" "alternative" "[I" (.ref by_)) (P2 : Arv Z h0 bx kx .int (2 : Int32) [(.int x0), (.int x1)] (.int (0 : Int32))) (P3 : Arv Z h0 by_ ky .int (2 : Int32) [(.int y0), (.int y1)] (.int (0 : Int32))) (hh0 : ¬ (x0 = (-1 : Int32))) (hh1 : y0 = (-1 : Int32)) :
    MetFree l (⟨"com/example/frisk/frisk/pattern/StateGraph", "successors", "(I)[I"⟩ : MethodName) (head1 (Jvm.Cond.code (⟨"com/example/frisk/frisk/pattern/StateGraph", "successors", "(I)[I"⟩ : MethodName) prog_109_method_9_code 3 (some (.array .int)) :: ws) ({ frames := 0, cells := 1, slots := 1, locals := 0 } : Room)) (fun ar_ U_ => ar_ = #[(.ref g), (.int (0 : Int32))] ∧ Z.Warmed39 U_.vm ∧ U_.heap = h0) (fun _ _ _ _ _ => True) (fun _ U_ o_ U2_ => ∃ v_ L_, o_ = .returned v_ ∧ Q10b Z g bx by_ kx ky x0 x1 y0 y1 h0 n0 v_ U2_.heap L_ ∧ FrameEnd U_ o_ U2_ L_ ({ frames := 0, cells := 1, slots := 1, locals := 0 } : Room).cells ({ frames := 0, cells := 1, slots := 1, locals := 0 } : Room).slots) := by
  refine MetFree.of_bodySF (plainFor_of_name pn_4) hisR ?_
  intro p e s m args below meth c s₁ Bd hml0 hP hK
  obtain ⟨rfl, hZ, hh⟩ := hP
  have hx := Bd.exec
  have hby := Bd.bytes
  have hml : c.maxLocals = 3 := hml0
  have hown : s.vm.findClass "com/example/frisk/frisk/pattern/StateGraph" = some m.cls := findClass_of_methodNamed Bd.named
  have hnm := (name_of_methodNamed Bd.named Bd.method).1
  have X0 : Stand p l e ({ frames := 0, cells := 1, slots := 1, locals := 0 } : Room) s m #[(.ref g), (.int (0 : Int32))] below meth c s₁ [] 0 0 := Stand.of_body Bd
  have e0 : s₁.heap = h0 := by rw [← hh, Bd.state]; rfl
  have N0 := Fr.nil n0
  refine own_gl ?_
  refine own_st (S' := s₁.setTop (mkF m 0 #[.val (.ref g), .val (.int (0 : Int32)), .unset] [])) (fun t_ k_ => castTop (ef_10b m g) k_) ?_
  refine own_st (S' := s₁.setTop (mkF m 1 #[.val (.ref g), .val (.int (0 : Int32)), .unset] [(.ref g)])) (fun t_ k_ => XS.aloadN X0.here hx rfl (hb hby d10_0) rfl rfl k_) ?_
  obtain ⟨T_1, X_1, e_1, st_1⟩ := getF X0 hx hZ hown (host := "") (Or.inl (hw _ (List.mem_of_getElem? (i := 49) rfl))) Via.refl e0 P0 (g := (mkF m 1 #[.val (.ref g), .val (.int (0 : Int32)), .unset] [(.ref g)])) rfl rfl (hb hby d10_1)
  refine own_st (S' := T_1.setTop (mkF m 4 #[.val (.ref g), .val (.int (0 : Int32)), .unset] [(.ref bx)])) st_1 ?_
  refine own_st (S' := T_1.setTop (mkF m 5 #[.val (.ref g), .val (.int (0 : Int32)), .unset] [(.int (0 : Int32)), (.ref bx)])) (fun t_ k_ => XS.iloadN X_1.here hx rfl (hb hby d10_4) rfl k_) ?_
  obtain ⟨cl_2, Ar_2, q_2, S_2, M_2, H_2, G_2⟩ := id P2
  have hin_2 : ¬ ((0 : Int32) < 0 ∨ cl_2.slots.size ≤ ((0 : Int32)).toNatClampNeg) := inb_of S_2 ⟨by decide, by decide⟩
  have hat_2 : cl_2.slots[((0 : Int32)).toNatClampNeg]? = some (.int x0) := H_2.at hin_2 rfl
  refine own_st (S' := T_1.setTop (mkF m 6 #[.val (.ref g), .val (.int (0 : Int32)), .unset] [(.int x0)])) (fun t_ k_ => X_1.iaload hx (j := (0 : Int32)) (v := (.int x0)) (by rw [e_1]; exact Ar_2.1) (State.isArrayOf_alike hZ.alike Ar_2.2.1) Ar_2.2.2 hin_2 hat_2 (g := (mkF m 5 #[.val (.ref g), .val (.int (0 : Int32)), .unset] [(.int (0 : Int32)), (.ref bx)])) rfl rfl (hb hby d10_5) _ k_) ?_
  refine own_st (S' := T_1.setTop (mkF m 7 #[.val (.ref g), .val (.int (0 : Int32)), .unset] [(.int (-1 : Int32)), (.int x0)])) (fun t_ k_ => XS.iconst X_1.here hx rfl (hb hby d10_6) k_) ?_
  refine own_st (S' := T_1.setTop (mkF m 17 #[.val (.ref g), .val (.int (0 : Int32)), .unset] [])) (fun t_ k_ => XS.icmpYes X_1.here hx rfl (pc0 := 7) (pc' := 17) rfl (hb hby d10_7) rfl (feq hh0).2 (by decide) (by decide) k_) ?_
  refine own_st (S' := T_1.setTop (mkF m 18 #[.val (.ref g), .val (.int (0 : Int32)), .unset] [(.ref g)])) (fun t_ k_ => XS.aloadN X_1.here hx rfl (hb hby d10_17) rfl rfl k_) ?_
  obtain ⟨T_3, X_3, e_3, st_3⟩ := getF X_1 hx hZ hown (host := "") (Or.inl (hw _ (List.mem_of_getElem? (i := 51) rfl))) Via.refl e_1 P1 (g := (mkF m 18 #[.val (.ref g), .val (.int (0 : Int32)), .unset] [(.ref g)])) rfl rfl (hb hby d10_18)
  refine own_st (S' := T_3.setTop (mkF m 21 #[.val (.ref g), .val (.int (0 : Int32)), .unset] [(.ref by_)])) st_3 ?_
  refine own_st (S' := T_3.setTop (mkF m 22 #[.val (.ref g), .val (.int (0 : Int32)), .unset] [(.int (0 : Int32)), (.ref by_)])) (fun t_ k_ => XS.iloadN X_3.here hx rfl (hb hby d10_21) rfl k_) ?_
  obtain ⟨cl_4, Ar_4, q_4, S_4, M_4, H_4, G_4⟩ := id P3
  have hin_4 : ¬ ((0 : Int32) < 0 ∨ cl_4.slots.size ≤ ((0 : Int32)).toNatClampNeg) := inb_of S_4 ⟨by decide, by decide⟩
  have hat_4 : cl_4.slots[((0 : Int32)).toNatClampNeg]? = some (.int y0) := H_4.at hin_4 rfl
  refine own_st (S' := T_3.setTop (mkF m 23 #[.val (.ref g), .val (.int (0 : Int32)), .unset] [(.int y0)])) (fun t_ k_ => X_3.iaload hx (j := (0 : Int32)) (v := (.int y0)) (by rw [e_3]; exact Ar_4.1) (State.isArrayOf_alike hZ.alike Ar_4.2.1) Ar_4.2.2 hin_4 hat_4 (g := (mkF m 22 #[.val (.ref g), .val (.int (0 : Int32)), .unset] [(.int (0 : Int32)), (.ref by_)])) rfl rfl (hb hby d10_22) _ k_) ?_
  refine own_st (S' := T_3.setTop (mkF m 24 #[.val (.ref g), .val (.int (0 : Int32)), .unset] [(.int (-1 : Int32)), (.int y0)])) (fun t_ k_ => XS.iconst X_3.here hx rfl (hb hby d10_23) k_) ?_
  refine own_st (S' := T_3.setTop (mkF m 27 #[.val (.ref g), .val (.int (0 : Int32)), .unset] [])) (fun t_ k_ => XS.icmpNo X_3.here hx rfl (hb hby d10_24) rfl (teq hh1).2 k_) ?_
  refine own_st (S' := T_3.setTop (mkF m 28 #[.val (.ref g), .val (.int (0 : Int32)), .unset] [(.int (1 : Int32))])) (fun t_ k_ => XS.iconst X_3.here hx rfl (hb hby d10_27) k_) ?_
  obtain ⟨T_5, h_5, k_5, X_5, e_5, E_5, A_5, B_5, st_5⟩ := newPE X_3 hx hZ (hw _ (List.mem_of_getElem? (i := 0) rfl)) e_3 (g := (mkF m 28 #[.val (.ref g), .val (.int (0 : Int32)), .unset] [(.int (1 : Int32))])) rfl (hb hby d10_28) rfl (by decide) (cap := 1) (by decide) (by decide) (by decide) (by decide) (ad := "[I") (by decide)
  obtain ⟨b_5, gg_5⟩ : ∃ z, z = h0.size := ⟨_, rfl⟩
  rw [← gg_5] at A_5 B_5 st_5
  have ne_bx_b_5 : bx ≠ b_5 := Nat.ne_of_lt (Nat.lt_of_lt_of_le P2.lt (Nat.le_of_eq gg_5.symm))
  have ne_by__b_5 : by_ ≠ b_5 := Nat.ne_of_lt (Nat.lt_of_lt_of_le P3.lt (Nat.le_of_eq gg_5.symm))
  have ne_g_b_5 : g ≠ b_5 := Nat.ne_of_lt (Nat.lt_of_lt_of_le P0.lt (Nat.le_of_eq gg_5.symm))
  have g_b_5 : n0 ≤ b_5 := Nat.le_trans Z0 (Nat.le_of_eq gg_5.symm)
  have sz_b_5 : h0.size ≤ b_5 := Nat.le_trans (Keep.refl h0 []).1 (Nat.le_of_eq gg_5.symm)
  have Z_5 : n0 ≤ h_5.size := Nat.le_trans Z0 E_5.1
  have K_5 : Keep h0 h_5 [] := (Keep.refl h0 []).ext E_5
  have V_5 : Arv Z h_5 b_5 k_5 .int (1 : Int32) [(.int (0 : Int32))] (.int (0 : Int32)) := (Arv.new A_5 (by decide)).pad (pad_rep [] (.int (0 : Int32)) 1)
  refine own_st (S' := T_5.setTop (mkF m 30 #[.val (.ref g), .val (.int (0 : Int32)), .unset] [(.ref b_5)])) st_5 ?_
  refine own_st (S' := T_5.setTop (mkF m 31 #[.val (.ref g), .val (.int (0 : Int32)), .unset] [(.ref b_5), (.ref b_5)])) (fun t_ k_ => XS.dup X_5.here hx rfl (hb hby d10_30) rfl rfl k_) ?_
  refine own_st (S' := T_5.setTop (mkF m 32 #[.val (.ref g), .val (.int (0 : Int32)), .unset] [(.int (0 : Int32)), (.ref b_5), (.ref b_5)])) (fun t_ k_ => XS.iconst X_5.here hx rfl (hb hby d10_31) k_) ?_
  refine own_st (S' := T_5.setTop (mkF m 33 #[.val (.ref g), .val (.int (0 : Int32)), .unset] [(.ref g), (.int (0 : Int32)), (.ref b_5), (.ref b_5)])) (fun t_ k_ => XS.aloadN X_5.here hx rfl (hb hby d10_32) rfl rfl k_) ?_
  have f_6 : Fld Z h_5 g "com/example/frisk/frisk/pattern/StateGraph" "next" "[I" (.ref bx) := (Fld.ext E_5 P0)
  obtain ⟨T_7, X_7, e_7, st_7⟩ := getF X_5 hx hZ hown (host := "") (Or.inl (hw _ (List.mem_of_getElem? (i := 49) rfl))) Via.refl e_5 f_6 (g := (mkF m 33 #[.val (.ref g), .val (.int (0 : Int32)), .unset] [(.ref g), (.int (0 : Int32)), (.ref b_5), (.ref b_5)])) rfl rfl (hb hby d10_33)
  refine own_st (S' := T_7.setTop (mkF m 36 #[.val (.ref g), .val (.int (0 : Int32)), .unset] [(.ref bx), (.int (0 : Int32)), (.ref b_5), (.ref b_5)])) st_7 ?_
  refine own_st (S' := T_7.setTop (mkF m 37 #[.val (.ref g), .val (.int (0 : Int32)), .unset] [(.int (0 : Int32)), (.ref bx), (.int (0 : Int32)), (.ref b_5), (.ref b_5)])) (fun t_ k_ => XS.iloadN X_7.here hx rfl (hb hby d10_36) rfl k_) ?_
  have f_9 : Arv Z h_5 bx kx .int (2 : Int32) [(.int x0), (.int x1)] (.int (0 : Int32)) := (P2.ext E_5)
  obtain ⟨cl_8, Ar_8, q_8, S_8, M_8, H_8, G_8⟩ := id f_9
  have hin_8 : ¬ ((0 : Int32) < 0 ∨ cl_8.slots.size ≤ ((0 : Int32)).toNatClampNeg) := inb_of S_8 ⟨by decide, by decide⟩
  have hat_8 : cl_8.slots[((0 : Int32)).toNatClampNeg]? = some (.int x0) := H_8.at hin_8 rfl
  refine own_st (S' := T_7.setTop (mkF m 38 #[.val (.ref g), .val (.int (0 : Int32)), .unset] [(.int x0), (.int (0 : Int32)), (.ref b_5), (.ref b_5)])) (fun t_ k_ => X_7.iaload hx (j := (0 : Int32)) (v := (.int x0)) (by rw [e_7]; exact Ar_8.1) (State.isArrayOf_alike hZ.alike Ar_8.2.1) Ar_8.2.2 hin_8 hat_8 (g := (mkF m 37 #[.val (.ref g), .val (.int (0 : Int32)), .unset] [(.int (0 : Int32)), (.ref bx), (.int (0 : Int32)), (.ref b_5), (.ref b_5)])) rfl rfl (hb hby d10_37) _ k_) ?_
  obtain ⟨cl_10, Ar_10, q_10, S_10, M_10, H_10, G_10⟩ := id V_5
  have hin_10 : ¬ ((0 : Int32) < 0 ∨ cl_10.slots.size ≤ ((0 : Int32)).toNatClampNeg) := inb_of S_10 ⟨by decide, by decide⟩
  obtain ⟨T_10, h_10, X_10, e_10, W_10, st_10⟩ := stI X_7 hx hZ e_7 Ar_10 (j := (0 : Int32)) hin_10 (g := (mkF m 38 #[.val (.ref g), .val (.int (0 : Int32)), .unset] [(.int x0), (.int (0 : Int32)), (.ref b_5), (.ref b_5)])) rfl rfl (hb hby d10_38)
  have Z_10 : n0 ≤ h_10.size := Nat.le_trans Z_5 (Keep.of_wr W_10).1
  have N_10 := Fr.snoc X_10 N0 g_b_5
  have K_10 : Keep h0 h_10 [] := K_5.wr W_10 (Or.inr sz_b_5)
  have V_10 : Arv Z h_10 b_5 k_5 .int (1 : Int32) [(.int x0)] (.int (0 : Int32)) := Arv.set Ar_10 q_10 S_10 M_10 H_10 G_10 rfl W_10 0 rfl (Nat.le_of_ble_eq_true rfl)
  refine own_st (S' := T_10.setTop (mkF m 39 #[.val (.ref g), .val (.int (0 : Int32)), .unset] [(.ref b_5)])) st_10 ?_
  refine own_st (S' := T_10.setTop (mkF m 40 #[.val (.ref g), .val (.int (0 : Int32)), .val (.ref b_5)] [])) (fun t_ k_ => XS.astoreN X_10.here hx rfl (hb hby d10_39) rfl rfl (l' := #[.val (.ref g), .val (.int (0 : Int32)), .val (.ref b_5)]) rfl k_) ?_
  refine own_st (S' := T_10.setTop (mkF m 65 #[.val (.ref g), .val (.int (0 : Int32)), .val (.ref b_5)] [])) (fun t_ k_ => XS.goto X_10.here hx rfl (pc0 := 40) (pc' := 65) rfl (hb hby d10_40) (by decide) (by decide) k_) ?_
  refine own_st (S' := T_10.setTop (mkF m 66 #[.val (.ref g), .val (.int (0 : Int32)), .val (.ref b_5)] [(.ref b_5)])) (fun t_ k_ => XS.aloadN X_10.here hx rfl (hb hby d10_65) rfl rfl k_) ?_
  obtain ⟨fs, hr, hrun, hended, hW, hsame⟩ := X_10.leave (v := some (.ref b_5)) (fun h => by rw [Bd.returns] at h; cases h)
  refine ⟨_, _, own_retR X_10 hx Bd.returns rfl rfl (hb hby d10_66) hr, hrun, hended, _, _, rfl, ?_, ⟨_, rfl⟩, hW, hsame.mono (by decide) (by decide)⟩
  show Q10b Z g bx by_ kx ky x0 x1 y0 y1 h0 n0 _ T_10.heap _
  rw [e_10]
  exact ⟨b_5, k_5, rfl, N_10, K_10, sz_b_5, V_10⟩
theorem d10_43 : decode prog_109_method_9_code 43 = .ok (.iconst 2, 1) := by decide +kernel
theorem d10_44 : decode prog_109_method_9_code 44 = .ok (.newarray .int, 2) := by decide +kernel
theorem d10_46 : decode prog_109_method_9_code 46 = .ok (.dup, 1) := by decide +kernel
theorem d10_47 : decode prog_109_method_9_code 47 = .ok (.iconst 0, 1) := by decide +kernel
theorem d10_48 : decode prog_109_method_9_code 48 = .ok (.aload_n 0, 1) := by decide +kernel
theorem d10_49 : decode prog_109_method_9_code 49 = .ok (.getfield 19, 3) := by decide +kernel
theorem d10_52 : decode prog_109_method_9_code 52 = .ok (.iload_n 1, 1) := by decide +kernel
theorem d10_53 : decode prog_109_method_9_code 53 = .ok (.iaload, 1) := by decide +kernel
theorem d10_54 : decode prog_109_method_9_code 54 = .ok (.iastore, 1) := by decide +kernel
theorem d10_55 : decode prog_109_method_9_code 55 = .ok (.dup, 1) := by decide +kernel
theorem d10_56 : decode prog_109_method_9_code 56 = .ok (.iconst 1, 1) := by decide +kernel
theorem d10_57 : decode prog_109_method_9_code 57 = .ok (.aload_n 0, 1) := by decide +kernel
theorem d10_58 : decode prog_109_method_9_code 58 = .ok (.getfield 22, 3) := by decide +kernel
theorem d10_61 : decode prog_109_method_9_code 61 = .ok (.iload_n 1, 1) := by decide +kernel
theorem d10_62 : decode prog_109_method_9_code 62 = .ok (.iaload, 1) := by decide +kernel
theorem d10_63 : decode prog_109_method_9_code 63 = .ok (.iastore, 1) := by decide +kernel
theorem d10_64 : decode prog_109_method_9_code 64 = .ok (.astore_n 2, 1) := by decide +kernel
theorem ef_10c (m : MethodId) (g : Addr) : entryFrame m #[(.ref g), (.int (0 : Int32))] 3 = mkF m 0 #[.val (.ref g), .val (.int (0 : Int32)), .unset] [] := by first | (simp [entryFrame, mkF, argsToLocals, Value.category]; done) | rfl
def Q10c (Z : State) (g : Addr) (bx : Addr) (by_ : Addr) (kx : ClassId) (ky : ClassId) (x0 : Int32) (x1 : Int32) (y0 : Int32) (y1 : Int32) (h0 : Heap) (n0 : Nat) (v_ : Option Value) (h_ : Heap) (L_ : List Loc) : Prop := ∃ b : Addr, ∃ k : ClassId, v_ = some (.ref b) ∧ Fr n0 L_ ∧ Keep h0 h_ [] ∧ h0.size ≤ b ∧ Arv Z h_ b k .int (2 : Int32) [(.int x0), (.int y0)] (.int (0 : Int32))
set_option maxRecDepth 65536 in
set_option maxHeartbeats 40000000 in
theorem rm10c (l : Launch) (Z : State) (a0 : Array Value) (hw : ∀ d ∈ tables_1, d.before a0 Z = true) (ws : List Jvm.Cond) (g : Addr) (bx : Addr) (by_ : Addr) (kx : ClassId) (ky : ClassId) (x0 : Int32) (x1 : Int32) (y0 : Int32) (y1 : Int32) (h0 : Heap) (n0 : Nat) (Z0 : n0 ≤ h0.size) (P0 : Fld Z h0 g "com/example/frisk/frisk/pattern/StateGraph" "next" "[I" (.ref bx)) (P1 : Fld Z h0 g "com/example/frisk/frisk/pattern/StateGraph" "alternative" "[I" (.ref by_)) (P2 : Arv Z h0 bx kx .int (2 : Int32) [(.int x0), (.int x1)] (.int (0 : Int32))) (P3 : Arv Z h0 by_ ky .int (2 : Int32) [(.int y0), (.int y1)] (.int (0 : Int32))) (hh0 : ¬ (x0 = (-1 : Int32))) (hh1 : ¬ (y0 = (-1 : Int32))) :
    MetFree l (⟨"com/example/frisk/frisk/pattern/StateGraph", "successors", "(I)[I"⟩ : MethodName) (head1 (Jvm.Cond.code (⟨"com/example/frisk/frisk/pattern/StateGraph", "successors", "(I)[I"⟩ : MethodName) prog_109_method_9_code 3 (some (.array .int)) :: ws) ({ frames := 0, cells := 1, slots := 2, locals := 0 } : Room)) (fun ar_ U_ => ar_ = #[(.ref g), (.int (0 : Int32))] ∧ Z.Warmed39 U_.vm ∧ U_.heap = h0) (fun _ _ _ _ _ => True) (fun _ U_ o_ U2_ => ∃ v_ L_, o_ = .returned v_ ∧ Q10c Z g bx by_ kx ky x0 x1 y0 y1 h0 n0 v_ U2_.heap L_ ∧ FrameEnd U_ o_ U2_ L_ ({ frames := 0, cells := 1, slots := 2, locals := 0 } : Room).cells ({ frames := 0, cells := 1, slots := 2, locals := 0 } : Room).slots) := by
  refine MetFree.of_bodySF (plainFor_of_name pn_4) hisR ?_
  intro p e s m args below meth c s₁ Bd hml0 hP hK
  obtain ⟨rfl, hZ, hh⟩ := hP
  have hx := Bd.exec
  have hby := Bd.bytes
  have hml : c.maxLocals = 3 := hml0
  have hown : s.vm.findClass "com/example/frisk/frisk/pattern/StateGraph" = some m.cls := findClass_of_methodNamed Bd.named
  have hnm := (name_of_methodNamed Bd.named Bd.method).1
  have X0 : Stand p l e ({ frames := 0, cells := 1, slots := 2, locals := 0 } : Room) s m #[(.ref g), (.int (0 : Int32))] below meth c s₁ [] 0 0 := Stand.of_body Bd
  have e0 : s₁.heap = h0 := by rw [← hh, Bd.state]; rfl
  have N0 := Fr.nil n0
  refine own_gl ?_
  refine own_st (S' := s₁.setTop (mkF m 0 #[.val (.ref g), .val (.int (0 : Int32)), .unset] [])) (fun t_ k_ => castTop (ef_10c m g) k_) ?_
  refine own_st (S' := s₁.setTop (mkF m 1 #[.val (.ref g), .val (.int (0 : Int32)), .unset] [(.ref g)])) (fun t_ k_ => XS.aloadN X0.here hx rfl (hb hby d10_0) rfl rfl k_) ?_
  obtain ⟨T_1, X_1, e_1, st_1⟩ := getF X0 hx hZ hown (host := "") (Or.inl (hw _ (List.mem_of_getElem? (i := 49) rfl))) Via.refl e0 P0 (g := (mkF m 1 #[.val (.ref g), .val (.int (0 : Int32)), .unset] [(.ref g)])) rfl rfl (hb hby d10_1)
  refine own_st (S' := T_1.setTop (mkF m 4 #[.val (.ref g), .val (.int (0 : Int32)), .unset] [(.ref bx)])) st_1 ?_
  refine own_st (S' := T_1.setTop (mkF m 5 #[.val (.ref g), .val (.int (0 : Int32)), .unset] [(.int (0 : Int32)), (.ref bx)])) (fun t_ k_ => XS.iloadN X_1.here hx rfl (hb hby d10_4) rfl k_) ?_
  obtain ⟨cl_2, Ar_2, q_2, S_2, M_2, H_2, G_2⟩ := id P2
  have hin_2 : ¬ ((0 : Int32) < 0 ∨ cl_2.slots.size ≤ ((0 : Int32)).toNatClampNeg) := inb_of S_2 ⟨by decide, by decide⟩
  have hat_2 : cl_2.slots[((0 : Int32)).toNatClampNeg]? = some (.int x0) := H_2.at hin_2 rfl
  refine own_st (S' := T_1.setTop (mkF m 6 #[.val (.ref g), .val (.int (0 : Int32)), .unset] [(.int x0)])) (fun t_ k_ => X_1.iaload hx (j := (0 : Int32)) (v := (.int x0)) (by rw [e_1]; exact Ar_2.1) (State.isArrayOf_alike hZ.alike Ar_2.2.1) Ar_2.2.2 hin_2 hat_2 (g := (mkF m 5 #[.val (.ref g), .val (.int (0 : Int32)), .unset] [(.int (0 : Int32)), (.ref bx)])) rfl rfl (hb hby d10_5) _ k_) ?_
  refine own_st (S' := T_1.setTop (mkF m 7 #[.val (.ref g), .val (.int (0 : Int32)), .unset] [(.int (-1 : Int32)), (.int x0)])) (fun t_ k_ => XS.iconst X_1.here hx rfl (hb hby d10_6) k_) ?_
  refine own_st (S' := T_1.setTop (mkF m 17 #[.val (.ref g), .val (.int (0 : Int32)), .unset] [])) (fun t_ k_ => XS.icmpYes X_1.here hx rfl (pc0 := 7) (pc' := 17) rfl (hb hby d10_7) rfl (feq hh0).2 (by decide) (by decide) k_) ?_
  refine own_st (S' := T_1.setTop (mkF m 18 #[.val (.ref g), .val (.int (0 : Int32)), .unset] [(.ref g)])) (fun t_ k_ => XS.aloadN X_1.here hx rfl (hb hby d10_17) rfl rfl k_) ?_
  obtain ⟨T_3, X_3, e_3, st_3⟩ := getF X_1 hx hZ hown (host := "") (Or.inl (hw _ (List.mem_of_getElem? (i := 51) rfl))) Via.refl e_1 P1 (g := (mkF m 18 #[.val (.ref g), .val (.int (0 : Int32)), .unset] [(.ref g)])) rfl rfl (hb hby d10_18)
  refine own_st (S' := T_3.setTop (mkF m 21 #[.val (.ref g), .val (.int (0 : Int32)), .unset] [(.ref by_)])) st_3 ?_
  refine own_st (S' := T_3.setTop (mkF m 22 #[.val (.ref g), .val (.int (0 : Int32)), .unset] [(.int (0 : Int32)), (.ref by_)])) (fun t_ k_ => XS.iloadN X_3.here hx rfl (hb hby d10_21) rfl k_) ?_
  obtain ⟨cl_4, Ar_4, q_4, S_4, M_4, H_4, G_4⟩ := id P3
  have hin_4 : ¬ ((0 : Int32) < 0 ∨ cl_4.slots.size ≤ ((0 : Int32)).toNatClampNeg) := inb_of S_4 ⟨by decide, by decide⟩
  have hat_4 : cl_4.slots[((0 : Int32)).toNatClampNeg]? = some (.int y0) := H_4.at hin_4 rfl
  refine own_st (S' := T_3.setTop (mkF m 23 #[.val (.ref g), .val (.int (0 : Int32)), .unset] [(.int y0)])) (fun t_ k_ => X_3.iaload hx (j := (0 : Int32)) (v := (.int y0)) (by rw [e_3]; exact Ar_4.1) (State.isArrayOf_alike hZ.alike Ar_4.2.1) Ar_4.2.2 hin_4 hat_4 (g := (mkF m 22 #[.val (.ref g), .val (.int (0 : Int32)), .unset] [(.int (0 : Int32)), (.ref by_)])) rfl rfl (hb hby d10_22) _ k_) ?_
  refine own_st (S' := T_3.setTop (mkF m 24 #[.val (.ref g), .val (.int (0 : Int32)), .unset] [(.int (-1 : Int32)), (.int y0)])) (fun t_ k_ => XS.iconst X_3.here hx rfl (hb hby d10_23) k_) ?_
  refine own_st (S' := T_3.setTop (mkF m 43 #[.val (.ref g), .val (.int (0 : Int32)), .unset] [])) (fun t_ k_ => XS.icmpYes X_3.here hx rfl (pc0 := 24) (pc' := 43) rfl (hb hby d10_24) rfl (feq hh1).2 (by decide) (by decide) k_) ?_
  refine own_st (S' := T_3.setTop (mkF m 44 #[.val (.ref g), .val (.int (0 : Int32)), .unset] [(.int (2 : Int32))])) (fun t_ k_ => XS.iconst X_3.here hx rfl (hb hby d10_43) k_) ?_
  obtain ⟨T_5, h_5, k_5, X_5, e_5, E_5, A_5, B_5, st_5⟩ := newPE X_3 hx hZ (hw _ (List.mem_of_getElem? (i := 0) rfl)) e_3 (g := (mkF m 44 #[.val (.ref g), .val (.int (0 : Int32)), .unset] [(.int (2 : Int32))])) rfl (hb hby d10_44) rfl (by decide) (cap := 2) (by decide) (by decide) (by decide) (by decide) (ad := "[I") (by decide)
  obtain ⟨b_5, gg_5⟩ : ∃ z, z = h0.size := ⟨_, rfl⟩
  rw [← gg_5] at A_5 B_5 st_5
  have ne_bx_b_5 : bx ≠ b_5 := Nat.ne_of_lt (Nat.lt_of_lt_of_le P2.lt (Nat.le_of_eq gg_5.symm))
  have ne_by__b_5 : by_ ≠ b_5 := Nat.ne_of_lt (Nat.lt_of_lt_of_le P3.lt (Nat.le_of_eq gg_5.symm))
  have ne_g_b_5 : g ≠ b_5 := Nat.ne_of_lt (Nat.lt_of_lt_of_le P0.lt (Nat.le_of_eq gg_5.symm))
  have g_b_5 : n0 ≤ b_5 := Nat.le_trans Z0 (Nat.le_of_eq gg_5.symm)
  have sz_b_5 : h0.size ≤ b_5 := Nat.le_trans (Keep.refl h0 []).1 (Nat.le_of_eq gg_5.symm)
  have Z_5 : n0 ≤ h_5.size := Nat.le_trans Z0 E_5.1
  have K_5 : Keep h0 h_5 [] := (Keep.refl h0 []).ext E_5
  have V_5 : Arv Z h_5 b_5 k_5 .int (2 : Int32) [(.int (0 : Int32)), (.int (0 : Int32))] (.int (0 : Int32)) := (Arv.new A_5 (by decide)).pad (pad_rep [] (.int (0 : Int32)) 2)
  refine own_st (S' := T_5.setTop (mkF m 46 #[.val (.ref g), .val (.int (0 : Int32)), .unset] [(.ref b_5)])) st_5 ?_
  refine own_st (S' := T_5.setTop (mkF m 47 #[.val (.ref g), .val (.int (0 : Int32)), .unset] [(.ref b_5), (.ref b_5)])) (fun t_ k_ => XS.dup X_5.here hx rfl (hb hby d10_46) rfl rfl k_) ?_
  refine own_st (S' := T_5.setTop (mkF m 48 #[.val (.ref g), .val (.int (0 : Int32)), .unset] [(.int (0 : Int32)), (.ref b_5), (.ref b_5)])) (fun t_ k_ => XS.iconst X_5.here hx rfl (hb hby d10_47) k_) ?_
  refine own_st (S' := T_5.setTop (mkF m 49 #[.val (.ref g), .val (.int (0 : Int32)), .unset] [(.ref g), (.int (0 : Int32)), (.ref b_5), (.ref b_5)])) (fun t_ k_ => XS.aloadN X_5.here hx rfl (hb hby d10_48) rfl rfl k_) ?_
  have f_6 : Fld Z h_5 g "com/example/frisk/frisk/pattern/StateGraph" "next" "[I" (.ref bx) := (Fld.ext E_5 P0)
  obtain ⟨T_7, X_7, e_7, st_7⟩ := getF X_5 hx hZ hown (host := "") (Or.inl (hw _ (List.mem_of_getElem? (i := 49) rfl))) Via.refl e_5 f_6 (g := (mkF m 49 #[.val (.ref g), .val (.int (0 : Int32)), .unset] [(.ref g), (.int (0 : Int32)), (.ref b_5), (.ref b_5)])) rfl rfl (hb hby d10_49)
  refine own_st (S' := T_7.setTop (mkF m 52 #[.val (.ref g), .val (.int (0 : Int32)), .unset] [(.ref bx), (.int (0 : Int32)), (.ref b_5), (.ref b_5)])) st_7 ?_
  refine own_st (S' := T_7.setTop (mkF m 53 #[.val (.ref g), .val (.int (0 : Int32)), .unset] [(.int (0 : Int32)), (.ref bx), (.int (0 : Int32)), (.ref b_5), (.ref b_5)])) (fun t_ k_ => XS.iloadN X_7.here hx rfl (hb hby d10_52) rfl k_) ?_
  have f_9 : Arv Z h_5 bx kx .int (2 : Int32) [(.int x0), (.int x1)] (.int (0 : Int32)) := (P2.ext E_5)
  obtain ⟨cl_8, Ar_8, q_8, S_8, M_8, H_8, G_8⟩ := id f_9
  have hin_8 : ¬ ((0 : Int32) < 0 ∨ cl_8.slots.size ≤ ((0 : Int32)).toNatClampNeg) := inb_of S_8 ⟨by decide, by decide⟩
  have hat_8 : cl_8.slots[((0 : Int32)).toNatClampNeg]? = some (.int x0) := H_8.at hin_8 rfl
  refine own_st (S' := T_7.setTop (mkF m 54 #[.val (.ref g), .val (.int (0 : Int32)), .unset] [(.int x0), (.int (0 : Int32)), (.ref b_5), (.ref b_5)])) (fun t_ k_ => X_7.iaload hx (j := (0 : Int32)) (v := (.int x0)) (by rw [e_7]; exact Ar_8.1) (State.isArrayOf_alike hZ.alike Ar_8.2.1) Ar_8.2.2 hin_8 hat_8 (g := (mkF m 53 #[.val (.ref g), .val (.int (0 : Int32)), .unset] [(.int (0 : Int32)), (.ref bx), (.int (0 : Int32)), (.ref b_5), (.ref b_5)])) rfl rfl (hb hby d10_53) _ k_) ?_
  obtain ⟨cl_10, Ar_10, q_10, S_10, M_10, H_10, G_10⟩ := id V_5
  have hin_10 : ¬ ((0 : Int32) < 0 ∨ cl_10.slots.size ≤ ((0 : Int32)).toNatClampNeg) := inb_of S_10 ⟨by decide, by decide⟩
  obtain ⟨T_10, h_10, X_10, e_10, W_10, st_10⟩ := stI X_7 hx hZ e_7 Ar_10 (j := (0 : Int32)) hin_10 (g := (mkF m 54 #[.val (.ref g), .val (.int (0 : Int32)), .unset] [(.int x0), (.int (0 : Int32)), (.ref b_5), (.ref b_5)])) rfl rfl (hb hby d10_54)
  have Z_10 : n0 ≤ h_10.size := Nat.le_trans Z_5 (Keep.of_wr W_10).1
  have N_10 := Fr.snoc X_10 N0 g_b_5
  have K_10 : Keep h0 h_10 [] := K_5.wr W_10 (Or.inr sz_b_5)
  have V_10 : Arv Z h_10 b_5 k_5 .int (2 : Int32) [(.int x0), (.int (0 : Int32))] (.int (0 : Int32)) := Arv.set Ar_10 q_10 S_10 M_10 H_10 G_10 rfl W_10 0 rfl (Nat.le_of_ble_eq_true rfl)
  refine own_st (S' := T_10.setTop (mkF m 55 #[.val (.ref g), .val (.int (0 : Int32)), .unset] [(.ref b_5)])) st_10 ?_
  refine own_st (S' := T_10.setTop (mkF m 56 #[.val (.ref g), .val (.int (0 : Int32)), .unset] [(.ref b_5), (.ref b_5)])) (fun t_ k_ => XS.dup X_10.here hx rfl (hb hby d10_55) rfl rfl k_) ?_
  refine own_st (S' := T_10.setTop (mkF m 57 #[.val (.ref g), .val (.int (0 : Int32)), .unset] [(.int (1 : Int32)), (.ref b_5), (.ref b_5)])) (fun t_ k_ => XS.iconst X_10.here hx rfl (hb hby d10_56) k_) ?_
  refine own_st (S' := T_10.setTop (mkF m 58 #[.val (.ref g), .val (.int (0 : Int32)), .unset] [(.ref g), (.int (1 : Int32)), (.ref b_5), (.ref b_5)])) (fun t_ k_ => XS.aloadN X_10.here hx rfl (hb hby d10_57) rfl rfl k_) ?_
  have f_11 : Fld Z h_10 g "com/example/frisk/frisk/pattern/StateGraph" "alternative" "[I" (.ref by_) := (Fld.other W_10 (Fld.ext E_5 P1) (Or.inl ne_g_b_5))
  obtain ⟨T_12, X_12, e_12, st_12⟩ := getF X_10 hx hZ hown (host := "") (Or.inl (hw _ (List.mem_of_getElem? (i := 51) rfl))) Via.refl e_10 f_11 (g := (mkF m 58 #[.val (.ref g), .val (.int (0 : Int32)), .unset] [(.ref g), (.int (1 : Int32)), (.ref b_5), (.ref b_5)])) rfl rfl (hb hby d10_58)
  refine own_st (S' := T_12.setTop (mkF m 61 #[.val (.ref g), .val (.int (0 : Int32)), .unset] [(.ref by_), (.int (1 : Int32)), (.ref b_5), (.ref b_5)])) st_12 ?_
  refine own_st (S' := T_12.setTop (mkF m 62 #[.val (.ref g), .val (.int (0 : Int32)), .unset] [(.int (0 : Int32)), (.ref by_), (.int (1 : Int32)), (.ref b_5), (.ref b_5)])) (fun t_ k_ => XS.iloadN X_12.here hx rfl (hb hby d10_61) rfl k_) ?_
  have f_14 : Arv Z h_10 by_ ky .int (2 : Int32) [(.int y0), (.int y1)] (.int (0 : Int32)) := ((P3.ext E_5).other W_10 ne_by__b_5)
  obtain ⟨cl_13, Ar_13, q_13, S_13, M_13, H_13, G_13⟩ := id f_14
  have hin_13 : ¬ ((0 : Int32) < 0 ∨ cl_13.slots.size ≤ ((0 : Int32)).toNatClampNeg) := inb_of S_13 ⟨by decide, by decide⟩
  have hat_13 : cl_13.slots[((0 : Int32)).toNatClampNeg]? = some (.int y0) := H_13.at hin_13 rfl
  refine own_st (S' := T_12.setTop (mkF m 63 #[.val (.ref g), .val (.int (0 : Int32)), .unset] [(.int y0), (.int (1 : Int32)), (.ref b_5), (.ref b_5)])) (fun t_ k_ => X_12.iaload hx (j := (0 : Int32)) (v := (.int y0)) (by rw [e_12]; exact Ar_13.1) (State.isArrayOf_alike hZ.alike Ar_13.2.1) Ar_13.2.2 hin_13 hat_13 (g := (mkF m 62 #[.val (.ref g), .val (.int (0 : Int32)), .unset] [(.int (0 : Int32)), (.ref by_), (.int (1 : Int32)), (.ref b_5), (.ref b_5)])) rfl rfl (hb hby d10_62) _ k_) ?_
  obtain ⟨cl_15, Ar_15, q_15, S_15, M_15, H_15, G_15⟩ := id V_10
  have hin_15 : ¬ ((1 : Int32) < 0 ∨ cl_15.slots.size ≤ ((1 : Int32)).toNatClampNeg) := inb_of S_15 ⟨by decide, by decide⟩
  obtain ⟨T_15, h_15, X_15, e_15, W_15, st_15⟩ := stI X_12 hx hZ e_12 Ar_15 (j := (1 : Int32)) hin_15 (g := (mkF m 63 #[.val (.ref g), .val (.int (0 : Int32)), .unset] [(.int y0), (.int (1 : Int32)), (.ref b_5), (.ref b_5)])) rfl rfl (hb hby d10_63)
  have Z_15 : n0 ≤ h_15.size := Nat.le_trans Z_10 (Keep.of_wr W_15).1
  have N_15 := Fr.snoc X_15 N_10 g_b_5
  have K_15 : Keep h0 h_15 [] := K_10.wr W_15 (Or.inr sz_b_5)
  have V_15 : Arv Z h_15 b_5 k_5 .int (2 : Int32) [(.int x0), (.int y0)] (.int (0 : Int32)) := Arv.set Ar_15 q_15 S_15 M_15 H_15 G_15 rfl W_15 1 rfl (Nat.le_of_ble_eq_true rfl)
  refine own_st (S' := T_15.setTop (mkF m 64 #[.val (.ref g), .val (.int (0 : Int32)), .unset] [(.ref b_5)])) st_15 ?_
  refine own_st (S' := T_15.setTop (mkF m 65 #[.val (.ref g), .val (.int (0 : Int32)), .val (.ref b_5)] [])) (fun t_ k_ => XS.astoreN X_15.here hx rfl (hb hby d10_64) rfl rfl (l' := #[.val (.ref g), .val (.int (0 : Int32)), .val (.ref b_5)]) rfl k_) ?_
  refine own_st (S' := T_15.setTop (mkF m 66 #[.val (.ref g), .val (.int (0 : Int32)), .val (.ref b_5)] [(.ref b_5)])) (fun t_ k_ => XS.aloadN X_15.here hx rfl (hb hby d10_65) rfl rfl k_) ?_
  obtain ⟨fs, hr, hrun, hended, hW, hsame⟩ := X_15.leave (v := some (.ref b_5)) (fun h => by rw [Bd.returns] at h; cases h)
  refine ⟨_, _, own_retR X_15 hx Bd.returns rfl rfl (hb hby d10_66) hr, hrun, hended, _, _, rfl, ?_, ⟨_, rfl⟩, hW, hsame.mono (by decide) (by decide)⟩
  show Q10c Z g bx by_ kx ky x0 x1 y0 y1 h0 n0 _ T_15.heap _
  rw [e_15]
  exact ⟨b_5, k_5, rfl, N_15, K_15, sz_b_5, V_15⟩
theorem ef_10d (m : MethodId) (g : Addr) : entryFrame m #[(.ref g), (.int (1 : Int32))] 3 = mkF m 0 #[.val (.ref g), .val (.int (1 : Int32)), .unset] [] := by first | (simp [entryFrame, mkF, argsToLocals, Value.category]; done) | rfl
def Q10d (Z : State) (g : Addr) (bx : Addr) (by_ : Addr) (kx : ClassId) (ky : ClassId) (x0 : Int32) (x1 : Int32) (y0 : Int32) (y1 : Int32) (h0 : Heap) (n0 : Nat) (v_ : Option Value) (h_ : Heap) (L_ : List Loc) : Prop := ∃ b : Addr, ∃ k : ClassId, v_ = some (.ref b) ∧ Fr n0 L_ ∧ Keep h0 h_ [] ∧ h0.size ≤ b ∧ Arv Z h_ b k .int (0 : Int32) [] (.int (0 : Int32))
set_option maxRecDepth 65536 in
set_option maxHeartbeats 40000000 in
theorem rm10d (l : Launch) (Z : State) (a0 : Array Value) (hw : ∀ d ∈ tables_1, d.before a0 Z = true) (ws : List Jvm.Cond) (g : Addr) (bx : Addr) (by_ : Addr) (kx : ClassId) (ky : ClassId) (x0 : Int32) (x1 : Int32) (y0 : Int32) (y1 : Int32) (h0 : Heap) (n0 : Nat) (Z0 : n0 ≤ h0.size) (P0 : Fld Z h0 g "com/example/frisk/frisk/pattern/StateGraph" "next" "[I" (.ref bx)) (P1 : Fld Z h0 g "com/example/frisk/frisk/pattern/StateGraph" "alternative" "[I" (.ref by_)) (P2 : Arv Z h0 bx kx .int (2 : Int32) [(.int x0), (.int x1)] (.int (0 : Int32))) (P3 : Arv Z h0 by_ ky .int (2 : Int32) [(.int y0), (.int y1)] (.int (0 : Int32))) (hh0 : x1 = (-1 : Int32)) :
    MetFree l (⟨"com/example/frisk/frisk/pattern/StateGraph", "successors", "(I)[I"⟩ : MethodName) (head1 (Jvm.Cond.code (⟨"com/example/frisk/frisk/pattern/StateGraph", "successors", "(I)[I"⟩ : MethodName) prog_109_method_9_code 3 (some (.array .int)) :: ws) ({ frames := 0, cells := 1, slots := 0, locals := 0 } : Room)) (fun ar_ U_ => ar_ = #[(.ref g), (.int (1 : Int32))] ∧ Z.Warmed39 U_.vm ∧ U_.heap = h0) (fun _ _ _ _ _ => True) (fun _ U_ o_ U2_ => ∃ v_ L_, o_ = .returned v_ ∧ Q10d Z g bx by_ kx ky x0 x1 y0 y1 h0 n0 v_ U2_.heap L_ ∧ FrameEnd U_ o_ U2_ L_ ({ frames := 0, cells := 1, slots := 0, locals := 0 } : Room).cells ({ frames := 0, cells := 1, slots := 0, locals := 0 } : Room).slots) := by
  refine MetFree.of_bodySF (plainFor_of_name pn_4) hisR ?_
  intro p e s m args below meth c s₁ Bd hml0 hP hK
  obtain ⟨rfl, hZ, hh⟩ := hP
  have hx := Bd.exec
  have hby := Bd.bytes
  have hml : c.maxLocals = 3 := hml0
  have hown : s.vm.findClass "com/example/frisk/frisk/pattern/StateGraph" = some m.cls := findClass_of_methodNamed Bd.named
  have hnm := (name_of_methodNamed Bd.named Bd.method).1
  have X0 : Stand p l e ({ frames := 0, cells := 1, slots := 0, locals := 0 } : Room) s m #[(.ref g), (.int (1 : Int32))] below meth c s₁ [] 0 0 := Stand.of_body Bd
  have e0 : s₁.heap = h0 := by rw [← hh, Bd.state]; rfl
  have N0 := Fr.nil n0
  refine own_gl ?_
  refine own_st (S' := s₁.setTop (mkF m 0 #[.val (.ref g), .val (.int (1 : Int32)), .unset] [])) (fun t_ k_ => castTop (ef_10d m g) k_) ?_
  refine own_st (S' := s₁.setTop (mkF m 1 #[.val (.ref g), .val (.int (1 : Int32)), .unset] [(.ref g)])) (fun t_ k_ => XS.aloadN X0.here hx rfl (hb hby d10_0) rfl rfl k_) ?_
  obtain ⟨T_1, X_1, e_1, st_1⟩ := getF X0 hx hZ hown (host := "") (Or.inl (hw _ (List.mem_of_getElem? (i := 49) rfl))) Via.refl e0 P0 (g := (mkF m 1 #[.val (.ref g), .val (.int (1 : Int32)), .unset] [(.ref g)])) rfl rfl (hb hby d10_1)
  refine own_st (S' := T_1.setTop (mkF m 4 #[.val (.ref g), .val (.int (1 : Int32)), .unset] [(.ref bx)])) st_1 ?_
  refine own_st (S' := T_1.setTop (mkF m 5 #[.val (.ref g), .val (.int (1 : Int32)), .unset] [(.int (1 : Int32)), (.ref bx)])) (fun t_ k_ => XS.iloadN X_1.here hx rfl (hb hby d10_4) rfl k_) ?_
  obtain ⟨cl_2, Ar_2, q_2, S_2, M_2, H_2, G_2⟩ := id P2
  have hin_2 : ¬ ((1 : Int32) < 0 ∨ cl_2.slots.size ≤ ((1 : Int32)).toNatClampNeg) := inb_of S_2 ⟨by decide, by decide⟩
  have hat_2 : cl_2.slots[((1 : Int32)).toNatClampNeg]? = some (.int x1) := H_2.at hin_2 rfl
  refine own_st (S' := T_1.setTop (mkF m 6 #[.val (.ref g), .val (.int (1 : Int32)), .unset] [(.int x1)])) (fun t_ k_ => X_1.iaload hx (j := (1 : Int32)) (v := (.int x1)) (by rw [e_1]; exact Ar_2.1) (State.isArrayOf_alike hZ.alike Ar_2.2.1) Ar_2.2.2 hin_2 hat_2 (g := (mkF m 5 #[.val (.ref g), .val (.int (1 : Int32)), .unset] [(.int (1 : Int32)), (.ref bx)])) rfl rfl (hb hby d10_5) _ k_) ?_
  refine own_st (S' := T_1.setTop (mkF m 7 #[.val (.ref g), .val (.int (1 : Int32)), .unset] [(.int (-1 : Int32)), (.int x1)])) (fun t_ k_ => XS.iconst X_1.here hx rfl (hb hby d10_6) k_) ?_
  refine own_st (S' := T_1.setTop (mkF m 10 #[.val (.ref g), .val (.int (1 : Int32)), .unset] [])) (fun t_ k_ => XS.icmpNo X_1.here hx rfl (hb hby d10_7) rfl (teq hh0).2 k_) ?_
  refine own_st (S' := T_1.setTop (mkF m 11 #[.val (.ref g), .val (.int (1 : Int32)), .unset] [(.int (0 : Int32))])) (fun t_ k_ => XS.iconst X_1.here hx rfl (hb hby d10_10) k_) ?_
  obtain ⟨T_3, h_3, k_3, X_3, e_3, E_3, A_3, B_3, st_3⟩ := newPE X_1 hx hZ (hw _ (List.mem_of_getElem? (i := 0) rfl)) e_1 (g := (mkF m 11 #[.val (.ref g), .val (.int (1 : Int32)), .unset] [(.int (0 : Int32))])) rfl (hb hby d10_11) rfl (by decide) (cap := 0) (by decide) (by decide) (by decide) (by decide) (ad := "[I") (by decide)
  obtain ⟨b_3, gg_3⟩ : ∃ z, z = h0.size := ⟨_, rfl⟩
  rw [← gg_3] at A_3 B_3 st_3
  have ne_bx_b_3 : bx ≠ b_3 := Nat.ne_of_lt (Nat.lt_of_lt_of_le P2.lt (Nat.le_of_eq gg_3.symm))
  have ne_by__b_3 : by_ ≠ b_3 := Nat.ne_of_lt (Nat.lt_of_lt_of_le P3.lt (Nat.le_of_eq gg_3.symm))
  have ne_g_b_3 : g ≠ b_3 := Nat.ne_of_lt (Nat.lt_of_lt_of_le P0.lt (Nat.le_of_eq gg_3.symm))
  have g_b_3 : n0 ≤ b_3 := Nat.le_trans Z0 (Nat.le_of_eq gg_3.symm)
  have sz_b_3 : h0.size ≤ b_3 := Nat.le_trans (Keep.refl h0 []).1 (Nat.le_of_eq gg_3.symm)
  have Z_3 : n0 ≤ h_3.size := Nat.le_trans Z0 E_3.1
  have K_3 : Keep h0 h_3 [] := (Keep.refl h0 []).ext E_3
  have V_3 : Arv Z h_3 b_3 k_3 .int (0 : Int32) [] (.int (0 : Int32)) := Arv.new A_3 (by decide)
  refine own_st (S' := T_3.setTop (mkF m 13 #[.val (.ref g), .val (.int (1 : Int32)), .unset] [(.ref b_3)])) st_3 ?_
  refine own_st (S' := T_3.setTop (mkF m 14 #[.val (.ref g), .val (.int (1 : Int32)), .val (.ref b_3)] [])) (fun t_ k_ => XS.astoreN X_3.here hx rfl (hb hby d10_13) rfl rfl (l' := #[.val (.ref g), .val (.int (1 : Int32)), .val (.ref b_3)]) rfl k_) ?_
  refine own_st (S' := T_3.setTop (mkF m 65 #[.val (.ref g), .val (.int (1 : Int32)), .val (.ref b_3)] [])) (fun t_ k_ => XS.goto X_3.here hx rfl (pc0 := 14) (pc' := 65) rfl (hb hby d10_14) (by decide) (by decide) k_) ?_
  refine own_st (S' := T_3.setTop (mkF m 66 #[.val (.ref g), .val (.int (1 : Int32)), .val (.ref b_3)] [(.ref b_3)])) (fun t_ k_ => XS.aloadN X_3.here hx rfl (hb hby d10_65) rfl rfl k_) ?_
  obtain ⟨fs, hr, hrun, hended, hW, hsame⟩ := X_3.leave (v := some (.ref b_3)) (fun h => by rw [Bd.returns] at h; cases h)
  refine ⟨_, _, own_retR X_3 hx Bd.returns rfl rfl (hb hby d10_66) hr, hrun, hended, _, _, rfl, ?_, ⟨_, rfl⟩, hW, hsame.mono (by decide) (by decide)⟩
  show Q10d Z g bx by_ kx ky x0 x1 y0 y1 h0 n0 _ T_3.heap _
  rw [e_3]
  exact ⟨b_3, k_3, rfl, N0, K_3, sz_b_3, V_3⟩
theorem ef_10e (m : MethodId) (g : Addr) : entryFrame m #[(.ref g), (.int (1 : Int32))] 3 = mkF m 0 #[.val (.ref g), .val (.int (1 : Int32)), .unset] [] := by first | (simp [entryFrame, mkF, argsToLocals, Value.category]; done) | rfl
def Q10e (Z : State) (g : Addr) (bx : Addr) (by_ : Addr) (kx : ClassId) (ky : ClassId) (x0 : Int32) (x1 : Int32) (y0 : Int32) (y1 : Int32) (h0 : Heap) (n0 : Nat) (v_ : Option Value) (h_ : Heap) (L_ : List Loc) : Prop := ∃ b : Addr, ∃ k : ClassId, v_ = some (.ref b) ∧ Fr n0 L_ ∧ Keep h0 h_ [] ∧ h0.size ≤ b ∧ Arv Z h_ b k .int (1 : Int32) [(.int x1)] (.int (0 : Int32))
set_option maxRecDepth 65536 in
set_option maxHeartbeats 40000000 in
theorem rm10e (l : Launch) (Z : State) (a0 : Array Value) (hw : ∀ d ∈ tables_1, d.before a0 Z = true) (ws : List Jvm.Cond) (g : Addr) (bx : Addr) (by_ : Addr) (kx : ClassId) (ky : ClassId) (x0 : Int32) (x1 : Int32) (y0 : Int32) (y1 : Int32) (h0 : Heap) (n0 : Nat) (Z0 : n0 ≤ h0.size) (P0 : Fld Z h0 g "com/example/frisk/frisk/pattern/StateGraph" "next" "[I" (.ref bx)) (P1 : Fld Z h0 g "com/example/frisk/frisk/pattern/StateGraph" "alternative" "[I" (.ref by_)) (P2 : Arv Z h0 bx kx .int (2 : Int32) [(.int x0), (.int x1)] (.int (0 : Int32))) (P3 : Arv Z h0 by_ ky .int (2 : Int32) [(.int y0), (.int y1)] (.int (0 : Int32))) (hh0 : ¬ (x1 = (-1 : Int32))) (hh1 : y1 = (-1 : Int32)) :
    MetFree l (⟨"com/example/frisk/frisk/pattern/StateGraph", "successors", "(I)[I"⟩ : MethodName) (head1 (Jvm.Cond.code (⟨"com/example/frisk/frisk/pattern/StateGraph", "successors", "(I)[I"⟩ : MethodName) prog_109_method_9_code 3 (some (.array .int)) :: ws) ({ frames := 0, cells := 1, slots := 1, locals := 0 } : Room)) (fun ar_ U_ => ar_ = #[(.ref g), (.int (1 : Int32))] ∧ Z.Warmed39 U_.vm ∧ U_.heap = h0) (fun _ _ _ _ _ => True) (fun _ U_ o_ U2_ => ∃ v_ L_, o_ = .returned v_ ∧ Q10e Z g bx by_ kx ky x0 x1 y0 y1 h0 n0 v_ U2_.heap L_ ∧ FrameEnd U_ o_ U2_ L_ ({ frames := 0, cells := 1, slots := 1, locals := 0 } : Room).cells ({ frames := 0, cells := 1, slots := 1, locals := 0 } : Room).slots) := by
  refine MetFree.of_bodySF (plainFor_of_name pn_4) hisR ?_
  intro p e s m args below meth c s₁ Bd hml0 hP hK
  obtain ⟨rfl, hZ, hh⟩ := hP
  have hx := Bd.exec
  have hby := Bd.bytes
  have hml : c.maxLocals = 3 := hml0
  have hown : s.vm.findClass "com/example/frisk/frisk/pattern/StateGraph" = some m.cls := findClass_of_methodNamed Bd.named
  have hnm := (name_of_methodNamed Bd.named Bd.method).1
  have X0 : Stand p l e ({ frames := 0, cells := 1, slots := 1, locals := 0 } : Room) s m #[(.ref g), (.int (1 : Int32))] below meth c s₁ [] 0 0 := Stand.of_body Bd
  have e0 : s₁.heap = h0 := by rw [← hh, Bd.state]; rfl
  have N0 := Fr.nil n0
  refine own_gl ?_
  refine own_st (S' := s₁.setTop (mkF m 0 #[.val (.ref g), .val (.int (1 : Int32)), .unset] [])) (fun t_ k_ => castTop (ef_10e m g) k_) ?_
  refine own_st (S' := s₁.setTop (mkF m 1 #[.val (.ref g), .val (.int (1 : Int32)), .unset] [(.ref g)])) (fun t_ k_ => XS.aloadN X0.here hx rfl (hb hby d10_0) rfl rfl k_) ?_
  obtain ⟨T_1, X_1, e_1, st_1⟩ := getF X0 hx hZ hown (host := "") (Or.inl (hw _ (List.mem_of_getElem? (i := 49) rfl))) Via.refl e0 P0 (g := (mkF m 1 #[.val (.ref g), .val (.int (1 : Int32)), .unset] [(.ref g)])) rfl rfl (hb hby d10_1)
  refine own_st (S' := T_1.setTop (mkF m 4 #[.val (.ref g), .val (.int (1 : Int32)), .unset] [(.ref bx)])) st_1 ?_
  refine own_st (S' := T_1.setTop (mkF m 5 #[.val (.ref g), .val (.int (1 : Int32)), .unset] [(.int (1 : Int32)), (.ref bx)])) (fun t_ k_ => XS.iloadN X_1.here hx rfl (hb hby d10_4) rfl k_) ?_
  obtain ⟨cl_2, Ar_2, q_2, S_2, M_2, H_2, G_2⟩ := id P2
  have hin_2 : ¬ ((1 : Int32) < 0 ∨ cl_2.slots.size ≤ ((1 : Int32)).toNatClampNeg) := inb_of S_2 ⟨by decide, by decide⟩
  have hat_2 : cl_2.slots[((1 : Int32)).toNatClampNeg]? = some (.int x1) := H_2.at hin_2 rfl
  refine own_st (S' := T_1.setTop (mkF m 6 #[.val (.ref g), .val (.int (1 : Int32)), .unset] [(.int x1)])) (fun t_ k_ => X_1.iaload hx (j := (1 : Int32)) (v := (.int x1)) (by rw [e_1]; exact Ar_2.1) (State.isArrayOf_alike hZ.alike Ar_2.2.1) Ar_2.2.2 hin_2 hat_2 (g := (mkF m 5 #[.val (.ref g), .val (.int (1 : Int32)), .unset] [(.int (1 : Int32)), (.ref bx)])) rfl rfl (hb hby d10_5) _ k_) ?_
  refine own_st (S' := T_1.setTop (mkF m 7 #[.val (.ref g), .val (.int (1 : Int32)), .unset] [(.int (-1 : Int32)), (.int x1)])) (fun t_ k_ => XS.iconst X_1.here hx rfl (hb hby d10_6) k_) ?_
  refine own_st (S' := T_1.setTop (mkF m 17 #[.val (.ref g), .val (.int (1 : Int32)), .unset] [])) (fun t_ k_ => XS.icmpYes X_1.here hx rfl (pc0 := 7) (pc' := 17) rfl (hb hby d10_7) rfl (feq hh0).2 (by decide) (by decide) k_) ?_
  refine own_st (S' := T_1.setTop (mkF m 18 #[.val (.ref g), .val (.int (1 : Int32)), .unset] [(.ref g)])) (fun t_ k_ => XS.aloadN X_1.here hx rfl (hb hby d10_17) rfl rfl k_) ?_
  obtain ⟨T_3, X_3, e_3, st_3⟩ := getF X_1 hx hZ hown (host := "") (Or.inl (hw _ (List.mem_of_getElem? (i := 51) rfl))) Via.refl e_1 P1 (g := (mkF m 18 #[.val (.ref g), .val (.int (1 : Int32)), .unset] [(.ref g)])) rfl rfl (hb hby d10_18)
  refine own_st (S' := T_3.setTop (mkF m 21 #[.val (.ref g), .val (.int (1 : Int32)), .unset] [(.ref by_)])) st_3 ?_
  refine own_st (S' := T_3.setTop (mkF m 22 #[.val (.ref g), .val (.int (1 : Int32)), .unset] [(.int (1 : Int32)), (.ref by_)])) (fun t_ k_ => XS.iloadN X_3.here hx rfl (hb hby d10_21) rfl k_) ?_
  obtain ⟨cl_4, Ar_4, q_4, S_4, M_4, H_4, G_4⟩ := id P3
  have hin_4 : ¬ ((1 : Int32) < 0 ∨ cl_4.slots.size ≤ ((1 : Int32)).toNatClampNeg) := inb_of S_4 ⟨by decide, by decide⟩
  have hat_4 : cl_4.slots[((1 : Int32)).toNatClampNeg]? = some (.int y1) := H_4.at hin_4 rfl
  refine own_st (S' := T_3.setTop (mkF m 23 #[.val (.ref g), .val (.int (1 : Int32)), .unset] [(.int y1)])) (fun t_ k_ => X_3.iaload hx (j := (1 : Int32)) (v := (.int y1)) (by rw [e_3]; exact Ar_4.1) (State.isArrayOf_alike hZ.alike Ar_4.2.1) Ar_4.2.2 hin_4 hat_4 (g := (mkF m 22 #[.val (.ref g), .val (.int (1 : Int32)), .unset] [(.int (1 : Int32)), (.ref by_)])) rfl rfl (hb hby d10_22) _ k_) ?_
  refine own_st (S' := T_3.setTop (mkF m 24 #[.val (.ref g), .val (.int (1 : Int32)), .unset] [(.int (-1 : Int32)), (.int y1)])) (fun t_ k_ => XS.iconst X_3.here hx rfl (hb hby d10_23) k_) ?_
  refine own_st (S' := T_3.setTop (mkF m 27 #[.val (.ref g), .val (.int (1 : Int32)), .unset] [])) (fun t_ k_ => XS.icmpNo X_3.here hx rfl (hb hby d10_24) rfl (teq hh1).2 k_) ?_
  refine own_st (S' := T_3.setTop (mkF m 28 #[.val (.ref g), .val (.int (1 : Int32)), .unset] [(.int (1 : Int32))])) (fun t_ k_ => XS.iconst X_3.here hx rfl (hb hby d10_27) k_) ?_
  obtain ⟨T_5, h_5, k_5, X_5, e_5, E_5, A_5, B_5, st_5⟩ := newPE X_3 hx hZ (hw _ (List.mem_of_getElem? (i := 0) rfl)) e_3 (g := (mkF m 28 #[.val (.ref g), .val (.int (1 : Int32)), .unset] [(.int (1 : Int32))])) rfl (hb hby d10_28) rfl (by decide) (cap := 1) (by decide) (by decide) (by decide) (by decide) (ad := "[I") (by decide)
  obtain ⟨b_5, gg_5⟩ : ∃ z, z = h0.size := ⟨_, rfl⟩
  rw [← gg_5] at A_5 B_5 st_5
  have ne_bx_b_5 : bx ≠ b_5 := Nat.ne_of_lt (Nat.lt_of_lt_of_le P2.lt (Nat.le_of_eq gg_5.symm))
  have ne_by__b_5 : by_ ≠ b_5 := Nat.ne_of_lt (Nat.lt_of_lt_of_le P3.lt (Nat.le_of_eq gg_5.symm))
  have ne_g_b_5 : g ≠ b_5 := Nat.ne_of_lt (Nat.lt_of_lt_of_le P0.lt (Nat.le_of_eq gg_5.symm))
  have g_b_5 : n0 ≤ b_5 := Nat.le_trans Z0 (Nat.le_of_eq gg_5.symm)
  have sz_b_5 : h0.size ≤ b_5 := Nat.le_trans (Keep.refl h0 []).1 (Nat.le_of_eq gg_5.symm)
  have Z_5 : n0 ≤ h_5.size := Nat.le_trans Z0 E_5.1
  have K_5 : Keep h0 h_5 [] := (Keep.refl h0 []).ext E_5
  have V_5 : Arv Z h_5 b_5 k_5 .int (1 : Int32) [(.int (0 : Int32))] (.int (0 : Int32)) := (Arv.new A_5 (by decide)).pad (pad_rep [] (.int (0 : Int32)) 1)
  refine own_st (S' := T_5.setTop (mkF m 30 #[.val (.ref g), .val (.int (1 : Int32)), .unset] [(.ref b_5)])) st_5 ?_
  refine own_st (S' := T_5.setTop (mkF m 31 #[.val (.ref g), .val (.int (1 : Int32)), .unset] [(.ref b_5), (.ref b_5)])) (fun t_ k_ => XS.dup X_5.here hx rfl (hb hby d10_30) rfl rfl k_) ?_
  refine own_st (S' := T_5.setTop (mkF m 32 #[.val (.ref g), .val (.int (1 : Int32)), .unset] [(.int (0 : Int32)), (.ref b_5), (.ref b_5)])) (fun t_ k_ => XS.iconst X_5.here hx rfl (hb hby d10_31) k_) ?_
  refine own_st (S' := T_5.setTop (mkF m 33 #[.val (.ref g), .val (.int (1 : Int32)), .unset] [(.ref g), (.int (0 : Int32)), (.ref b_5), (.ref b_5)])) (fun t_ k_ => XS.aloadN X_5.here hx rfl (hb hby d10_32) rfl rfl k_) ?_
  have f_6 : Fld Z h_5 g "com/example/frisk/frisk/pattern/StateGraph" "next" "[I" (.ref bx) := (Fld.ext E_5 P0)
  obtain ⟨T_7, X_7, e_7, st_7⟩ := getF X_5 hx hZ hown (host := "") (Or.inl (hw _ (List.mem_of_getElem? (i := 49) rfl))) Via.refl e_5 f_6 (g := (mkF m 33 #[.val (.ref g), .val (.int (1 : Int32)), .unset] [(.ref g), (.int (0 : Int32)), (.ref b_5), (.ref b_5)])) rfl rfl (hb hby d10_33)
  refine own_st (S' := T_7.setTop (mkF m 36 #[.val (.ref g), .val (.int (1 : Int32)), .unset] [(.ref bx), (.int (0 : Int32)), (.ref b_5), (.ref b_5)])) st_7 ?_
  refine own_st (S' := T_7.setTop (mkF m 37 #[.val (.ref g), .val (.int (1 : Int32)), .unset] [(.int (1 : Int32)), (.ref bx), (.int (0 : Int32)), (.ref b_5), (.ref b_5)])) (fun t_ k_ => XS.iloadN X_7.here hx rfl (hb hby d10_36) rfl k_) ?_
  have f_9 : Arv Z h_5 bx kx .int (2 : Int32) [(.int x0), (.int x1)] (.int (0 : Int32)) := (P2.ext E_5)
  obtain ⟨cl_8, Ar_8, q_8, S_8, M_8, H_8, G_8⟩ := id f_9
  have hin_8 : ¬ ((1 : Int32) < 0 ∨ cl_8.slots.size ≤ ((1 : Int32)).toNatClampNeg) := inb_of S_8 ⟨by decide, by decide⟩
  have hat_8 : cl_8.slots[((1 : Int32)).toNatClampNeg]? = some (.int x1) := H_8.at hin_8 rfl
  refine own_st (S' := T_7.setTop (mkF m 38 #[.val (.ref g), .val (.int (1 : Int32)), .unset] [(.int x1), (.int (0 : Int32)), (.ref b_5), (.ref b_5)])) (fun t_ k_ => X_7.iaload hx (j := (1 : Int32)) (v := (.int x1)) (by rw [e_7]; exact Ar_8.1) (State.isArrayOf_alike hZ.alike Ar_8.2.1) Ar_8.2.2 hin_8 hat_8 (g := (mkF m 37 #[.val (.ref g), .val (.int (1 : Int32)), .unset] [(.int (1 : Int32)), (.ref bx), (.int (0 : Int32)), (.ref b_5), (.ref b_5)])) rfl rfl (hb hby d10_37) _ k_) ?_
  obtain ⟨cl_10, Ar_10, q_10, S_10, M_10, H_10, G_10⟩ := id V_5
  have hin_10 : ¬ ((0 : Int32) < 0 ∨ cl_10.slots.size ≤ ((0 : Int32)).toNatClampNeg) := inb_of S_10 ⟨by decide, by decide⟩
  obtain ⟨T_10, h_10, X_10, e_10, W_10, st_10⟩ := stI X_7 hx hZ e_7 Ar_10 (j := (0 : Int32)) hin_10 (g := (mkF m 38 #[.val (.ref g), .val (.int (1 : Int32)), .unset] [(.int x1), (.int (0 : Int32)), (.ref b_5), (.ref b_5)])) rfl rfl (hb hby d10_38)
  have Z_10 : n0 ≤ h_10.size := Nat.le_trans Z_5 (Keep.of_wr W_10).1
  have N_10 := Fr.snoc X_10 N0 g_b_5
  have K_10 : Keep h0 h_10 [] := K_5.wr W_10 (Or.inr sz_b_5)
  have V_10 : Arv Z h_10 b_5 k_5 .int (1 : Int32) [(.int x1)] (.int (0 : Int32)) := Arv.set Ar_10 q_10 S_10 M_10 H_10 G_10 rfl W_10 0 rfl (Nat.le_of_ble_eq_true rfl)
  refine own_st (S' := T_10.setTop (mkF m 39 #[.val (.ref g), .val (.int (1 : Int32)), .unset] [(.ref b_5)])) st_10 ?_
  refine own_st (S' := T_10.setTop (mkF m 40 #[.val (.ref g), .val (.int (1 : Int32)), .val (.ref b_5)] [])) (fun t_ k_ => XS.astoreN X_10.here hx rfl (hb hby d10_39) rfl rfl (l' := #[.val (.ref g), .val (.int (1 : Int32)), .val (.ref b_5)]) rfl k_) ?_
  refine own_st (S' := T_10.setTop (mkF m 65 #[.val (.ref g), .val (.int (1 : Int32)), .val (.ref b_5)] [])) (fun t_ k_ => XS.goto X_10.here hx rfl (pc0 := 40) (pc' := 65) rfl (hb hby d10_40) (by decide) (by decide) k_) ?_
  refine own_st (S' := T_10.setTop (mkF m 66 #[.val (.ref g), .val (.int (1 : Int32)), .val (.ref b_5)] [(.ref b_5)])) (fun t_ k_ => XS.aloadN X_10.here hx rfl (hb hby d10_65) rfl rfl k_) ?_
  obtain ⟨fs, hr, hrun, hended, hW, hsame⟩ := X_10.leave (v := some (.ref b_5)) (fun h => by rw [Bd.returns] at h; cases h)
  refine ⟨_, _, own_retR X_10 hx Bd.returns rfl rfl (hb hby d10_66) hr, hrun, hended, _, _, rfl, ?_, ⟨_, rfl⟩, hW, hsame.mono (by decide) (by decide)⟩
  show Q10e Z g bx by_ kx ky x0 x1 y0 y1 h0 n0 _ T_10.heap _
  rw [e_10]
  exact ⟨b_5, k_5, rfl, N_10, K_10, sz_b_5, V_10⟩
theorem ef_10f (m : MethodId) (g : Addr) : entryFrame m #[(.ref g), (.int (1 : Int32))] 3 = mkF m 0 #[.val (.ref g), .val (.int (1 : Int32)), .unset] [] := by first | (simp [entryFrame, mkF, argsToLocals, Value.category]; done) | rfl
def Q10f (Z : State) (g : Addr) (bx : Addr) (by_ : Addr) (kx : ClassId) (ky : ClassId) (x0 : Int32) (x1 : Int32) (y0 : Int32) (y1 : Int32) (h0 : Heap) (n0 : Nat) (v_ : Option Value) (h_ : Heap) (L_ : List Loc) : Prop := ∃ b : Addr, ∃ k : ClassId, v_ = some (.ref b) ∧ Fr n0 L_ ∧ Keep h0 h_ [] ∧ h0.size ≤ b ∧ Arv Z h_ b k .int (2 : Int32) [(.int x1), (.int y1)] (.int (0 : Int32))
set_option maxRecDepth 65536 in
set_option maxHeartbeats 40000000 in
theorem rm10f (l : Launch) (Z : State) (a0 : Array Value) (hw : ∀ d ∈ tables_1, d.before a0 Z = true) (ws : List Jvm.Cond) (g : Addr) (bx : Addr) (by_ : Addr) (kx : ClassId) (ky : ClassId) (x0 : Int32) (x1 : Int32) (y0 : Int32) (y1 : Int32) (h0 : Heap) (n0 : Nat) (Z0 : n0 ≤ h0.size) (P0 : Fld Z h0 g "com/example/frisk/frisk/pattern/StateGraph" "next" "[I" (.ref bx)) (P1 : Fld Z h0 g "com/example/frisk/frisk/pattern/StateGraph" "alternative" "[I" (.ref by_)) (P2 : Arv Z h0 bx kx .int (2 : Int32) [(.int x0), (.int x1)] (.int (0 : Int32))) (P3 : Arv Z h0 by_ ky .int (2 : Int32) [(.int y0), (.int y1)] (.int (0 : Int32))) (hh0 : ¬ (x1 = (-1 : Int32))) (hh1 : ¬ (y1 = (-1 : Int32))) :
    MetFree l (⟨"com/example/frisk/frisk/pattern/StateGraph", "successors", "(I)[I"⟩ : MethodName) (head1 (Jvm.Cond.code (⟨"com/example/frisk/frisk/pattern/StateGraph", "successors", "(I)[I"⟩ : MethodName) prog_109_method_9_code 3 (some (.array .int)) :: ws) ({ frames := 0, cells := 1, slots := 2, locals := 0 } : Room)) (fun ar_ U_ => ar_ = #[(.ref g), (.int (1 : Int32))] ∧ Z.Warmed39 U_.vm ∧ U_.heap = h0) (fun _ _ _ _ _ => True) (fun _ U_ o_ U2_ => ∃ v_ L_, o_ = .returned v_ ∧ Q10f Z g bx by_ kx ky x0 x1 y0 y1 h0 n0 v_ U2_.heap L_ ∧ FrameEnd U_ o_ U2_ L_ ({ frames := 0, cells := 1, slots := 2, locals := 0 } : Room).cells ({ frames := 0, cells := 1, slots := 2, locals := 0 } : Room).slots) := by
  refine MetFree.of_bodySF (plainFor_of_name pn_4) hisR ?_
  intro p e s m args below meth c s₁ Bd hml0 hP hK
  obtain ⟨rfl, hZ, hh⟩ := hP
  have hx := Bd.exec
  have hby := Bd.bytes
  have hml : c.maxLocals = 3 := hml0
  have hown : s.vm.findClass "com/example/frisk/frisk/pattern/StateGraph" = some m.cls := findClass_of_methodNamed Bd.named
  have hnm := (name_of_methodNamed Bd.named Bd.method).1
  have X0 : Stand p l e ({ frames := 0, cells := 1, slots := 2, locals := 0 } : Room) s m #[(.ref g), (.int (1 : Int32))] below meth c s₁ [] 0 0 := Stand.of_body Bd
  have e0 : s₁.heap = h0 := by rw [← hh, Bd.state]; rfl
  have N0 := Fr.nil n0
  refine own_gl ?_
  refine own_st (S' := s₁.setTop (mkF m 0 #[.val (.ref g), .val (.int (1 : Int32)), .unset] [])) (fun t_ k_ => castTop (ef_10f m g) k_) ?_
  refine own_st (S' := s₁.setTop (mkF m 1 #[.val (.ref g), .val (.int (1 : Int32)), .unset] [(.ref g)])) (fun t_ k_ => XS.aloadN X0.here hx rfl (hb hby d10_0) rfl rfl k_) ?_
  obtain ⟨T_1, X_1, e_1, st_1⟩ := getF X0 hx hZ hown (host := "") (Or.inl (hw _ (List.mem_of_getElem? (i := 49) rfl))) Via.refl e0 P0 (g := (mkF m 1 #[.val (.ref g), .val (.int (1 : Int32)), .unset] [(.ref g)])) rfl rfl (hb hby d10_1)
  refine own_st (S' := T_1.setTop (mkF m 4 #[.val (.ref g), .val (.int (1 : Int32)), .unset] [(.ref bx)])) st_1 ?_
  refine own_st (S' := T_1.setTop (mkF m 5 #[.val (.ref g), .val (.int (1 : Int32)), .unset] [(.int (1 : Int32)), (.ref bx)])) (fun t_ k_ => XS.iloadN X_1.here hx rfl (hb hby d10_4) rfl k_) ?_
  obtain ⟨cl_2, Ar_2, q_2, S_2, M_2, H_2, G_2⟩ := id P2
  have hin_2 : ¬ ((1 : Int32) < 0 ∨ cl_2.slots.size ≤ ((1 : Int32)).toNatClampNeg) := inb_of S_2 ⟨by decide, by decide⟩
  have hat_2 : cl_2.slots[((1 : Int32)).toNatClampNeg]? = some (.int x1) := H_2.at hin_2 rfl
  refine own_st (S' := T_1.setTop (mkF m 6 #[.val (.ref g), .val (.int (1 : Int32)), .unset] [(.int x1)])) (fun t_ k_ => X_1.iaload hx (j := (1 : Int32)) (v := (.int x1)) (by rw [e_1]; exact Ar_2.1) (State.isArrayOf_alike hZ.alike Ar_2.2.1) Ar_2.2.2 hin_2 hat_2 (g := (mkF m 5 #[.val (.ref g), .val (.int (1 : Int32)), .unset] [(.int (1 : Int32)), (.ref bx)])) rfl rfl (hb hby d10_5) _ k_) ?_
  refine own_st (S' := T_1.setTop (mkF m 7 #[.val (.ref g), .val (.int (1 : Int32)), .unset] [(.int (-1 : Int32)), (.int x1)])) (fun t_ k_ => XS.iconst X_1.here hx rfl (hb hby d10_6) k_) ?_
  refine own_st (S' := T_1.setTop (mkF m 17 #[.val (.ref g), .val (.int (1 : Int32)), .unset] [])) (fun t_ k_ => XS.icmpYes X_1.here hx rfl (pc0 := 7) (pc' := 17) rfl (hb hby d10_7) rfl (feq hh0).2 (by decide) (by decide) k_) ?_
  refine own_st (S' := T_1.setTop (mkF m 18 #[.val (.ref g), .val (.int (1 : Int32)), .unset] [(.ref g)])) (fun t_ k_ => XS.aloadN X_1.here hx rfl (hb hby d10_17) rfl rfl k_) ?_
  obtain ⟨T_3, X_3, e_3, st_3⟩ := getF X_1 hx hZ hown (host := "") (Or.inl (hw _ (List.mem_of_getElem? (i := 51) rfl))) Via.refl e_1 P1 (g := (mkF m 18 #[.val (.ref g), .val (.int (1 : Int32)), .unset] [(.ref g)])) rfl rfl (hb hby d10_18)
  refine own_st (S' := T_3.setTop (mkF m 21 #[.val (.ref g), .val (.int (1 : Int32)), .unset] [(.ref by_)])) st_3 ?_
  refine own_st (S' := T_3.setTop (mkF m 22 #[.val (.ref g), .val (.int (1 : Int32)), .unset] [(.int (1 : Int32)), (.ref by_)])) (fun t_ k_ => XS.iloadN X_3.here hx rfl (hb hby d10_21) rfl k_) ?_
  obtain ⟨cl_4, Ar_4, q_4, S_4, M_4, H_4, G_4⟩ := id P3
  have hin_4 : ¬ ((1 : Int32) < 0 ∨ cl_4.slots.size ≤ ((1 : Int32)).toNatClampNeg) := inb_of S_4 ⟨by decide, by decide⟩
  have hat_4 : cl_4.slots[((1 : Int32)).toNatClampNeg]? = some (.int y1) := H_4.at hin_4 rfl
  refine own_st (S' := T_3.setTop (mkF m 23 #[.val (.ref g), .val (.int (1 : Int32)), .unset] [(.int y1)])) (fun t_ k_ => X_3.iaload hx (j := (1 : Int32)) (v := (.int y1)) (by rw [e_3]; exact Ar_4.1) (State.isArrayOf_alike hZ.alike Ar_4.2.1) Ar_4.2.2 hin_4 hat_4 (g := (mkF m 22 #[.val (.ref g), .val (.int (1 : Int32)), .unset] [(.int (1 : Int32)), (.ref by_)])) rfl rfl (hb hby d10_22) _ k_) ?_
  refine own_st (S' := T_3.setTop (mkF m 24 #[.val (.ref g), .val (.int (1 : Int32)), .unset] [(.int (-1 : Int32)), (.int y1)])) (fun t_ k_ => XS.iconst X_3.here hx rfl (hb hby d10_23) k_) ?_
  refine own_st (S' := T_3.setTop (mkF m 43 #[.val (.ref g), .val (.int (1 : Int32)), .unset] [])) (fun t_ k_ => XS.icmpYes X_3.here hx rfl (pc0 := 24) (pc' := 43) rfl (hb hby d10_24) rfl (feq hh1).2 (by decide) (by decide) k_) ?_
  refine own_st (S' := T_3.setTop (mkF m 44 #[.val (.ref g), .val (.int (1 : Int32)), .unset] [(.int (2 : Int32))])) (fun t_ k_ => XS.iconst X_3.here hx rfl (hb hby d10_43) k_) ?_
  obtain ⟨T_5, h_5, k_5, X_5, e_5, E_5, A_5, B_5, st_5⟩ := newPE X_3 hx hZ (hw _ (List.mem_of_getElem? (i := 0) rfl)) e_3 (g := (mkF m 44 #[.val (.ref g), .val (.int (1 : Int32)), .unset] [(.int (2 : Int32))])) rfl (hb hby d10_44) rfl (by decide) (cap := 2) (by decide) (by decide) (by decide) (by decide) (ad := "[I") (by decide)
  obtain ⟨b_5, gg_5⟩ : ∃ z, z = h0.size := ⟨_, rfl⟩
  rw [← gg_5] at A_5 B_5 st_5
  have ne_bx_b_5 : bx ≠ b_5 := Nat.ne_of_lt (Nat.lt_of_lt_of_le P2.lt (Nat.le_of_eq gg_5.symm))
  have ne_by__b_5 : by_ ≠ b_5 := Nat.ne_of_lt (Nat.lt_of_lt_of_le P3.lt (Nat.le_of_eq gg_5.symm))
  have ne_g_b_5 : g ≠ b_5 := Nat.ne_of_lt (Nat.lt_of_lt_of_le P0.lt (Nat.le_of_eq gg_5.symm))
  have g_b_5 : n0 ≤ b_5 := Nat.le_trans Z0 (Nat.le_of_eq gg_5.symm)
  have sz_b_5 : h0.size ≤ b_5 := Nat.le_trans (Keep.refl h0 []).1 (Nat.le_of_eq gg_5.symm)
  have Z_5 : n0 ≤ h_5.size := Nat.le_trans Z0 E_5.1
  have K_5 : Keep h0 h_5 [] := (Keep.refl h0 []).ext E_5
  have V_5 : Arv Z h_5 b_5 k_5 .int (2 : Int32) [(.int (0 : Int32)), (.int (0 : Int32))] (.int (0 : Int32)) := (Arv.new A_5 (by decide)).pad (pad_rep [] (.int (0 : Int32)) 2)
  refine own_st (S' := T_5.setTop (mkF m 46 #[.val (.ref g), .val (.int (1 : Int32)), .unset] [(.ref b_5)])) st_5 ?_
  refine own_st (S' := T_5.setTop (mkF m 47 #[.val (.ref g), .val (.int (1 : Int32)), .unset] [(.ref b_5), (.ref b_5)])) (fun t_ k_ => XS.dup X_5.here hx rfl (hb hby d10_46) rfl rfl k_) ?_
  refine own_st (S' := T_5.setTop (mkF m 48 #[.val (.ref g), .val (.int (1 : Int32)), .unset] [(.int (0 : Int32)), (.ref b_5), (.ref b_5)])) (fun t_ k_ => XS.iconst X_5.here hx rfl (hb hby d10_47) k_) ?_
  refine own_st (S' := T_5.setTop (mkF m 49 #[.val (.ref g), .val (.int (1 : Int32)), .unset] [(.ref g), (.int (0 : Int32)), (.ref b_5), (.ref b_5)])) (fun t_ k_ => XS.aloadN X_5.here hx rfl (hb hby d10_48) rfl rfl k_) ?_
  have f_6 : Fld Z h_5 g "com/example/frisk/frisk/pattern/StateGraph" "next" "[I" (.ref bx) := (Fld.ext E_5 P0)
  obtain ⟨T_7, X_7, e_7, st_7⟩ := getF X_5 hx hZ hown (host := "") (Or.inl (hw _ (List.mem_of_getElem? (i := 49) rfl))) Via.refl e_5 f_6 (g := (mkF m 49 #[.val (.ref g), .val (.int (1 : Int32)), .unset] [(.ref g), (.int (0 : Int32)), (.ref b_5), (.ref b_5)])) rfl rfl (hb hby d10_49)
  refine own_st (S' := T_7.setTop (mkF m 52 #[.val (.ref g), .val (.int (1 : Int32)), .unset] [(.ref bx), (.int (0 : Int32)), (.ref b_5), (.ref b_5)])) st_7 ?_
  refine own_st (S' := T_7.setTop (mkF m 53 #[.val (.ref g), .val (.int (1 : Int32)), .unset] [(.int (1 : Int32)), (.ref bx), (.int (0 : Int32)), (.ref b_5), (.ref b_5)])) (fun t_ k_ => XS.iloadN X_7.here hx rfl (hb hby d10_52) rfl k_) ?_
  have f_9 : Arv Z h_5 bx kx .int (2 : Int32) [(.int x0), (.int x1)] (.int (0 : Int32)) := (P2.ext E_5)
  obtain ⟨cl_8, Ar_8, q_8, S_8, M_8, H_8, G_8⟩ := id f_9
  have hin_8 : ¬ ((1 : Int32) < 0 ∨ cl_8.slots.size ≤ ((1 : Int32)).toNatClampNeg) := inb_of S_8 ⟨by decide, by decide⟩
  have hat_8 : cl_8.slots[((1 : Int32)).toNatClampNeg]? = some (.int x1) := H_8.at hin_8 rfl
  refine own_st (S' := T_7.setTop (mkF m 54 #[.val (.ref g), .val (.int (1 : Int32)), .unset] [(.int x1), (.int (0 : Int32)), (.ref b_5), (.ref b_5)])) (fun t_ k_ => X_7.iaload hx (j := (1 : Int32)) (v := (.int x1)) (by rw [e_7]; exact Ar_8.1) (State.isArrayOf_alike hZ.alike Ar_8.2.1) Ar_8.2.2 hin_8 hat_8 (g := (mkF m 53 #[.val (.ref g), .val (.int (1 : Int32)), .unset] [(.int (1 : Int32)), (.ref bx), (.int (0 : Int32)), (.ref b_5), (.ref b_5)])) rfl rfl (hb hby d10_53) _ k_) ?_
  obtain ⟨cl_10, Ar_10, q_10, S_10, M_10, H_10, G_10⟩ := id V_5
  have hin_10 : ¬ ((0 : Int32) < 0 ∨ cl_10.slots.size ≤ ((0 : Int32)).toNatClampNeg) := inb_of S_10 ⟨by decide, by decide⟩
  obtain ⟨T_10, h_10, X_10, e_10, W_10, st_10⟩ := stI X_7 hx hZ e_7 Ar_10 (j := (0 : Int32)) hin_10 (g := (mkF m 54 #[.val (.ref g), .val (.int (1 : Int32)), .unset] [(.int x1), (.int (0 : Int32)), (.ref b_5), (.ref b_5)])) rfl rfl (hb hby d10_54)
  have Z_10 : n0 ≤ h_10.size := Nat.le_trans Z_5 (Keep.of_wr W_10).1
  have N_10 := Fr.snoc X_10 N0 g_b_5
  have K_10 : Keep h0 h_10 [] := K_5.wr W_10 (Or.inr sz_b_5)
  have V_10 : Arv Z h_10 b_5 k_5 .int (2 : Int32) [(.int x1), (.int (0 : Int32))] (.int (0 : Int32)) := Arv.set Ar_10 q_10 S_10 M_10 H_10 G_10 rfl W_10 0 rfl (Nat.le_of_ble_eq_true rfl)
  refine own_st (S' := T_10.setTop (mkF m 55 #[.val (.ref g), .val (.int (1 : Int32)), .unset] [(.ref b_5)])) st_10 ?_
  refine own_st (S' := T_10.setTop (mkF m 56 #[.val (.ref g), .val (.int (1 : Int32)), .unset] [(.ref b_5), (.ref b_5)])) (fun t_ k_ => XS.dup X_10.here hx rfl (hb hby d10_55) rfl rfl k_) ?_
  refine own_st (S' := T_10.setTop (mkF m 57 #[.val (.ref g), .val (.int (1 : Int32)), .unset] [(.int (1 : Int32)), (.ref b_5), (.ref b_5)])) (fun t_ k_ => XS.iconst X_10.here hx rfl (hb hby d10_56) k_) ?_
  refine own_st (S' := T_10.setTop (mkF m 58 #[.val (.ref g), .val (.int (1 : Int32)), .unset] [(.ref g), (.int (1 : Int32)), (.ref b_5), (.ref b_5)])) (fun t_ k_ => XS.aloadN X_10.here hx rfl (hb hby d10_57) rfl rfl k_) ?_
  have f_11 : Fld Z h_10 g "com/example/frisk/frisk/pattern/StateGraph" "alternative" "[I" (.ref by_) := (Fld.other W_10 (Fld.ext E_5 P1) (Or.inl ne_g_b_5))
  obtain ⟨T_12, X_12, e_12, st_12⟩ := getF X_10 hx hZ hown (host := "") (Or.inl (hw _ (List.mem_of_getElem? (i := 51) rfl))) Via.refl e_10 f_11 (g := (mkF m 58 #[.val (.ref g), .val (.int (1 : Int32)), .unset] [(.ref g), (.int (1 : Int32)), (.ref b_5), (.ref b_5)])) rfl rfl (hb hby d10_58)
  refine own_st (S' := T_12.setTop (mkF m 61 #[.val (.ref g), .val (.int (1 : Int32)), .unset] [(.ref by_), (.int (1 : Int32)), (.ref b_5), (.ref b_5)])) st_12 ?_
  refine own_st (S' := T_12.setTop (mkF m 62 #[.val (.ref g), .val (.int (1 : Int32)), .unset] [(.int (1 : Int32)), (.ref by_), (.int (1 : Int32)), (.ref b_5), (.ref b_5)])) (fun t_ k_ => XS.iloadN X_12.here hx rfl (hb hby d10_61) rfl k_) ?_
  have f_14 : Arv Z h_10 by_ ky .int (2 : Int32) [(.int y0), (.int y1)] (.int (0 : Int32)) := ((P3.ext E_5).other W_10 ne_by__b_5)
  obtain ⟨cl_13, Ar_13, q_13, S_13, M_13, H_13, G_13⟩ := id f_14
  have hin_13 : ¬ ((1 : Int32) < 0 ∨ cl_13.slots.size ≤ ((1 : Int32)).toNatClampNeg) := inb_of S_13 ⟨by decide, by decide⟩
  have hat_13 : cl_13.slots[((1 : Int32)).toNatClampNeg]? = some (.int y1) := H_13.at hin_13 rfl
  refine own_st (S' := T_12.setTop (mkF m 63 #[.val (.ref g), .val (.int (1 : Int32)), .unset] [(.int y1), (.int (1 : Int32)), (.ref b_5), (.ref b_5)])) (fun t_ k_ => X_12.iaload hx (j := (1 : Int32)) (v := (.int y1)) (by rw [e_12]; exact Ar_13.1) (State.isArrayOf_alike hZ.alike Ar_13.2.1) Ar_13.2.2 hin_13 hat_13 (g := (mkF m 62 #[.val (.ref g), .val (.int (1 : Int32)), .unset] [(.int (1 : Int32)), (.ref by_), (.int (1 : Int32)), (.ref b_5), (.ref b_5)])) rfl rfl (hb hby d10_62) _ k_) ?_
  obtain ⟨cl_15, Ar_15, q_15, S_15, M_15, H_15, G_15⟩ := id V_10
  have hin_15 : ¬ ((1 : Int32) < 0 ∨ cl_15.slots.size ≤ ((1 : Int32)).toNatClampNeg) := inb_of S_15 ⟨by decide, by decide⟩
  obtain ⟨T_15, h_15, X_15, e_15, W_15, st_15⟩ := stI X_12 hx hZ e_12 Ar_15 (j := (1 : Int32)) hin_15 (g := (mkF m 63 #[.val (.ref g), .val (.int (1 : Int32)), .unset] [(.int y1), (.int (1 : Int32)), (.ref b_5), (.ref b_5)])) rfl rfl (hb hby d10_63)
  have Z_15 : n0 ≤ h_15.size := Nat.le_trans Z_10 (Keep.of_wr W_15).1
  have N_15 := Fr.snoc X_15 N_10 g_b_5
  have K_15 : Keep h0 h_15 [] := K_10.wr W_15 (Or.inr sz_b_5)
  have V_15 : Arv Z h_15 b_5 k_5 .int (2 : Int32) [(.int x1), (.int y1)] (.int (0 : Int32)) := Arv.set Ar_15 q_15 S_15 M_15 H_15 G_15 rfl W_15 1 rfl (Nat.le_of_ble_eq_true rfl)
  refine own_st (S' := T_15.setTop (mkF m 64 #[.val (.ref g), .val (.int (1 : Int32)), .unset] [(.ref b_5)])) st_15 ?_
  refine own_st (S' := T_15.setTop (mkF m 65 #[.val (.ref g), .val (.int (1 : Int32)), .val (.ref b_5)] [])) (fun t_ k_ => XS.astoreN X_15.here hx rfl (hb hby d10_64) rfl rfl (l' := #[.val (.ref g), .val (.int (1 : Int32)), .val (.ref b_5)]) rfl k_) ?_
  refine own_st (S' := T_15.setTop (mkF m 66 #[.val (.ref g), .val (.int (1 : Int32)), .val (.ref b_5)] [(.ref b_5)])) (fun t_ k_ => XS.aloadN X_15.here hx rfl (hb hby d10_65) rfl rfl k_) ?_
  obtain ⟨fs, hr, hrun, hended, hW, hsame⟩ := X_15.leave (v := some (.ref b_5)) (fun h => by rw [Bd.returns] at h; cases h)
  refine ⟨_, _, own_retR X_15 hx Bd.returns rfl rfl (hb hby d10_66) hr, hrun, hended, _, _, rfl, ?_, ⟨_, rfl⟩, hW, hsame.mono (by decide) (by decide)⟩
  show Q10f Z g bx by_ kx ky x0 x1 y0 y1 h0 n0 _ T_15.heap _
  rw [e_15]
  exact ⟨b_5, k_5, rfl, N_15, K_15, sz_b_5, V_15⟩
theorem pn_5 : plainName "com/example/frisk/frisk/pattern/StateGraphSuccessorsPinLaw" = true := by first | (simp [plainName, overriddenIn]; done) | decide +kernel
theorem ef_0 (m : MethodId) (p0 : Int32) (p1 : Int32) (p2 : Int32) (p3 : Int32) (p4 : Int32) : entryFrame m #[(.int p0), (.int p1), (.int p2), (.int p3), (.int p4)] maxLocals = mkF m 0 #[.val (.int p0), .val (.int p1), .val (.int p2), .val (.int p3), .val (.int p4), .unset, .unset, .unset, .unset, .unset, .unset, .unset, .unset, .unset, .unset, .unset, .unset, .unset, .unset, .unset] [] := by first | (simp [entryFrame, mkF, argsToLocals, Value.category, maxLocals]; done) | rfl
theorem pd_6 : parseMethodDescriptor "(I[I[I[I[I[ILjava/util/List;I)V" = some ⟨[.int, (.array .int), (.array .int), (.array .int), (.array .int), (.array .int), (.object "java/util/List"), .int], none⟩ := by decide +kernel
theorem pd_7 : parseMethodDescriptor "(I)[I" = some ⟨[.int], some (.array .int)⟩ := by decide +kernel
def Q0 (Z : State) (p0 : Int32) (p1 : Int32) (p2 : Int32) (p3 : Int32) (p4 : Int32) (dd : Addr) (kd : ClassId) (h0 : Heap) (n0 : Nat) (v_ : Option Value) (h_ : Heap) (L_ : List Loc) : Prop := v_ = some (.int (1 : Int32)) ∧ Fr n0 L_
set_option maxRecDepth 65536 in
set_option maxHeartbeats 40000000 in
theorem rm0 (l : Launch) (Z : State) (a0 : Array Value) (hw : ∀ d ∈ tables_1, d.before a0 Z = true) (ws : List Jvm.Cond) (p0 : Int32) (p1 : Int32) (p2 : Int32) (p3 : Int32) (p4 : Int32) (dd : Addr) (kd : ClassId) (h0 : Heap) (n0 : Nat) (Z0 : n0 ≤ h0.size) (Y0 : Sta Z Z.heap "java/util/ArrayList" "DEFAULTCAPACITY_EMPTY_ELEMENTDATA" "[Ljava/lang/Object;" (.ref dd)) (Y1 : Arv Z Z.heap dd kd (.object "java/lang/Object") (0 : Int32) [] .null) (O0 : Old Z n0 h0) :
    MetFree l x (head1 (Jvm.Cond.code x code maxLocals ret :: ws) room_1) (fun ar_ U_ => ar_ = #[(.int p0), (.int p1), (.int p2), (.int p3), (.int p4)] ∧ Z.Warmed39 U_.vm ∧ U_.heap = h0) (fun _ _ _ _ _ => True) (fun _ U_ o_ U2_ => ∃ v_ L_, o_ = .returned v_ ∧ Q0 Z p0 p1 p2 p3 p4 dd kd h0 n0 v_ U2_.heap L_ ∧ FrameEnd U_ o_ U2_ L_ room_1.cells room_1.slots) := by
  refine MetFree.of_bodySF (plainFor_of_name pn_5) hisR ?_
  intro p e s m args below meth c s₁ Bd hml0 hP hK
  obtain ⟨rfl, hZ, hh⟩ := hP
  have hx := Bd.exec
  have hby := Bd.bytes
  have hml : c.maxLocals = 20 := hml0
  have hown : s.vm.findClass "com/example/frisk/frisk/pattern/StateGraphSuccessorsPinLaw" = some m.cls := findClass_of_methodNamed Bd.named
  have hnm := (name_of_methodNamed Bd.named Bd.method).1
  have X0 : Stand p l e room_1 s m #[(.int p0), (.int p1), (.int p2), (.int p3), (.int p4)] below meth c s₁ [] 0 0 := Stand.of_body Bd
  have e0 : s₁.heap = h0 := by rw [← hh, Bd.state]; rfl
  have N0 := Fr.nil n0
  refine own_gl ?_
  refine own_st (S' := s₁.setTop (mkF m 0 #[.val (.int p0), .val (.int p1), .val (.int p2), .val (.int p3), .val (.int p4), .unset, .unset, .unset, .unset, .unset, .unset, .unset, .unset, .unset, .unset, .unset, .unset, .unset, .unset, .unset] [])) (fun t_ k_ => castTop (ef_0 m p0 p1 p2 p3 p4) k_) ?_
  refine own_st (S' := s₁.setTop (mkF m 1 #[.val (.int p0), .val (.int p1), .val (.int p2), .val (.int p3), .val (.int p4), .unset, .unset, .unset, .unset, .unset, .unset, .unset, .unset, .unset, .unset, .unset, .unset, .unset, .unset, .unset] [(.int p0)])) (fun t_ k_ => XS.iloadN X0.here hx rfl (hb hby at_0) rfl k_) ?_
  refine own_st (S' := s₁.setTop (mkF m 2 #[.val (.int p0), .val (.int p1), .val (.int p2), .val (.int p3), .val (.int p4), .unset, .unset, .unset, .unset, .unset, .unset, .unset, .unset, .unset, .unset, .unset, .unset, .unset, .unset, .unset] [(.int (1 : Int32)), (.int p0)])) (fun t_ k_ => XS.iconst X0.here hx rfl (hb hby at_1) k_) ?_
  refine own_st (S' := s₁.setTop (mkF m 3 #[.val (.int p0), .val (.int p1), .val (.int p2), .val (.int p3), .val (.int p4), .unset, .unset, .unset, .unset, .unset, .unset, .unset, .unset, .unset, .unset, .unset, .unset, .unset, .unset, .unset] [(.int (p0 &&& (1 : Int32)))])) (fun t_ k_ => XS.iand X0.here hx rfl (hb hby at_2) rfl k_) ?_
  refine own_join (F := fun (x : Int32) => s₁.setTop (mkF m 13 #[.val (.int p0), .val (.int p1), .val (.int p2), .val (.int p3), .val (.int p4), .val (.int x), .unset, .unset, .unset, .unset, .unset, .unset, .unset, .unset, .unset, .unset, .unset, .unset, .unset, .unset] [])) (H := fun (x : Int32) => True) (fun x0 hJ13 => ?_) (fun J13 => ?_)
  · show own_Gl p e below _ (s₁.setTop (mkF m 13 #[.val (.int p0), .val (.int p1), .val (.int p2), .val (.int p3), .val (.int p4), .val (.int x0), .unset, .unset, .unset, .unset, .unset, .unset, .unset, .unset, .unset, .unset, .unset, .unset, .unset, .unset] []))
    try dsimp only at hJ13
    refine own_st (S' := s₁.setTop (mkF m 14 #[.val (.int p0), .val (.int p1), .val (.int p2), .val (.int p3), .val (.int p4), .val (.int x0), .unset, .unset, .unset, .unset, .unset, .unset, .unset, .unset, .unset, .unset, .unset, .unset, .unset, .unset] [(.int p0)])) (fun t_ k_ => XS.iloadN X0.here hx rfl (hb hby at_13) rfl k_) ?_
    refine own_st (S' := s₁.setTop (mkF m 15 #[.val (.int p0), .val (.int p1), .val (.int p2), .val (.int p3), .val (.int p4), .val (.int x0), .unset, .unset, .unset, .unset, .unset, .unset, .unset, .unset, .unset, .unset, .unset, .unset, .unset, .unset] [(.int (2 : Int32)), (.int p0)])) (fun t_ k_ => XS.iconst X0.here hx rfl (hb hby at_14) k_) ?_
    refine own_st (S' := s₁.setTop (mkF m 16 #[.val (.int p0), .val (.int p1), .val (.int p2), .val (.int p3), .val (.int p4), .val (.int x0), .unset, .unset, .unset, .unset, .unset, .unset, .unset, .unset, .unset, .unset, .unset, .unset, .unset, .unset] [(.int (p0 &&& (2 : Int32)))])) (fun t_ k_ => XS.iand X0.here hx rfl (hb hby at_15) rfl k_) ?_
    refine own_join (F := fun (x : Int32) => s₁.setTop (mkF m 26 #[.val (.int p0), .val (.int p1), .val (.int p2), .val (.int p3), .val (.int p4), .val (.int x0), .val (.int x), .unset, .unset, .unset, .unset, .unset, .unset, .unset, .unset, .unset, .unset, .unset, .unset, .unset] [])) (H := fun (x : Int32) => True) (fun y0 hJ26 => ?_) (fun J26 => ?_)
    · show own_Gl p e below _ (s₁.setTop (mkF m 26 #[.val (.int p0), .val (.int p1), .val (.int p2), .val (.int p3), .val (.int p4), .val (.int x0), .val (.int y0), .unset, .unset, .unset, .unset, .unset, .unset, .unset, .unset, .unset, .unset, .unset, .unset, .unset] []))
      try dsimp only at hJ26
      refine own_st (S' := s₁.setTop (mkF m 27 #[.val (.int p0), .val (.int p1), .val (.int p2), .val (.int p3), .val (.int p4), .val (.int x0), .val (.int y0), .unset, .unset, .unset, .unset, .unset, .unset, .unset, .unset, .unset, .unset, .unset, .unset, .unset] [(.int p0)])) (fun t_ k_ => XS.iloadN X0.here hx rfl (hb hby at_26) rfl k_) ?_
      refine own_st (S' := s₁.setTop (mkF m 28 #[.val (.int p0), .val (.int p1), .val (.int p2), .val (.int p3), .val (.int p4), .val (.int x0), .val (.int y0), .unset, .unset, .unset, .unset, .unset, .unset, .unset, .unset, .unset, .unset, .unset, .unset, .unset] [(.int (4 : Int32)), (.int p0)])) (fun t_ k_ => XS.iconst X0.here hx rfl (hb hby at_27) k_) ?_
      refine own_st (S' := s₁.setTop (mkF m 29 #[.val (.int p0), .val (.int p1), .val (.int p2), .val (.int p3), .val (.int p4), .val (.int x0), .val (.int y0), .unset, .unset, .unset, .unset, .unset, .unset, .unset, .unset, .unset, .unset, .unset, .unset, .unset] [(.int (p0 &&& (4 : Int32)))])) (fun t_ k_ => XS.iand X0.here hx rfl (hb hby at_28) rfl k_) ?_
      refine own_join (F := fun (x : Int32) => s₁.setTop (mkF m 39 #[.val (.int p0), .val (.int p1), .val (.int p2), .val (.int p3), .val (.int p4), .val (.int x0), .val (.int y0), .val (.int x), .unset, .unset, .unset, .unset, .unset, .unset, .unset, .unset, .unset, .unset, .unset, .unset] [])) (H := fun (x : Int32) => True) (fun x1 hJ39 => ?_) (fun J39 => ?_)
      · show own_Gl p e below _ (s₁.setTop (mkF m 39 #[.val (.int p0), .val (.int p1), .val (.int p2), .val (.int p3), .val (.int p4), .val (.int x0), .val (.int y0), .val (.int x1), .unset, .unset, .unset, .unset, .unset, .unset, .unset, .unset, .unset, .unset, .unset, .unset] []))
        try dsimp only at hJ39
        refine own_st (S' := s₁.setTop (mkF m 40 #[.val (.int p0), .val (.int p1), .val (.int p2), .val (.int p3), .val (.int p4), .val (.int x0), .val (.int y0), .val (.int x1), .unset, .unset, .unset, .unset, .unset, .unset, .unset, .unset, .unset, .unset, .unset, .unset] [(.int p0)])) (fun t_ k_ => XS.iloadN X0.here hx rfl (hb hby at_39) rfl k_) ?_
        refine own_st (S' := s₁.setTop (mkF m 42 #[.val (.int p0), .val (.int p1), .val (.int p2), .val (.int p3), .val (.int p4), .val (.int x0), .val (.int y0), .val (.int x1), .unset, .unset, .unset, .unset, .unset, .unset, .unset, .unset, .unset, .unset, .unset, .unset] [(.int (8 : Int32)), (.int p0)])) (fun t_ k_ => XS.bipush X0.here hx rfl (hb hby at_40) k_) ?_
        refine own_st (S' := s₁.setTop (mkF m 43 #[.val (.int p0), .val (.int p1), .val (.int p2), .val (.int p3), .val (.int p4), .val (.int x0), .val (.int y0), .val (.int x1), .unset, .unset, .unset, .unset, .unset, .unset, .unset, .unset, .unset, .unset, .unset, .unset] [(.int (p0 &&& (8 : Int32)))])) (fun t_ k_ => XS.iand X0.here hx rfl (hb hby at_42) rfl k_) ?_
        refine own_join (F := fun (x : Int32) => s₁.setTop (mkF m 54 #[.val (.int p0), .val (.int p1), .val (.int p2), .val (.int p3), .val (.int p4), .val (.int x0), .val (.int y0), .val (.int x1), .val (.int x), .unset, .unset, .unset, .unset, .unset, .unset, .unset, .unset, .unset, .unset, .unset] [])) (H := fun (x : Int32) => True) (fun y1 hJ54 => ?_) (fun J54 => ?_)
        · show own_Gl p e below _ (s₁.setTop (mkF m 54 #[.val (.int p0), .val (.int p1), .val (.int p2), .val (.int p3), .val (.int p4), .val (.int x0), .val (.int y0), .val (.int x1), .val (.int y1), .unset, .unset, .unset, .unset, .unset, .unset, .unset, .unset, .unset, .unset, .unset] []))
          try dsimp only at hJ54
          refine own_st (S' := s₁.setTop (mkF m 55 #[.val (.int p0), .val (.int p1), .val (.int p2), .val (.int p3), .val (.int p4), .val (.int x0), .val (.int y0), .val (.int x1), .val (.int y1), .unset, .unset, .unset, .unset, .unset, .unset, .unset, .unset, .unset, .unset, .unset] [(.int p0)])) (fun t_ k_ => XS.iloadN X0.here hx rfl (hb hby at_54) rfl k_) ?_
          refine own_st (S' := s₁.setTop (mkF m 56 #[.val (.int p0), .val (.int p1), .val (.int p2), .val (.int p3), .val (.int p4), .val (.int x0), .val (.int y0), .val (.int x1), .val (.int y1), .unset, .unset, .unset, .unset, .unset, .unset, .unset, .unset, .unset, .unset, .unset] [(.int (4 : Int32)), (.int p0)])) (fun t_ k_ => XS.iconst X0.here hx rfl (hb hby at_55) k_) ?_
          refine own_st (S' := s₁.setTop (mkF m 57 #[.val (.int p0), .val (.int p1), .val (.int p2), .val (.int p3), .val (.int p4), .val (.int x0), .val (.int y0), .val (.int x1), .val (.int y1), .unset, .unset, .unset, .unset, .unset, .unset, .unset, .unset, .unset, .unset, .unset] [(.int ((p0.toUInt32 >>> ((4 : Int32) &&& 31).toUInt32).toInt32))])) (fun t_ k_ => XS.iushr X0.here hx rfl (hb hby at_56) rfl k_) ?_
          refine own_st (S' := s₁.setTop (mkF m 58 #[.val (.int p0), .val (.int p1), .val (.int p2), .val (.int p3), .val (.int p4), .val (.int x0), .val (.int y0), .val (.int x1), .val (.int y1), .unset, .unset, .unset, .unset, .unset, .unset, .unset, .unset, .unset, .unset, .unset] [(.int (1 : Int32)), (.int ((p0.toUInt32 >>> ((4 : Int32) &&& 31).toUInt32).toInt32))])) (fun t_ k_ => XS.iconst X0.here hx rfl (hb hby at_57) k_) ?_
          refine own_st (S' := s₁.setTop (mkF m 59 #[.val (.int p0), .val (.int p1), .val (.int p2), .val (.int p3), .val (.int p4), .val (.int x0), .val (.int y0), .val (.int x1), .val (.int y1), .unset, .unset, .unset, .unset, .unset, .unset, .unset, .unset, .unset, .unset, .unset] [(.int (((p0.toUInt32 >>> ((4 : Int32) &&& 31).toUInt32).toInt32) &&& (1 : Int32)))])) (fun t_ k_ => XS.iand X0.here hx rfl (hb hby at_58) rfl k_) ?_
          by_cases hst : (((p0.toUInt32 >>> ((4 : Int32) &&& 31).toUInt32).toInt32) &&& (1 : Int32)) = (0 : Int32)
          · refine own_cast (S' := s₁.setTop (mkF m 59 #[.val (.int p0), .val (.int p1), .val (.int p2), .val (.int p3), .val (.int p4), .val (.int x0), .val (.int y0), .val (.int x1), .val (.int y1), .unset, .unset, .unset, .unset, .unset, .unset, .unset, .unset, .unset, .unset, .unset] [(.int (0 : Int32))])) (by rw [hst]) ?_
            refine own_st (S' := s₁.setTop (mkF m 61 #[.val (.int p0), .val (.int p1), .val (.int p2), .val (.int p3), .val (.int p4), .val (.int x0), .val (.int y0), .val (.int x1), .val (.int y1), .val (.int (0 : Int32)), .unset, .unset, .unset, .unset, .unset, .unset, .unset, .unset, .unset, .unset] [])) (fun t_ k_ => XS.istore X0.here hx rfl (hb hby at_59) rfl (l' := #[.val (.int p0), .val (.int p1), .val (.int p2), .val (.int p3), .val (.int p4), .val (.int x0), .val (.int y0), .val (.int x1), .val (.int y1), .val (.int (0 : Int32)), .unset, .unset, .unset, .unset, .unset, .unset, .unset, .unset, .unset, .unset]) rfl k_) ?_
            refine own_st (S' := s₁.setTop (mkF m 62 #[.val (.int p0), .val (.int p1), .val (.int p2), .val (.int p3), .val (.int p4), .val (.int x0), .val (.int y0), .val (.int x1), .val (.int y1), .val (.int (0 : Int32)), .unset, .unset, .unset, .unset, .unset, .unset, .unset, .unset, .unset, .unset] [(.int (2 : Int32))])) (fun t_ k_ => XS.iconst X0.here hx rfl (hb hby at_61) k_) ?_
            obtain ⟨T_1, h_1, k_1, X_1, e_1, E_1, A_1, B_1, st_1⟩ := newPE X0 hx hZ (hw _ (List.mem_of_getElem? (i := 0) rfl)) e0 (g := (mkF m 62 #[.val (.int p0), .val (.int p1), .val (.int p2), .val (.int p3), .val (.int p4), .val (.int x0), .val (.int y0), .val (.int x1), .val (.int y1), .val (.int (0 : Int32)), .unset, .unset, .unset, .unset, .unset, .unset, .unset, .unset, .unset, .unset] [(.int (2 : Int32))])) rfl (hb hby at_62) rfl (by decide) (cap := 2) (by decide) (by decide) (by decide) (by decide) (ad := "[I") (by decide)
            obtain ⟨b_1, gg_1⟩ : ∃ z, z = h0.size := ⟨_, rfl⟩
            rw [← gg_1] at A_1 B_1 st_1
            have g_b_1 : n0 ≤ b_1 := Nat.le_trans Z0 (Nat.le_of_eq gg_1.symm)
            have Z_1 : n0 ≤ h_1.size := Nat.le_trans Z0 E_1.1
            have V_1 : Arv Z h_1 b_1 k_1 .int (2 : Int32) [(.int (0 : Int32)), (.int (0 : Int32))] (.int (0 : Int32)) := (Arv.new A_1 (by decide)).pad (pad_rep [] (.int (0 : Int32)) 2)
            refine own_st (S' := T_1.setTop (mkF m 64 #[.val (.int p0), .val (.int p1), .val (.int p2), .val (.int p3), .val (.int p4), .val (.int x0), .val (.int y0), .val (.int x1), .val (.int y1), .val (.int (0 : Int32)), .unset, .unset, .unset, .unset, .unset, .unset, .unset, .unset, .unset, .unset] [(.ref b_1)])) st_1 ?_
            refine own_st (S' := T_1.setTop (mkF m 65 #[.val (.int p0), .val (.int p1), .val (.int p2), .val (.int p3), .val (.int p4), .val (.int x0), .val (.int y0), .val (.int x1), .val (.int y1), .val (.int (0 : Int32)), .unset, .unset, .unset, .unset, .unset, .unset, .unset, .unset, .unset, .unset] [(.ref b_1), (.ref b_1)])) (fun t_ k_ => XS.dup X_1.here hx rfl (hb hby at_64) rfl rfl k_) ?_
            refine own_st (S' := T_1.setTop (mkF m 66 #[.val (.int p0), .val (.int p1), .val (.int p2), .val (.int p3), .val (.int p4), .val (.int x0), .val (.int y0), .val (.int x1), .val (.int y1), .val (.int (0 : Int32)), .unset, .unset, .unset, .unset, .unset, .unset, .unset, .unset, .unset, .unset] [(.int (0 : Int32)), (.ref b_1), (.ref b_1)])) (fun t_ k_ => XS.iconst X_1.here hx rfl (hb hby at_65) k_) ?_
            refine own_st (S' := T_1.setTop (mkF m 67 #[.val (.int p0), .val (.int p1), .val (.int p2), .val (.int p3), .val (.int p4), .val (.int x0), .val (.int y0), .val (.int x1), .val (.int y1), .val (.int (0 : Int32)), .unset, .unset, .unset, .unset, .unset, .unset, .unset, .unset, .unset, .unset] [(.int (-1 : Int32)), (.int (0 : Int32)), (.ref b_1), (.ref b_1)])) (fun t_ k_ => XS.iconst X_1.here hx rfl (hb hby at_66) k_) ?_
            obtain ⟨cl_2, Ar_2, q_2, S_2, M_2, H_2, G_2⟩ := id V_1
            have hin_2 : ¬ ((0 : Int32) < 0 ∨ cl_2.slots.size ≤ ((0 : Int32)).toNatClampNeg) := inb_of S_2 ⟨by decide, by decide⟩
            obtain ⟨T_2, h_2, X_2, e_2, W_2, st_2⟩ := stI X_1 hx hZ e_1 Ar_2 (j := (0 : Int32)) hin_2 (g := (mkF m 67 #[.val (.int p0), .val (.int p1), .val (.int p2), .val (.int p3), .val (.int p4), .val (.int x0), .val (.int y0), .val (.int x1), .val (.int y1), .val (.int (0 : Int32)), .unset, .unset, .unset, .unset, .unset, .unset, .unset, .unset, .unset, .unset] [(.int (-1 : Int32)), (.int (0 : Int32)), (.ref b_1), (.ref b_1)])) rfl rfl (hb hby at_67)
            have Z_2 : n0 ≤ h_2.size := Nat.le_trans Z_1 (Keep.of_wr W_2).1
            have N_2 := Fr.snoc X_2 N0 g_b_1
            have V_2 : Arv Z h_2 b_1 k_1 .int (2 : Int32) [(.int (-1 : Int32)), (.int (0 : Int32))] (.int (0 : Int32)) := Arv.set Ar_2 q_2 S_2 M_2 H_2 G_2 rfl W_2 0 rfl (Nat.le_of_ble_eq_true rfl)
            refine own_st (S' := T_2.setTop (mkF m 68 #[.val (.int p0), .val (.int p1), .val (.int p2), .val (.int p3), .val (.int p4), .val (.int x0), .val (.int y0), .val (.int x1), .val (.int y1), .val (.int (0 : Int32)), .unset, .unset, .unset, .unset, .unset, .unset, .unset, .unset, .unset, .unset] [(.ref b_1)])) st_2 ?_
            refine own_st (S' := T_2.setTop (mkF m 69 #[.val (.int p0), .val (.int p1), .val (.int p2), .val (.int p3), .val (.int p4), .val (.int x0), .val (.int y0), .val (.int x1), .val (.int y1), .val (.int (0 : Int32)), .unset, .unset, .unset, .unset, .unset, .unset, .unset, .unset, .unset, .unset] [(.ref b_1), (.ref b_1)])) (fun t_ k_ => XS.dup X_2.here hx rfl (hb hby at_68) rfl rfl k_) ?_
            refine own_st (S' := T_2.setTop (mkF m 70 #[.val (.int p0), .val (.int p1), .val (.int p2), .val (.int p3), .val (.int p4), .val (.int x0), .val (.int y0), .val (.int x1), .val (.int y1), .val (.int (0 : Int32)), .unset, .unset, .unset, .unset, .unset, .unset, .unset, .unset, .unset, .unset] [(.int (1 : Int32)), (.ref b_1), (.ref b_1)])) (fun t_ k_ => XS.iconst X_2.here hx rfl (hb hby at_69) k_) ?_
            refine own_st (S' := T_2.setTop (mkF m 72 #[.val (.int p0), .val (.int p1), .val (.int p2), .val (.int p3), .val (.int p4), .val (.int x0), .val (.int y0), .val (.int x1), .val (.int y1), .val (.int (0 : Int32)), .unset, .unset, .unset, .unset, .unset, .unset, .unset, .unset, .unset, .unset] [(.int (-2 : Int32)), (.int (1 : Int32)), (.ref b_1), (.ref b_1)])) (fun t_ k_ => XS.bipush X_2.here hx rfl (hb hby at_70) k_) ?_
            obtain ⟨cl_3, Ar_3, q_3, S_3, M_3, H_3, G_3⟩ := id V_2
            have hin_3 : ¬ ((1 : Int32) < 0 ∨ cl_3.slots.size ≤ ((1 : Int32)).toNatClampNeg) := inb_of S_3 ⟨by decide, by decide⟩
            obtain ⟨T_3, h_3, X_3, e_3, W_3, st_3⟩ := stI X_2 hx hZ e_2 Ar_3 (j := (1 : Int32)) hin_3 (g := (mkF m 72 #[.val (.int p0), .val (.int p1), .val (.int p2), .val (.int p3), .val (.int p4), .val (.int x0), .val (.int y0), .val (.int x1), .val (.int y1), .val (.int (0 : Int32)), .unset, .unset, .unset, .unset, .unset, .unset, .unset, .unset, .unset, .unset] [(.int (-2 : Int32)), (.int (1 : Int32)), (.ref b_1), (.ref b_1)])) rfl rfl (hb hby at_72)
            have Z_3 : n0 ≤ h_3.size := Nat.le_trans Z_2 (Keep.of_wr W_3).1
            have N_3 := Fr.snoc X_3 N_2 g_b_1
            have V_3 : Arv Z h_3 b_1 k_1 .int (2 : Int32) [(.int (-1 : Int32)), (.int (-2 : Int32))] (.int (0 : Int32)) := Arv.set Ar_3 q_3 S_3 M_3 H_3 G_3 rfl W_3 1 rfl (Nat.le_of_ble_eq_true rfl)
            refine own_st (S' := T_3.setTop (mkF m 73 #[.val (.int p0), .val (.int p1), .val (.int p2), .val (.int p3), .val (.int p4), .val (.int x0), .val (.int y0), .val (.int x1), .val (.int y1), .val (.int (0 : Int32)), .unset, .unset, .unset, .unset, .unset, .unset, .unset, .unset, .unset, .unset] [(.ref b_1)])) st_3 ?_
            refine own_st (S' := T_3.setTop (mkF m 75 #[.val (.int p0), .val (.int p1), .val (.int p2), .val (.int p3), .val (.int p4), .val (.int x0), .val (.int y0), .val (.int x1), .val (.int y1), .val (.int (0 : Int32)), .val (.ref b_1), .unset, .unset, .unset, .unset, .unset, .unset, .unset, .unset, .unset] [])) (fun t_ k_ => XS.astore X_3.here hx rfl (hb hby at_73) rfl rfl (l' := #[.val (.int p0), .val (.int p1), .val (.int p2), .val (.int p3), .val (.int p4), .val (.int x0), .val (.int y0), .val (.int x1), .val (.int y1), .val (.int (0 : Int32)), .val (.ref b_1), .unset, .unset, .unset, .unset, .unset, .unset, .unset, .unset, .unset]) rfl k_) ?_
            refine own_st (S' := T_3.setTop (mkF m 76 #[.val (.int p0), .val (.int p1), .val (.int p2), .val (.int p3), .val (.int p4), .val (.int x0), .val (.int y0), .val (.int x1), .val (.int y1), .val (.int (0 : Int32)), .val (.ref b_1), .unset, .unset, .unset, .unset, .unset, .unset, .unset, .unset, .unset] [(.int (2 : Int32))])) (fun t_ k_ => XS.iconst X_3.here hx rfl (hb hby at_75) k_) ?_
            obtain ⟨T_4, h_4, k_4, X_4, e_4, E_4, A_4, B_4, st_4⟩ := newPE X_3 hx hZ (hw _ (List.mem_of_getElem? (i := 0) rfl)) e_3 (g := (mkF m 76 #[.val (.int p0), .val (.int p1), .val (.int p2), .val (.int p3), .val (.int p4), .val (.int x0), .val (.int y0), .val (.int x1), .val (.int y1), .val (.int (0 : Int32)), .val (.ref b_1), .unset, .unset, .unset, .unset, .unset, .unset, .unset, .unset, .unset] [(.int (2 : Int32))])) rfl (hb hby at_76) rfl (by decide) (cap := 2) (by decide) (by decide) (by decide) (by decide) (ad := "[I") (by decide)
            obtain ⟨b_4, gg_4⟩ : ∃ z, z = h_3.size := ⟨_, rfl⟩
            rw [← gg_4] at A_4 B_4 st_4
            have ne_b_1_b_4 : b_1 ≠ b_4 := Nat.ne_of_lt (Nat.lt_of_lt_of_le V_3.lt (Nat.le_of_eq gg_4.symm))
            have g_b_4 : n0 ≤ b_4 := Nat.le_trans Z_3 (Nat.le_of_eq gg_4.symm)
            have Z_4 : n0 ≤ h_4.size := Nat.le_trans Z_3 E_4.1
            have V_4 : Arv Z h_4 b_4 k_4 .int (2 : Int32) [(.int (0 : Int32)), (.int (0 : Int32))] (.int (0 : Int32)) := (Arv.new A_4 (by decide)).pad (pad_rep [] (.int (0 : Int32)) 2)
            refine own_st (S' := T_4.setTop (mkF m 78 #[.val (.int p0), .val (.int p1), .val (.int p2), .val (.int p3), .val (.int p4), .val (.int x0), .val (.int y0), .val (.int x1), .val (.int y1), .val (.int (0 : Int32)), .val (.ref b_1), .unset, .unset, .unset, .unset, .unset, .unset, .unset, .unset, .unset] [(.ref b_4)])) st_4 ?_
            refine own_st (S' := T_4.setTop (mkF m 79 #[.val (.int p0), .val (.int p1), .val (.int p2), .val (.int p3), .val (.int p4), .val (.int x0), .val (.int y0), .val (.int x1), .val (.int y1), .val (.int (0 : Int32)), .val (.ref b_1), .unset, .unset, .unset, .unset, .unset, .unset, .unset, .unset, .unset] [(.ref b_4), (.ref b_4)])) (fun t_ k_ => XS.dup X_4.here hx rfl (hb hby at_78) rfl rfl k_) ?_
            refine own_st (S' := T_4.setTop (mkF m 80 #[.val (.int p0), .val (.int p1), .val (.int p2), .val (.int p3), .val (.int p4), .val (.int x0), .val (.int y0), .val (.int x1), .val (.int y1), .val (.int (0 : Int32)), .val (.ref b_1), .unset, .unset, .unset, .unset, .unset, .unset, .unset, .unset, .unset] [(.int (0 : Int32)), (.ref b_4), (.ref b_4)])) (fun t_ k_ => XS.iconst X_4.here hx rfl (hb hby at_79) k_) ?_
            refine own_st (S' := T_4.setTop (mkF m 82 #[.val (.int p0), .val (.int p1), .val (.int p2), .val (.int p3), .val (.int p4), .val (.int x0), .val (.int y0), .val (.int x1), .val (.int y1), .val (.int (0 : Int32)), .val (.ref b_1), .unset, .unset, .unset, .unset, .unset, .unset, .unset, .unset, .unset] [(.int x0), (.int (0 : Int32)), (.ref b_4), (.ref b_4)])) (fun t_ k_ => XS.iload X_4.here hx rfl (hb hby at_80) rfl k_) ?_
            obtain ⟨cl_5, Ar_5, q_5, S_5, M_5, H_5, G_5⟩ := id V_4
            have hin_5 : ¬ ((0 : Int32) < 0 ∨ cl_5.slots.size ≤ ((0 : Int32)).toNatClampNeg) := inb_of S_5 ⟨by decide, by decide⟩
            obtain ⟨T_5, h_5, X_5, e_5, W_5, st_5⟩ := stI X_4 hx hZ e_4 Ar_5 (j := (0 : Int32)) hin_5 (g := (mkF m 82 #[.val (.int p0), .val (.int p1), .val (.int p2), .val (.int p3), .val (.int p4), .val (.int x0), .val (.int y0), .val (.int x1), .val (.int y1), .val (.int (0 : Int32)), .val (.ref b_1), .unset, .unset, .unset, .unset, .unset, .unset, .unset, .unset, .unset] [(.int x0), (.int (0 : Int32)), (.ref b_4), (.ref b_4)])) rfl rfl (hb hby at_82)
            have Z_5 : n0 ≤ h_5.size := Nat.le_trans Z_4 (Keep.of_wr W_5).1
            have N_5 := Fr.snoc X_5 N_3 g_b_4
            have V_5 : Arv Z h_5 b_4 k_4 .int (2 : Int32) [(.int x0), (.int (0 : Int32))] (.int (0 : Int32)) := Arv.set Ar_5 q_5 S_5 M_5 H_5 G_5 rfl W_5 0 rfl (Nat.le_of_ble_eq_true rfl)
            refine own_st (S' := T_5.setTop (mkF m 83 #[.val (.int p0), .val (.int p1), .val (.int p2), .val (.int p3), .val (.int p4), .val (.int x0), .val (.int y0), .val (.int x1), .val (.int y1), .val (.int (0 : Int32)), .val (.ref b_1), .unset, .unset, .unset, .unset, .unset, .unset, .unset, .unset, .unset] [(.ref b_4)])) st_5 ?_
            refine own_st (S' := T_5.setTop (mkF m 84 #[.val (.int p0), .val (.int p1), .val (.int p2), .val (.int p3), .val (.int p4), .val (.int x0), .val (.int y0), .val (.int x1), .val (.int y1), .val (.int (0 : Int32)), .val (.ref b_1), .unset, .unset, .unset, .unset, .unset, .unset, .unset, .unset, .unset] [(.ref b_4), (.ref b_4)])) (fun t_ k_ => XS.dup X_5.here hx rfl (hb hby at_83) rfl rfl k_) ?_
            refine own_st (S' := T_5.setTop (mkF m 85 #[.val (.int p0), .val (.int p1), .val (.int p2), .val (.int p3), .val (.int p4), .val (.int x0), .val (.int y0), .val (.int x1), .val (.int y1), .val (.int (0 : Int32)), .val (.ref b_1), .unset, .unset, .unset, .unset, .unset, .unset, .unset, .unset, .unset] [(.int (1 : Int32)), (.ref b_4), (.ref b_4)])) (fun t_ k_ => XS.iconst X_5.here hx rfl (hb hby at_84) k_) ?_
            refine own_st (S' := T_5.setTop (mkF m 87 #[.val (.int p0), .val (.int p1), .val (.int p2), .val (.int p3), .val (.int p4), .val (.int x0), .val (.int y0), .val (.int x1), .val (.int y1), .val (.int (0 : Int32)), .val (.ref b_1), .unset, .unset, .unset, .unset, .unset, .unset, .unset, .unset, .unset] [(.int x1), (.int (1 : Int32)), (.ref b_4), (.ref b_4)])) (fun t_ k_ => XS.iload X_5.here hx rfl (hb hby at_85) rfl k_) ?_
            obtain ⟨cl_6, Ar_6, q_6, S_6, M_6, H_6, G_6⟩ := id V_5
            have hin_6 : ¬ ((1 : Int32) < 0 ∨ cl_6.slots.size ≤ ((1 : Int32)).toNatClampNeg) := inb_of S_6 ⟨by decide, by decide⟩
            obtain ⟨T_6, h_6, X_6, e_6, W_6, st_6⟩ := stI X_5 hx hZ e_5 Ar_6 (j := (1 : Int32)) hin_6 (g := (mkF m 87 #[.val (.int p0), .val (.int p1), .val (.int p2), .val (.int p3), .val (.int p4), .val (.int x0), .val (.int y0), .val (.int x1), .val (.int y1), .val (.int (0 : Int32)), .val (.ref b_1), .unset, .unset, .unset, .unset, .unset, .unset, .unset, .unset, .unset] [(.int x1), (.int (1 : Int32)), (.ref b_4), (.ref b_4)])) rfl rfl (hb hby at_87)
            have Z_6 : n0 ≤ h_6.size := Nat.le_trans Z_5 (Keep.of_wr W_6).1
            have N_6 := Fr.snoc X_6 N_5 g_b_4
            have V_6 : Arv Z h_6 b_4 k_4 .int (2 : Int32) [(.int x0), (.int x1)] (.int (0 : Int32)) := Arv.set Ar_6 q_6 S_6 M_6 H_6 G_6 rfl W_6 1 rfl (Nat.le_of_ble_eq_true rfl)
            refine own_st (S' := T_6.setTop (mkF m 88 #[.val (.int p0), .val (.int p1), .val (.int p2), .val (.int p3), .val (.int p4), .val (.int x0), .val (.int y0), .val (.int x1), .val (.int y1), .val (.int (0 : Int32)), .val (.ref b_1), .unset, .unset, .unset, .unset, .unset, .unset, .unset, .unset, .unset] [(.ref b_4)])) st_6 ?_
            refine own_st (S' := T_6.setTop (mkF m 90 #[.val (.int p0), .val (.int p1), .val (.int p2), .val (.int p3), .val (.int p4), .val (.int x0), .val (.int y0), .val (.int x1), .val (.int y1), .val (.int (0 : Int32)), .val (.ref b_1), .val (.ref b_4), .unset, .unset, .unset, .unset, .unset, .unset, .unset, .unset] [])) (fun t_ k_ => XS.astore X_6.here hx rfl (hb hby at_88) rfl rfl (l' := #[.val (.int p0), .val (.int p1), .val (.int p2), .val (.int p3), .val (.int p4), .val (.int x0), .val (.int y0), .val (.int x1), .val (.int y1), .val (.int (0 : Int32)), .val (.ref b_1), .val (.ref b_4), .unset, .unset, .unset, .unset, .unset, .unset, .unset, .unset]) rfl k_) ?_
            refine own_st (S' := T_6.setTop (mkF m 91 #[.val (.int p0), .val (.int p1), .val (.int p2), .val (.int p3), .val (.int p4), .val (.int x0), .val (.int y0), .val (.int x1), .val (.int y1), .val (.int (0 : Int32)), .val (.ref b_1), .val (.ref b_4), .unset, .unset, .unset, .unset, .unset, .unset, .unset, .unset] [(.int (2 : Int32))])) (fun t_ k_ => XS.iconst X_6.here hx rfl (hb hby at_90) k_) ?_
            have f_7 : Arv Z h_6 b_1 k_1 .int (2 : Int32) [(.int (-1 : Int32)), (.int (-2 : Int32))] (.int (0 : Int32)) := (((V_3.ext E_4).other W_5 ne_b_1_b_4).other W_6 ne_b_1_b_4)
            obtain ⟨T_8, h_8, k_8, X_8, e_8, E_8, A_8, B_8, st_8⟩ := newPE X_6 hx hZ (hw _ (List.mem_of_getElem? (i := 0) rfl)) e_6 (g := (mkF m 91 #[.val (.int p0), .val (.int p1), .val (.int p2), .val (.int p3), .val (.int p4), .val (.int x0), .val (.int y0), .val (.int x1), .val (.int y1), .val (.int (0 : Int32)), .val (.ref b_1), .val (.ref b_4), .unset, .unset, .unset, .unset, .unset, .unset, .unset, .unset] [(.int (2 : Int32))])) rfl (hb hby at_91) rfl (by decide) (cap := 2) (by decide) (by decide) (by decide) (by decide) (ad := "[I") (by decide)
            obtain ⟨b_8, gg_8⟩ : ∃ z, z = h_6.size := ⟨_, rfl⟩
            rw [← gg_8] at A_8 B_8 st_8
            have ne_b_1_b_8 : b_1 ≠ b_8 := Nat.ne_of_lt (Nat.lt_of_lt_of_le f_7.lt (Nat.le_of_eq gg_8.symm))
            have ne_b_4_b_8 : b_4 ≠ b_8 := Nat.ne_of_lt (Nat.lt_of_lt_of_le V_6.lt (Nat.le_of_eq gg_8.symm))
            have g_b_8 : n0 ≤ b_8 := Nat.le_trans Z_6 (Nat.le_of_eq gg_8.symm)
            have Z_8 : n0 ≤ h_8.size := Nat.le_trans Z_6 E_8.1
            have V_8 : Arv Z h_8 b_8 k_8 .int (2 : Int32) [(.int (0 : Int32)), (.int (0 : Int32))] (.int (0 : Int32)) := (Arv.new A_8 (by decide)).pad (pad_rep [] (.int (0 : Int32)) 2)
            refine own_st (S' := T_8.setTop (mkF m 93 #[.val (.int p0), .val (.int p1), .val (.int p2), .val (.int p3), .val (.int p4), .val (.int x0), .val (.int y0), .val (.int x1), .val (.int y1), .val (.int (0 : Int32)), .val (.ref b_1), .val (.ref b_4), .unset, .unset, .unset, .unset, .unset, .unset, .unset, .unset] [(.ref b_8)])) st_8 ?_
            refine own_st (S' := T_8.setTop (mkF m 94 #[.val (.int p0), .val (.int p1), .val (.int p2), .val (.int p3), .val (.int p4), .val (.int x0), .val (.int y0), .val (.int x1), .val (.int y1), .val (.int (0 : Int32)), .val (.ref b_1), .val (.ref b_4), .unset, .unset, .unset, .unset, .unset, .unset, .unset, .unset] [(.ref b_8), (.ref b_8)])) (fun t_ k_ => XS.dup X_8.here hx rfl (hb hby at_93) rfl rfl k_) ?_
            refine own_st (S' := T_8.setTop (mkF m 95 #[.val (.int p0), .val (.int p1), .val (.int p2), .val (.int p3), .val (.int p4), .val (.int x0), .val (.int y0), .val (.int x1), .val (.int y1), .val (.int (0 : Int32)), .val (.ref b_1), .val (.ref b_4), .unset, .unset, .unset, .unset, .unset, .unset, .unset, .unset] [(.int (0 : Int32)), (.ref b_8), (.ref b_8)])) (fun t_ k_ => XS.iconst X_8.here hx rfl (hb hby at_94) k_) ?_
            refine own_st (S' := T_8.setTop (mkF m 97 #[.val (.int p0), .val (.int p1), .val (.int p2), .val (.int p3), .val (.int p4), .val (.int x0), .val (.int y0), .val (.int x1), .val (.int y1), .val (.int (0 : Int32)), .val (.ref b_1), .val (.ref b_4), .unset, .unset, .unset, .unset, .unset, .unset, .unset, .unset] [(.int y0), (.int (0 : Int32)), (.ref b_8), (.ref b_8)])) (fun t_ k_ => XS.iload X_8.here hx rfl (hb hby at_95) rfl k_) ?_
            obtain ⟨cl_9, Ar_9, q_9, S_9, M_9, H_9, G_9⟩ := id V_8
            have hin_9 : ¬ ((0 : Int32) < 0 ∨ cl_9.slots.size ≤ ((0 : Int32)).toNatClampNeg) := inb_of S_9 ⟨by decide, by decide⟩
            obtain ⟨T_9, h_9, X_9, e_9, W_9, st_9⟩ := stI X_8 hx hZ e_8 Ar_9 (j := (0 : Int32)) hin_9 (g := (mkF m 97 #[.val (.int p0), .val (.int p1), .val (.int p2), .val (.int p3), .val (.int p4), .val (.int x0), .val (.int y0), .val (.int x1), .val (.int y1), .val (.int (0 : Int32)), .val (.ref b_1), .val (.ref b_4), .unset, .unset, .unset, .unset, .unset, .unset, .unset, .unset] [(.int y0), (.int (0 : Int32)), (.ref b_8), (.ref b_8)])) rfl rfl (hb hby at_97)
            have Z_9 : n0 ≤ h_9.size := Nat.le_trans Z_8 (Keep.of_wr W_9).1
            have N_9 := Fr.snoc X_9 N_6 g_b_8
            have V_9 : Arv Z h_9 b_8 k_8 .int (2 : Int32) [(.int y0), (.int (0 : Int32))] (.int (0 : Int32)) := Arv.set Ar_9 q_9 S_9 M_9 H_9 G_9 rfl W_9 0 rfl (Nat.le_of_ble_eq_true rfl)
            refine own_st (S' := T_9.setTop (mkF m 98 #[.val (.int p0), .val (.int p1), .val (.int p2), .val (.int p3), .val (.int p4), .val (.int x0), .val (.int y0), .val (.int x1), .val (.int y1), .val (.int (0 : Int32)), .val (.ref b_1), .val (.ref b_4), .unset, .unset, .unset, .unset, .unset, .unset, .unset, .unset] [(.ref b_8)])) st_9 ?_
            refine own_st (S' := T_9.setTop (mkF m 99 #[.val (.int p0), .val (.int p1), .val (.int p2), .val (.int p3), .val (.int p4), .val (.int x0), .val (.int y0), .val (.int x1), .val (.int y1), .val (.int (0 : Int32)), .val (.ref b_1), .val (.ref b_4), .unset, .unset, .unset, .unset, .unset, .unset, .unset, .unset] [(.ref b_8), (.ref b_8)])) (fun t_ k_ => XS.dup X_9.here hx rfl (hb hby at_98) rfl rfl k_) ?_
            refine own_st (S' := T_9.setTop (mkF m 100 #[.val (.int p0), .val (.int p1), .val (.int p2), .val (.int p3), .val (.int p4), .val (.int x0), .val (.int y0), .val (.int x1), .val (.int y1), .val (.int (0 : Int32)), .val (.ref b_1), .val (.ref b_4), .unset, .unset, .unset, .unset, .unset, .unset, .unset, .unset] [(.int (1 : Int32)), (.ref b_8), (.ref b_8)])) (fun t_ k_ => XS.iconst X_9.here hx rfl (hb hby at_99) k_) ?_
            refine own_st (S' := T_9.setTop (mkF m 102 #[.val (.int p0), .val (.int p1), .val (.int p2), .val (.int p3), .val (.int p4), .val (.int x0), .val (.int y0), .val (.int x1), .val (.int y1), .val (.int (0 : Int32)), .val (.ref b_1), .val (.ref b_4), .unset, .unset, .unset, .unset, .unset, .unset, .unset, .unset] [(.int y1), (.int (1 : Int32)), (.ref b_8), (.ref b_8)])) (fun t_ k_ => XS.iload X_9.here hx rfl (hb hby at_100) rfl k_) ?_
            obtain ⟨cl_10, Ar_10, q_10, S_10, M_10, H_10, G_10⟩ := id V_9
            have hin_10 : ¬ ((1 : Int32) < 0 ∨ cl_10.slots.size ≤ ((1 : Int32)).toNatClampNeg) := inb_of S_10 ⟨by decide, by decide⟩
            obtain ⟨T_10, h_10, X_10, e_10, W_10, st_10⟩ := stI X_9 hx hZ e_9 Ar_10 (j := (1 : Int32)) hin_10 (g := (mkF m 102 #[.val (.int p0), .val (.int p1), .val (.int p2), .val (.int p3), .val (.int p4), .val (.int x0), .val (.int y0), .val (.int x1), .val (.int y1), .val (.int (0 : Int32)), .val (.ref b_1), .val (.ref b_4), .unset, .unset, .unset, .unset, .unset, .unset, .unset, .unset] [(.int y1), (.int (1 : Int32)), (.ref b_8), (.ref b_8)])) rfl rfl (hb hby at_102)
            have Z_10 : n0 ≤ h_10.size := Nat.le_trans Z_9 (Keep.of_wr W_10).1
            have N_10 := Fr.snoc X_10 N_9 g_b_8
            have V_10 : Arv Z h_10 b_8 k_8 .int (2 : Int32) [(.int y0), (.int y1)] (.int (0 : Int32)) := Arv.set Ar_10 q_10 S_10 M_10 H_10 G_10 rfl W_10 1 rfl (Nat.le_of_ble_eq_true rfl)
            refine own_st (S' := T_10.setTop (mkF m 103 #[.val (.int p0), .val (.int p1), .val (.int p2), .val (.int p3), .val (.int p4), .val (.int x0), .val (.int y0), .val (.int x1), .val (.int y1), .val (.int (0 : Int32)), .val (.ref b_1), .val (.ref b_4), .unset, .unset, .unset, .unset, .unset, .unset, .unset, .unset] [(.ref b_8)])) st_10 ?_
            refine own_st (S' := T_10.setTop (mkF m 105 #[.val (.int p0), .val (.int p1), .val (.int p2), .val (.int p3), .val (.int p4), .val (.int x0), .val (.int y0), .val (.int x1), .val (.int y1), .val (.int (0 : Int32)), .val (.ref b_1), .val (.ref b_4), .val (.ref b_8), .unset, .unset, .unset, .unset, .unset, .unset, .unset] [])) (fun t_ k_ => XS.astore X_10.here hx rfl (hb hby at_103) rfl rfl (l' := #[.val (.int p0), .val (.int p1), .val (.int p2), .val (.int p3), .val (.int p4), .val (.int x0), .val (.int y0), .val (.int x1), .val (.int y1), .val (.int (0 : Int32)), .val (.ref b_1), .val (.ref b_4), .val (.ref b_8), .unset, .unset, .unset, .unset, .unset, .unset, .unset]) rfl k_) ?_
            refine own_st (S' := T_10.setTop (mkF m 106 #[.val (.int p0), .val (.int p1), .val (.int p2), .val (.int p3), .val (.int p4), .val (.int x0), .val (.int y0), .val (.int x1), .val (.int y1), .val (.int (0 : Int32)), .val (.ref b_1), .val (.ref b_4), .val (.ref b_8), .unset, .unset, .unset, .unset, .unset, .unset, .unset] [(.int (2 : Int32))])) (fun t_ k_ => XS.iconst X_10.here hx rfl (hb hby at_105) k_) ?_
            have f_11 : Arv Z h_10 b_1 k_1 .int (2 : Int32) [(.int (-1 : Int32)), (.int (-2 : Int32))] (.int (0 : Int32)) := (((f_7.ext E_8).other W_9 ne_b_1_b_8).other W_10 ne_b_1_b_8)
            have f_12 : Arv Z h_10 b_4 k_4 .int (2 : Int32) [(.int x0), (.int x1)] (.int (0 : Int32)) := (((V_6.ext E_8).other W_9 ne_b_4_b_8).other W_10 ne_b_4_b_8)
            obtain ⟨T_13, h_13, k_13, X_13, e_13, E_13, A_13, B_13, st_13⟩ := newPE X_10 hx hZ (hw _ (List.mem_of_getElem? (i := 0) rfl)) e_10 (g := (mkF m 106 #[.val (.int p0), .val (.int p1), .val (.int p2), .val (.int p3), .val (.int p4), .val (.int x0), .val (.int y0), .val (.int x1), .val (.int y1), .val (.int (0 : Int32)), .val (.ref b_1), .val (.ref b_4), .val (.ref b_8), .unset, .unset, .unset, .unset, .unset, .unset, .unset] [(.int (2 : Int32))])) rfl (hb hby at_106) rfl (by decide) (cap := 2) (by decide) (by decide) (by decide) (by decide) (ad := "[I") (by decide)
            obtain ⟨b_13, gg_13⟩ : ∃ z, z = h_10.size := ⟨_, rfl⟩
            rw [← gg_13] at A_13 B_13 st_13
            have ne_b_1_b_13 : b_1 ≠ b_13 := Nat.ne_of_lt (Nat.lt_of_lt_of_le f_11.lt (Nat.le_of_eq gg_13.symm))
            have ne_b_4_b_13 : b_4 ≠ b_13 := Nat.ne_of_lt (Nat.lt_of_lt_of_le f_12.lt (Nat.le_of_eq gg_13.symm))
            have ne_b_8_b_13 : b_8 ≠ b_13 := Nat.ne_of_lt (Nat.lt_of_lt_of_le V_10.lt (Nat.le_of_eq gg_13.symm))
            have g_b_13 : n0 ≤ b_13 := Nat.le_trans Z_10 (Nat.le_of_eq gg_13.symm)
            have Z_13 : n0 ≤ h_13.size := Nat.le_trans Z_10 E_13.1
            have V_13 : Arv Z h_13 b_13 k_13 .int (2 : Int32) [(.int (0 : Int32)), (.int (0 : Int32))] (.int (0 : Int32)) := (Arv.new A_13 (by decide)).pad (pad_rep [] (.int (0 : Int32)) 2)
            refine own_st (S' := T_13.setTop (mkF m 108 #[.val (.int p0), .val (.int p1), .val (.int p2), .val (.int p3), .val (.int p4), .val (.int x0), .val (.int y0), .val (.int x1), .val (.int y1), .val (.int (0 : Int32)), .val (.ref b_1), .val (.ref b_4), .val (.ref b_8), .unset, .unset, .unset, .unset, .unset, .unset, .unset] [(.ref b_13)])) st_13 ?_
            refine own_st (S' := T_13.setTop (mkF m 109 #[.val (.int p0), .val (.int p1), .val (.int p2), .val (.int p3), .val (.int p4), .val (.int x0), .val (.int y0), .val (.int x1), .val (.int y1), .val (.int (0 : Int32)), .val (.ref b_1), .val (.ref b_4), .val (.ref b_8), .unset, .unset, .unset, .unset, .unset, .unset, .unset] [(.ref b_13), (.ref b_13)])) (fun t_ k_ => XS.dup X_13.here hx rfl (hb hby at_108) rfl rfl k_) ?_
            refine own_st (S' := T_13.setTop (mkF m 110 #[.val (.int p0), .val (.int p1), .val (.int p2), .val (.int p3), .val (.int p4), .val (.int x0), .val (.int y0), .val (.int x1), .val (.int y1), .val (.int (0 : Int32)), .val (.ref b_1), .val (.ref b_4), .val (.ref b_8), .unset, .unset, .unset, .unset, .unset, .unset, .unset] [(.int (0 : Int32)), (.ref b_13), (.ref b_13)])) (fun t_ k_ => XS.iconst X_13.here hx rfl (hb hby at_109) k_) ?_
            refine own_st (S' := T_13.setTop (mkF m 111 #[.val (.int p0), .val (.int p1), .val (.int p2), .val (.int p3), .val (.int p4), .val (.int x0), .val (.int y0), .val (.int x1), .val (.int y1), .val (.int (0 : Int32)), .val (.ref b_1), .val (.ref b_4), .val (.ref b_8), .unset, .unset, .unset, .unset, .unset, .unset, .unset] [(.int (1 : Int32)), (.int (0 : Int32)), (.ref b_13), (.ref b_13)])) (fun t_ k_ => XS.iconst X_13.here hx rfl (hb hby at_110) k_) ?_
            obtain ⟨cl_14, Ar_14, q_14, S_14, M_14, H_14, G_14⟩ := id V_13
            have hin_14 : ¬ ((0 : Int32) < 0 ∨ cl_14.slots.size ≤ ((0 : Int32)).toNatClampNeg) := inb_of S_14 ⟨by decide, by decide⟩
            obtain ⟨T_14, h_14, X_14, e_14, W_14, st_14⟩ := stI X_13 hx hZ e_13 Ar_14 (j := (0 : Int32)) hin_14 (g := (mkF m 111 #[.val (.int p0), .val (.int p1), .val (.int p2), .val (.int p3), .val (.int p4), .val (.int x0), .val (.int y0), .val (.int x1), .val (.int y1), .val (.int (0 : Int32)), .val (.ref b_1), .val (.ref b_4), .val (.ref b_8), .unset, .unset, .unset, .unset, .unset, .unset, .unset] [(.int (1 : Int32)), (.int (0 : Int32)), (.ref b_13), (.ref b_13)])) rfl rfl (hb hby at_111)
            have Z_14 : n0 ≤ h_14.size := Nat.le_trans Z_13 (Keep.of_wr W_14).1
            have N_14 := Fr.snoc X_14 N_10 g_b_13
            have V_14 : Arv Z h_14 b_13 k_13 .int (2 : Int32) [(.int (1 : Int32)), (.int (0 : Int32))] (.int (0 : Int32)) := Arv.set Ar_14 q_14 S_14 M_14 H_14 G_14 rfl W_14 0 rfl (Nat.le_of_ble_eq_true rfl)
            refine own_st (S' := T_14.setTop (mkF m 112 #[.val (.int p0), .val (.int p1), .val (.int p2), .val (.int p3), .val (.int p4), .val (.int x0), .val (.int y0), .val (.int x1), .val (.int y1), .val (.int (0 : Int32)), .val (.ref b_1), .val (.ref b_4), .val (.ref b_8), .unset, .unset, .unset, .unset, .unset, .unset, .unset] [(.ref b_13)])) st_14 ?_
            refine own_st (S' := T_14.setTop (mkF m 113 #[.val (.int p0), .val (.int p1), .val (.int p2), .val (.int p3), .val (.int p4), .val (.int x0), .val (.int y0), .val (.int x1), .val (.int y1), .val (.int (0 : Int32)), .val (.ref b_1), .val (.ref b_4), .val (.ref b_8), .unset, .unset, .unset, .unset, .unset, .unset, .unset] [(.ref b_13), (.ref b_13)])) (fun t_ k_ => XS.dup X_14.here hx rfl (hb hby at_112) rfl rfl k_) ?_
            refine own_st (S' := T_14.setTop (mkF m 114 #[.val (.int p0), .val (.int p1), .val (.int p2), .val (.int p3), .val (.int p4), .val (.int x0), .val (.int y0), .val (.int x1), .val (.int y1), .val (.int (0 : Int32)), .val (.ref b_1), .val (.ref b_4), .val (.ref b_8), .unset, .unset, .unset, .unset, .unset, .unset, .unset] [(.int (1 : Int32)), (.ref b_13), (.ref b_13)])) (fun t_ k_ => XS.iconst X_14.here hx rfl (hb hby at_113) k_) ?_
            refine own_st (S' := T_14.setTop (mkF m 115 #[.val (.int p0), .val (.int p1), .val (.int p2), .val (.int p3), .val (.int p4), .val (.int x0), .val (.int y0), .val (.int x1), .val (.int y1), .val (.int (0 : Int32)), .val (.ref b_1), .val (.ref b_4), .val (.ref b_8), .unset, .unset, .unset, .unset, .unset, .unset, .unset] [(.int (1 : Int32)), (.int (1 : Int32)), (.ref b_13), (.ref b_13)])) (fun t_ k_ => XS.iconst X_14.here hx rfl (hb hby at_114) k_) ?_
            obtain ⟨cl_15, Ar_15, q_15, S_15, M_15, H_15, G_15⟩ := id V_14
            have hin_15 : ¬ ((1 : Int32) < 0 ∨ cl_15.slots.size ≤ ((1 : Int32)).toNatClampNeg) := inb_of S_15 ⟨by decide, by decide⟩
            obtain ⟨T_15, h_15, X_15, e_15, W_15, st_15⟩ := stI X_14 hx hZ e_14 Ar_15 (j := (1 : Int32)) hin_15 (g := (mkF m 115 #[.val (.int p0), .val (.int p1), .val (.int p2), .val (.int p3), .val (.int p4), .val (.int x0), .val (.int y0), .val (.int x1), .val (.int y1), .val (.int (0 : Int32)), .val (.ref b_1), .val (.ref b_4), .val (.ref b_8), .unset, .unset, .unset, .unset, .unset, .unset, .unset] [(.int (1 : Int32)), (.int (1 : Int32)), (.ref b_13), (.ref b_13)])) rfl rfl (hb hby at_115)
            have Z_15 : n0 ≤ h_15.size := Nat.le_trans Z_14 (Keep.of_wr W_15).1
            have N_15 := Fr.snoc X_15 N_14 g_b_13
            have V_15 : Arv Z h_15 b_13 k_13 .int (2 : Int32) [(.int (1 : Int32)), (.int (1 : Int32))] (.int (0 : Int32)) := Arv.set Ar_15 q_15 S_15 M_15 H_15 G_15 rfl W_15 1 rfl (Nat.le_of_ble_eq_true rfl)
            refine own_st (S' := T_15.setTop (mkF m 116 #[.val (.int p0), .val (.int p1), .val (.int p2), .val (.int p3), .val (.int p4), .val (.int x0), .val (.int y0), .val (.int x1), .val (.int y1), .val (.int (0 : Int32)), .val (.ref b_1), .val (.ref b_4), .val (.ref b_8), .unset, .unset, .unset, .unset, .unset, .unset, .unset] [(.ref b_13)])) st_15 ?_
            refine own_st (S' := T_15.setTop (mkF m 118 #[.val (.int p0), .val (.int p1), .val (.int p2), .val (.int p3), .val (.int p4), .val (.int x0), .val (.int y0), .val (.int x1), .val (.int y1), .val (.int (0 : Int32)), .val (.ref b_1), .val (.ref b_4), .val (.ref b_8), .val (.ref b_13), .unset, .unset, .unset, .unset, .unset, .unset] [])) (fun t_ k_ => XS.astore X_15.here hx rfl (hb hby at_116) rfl rfl (l' := #[.val (.int p0), .val (.int p1), .val (.int p2), .val (.int p3), .val (.int p4), .val (.int x0), .val (.int y0), .val (.int x1), .val (.int y1), .val (.int (0 : Int32)), .val (.ref b_1), .val (.ref b_4), .val (.ref b_8), .val (.ref b_13), .unset, .unset, .unset, .unset, .unset, .unset]) rfl k_) ?_
            refine own_st (S' := T_15.setTop (mkF m 119 #[.val (.int p0), .val (.int p1), .val (.int p2), .val (.int p3), .val (.int p4), .val (.int x0), .val (.int y0), .val (.int x1), .val (.int y1), .val (.int (0 : Int32)), .val (.ref b_1), .val (.ref b_4), .val (.ref b_8), .val (.ref b_13), .unset, .unset, .unset, .unset, .unset, .unset] [(.int (2 : Int32))])) (fun t_ k_ => XS.iconst X_15.here hx rfl (hb hby at_118) k_) ?_
            have f_16 : Arv Z h_15 b_1 k_1 .int (2 : Int32) [(.int (-1 : Int32)), (.int (-2 : Int32))] (.int (0 : Int32)) := (((f_11.ext E_13).other W_14 ne_b_1_b_13).other W_15 ne_b_1_b_13)
            have f_17 : Arv Z h_15 b_4 k_4 .int (2 : Int32) [(.int x0), (.int x1)] (.int (0 : Int32)) := (((f_12.ext E_13).other W_14 ne_b_4_b_13).other W_15 ne_b_4_b_13)
            have f_18 : Arv Z h_15 b_8 k_8 .int (2 : Int32) [(.int y0), (.int y1)] (.int (0 : Int32)) := (((V_10.ext E_13).other W_14 ne_b_8_b_13).other W_15 ne_b_8_b_13)
            obtain ⟨T_19, h_19, k_19, X_19, e_19, E_19, A_19, B_19, st_19⟩ := newPE X_15 hx hZ (hw _ (List.mem_of_getElem? (i := 0) rfl)) e_15 (g := (mkF m 119 #[.val (.int p0), .val (.int p1), .val (.int p2), .val (.int p3), .val (.int p4), .val (.int x0), .val (.int y0), .val (.int x1), .val (.int y1), .val (.int (0 : Int32)), .val (.ref b_1), .val (.ref b_4), .val (.ref b_8), .val (.ref b_13), .unset, .unset, .unset, .unset, .unset, .unset] [(.int (2 : Int32))])) rfl (hb hby at_119) rfl (by decide) (cap := 2) (by decide) (by decide) (by decide) (by decide) (ad := "[I") (by decide)
            obtain ⟨b_19, gg_19⟩ : ∃ z, z = h_15.size := ⟨_, rfl⟩
            rw [← gg_19] at A_19 B_19 st_19
            have ne_b_1_b_19 : b_1 ≠ b_19 := Nat.ne_of_lt (Nat.lt_of_lt_of_le f_16.lt (Nat.le_of_eq gg_19.symm))
            have ne_b_13_b_19 : b_13 ≠ b_19 := Nat.ne_of_lt (Nat.lt_of_lt_of_le V_15.lt (Nat.le_of_eq gg_19.symm))
            have ne_b_4_b_19 : b_4 ≠ b_19 := Nat.ne_of_lt (Nat.lt_of_lt_of_le f_17.lt (Nat.le_of_eq gg_19.symm))
            have ne_b_8_b_19 : b_8 ≠ b_19 := Nat.ne_of_lt (Nat.lt_of_lt_of_le f_18.lt (Nat.le_of_eq gg_19.symm))
            have g_b_19 : n0 ≤ b_19 := Nat.le_trans Z_15 (Nat.le_of_eq gg_19.symm)
            have Z_19 : n0 ≤ h_19.size := Nat.le_trans Z_15 E_19.1
            have V_19 : Arv Z h_19 b_19 k_19 .int (2 : Int32) [(.int (0 : Int32)), (.int (0 : Int32))] (.int (0 : Int32)) := (Arv.new A_19 (by decide)).pad (pad_rep [] (.int (0 : Int32)) 2)
            refine own_st (S' := T_19.setTop (mkF m 121 #[.val (.int p0), .val (.int p1), .val (.int p2), .val (.int p3), .val (.int p4), .val (.int x0), .val (.int y0), .val (.int x1), .val (.int y1), .val (.int (0 : Int32)), .val (.ref b_1), .val (.ref b_4), .val (.ref b_8), .val (.ref b_13), .unset, .unset, .unset, .unset, .unset, .unset] [(.ref b_19)])) st_19 ?_
            refine own_st (S' := T_19.setTop (mkF m 122 #[.val (.int p0), .val (.int p1), .val (.int p2), .val (.int p3), .val (.int p4), .val (.int x0), .val (.int y0), .val (.int x1), .val (.int y1), .val (.int (0 : Int32)), .val (.ref b_1), .val (.ref b_4), .val (.ref b_8), .val (.ref b_13), .unset, .unset, .unset, .unset, .unset, .unset] [(.ref b_19), (.ref b_19)])) (fun t_ k_ => XS.dup X_19.here hx rfl (hb hby at_121) rfl rfl k_) ?_
            refine own_st (S' := T_19.setTop (mkF m 123 #[.val (.int p0), .val (.int p1), .val (.int p2), .val (.int p3), .val (.int p4), .val (.int x0), .val (.int y0), .val (.int x1), .val (.int y1), .val (.int (0 : Int32)), .val (.ref b_1), .val (.ref b_4), .val (.ref b_8), .val (.ref b_13), .unset, .unset, .unset, .unset, .unset, .unset] [(.int (0 : Int32)), (.ref b_19), (.ref b_19)])) (fun t_ k_ => XS.iconst X_19.here hx rfl (hb hby at_122) k_) ?_
            refine own_st (S' := T_19.setTop (mkF m 124 #[.val (.int p0), .val (.int p1), .val (.int p2), .val (.int p3), .val (.int p4), .val (.int x0), .val (.int y0), .val (.int x1), .val (.int y1), .val (.int (0 : Int32)), .val (.ref b_1), .val (.ref b_4), .val (.ref b_8), .val (.ref b_13), .unset, .unset, .unset, .unset, .unset, .unset] [(.int (1 : Int32)), (.int (0 : Int32)), (.ref b_19), (.ref b_19)])) (fun t_ k_ => XS.iconst X_19.here hx rfl (hb hby at_123) k_) ?_
            obtain ⟨cl_20, Ar_20, q_20, S_20, M_20, H_20, G_20⟩ := id V_19
            have hin_20 : ¬ ((0 : Int32) < 0 ∨ cl_20.slots.size ≤ ((0 : Int32)).toNatClampNeg) := inb_of S_20 ⟨by decide, by decide⟩
            obtain ⟨T_20, h_20, X_20, e_20, W_20, st_20⟩ := stI X_19 hx hZ e_19 Ar_20 (j := (0 : Int32)) hin_20 (g := (mkF m 124 #[.val (.int p0), .val (.int p1), .val (.int p2), .val (.int p3), .val (.int p4), .val (.int x0), .val (.int y0), .val (.int x1), .val (.int y1), .val (.int (0 : Int32)), .val (.ref b_1), .val (.ref b_4), .val (.ref b_8), .val (.ref b_13), .unset, .unset, .unset, .unset, .unset, .unset] [(.int (1 : Int32)), (.int (0 : Int32)), (.ref b_19), (.ref b_19)])) rfl rfl (hb hby at_124)
            have Z_20 : n0 ≤ h_20.size := Nat.le_trans Z_19 (Keep.of_wr W_20).1
            have N_20 := Fr.snoc X_20 N_15 g_b_19
            have V_20 : Arv Z h_20 b_19 k_19 .int (2 : Int32) [(.int (1 : Int32)), (.int (0 : Int32))] (.int (0 : Int32)) := Arv.set Ar_20 q_20 S_20 M_20 H_20 G_20 rfl W_20 0 rfl (Nat.le_of_ble_eq_true rfl)
            refine own_st (S' := T_20.setTop (mkF m 125 #[.val (.int p0), .val (.int p1), .val (.int p2), .val (.int p3), .val (.int p4), .val (.int x0), .val (.int y0), .val (.int x1), .val (.int y1), .val (.int (0 : Int32)), .val (.ref b_1), .val (.ref b_4), .val (.ref b_8), .val (.ref b_13), .unset, .unset, .unset, .unset, .unset, .unset] [(.ref b_19)])) st_20 ?_
            refine own_st (S' := T_20.setTop (mkF m 126 #[.val (.int p0), .val (.int p1), .val (.int p2), .val (.int p3), .val (.int p4), .val (.int x0), .val (.int y0), .val (.int x1), .val (.int y1), .val (.int (0 : Int32)), .val (.ref b_1), .val (.ref b_4), .val (.ref b_8), .val (.ref b_13), .unset, .unset, .unset, .unset, .unset, .unset] [(.ref b_19), (.ref b_19)])) (fun t_ k_ => XS.dup X_20.here hx rfl (hb hby at_125) rfl rfl k_) ?_
            refine own_st (S' := T_20.setTop (mkF m 127 #[.val (.int p0), .val (.int p1), .val (.int p2), .val (.int p3), .val (.int p4), .val (.int x0), .val (.int y0), .val (.int x1), .val (.int y1), .val (.int (0 : Int32)), .val (.ref b_1), .val (.ref b_4), .val (.ref b_8), .val (.ref b_13), .unset, .unset, .unset, .unset, .unset, .unset] [(.int (1 : Int32)), (.ref b_19), (.ref b_19)])) (fun t_ k_ => XS.iconst X_20.here hx rfl (hb hby at_126) k_) ?_
            refine own_st (S' := T_20.setTop (mkF m 128 #[.val (.int p0), .val (.int p1), .val (.int p2), .val (.int p3), .val (.int p4), .val (.int x0), .val (.int y0), .val (.int x1), .val (.int y1), .val (.int (0 : Int32)), .val (.ref b_1), .val (.ref b_4), .val (.ref b_8), .val (.ref b_13), .unset, .unset, .unset, .unset, .unset, .unset] [(.int (1 : Int32)), (.int (1 : Int32)), (.ref b_19), (.ref b_19)])) (fun t_ k_ => XS.iconst X_20.here hx rfl (hb hby at_127) k_) ?_
            obtain ⟨cl_21, Ar_21, q_21, S_21, M_21, H_21, G_21⟩ := id V_20
            have hin_21 : ¬ ((1 : Int32) < 0 ∨ cl_21.slots.size ≤ ((1 : Int32)).toNatClampNeg) := inb_of S_21 ⟨by decide, by decide⟩
            obtain ⟨T_21, h_21, X_21, e_21, W_21, st_21⟩ := stI X_20 hx hZ e_20 Ar_21 (j := (1 : Int32)) hin_21 (g := (mkF m 128 #[.val (.int p0), .val (.int p1), .val (.int p2), .val (.int p3), .val (.int p4), .val (.int x0), .val (.int y0), .val (.int x1), .val (.int y1), .val (.int (0 : Int32)), .val (.ref b_1), .val (.ref b_4), .val (.ref b_8), .val (.ref b_13), .unset, .unset, .unset, .unset, .unset, .unset] [(.int (1 : Int32)), (.int (1 : Int32)), (.ref b_19), (.ref b_19)])) rfl rfl (hb hby at_128)
            have Z_21 : n0 ≤ h_21.size := Nat.le_trans Z_20 (Keep.of_wr W_21).1
            have N_21 := Fr.snoc X_21 N_20 g_b_19
            have V_21 : Arv Z h_21 b_19 k_19 .int (2 : Int32) [(.int (1 : Int32)), (.int (1 : Int32))] (.int (0 : Int32)) := Arv.set Ar_21 q_21 S_21 M_21 H_21 G_21 rfl W_21 1 rfl (Nat.le_of_ble_eq_true rfl)
            refine own_st (S' := T_21.setTop (mkF m 129 #[.val (.int p0), .val (.int p1), .val (.int p2), .val (.int p3), .val (.int p4), .val (.int x0), .val (.int y0), .val (.int x1), .val (.int y1), .val (.int (0 : Int32)), .val (.ref b_1), .val (.ref b_4), .val (.ref b_8), .val (.ref b_13), .unset, .unset, .unset, .unset, .unset, .unset] [(.ref b_19)])) st_21 ?_
            refine own_st (S' := T_21.setTop (mkF m 131 #[.val (.int p0), .val (.int p1), .val (.int p2), .val (.int p3), .val (.int p4), .val (.int x0), .val (.int y0), .val (.int x1), .val (.int y1), .val (.int (0 : Int32)), .val (.ref b_1), .val (.ref b_4), .val (.ref b_8), .val (.ref b_13), .val (.ref b_19), .unset, .unset, .unset, .unset, .unset] [])) (fun t_ k_ => XS.astore X_21.here hx rfl (hb hby at_129) rfl rfl (l' := #[.val (.int p0), .val (.int p1), .val (.int p2), .val (.int p3), .val (.int p4), .val (.int x0), .val (.int y0), .val (.int x1), .val (.int y1), .val (.int (0 : Int32)), .val (.ref b_1), .val (.ref b_4), .val (.ref b_8), .val (.ref b_13), .val (.ref b_19), .unset, .unset, .unset, .unset, .unset]) rfl k_) ?_
            have f_22 : Arv Z h_21 b_1 k_1 .int (2 : Int32) [(.int (-1 : Int32)), (.int (-2 : Int32))] (.int (0 : Int32)) := (((f_16.ext E_19).other W_20 ne_b_1_b_19).other W_21 ne_b_1_b_19)
            have f_23 : Arv Z h_21 b_13 k_13 .int (2 : Int32) [(.int (1 : Int32)), (.int (1 : Int32))] (.int (0 : Int32)) := (((V_15.ext E_19).other W_20 ne_b_13_b_19).other W_21 ne_b_13_b_19)
            have f_24 : Arv Z h_21 b_4 k_4 .int (2 : Int32) [(.int x0), (.int x1)] (.int (0 : Int32)) := (((f_17.ext E_19).other W_20 ne_b_4_b_19).other W_21 ne_b_4_b_19)
            have f_25 : Arv Z h_21 b_8 k_8 .int (2 : Int32) [(.int y0), (.int y1)] (.int (0 : Int32)) := (((f_18.ext E_19).other W_20 ne_b_8_b_19).other W_21 ne_b_8_b_19)
            obtain ⟨T_26, h_26, X_26, e_26, E_26, A_26, D_26, -, st_26⟩ := newO X_21 hx hZ hown (hw _ (List.mem_of_getElem? (i := 1) rfl)) (hw _ (List.mem_of_getElem? (i := 2) rfl)) (hw _ (List.mem_of_getElem? (i := 3) rfl)) e_21 (g := (mkF m 131 #[.val (.int p0), .val (.int p1), .val (.int p2), .val (.int p3), .val (.int p4), .val (.int x0), .val (.int y0), .val (.int x1), .val (.int y1), .val (.int (0 : Int32)), .val (.ref b_1), .val (.ref b_4), .val (.ref b_8), .val (.ref b_13), .val (.ref b_19), .unset, .unset, .unset, .unset, .unset] [])) rfl (hb hby at_131) (by decide) (by decide)
            obtain ⟨b_26, gg_26⟩ : ∃ z, z = h_21.size := ⟨_, rfl⟩
            rw [← gg_26] at A_26 D_26 st_26
            have ne_b_1_b_26 : b_1 ≠ b_26 := Nat.ne_of_lt (Nat.lt_of_lt_of_le f_22.lt (Nat.le_of_eq gg_26.symm))
            have ne_b_13_b_26 : b_13 ≠ b_26 := Nat.ne_of_lt (Nat.lt_of_lt_of_le f_23.lt (Nat.le_of_eq gg_26.symm))
            have ne_b_19_b_26 : b_19 ≠ b_26 := Nat.ne_of_lt (Nat.lt_of_lt_of_le V_21.lt (Nat.le_of_eq gg_26.symm))
            have ne_b_4_b_26 : b_4 ≠ b_26 := Nat.ne_of_lt (Nat.lt_of_lt_of_le f_24.lt (Nat.le_of_eq gg_26.symm))
            have ne_b_8_b_26 : b_8 ≠ b_26 := Nat.ne_of_lt (Nat.lt_of_lt_of_le f_25.lt (Nat.le_of_eq gg_26.symm))
            have g_b_26 : n0 ≤ b_26 := Nat.le_trans Z_21 (Nat.le_of_eq gg_26.symm)
            have Z_26 : n0 ≤ h_26.size := Nat.le_trans Z_21 E_26.1
            have F_26_modCount : Fld Z h_26 b_26 "java/util/AbstractList" "modCount" "I" (.int (0 : Int32)) := D_26 (Or.inl (hw _ (List.mem_of_getElem? (i := 23) rfl))) (ty := .int) (by decide)
            have F_26_elementData : Fld Z h_26 b_26 "java/util/ArrayList" "elementData" "[Ljava/lang/Object;" .null := D_26 (Or.inl (hw _ (List.mem_of_getElem? (i := 26) rfl))) (ty := (.array (.object "java/lang/Object"))) (by decide)
            have F_26_size : Fld Z h_26 b_26 "java/util/ArrayList" "size" "I" (.int (0 : Int32)) := D_26 (Or.inl (hw _ (List.mem_of_getElem? (i := 74) rfl))) (ty := .int) (by decide)
            refine own_st (S' := T_26.setTop (mkF m 134 #[.val (.int p0), .val (.int p1), .val (.int p2), .val (.int p3), .val (.int p4), .val (.int x0), .val (.int y0), .val (.int x1), .val (.int y1), .val (.int (0 : Int32)), .val (.ref b_1), .val (.ref b_4), .val (.ref b_8), .val (.ref b_13), .val (.ref b_19), .unset, .unset, .unset, .unset, .unset] [(.ref b_26)])) st_26 ?_
            refine own_st (S' := T_26.setTop (mkF m 135 #[.val (.int p0), .val (.int p1), .val (.int p2), .val (.int p3), .val (.int p4), .val (.int x0), .val (.int y0), .val (.int x1), .val (.int y1), .val (.int (0 : Int32)), .val (.ref b_1), .val (.ref b_4), .val (.ref b_8), .val (.ref b_13), .val (.ref b_19), .unset, .unset, .unset, .unset, .unset] [(.ref b_26), (.ref b_26)])) (fun t_ k_ => XS.dup X_26.here hx rfl (hb hby at_134) rfl rfl k_) ?_
            have f_27 : Old Z n0 h_26 := ((((((((((((((((O0.ext E_1).wr W_2 g_b_1).wr W_3 g_b_1).ext E_4).wr W_5 g_b_4).wr W_6 g_b_4).ext E_8).wr W_9 g_b_8).wr W_10 g_b_8).ext E_13).wr W_14 g_b_13).wr W_15 g_b_13).ext E_19).wr W_20 g_b_19).wr W_21 g_b_19).ext E_26)
            obtain ⟨_, _, ⟨T_28, L_28, k_28, n_28⟩, -, X_28, ⟨Lc_28, hQ_28, l_28, y_28, z_28⟩, st_28⟩ := X_26.specialBack hx (y := (⟨"java/util/ArrayList", "<init>", "()V"⟩ : MethodName)) rfl hown (mvT hZ (hw _ (List.mem_of_getElem? (i := 4) rfl))) (mvT hZ (hw _ (List.mem_of_getElem? (i := 5) rfl))) (mvT hZ (hw _ (List.mem_of_getElem? (i := 6) rfl))) (by decide) (backOf (W := 1) (rm3 l Z a0 hw [] b_26 dd h_26 n0 Z_26 A_26 F_26_modCount F_26_elementData F_26_size Y0 f_27 g_b_26) hZ (hw _ (List.mem_of_getElem? (i := 6) rfl)) (hw _ (List.mem_of_getElem? (i := 3) rfl)) (by decide) (by decide)) (g := (mkF m 135 #[.val (.int p0), .val (.int p1), .val (.int p2), .val (.int p3), .val (.int p4), .val (.int x0), .val (.int y0), .val (.int x1), .val (.int y1), .val (.int (0 : Int32)), .val (.ref b_1), .val (.ref b_4), .val (.ref b_8), .val (.ref b_13), .val (.ref b_19), .unset, .unset, .unset, .unset, .unset] [(.ref b_26), (.ref b_26)])) rfl (by rw [hml]; rfl) (Steps.refl _) (a := b_26) (argsL := []) (rest := [(.ref b_26)]) (lenOf pd_0 rfl) rfl (by show 2 * 0 + _ ≤ _; exact Nat.le_of_eq rfl) (hb hby at_135) (fun _ _ => ⟨rfl, e_26, (by decide : 6 + 0 ≤ _), (by decide : 13 + 0 ≤ _)⟩)
            dsimp only [Pt.U, Pt.locs, Pt.cells, Pt.slots] at X_28 l_28 y_28 z_28 st_28 hQ_28
            subst l_28 y_28 z_28
            obtain ⟨rfl, M_28, K_28c, c_28_0, c_28_1, c_28_2⟩ := hQ_28
            have N_28 := Fr.app N_21 M_28
            have Z_28 : n0 ≤ T_28.heap.size := Nat.le_trans Z_26 K_28c.1
            refine own_st (S' := T_28.setTop (mkF m 138 #[.val (.int p0), .val (.int p1), .val (.int p2), .val (.int p3), .val (.int p4), .val (.int x0), .val (.int y0), .val (.int x1), .val (.int y1), .val (.int (0 : Int32)), .val (.ref b_1), .val (.ref b_4), .val (.ref b_8), .val (.ref b_13), .val (.ref b_19), .unset, .unset, .unset, .unset, .unset] [(.ref b_26)])) (fun t_ k_ => st_28.trans k_) ?_
            refine own_st (S' := T_28.setTop (mkF m 140 #[.val (.int p0), .val (.int p1), .val (.int p2), .val (.int p3), .val (.int p4), .val (.int x0), .val (.int y0), .val (.int x1), .val (.int y1), .val (.int (0 : Int32)), .val (.ref b_1), .val (.ref b_4), .val (.ref b_8), .val (.ref b_13), .val (.ref b_19), .val (.ref b_26), .unset, .unset, .unset, .unset] [])) (fun t_ k_ => XS.astore X_28.here hx rfl (hb hby at_138) rfl rfl (l' := #[.val (.int p0), .val (.int p1), .val (.int p2), .val (.int p3), .val (.int p4), .val (.int x0), .val (.int y0), .val (.int x1), .val (.int y1), .val (.int (0 : Int32)), .val (.ref b_1), .val (.ref b_4), .val (.ref b_8), .val (.ref b_13), .val (.ref b_19), .val (.ref b_26), .unset, .unset, .unset, .unset]) rfl k_) ?_
            have f_29 : Arv Z T_28.heap b_1 k_1 .int (2 : Int32) [(.int (-1 : Int32)), (.int (-2 : Int32))] (.int (0 : Int32)) := ((f_22.ext E_26).keep K_28c (ninS ne_b_1_b_26 nin0))
            have f_30 : Arv Z T_28.heap b_13 k_13 .int (2 : Int32) [(.int (1 : Int32)), (.int (1 : Int32))] (.int (0 : Int32)) := ((f_23.ext E_26).keep K_28c (ninS ne_b_13_b_26 nin0))
            have f_31 : Arv Z T_28.heap b_19 k_19 .int (2 : Int32) [(.int (1 : Int32)), (.int (1 : Int32))] (.int (0 : Int32)) := ((V_21.ext E_26).keep K_28c (ninS ne_b_19_b_26 nin0))
            have f_32 : Arv Z T_28.heap b_4 k_4 .int (2 : Int32) [(.int x0), (.int x1)] (.int (0 : Int32)) := ((f_24.ext E_26).keep K_28c (ninS ne_b_4_b_26 nin0))
            have f_33 : Arv Z T_28.heap b_8 k_8 .int (2 : Int32) [(.int y0), (.int y1)] (.int (0 : Int32)) := ((f_25.ext E_26).keep K_28c (ninS ne_b_8_b_26 nin0))
            obtain ⟨T_34, h_34, X_34, e_34, E_34, A_34, D_34, -, st_34⟩ := newO X_28 hx hZ hown (hw _ (List.mem_of_getElem? (i := 27) rfl)) (hw _ (List.mem_of_getElem? (i := 28) rfl)) (hw _ (List.mem_of_getElem? (i := 29) rfl)) rfl (g := (mkF m 140 #[.val (.int p0), .val (.int p1), .val (.int p2), .val (.int p3), .val (.int p4), .val (.int x0), .val (.int y0), .val (.int x1), .val (.int y1), .val (.int (0 : Int32)), .val (.ref b_1), .val (.ref b_4), .val (.ref b_8), .val (.ref b_13), .val (.ref b_19), .val (.ref b_26), .unset, .unset, .unset, .unset] [])) rfl (hb hby at_140) (by decide) (by decide)
            obtain ⟨b_34, gg_34⟩ : ∃ z, z = T_28.heap.size := ⟨_, rfl⟩
            rw [← gg_34] at A_34 D_34 st_34
            have ne_b_1_b_34 : b_1 ≠ b_34 := Nat.ne_of_lt (Nat.lt_of_lt_of_le f_29.lt (Nat.le_of_eq gg_34.symm))
            have ne_b_13_b_34 : b_13 ≠ b_34 := Nat.ne_of_lt (Nat.lt_of_lt_of_le f_30.lt (Nat.le_of_eq gg_34.symm))
            have ne_b_19_b_34 : b_19 ≠ b_34 := Nat.ne_of_lt (Nat.lt_of_lt_of_le f_31.lt (Nat.le_of_eq gg_34.symm))
            have ne_b_26_b_34 : b_26 ≠ b_34 := Nat.ne_of_lt (Nat.lt_of_lt_of_le c_28_0.lt (Nat.le_of_eq gg_34.symm))
            have ne_b_4_b_34 : b_4 ≠ b_34 := Nat.ne_of_lt (Nat.lt_of_lt_of_le f_32.lt (Nat.le_of_eq gg_34.symm))
            have ne_b_8_b_34 : b_8 ≠ b_34 := Nat.ne_of_lt (Nat.lt_of_lt_of_le f_33.lt (Nat.le_of_eq gg_34.symm))
            have g_b_34 : n0 ≤ b_34 := Nat.le_trans Z_28 (Nat.le_of_eq gg_34.symm)
            have Z_34 : n0 ≤ h_34.size := Nat.le_trans Z_28 E_34.1
            have F_34_labels : Fld Z h_34 b_34 "com/example/frisk/frisk/pattern/StateGraph" "labels" "[I" .null := D_34 (Or.inr (hw _ (List.mem_of_getElem? (i := 48) rfl))) (ty := (.array .int)) (by decide)
            have F_34_next : Fld Z h_34 b_34 "com/example/frisk/frisk/pattern/StateGraph" "next" "[I" .null := D_34 (Or.inr (hw _ (List.mem_of_getElem? (i := 50) rfl))) (ty := (.array .int)) (by decide)
            have F_34_alternative : Fld Z h_34 b_34 "com/example/frisk/frisk/pattern/StateGraph" "alternative" "[I" .null := D_34 (Or.inr (hw _ (List.mem_of_getElem? (i := 52) rfl))) (ty := (.array .int)) (by decide)
            have F_34_leasts : Fld Z h_34 b_34 "com/example/frisk/frisk/pattern/StateGraph" "leasts" "[I" .null := D_34 (Or.inr (hw _ (List.mem_of_getElem? (i := 54) rfl))) (ty := (.array .int)) (by decide)
            have F_34_mosts : Fld Z h_34 b_34 "com/example/frisk/frisk/pattern/StateGraph" "mosts" "[I" .null := D_34 (Or.inr (hw _ (List.mem_of_getElem? (i := 56) rfl))) (ty := (.array .int)) (by decide)
            have F_34_counterNumbers : Fld Z h_34 b_34 "com/example/frisk/frisk/pattern/StateGraph" "counterNumbers" "[I" .null := D_34 (Or.inr (hw _ (List.mem_of_getElem? (i := 58) rfl))) (ty := (.array .int)) (by decide)
            have F_34_counterCount : Fld Z h_34 b_34 "com/example/frisk/frisk/pattern/StateGraph" "counterCount" "I" (.int (0 : Int32)) := D_34 (Or.inr (hw _ (List.mem_of_getElem? (i := 60) rfl))) (ty := .int) (by decide)
            have F_34_classes : Fld Z h_34 b_34 "com/example/frisk/frisk/pattern/StateGraph" "classes" "[Lcom/example/frisk/frisk/pattern/CharacterClass;" .null := D_34 (Or.inr (hw _ (List.mem_of_getElem? (i := 97) rfl))) (ty := (.array (.object "com/example/frisk/frisk/pattern/CharacterClass"))) (by decide)
            have F_34_start : Fld Z h_34 b_34 "com/example/frisk/frisk/pattern/StateGraph" "start" "I" (.int (0 : Int32)) := D_34 (Or.inr (hw _ (List.mem_of_getElem? (i := 99) rfl))) (ty := .int) (by decide)
            refine own_st (S' := T_34.setTop (mkF m 143 #[.val (.int p0), .val (.int p1), .val (.int p2), .val (.int p3), .val (.int p4), .val (.int x0), .val (.int y0), .val (.int x1), .val (.int y1), .val (.int (0 : Int32)), .val (.ref b_1), .val (.ref b_4), .val (.ref b_8), .val (.ref b_13), .val (.ref b_19), .val (.ref b_26), .unset, .unset, .unset, .unset] [(.ref b_34)])) st_34 ?_
            refine own_st (S' := T_34.setTop (mkF m 144 #[.val (.int p0), .val (.int p1), .val (.int p2), .val (.int p3), .val (.int p4), .val (.int x0), .val (.int y0), .val (.int x1), .val (.int y1), .val (.int (0 : Int32)), .val (.ref b_1), .val (.ref b_4), .val (.ref b_8), .val (.ref b_13), .val (.ref b_19), .val (.ref b_26), .unset, .unset, .unset, .unset] [(.ref b_34), (.ref b_34)])) (fun t_ k_ => XS.dup X_34.here hx rfl (hb hby at_143) rfl rfl k_) ?_
            refine own_st (S' := T_34.setTop (mkF m 145 #[.val (.int p0), .val (.int p1), .val (.int p2), .val (.int p3), .val (.int p4), .val (.int x0), .val (.int y0), .val (.int x1), .val (.int y1), .val (.int (0 : Int32)), .val (.ref b_1), .val (.ref b_4), .val (.ref b_8), .val (.ref b_13), .val (.ref b_19), .val (.ref b_26), .unset, .unset, .unset, .unset] [(.int (2 : Int32)), (.ref b_34), (.ref b_34)])) (fun t_ k_ => XS.iconst X_34.here hx rfl (hb hby at_144) k_) ?_
            refine own_st (S' := T_34.setTop (mkF m 147 #[.val (.int p0), .val (.int p1), .val (.int p2), .val (.int p3), .val (.int p4), .val (.int x0), .val (.int y0), .val (.int x1), .val (.int y1), .val (.int (0 : Int32)), .val (.ref b_1), .val (.ref b_4), .val (.ref b_8), .val (.ref b_13), .val (.ref b_19), .val (.ref b_26), .unset, .unset, .unset, .unset] [(.ref b_1), (.int (2 : Int32)), (.ref b_34), (.ref b_34)])) (fun t_ k_ => XS.aload X_34.here hx rfl (hb hby at_145) rfl rfl k_) ?_
            refine own_st (S' := T_34.setTop (mkF m 149 #[.val (.int p0), .val (.int p1), .val (.int p2), .val (.int p3), .val (.int p4), .val (.int x0), .val (.int y0), .val (.int x1), .val (.int y1), .val (.int (0 : Int32)), .val (.ref b_1), .val (.ref b_4), .val (.ref b_8), .val (.ref b_13), .val (.ref b_19), .val (.ref b_26), .unset, .unset, .unset, .unset] [(.ref b_4), (.ref b_1), (.int (2 : Int32)), (.ref b_34), (.ref b_34)])) (fun t_ k_ => XS.aload X_34.here hx rfl (hb hby at_147) rfl rfl k_) ?_
            refine own_st (S' := T_34.setTop (mkF m 151 #[.val (.int p0), .val (.int p1), .val (.int p2), .val (.int p3), .val (.int p4), .val (.int x0), .val (.int y0), .val (.int x1), .val (.int y1), .val (.int (0 : Int32)), .val (.ref b_1), .val (.ref b_4), .val (.ref b_8), .val (.ref b_13), .val (.ref b_19), .val (.ref b_26), .unset, .unset, .unset, .unset] [(.ref b_8), (.ref b_4), (.ref b_1), (.int (2 : Int32)), (.ref b_34), (.ref b_34)])) (fun t_ k_ => XS.aload X_34.here hx rfl (hb hby at_149) rfl rfl k_) ?_
            refine own_st (S' := T_34.setTop (mkF m 153 #[.val (.int p0), .val (.int p1), .val (.int p2), .val (.int p3), .val (.int p4), .val (.int x0), .val (.int y0), .val (.int x1), .val (.int y1), .val (.int (0 : Int32)), .val (.ref b_1), .val (.ref b_4), .val (.ref b_8), .val (.ref b_13), .val (.ref b_19), .val (.ref b_26), .unset, .unset, .unset, .unset] [(.ref b_13), (.ref b_8), (.ref b_4), (.ref b_1), (.int (2 : Int32)), (.ref b_34), (.ref b_34)])) (fun t_ k_ => XS.aload X_34.here hx rfl (hb hby at_151) rfl rfl k_) ?_
            refine own_st (S' := T_34.setTop (mkF m 155 #[.val (.int p0), .val (.int p1), .val (.int p2), .val (.int p3), .val (.int p4), .val (.int x0), .val (.int y0), .val (.int x1), .val (.int y1), .val (.int (0 : Int32)), .val (.ref b_1), .val (.ref b_4), .val (.ref b_8), .val (.ref b_13), .val (.ref b_19), .val (.ref b_26), .unset, .unset, .unset, .unset] [(.ref b_19), (.ref b_13), (.ref b_8), (.ref b_4), (.ref b_1), (.int (2 : Int32)), (.ref b_34), (.ref b_34)])) (fun t_ k_ => XS.aload X_34.here hx rfl (hb hby at_153) rfl rfl k_) ?_
            refine own_st (S' := T_34.setTop (mkF m 157 #[.val (.int p0), .val (.int p1), .val (.int p2), .val (.int p3), .val (.int p4), .val (.int x0), .val (.int y0), .val (.int x1), .val (.int y1), .val (.int (0 : Int32)), .val (.ref b_1), .val (.ref b_4), .val (.ref b_8), .val (.ref b_13), .val (.ref b_19), .val (.ref b_26), .unset, .unset, .unset, .unset] [(.ref b_26), (.ref b_19), (.ref b_13), (.ref b_8), (.ref b_4), (.ref b_1), (.int (2 : Int32)), (.ref b_34), (.ref b_34)])) (fun t_ k_ => XS.aload X_34.here hx rfl (hb hby at_155) rfl rfl k_) ?_
            refine own_st (S' := T_34.setTop (mkF m 158 #[.val (.int p0), .val (.int p1), .val (.int p2), .val (.int p3), .val (.int p4), .val (.int x0), .val (.int y0), .val (.int x1), .val (.int y1), .val (.int (0 : Int32)), .val (.ref b_1), .val (.ref b_4), .val (.ref b_8), .val (.ref b_13), .val (.ref b_19), .val (.ref b_26), .unset, .unset, .unset, .unset] [(.int (0 : Int32)), (.ref b_26), (.ref b_19), (.ref b_13), (.ref b_8), (.ref b_4), (.ref b_1), (.int (2 : Int32)), (.ref b_34), (.ref b_34)])) (fun t_ k_ => XS.iconst X_34.here hx rfl (hb hby at_157) k_) ?_
            have f_35 : Arv Z h_34 b_1 k_1 .int (2 : Int32) [(.int (-1 : Int32)), (.int (-2 : Int32))] (.int (0 : Int32)) := (f_29.ext E_34)
            have f_36 : Arv Z h_34 b_4 k_4 .int (2 : Int32) [(.int x0), (.int x1)] (.int (0 : Int32)) := (f_32.ext E_34)
            have f_37 : Arv Z h_34 b_8 k_8 .int (2 : Int32) [(.int y0), (.int y1)] (.int (0 : Int32)) := (f_33.ext E_34)
            have f_38 : Arv Z h_34 b_13 k_13 .int (2 : Int32) [(.int (1 : Int32)), (.int (1 : Int32))] (.int (0 : Int32)) := (f_30.ext E_34)
            have f_39 : Arv Z h_34 b_19 k_19 .int (2 : Int32) [(.int (1 : Int32)), (.int (1 : Int32))] (.int (0 : Int32)) := (f_31.ext E_34)
            have f_40 : Exa Z h_34 b_1 "[I" := (Exa.ext E_34 ((Exa.ext E_26 (Exa.wr W_21 (Exa.wr W_20 (Exa.ext E_19 (Exa.wr W_15 (Exa.wr W_14 (Exa.ext E_13 (Exa.wr W_10 (Exa.wr W_9 (Exa.ext E_8 (Exa.wr W_6 (Exa.wr W_5 (Exa.ext E_4 (Exa.wr W_3 (Exa.wr W_2 B_1))))))))))))))).keep K_28c))
            have f_41 : Exa Z h_34 b_4 "[I" := (Exa.ext E_34 ((Exa.ext E_26 (Exa.wr W_21 (Exa.wr W_20 (Exa.ext E_19 (Exa.wr W_15 (Exa.wr W_14 (Exa.ext E_13 (Exa.wr W_10 (Exa.wr W_9 (Exa.ext E_8 (Exa.wr W_6 (Exa.wr W_5 B_4)))))))))))).keep K_28c))
            have f_42 : Exa Z h_34 b_8 "[I" := (Exa.ext E_34 ((Exa.ext E_26 (Exa.wr W_21 (Exa.wr W_20 (Exa.ext E_19 (Exa.wr W_15 (Exa.wr W_14 (Exa.ext E_13 (Exa.wr W_10 (Exa.wr W_9 B_8))))))))).keep K_28c))
            have f_43 : Exa Z h_34 b_13 "[I" := (Exa.ext E_34 ((Exa.ext E_26 (Exa.wr W_21 (Exa.wr W_20 (Exa.ext E_19 (Exa.wr W_15 (Exa.wr W_14 B_13)))))).keep K_28c))
            have f_44 : Exa Z h_34 b_19 "[I" := (Exa.ext E_34 ((Exa.ext E_26 (Exa.wr W_21 (Exa.wr W_20 B_19))).keep K_28c))
            have f_45 : Exa Z h_34 b_26 "java/util/ArrayList" := (Exa.ext E_34 c_28_0)
            have f_46 : Fld Z h_34 b_26 "java/util/ArrayList" "size" "I" (.int (0 : Int32)) := (Fld.ext E_34 c_28_2)
            have f_47 : Old Z n0 h_34 := ((f_27.keep K_28c (allS g_b_26 all0)).ext E_34)
            obtain ⟨_, _, ⟨T_48, L_48, k_48, n_48⟩, -, X_48, ⟨Lc_48, hQ_48, l_48, y_48, z_48⟩, st_48⟩ := X_34.specialBack hx (y := (⟨"com/example/frisk/frisk/pattern/StateGraph", "<init>", "(I[I[I[I[I[ILjava/util/List;I)V"⟩ : MethodName)) rfl hown (mvT hZ (hw _ (List.mem_of_getElem? (i := 30) rfl))) (mvT hZ (hw _ (List.mem_of_getElem? (i := 31) rfl))) (mvT hZ (hw _ (List.mem_of_getElem? (i := 32) rfl))) (by decide) (backOf (W := 1) (rm9 l Z a0 hw [] b_34 b_1 b_4 b_8 b_13 b_19 b_26 dd kd k_1 k_4 k_8 k_13 k_19 x0 x1 y0 y1 h_34 n0 Z_34 A_34 F_34_labels F_34_next F_34_alternative F_34_leasts F_34_mosts F_34_counterNumbers F_34_classes F_34_counterCount F_34_start f_35 f_36 f_37 f_38 f_39 f_40 f_41 f_42 f_43 f_44 f_45 f_46 Y0 Y1 f_47 g_b_34 (Ne.symm ne_b_1_b_34) (Ne.symm ne_b_4_b_34) (Ne.symm ne_b_8_b_34) (Ne.symm ne_b_13_b_34) (Ne.symm ne_b_19_b_34) (Ne.symm ne_b_26_b_34)) hZ (hw _ (List.mem_of_getElem? (i := 32) rfl)) (hw _ (List.mem_of_getElem? (i := 29) rfl)) (by decide) (by decide)) (g := (mkF m 158 #[.val (.int p0), .val (.int p1), .val (.int p2), .val (.int p3), .val (.int p4), .val (.int x0), .val (.int y0), .val (.int x1), .val (.int y1), .val (.int (0 : Int32)), .val (.ref b_1), .val (.ref b_4), .val (.ref b_8), .val (.ref b_13), .val (.ref b_19), .val (.ref b_26), .unset, .unset, .unset, .unset] [(.int (0 : Int32)), (.ref b_26), (.ref b_19), (.ref b_13), (.ref b_8), (.ref b_4), (.ref b_1), (.int (2 : Int32)), (.ref b_34), (.ref b_34)])) rfl (by rw [hml]; rfl) (Steps.refl _) (a := b_34) (argsL := [(.int (2 : Int32)), (.ref b_1), (.ref b_4), (.ref b_8), (.ref b_13), (.ref b_19), (.ref b_26), (.int (0 : Int32))]) (rest := [(.ref b_34)]) (lenOf pd_6 rfl) rfl (by show 2 * 0 + _ ≤ _; exact Nat.le_of_eq rfl) (hb hby at_158) (fun _ _ => ⟨rfl, e_34, (by decide : 7 + 9 ≤ _), (by decide : 22 + 15 ≤ _)⟩)
            dsimp only [Pt.U, Pt.locs, Pt.cells, Pt.slots] at X_48 l_48 y_48 z_48 st_48 hQ_48
            subst l_48 y_48 z_48
            obtain ⟨x_48_bx, x_48_by_, rfl, M_48, K_48c, z_48_0, z_48_1, c_48_0, c_48_1, c_48_2, c_48_3, c_48_4⟩ := hQ_48
            have N_48 := Fr.app N_28 M_48
            have ne_b_1_x_48_bx : b_1 ≠ x_48_bx := Nat.ne_of_lt (Nat.lt_of_lt_of_le f_40.lt z_48_0)
            have ne_b_13_x_48_bx : b_13 ≠ x_48_bx := Nat.ne_of_lt (Nat.lt_of_lt_of_le f_43.lt z_48_0)
            have ne_b_19_x_48_bx : b_19 ≠ x_48_bx := Nat.ne_of_lt (Nat.lt_of_lt_of_le f_44.lt z_48_0)
            have ne_b_26_x_48_bx : b_26 ≠ x_48_bx := Nat.ne_of_lt (Nat.lt_of_lt_of_le f_45.lt z_48_0)
            have ne_b_34_x_48_bx : b_34 ≠ x_48_bx := Nat.ne_of_lt (Nat.lt_of_lt_of_le A_34.lt z_48_0)
            have ne_b_4_x_48_bx : b_4 ≠ x_48_bx := Nat.ne_of_lt (Nat.lt_of_lt_of_le f_41.lt z_48_0)
            have ne_b_8_x_48_bx : b_8 ≠ x_48_bx := Nat.ne_of_lt (Nat.lt_of_lt_of_le f_42.lt z_48_0)
            have g_x_48_bx : n0 ≤ x_48_bx := Nat.le_trans Z_34 z_48_0
            have ne_b_1_x_48_by_ : b_1 ≠ x_48_by_ := Nat.ne_of_lt (Nat.lt_of_lt_of_le f_40.lt z_48_1)
            have ne_b_13_x_48_by_ : b_13 ≠ x_48_by_ := Nat.ne_of_lt (Nat.lt_of_lt_of_le f_43.lt z_48_1)
            have ne_b_19_x_48_by_ : b_19 ≠ x_48_by_ := Nat.ne_of_lt (Nat.lt_of_lt_of_le f_44.lt z_48_1)
            have ne_b_26_x_48_by_ : b_26 ≠ x_48_by_ := Nat.ne_of_lt (Nat.lt_of_lt_of_le f_45.lt z_48_1)
            have ne_b_34_x_48_by_ : b_34 ≠ x_48_by_ := Nat.ne_of_lt (Nat.lt_of_lt_of_le A_34.lt z_48_1)
            have ne_b_4_x_48_by_ : b_4 ≠ x_48_by_ := Nat.ne_of_lt (Nat.lt_of_lt_of_le f_41.lt z_48_1)
            have ne_b_8_x_48_by_ : b_8 ≠ x_48_by_ := Nat.ne_of_lt (Nat.lt_of_lt_of_le f_42.lt z_48_1)
            have g_x_48_by_ : n0 ≤ x_48_by_ := Nat.le_trans Z_34 z_48_1
            have Z_48 : n0 ≤ T_48.heap.size := Nat.le_trans Z_34 K_48c.1
            refine own_st (S' := T_48.setTop (mkF m 161 #[.val (.int p0), .val (.int p1), .val (.int p2), .val (.int p3), .val (.int p4), .val (.int x0), .val (.int y0), .val (.int x1), .val (.int y1), .val (.int (0 : Int32)), .val (.ref b_1), .val (.ref b_4), .val (.ref b_8), .val (.ref b_13), .val (.ref b_19), .val (.ref b_26), .unset, .unset, .unset, .unset] [(.ref b_34)])) (fun t_ k_ => st_48.trans k_) ?_
            refine own_st (S' := T_48.setTop (mkF m 163 #[.val (.int p0), .val (.int p1), .val (.int p2), .val (.int p3), .val (.int p4), .val (.int x0), .val (.int y0), .val (.int x1), .val (.int y1), .val (.int (0 : Int32)), .val (.ref b_1), .val (.ref b_4), .val (.ref b_8), .val (.ref b_13), .val (.ref b_19), .val (.ref b_26), .val (.ref b_34), .unset, .unset, .unset] [])) (fun t_ k_ => XS.astore X_48.here hx rfl (hb hby at_161) rfl rfl (l' := #[.val (.int p0), .val (.int p1), .val (.int p2), .val (.int p3), .val (.int p4), .val (.int x0), .val (.int y0), .val (.int x1), .val (.int y1), .val (.int (0 : Int32)), .val (.ref b_1), .val (.ref b_4), .val (.ref b_8), .val (.ref b_13), .val (.ref b_19), .val (.ref b_26), .val (.ref b_34), .unset, .unset, .unset]) rfl k_) ?_
            refine own_st (S' := T_48.setTop (mkF m 165 #[.val (.int p0), .val (.int p1), .val (.int p2), .val (.int p3), .val (.int p4), .val (.int x0), .val (.int y0), .val (.int x1), .val (.int y1), .val (.int (0 : Int32)), .val (.ref b_1), .val (.ref b_4), .val (.ref b_8), .val (.ref b_13), .val (.ref b_19), .val (.ref b_26), .val (.ref b_34), .unset, .unset, .unset] [(.int (0 : Int32))])) (fun t_ k_ => XS.iload X_48.here hx rfl (hb hby at_163) rfl k_) ?_
            refine own_st (S' := T_48.setTop (mkF m 168 #[.val (.int p0), .val (.int p1), .val (.int p2), .val (.int p3), .val (.int p4), .val (.int x0), .val (.int y0), .val (.int x1), .val (.int y1), .val (.int (0 : Int32)), .val (.ref b_1), .val (.ref b_4), .val (.ref b_8), .val (.ref b_13), .val (.ref b_19), .val (.ref b_26), .val (.ref b_34), .unset, .unset, .unset] [])) (fun t_ k_ => XS.ifNo X_48.here hx rfl (hb hby at_165) rfl ((if0 _ _).trans (teq (by decide : (0 : Int32) = (0 : Int32))).2) k_) ?_
            refine own_st (S' := T_48.setTop (mkF m 170 #[.val (.int p0), .val (.int p1), .val (.int p2), .val (.int p3), .val (.int p4), .val (.int x0), .val (.int y0), .val (.int x1), .val (.int y1), .val (.int (0 : Int32)), .val (.ref b_1), .val (.ref b_4), .val (.ref b_8), .val (.ref b_13), .val (.ref b_19), .val (.ref b_26), .val (.ref b_34), .unset, .unset, .unset] [(.int x0)])) (fun t_ k_ => XS.iload X_48.here hx rfl (hb hby at_168) rfl k_) ?_
            refine own_st (S' := T_48.setTop (mkF m 175 #[.val (.int p0), .val (.int p1), .val (.int p2), .val (.int p3), .val (.int p4), .val (.int x0), .val (.int y0), .val (.int x1), .val (.int y1), .val (.int (0 : Int32)), .val (.ref b_1), .val (.ref b_4), .val (.ref b_8), .val (.ref b_13), .val (.ref b_19), .val (.ref b_26), .val (.ref b_34), .unset, .unset, .unset] [(.int x0)])) (fun t_ k_ => XS.goto X_48.here hx rfl (pc0 := 170) (pc' := 175) rfl (hb hby at_170) (by decide) (by decide) k_) ?_
            refine own_st (S' := T_48.setTop (mkF m 177 #[.val (.int p0), .val (.int p1), .val (.int p2), .val (.int p3), .val (.int p4), .val (.int x0), .val (.int y0), .val (.int x1), .val (.int y1), .val (.int (0 : Int32)), .val (.ref b_1), .val (.ref b_4), .val (.ref b_8), .val (.ref b_13), .val (.ref b_19), .val (.ref b_26), .val (.ref b_34), .val (.int x0), .unset, .unset] [])) (fun t_ k_ => XS.istore X_48.here hx rfl (hb hby at_175) rfl (l' := #[.val (.int p0), .val (.int p1), .val (.int p2), .val (.int p3), .val (.int p4), .val (.int x0), .val (.int y0), .val (.int x1), .val (.int y1), .val (.int (0 : Int32)), .val (.ref b_1), .val (.ref b_4), .val (.ref b_8), .val (.ref b_13), .val (.ref b_19), .val (.ref b_26), .val (.ref b_34), .val (.int x0), .unset, .unset]) rfl k_) ?_
            refine own_st (S' := T_48.setTop (mkF m 179 #[.val (.int p0), .val (.int p1), .val (.int p2), .val (.int p3), .val (.int p4), .val (.int x0), .val (.int y0), .val (.int x1), .val (.int y1), .val (.int (0 : Int32)), .val (.ref b_1), .val (.ref b_4), .val (.ref b_8), .val (.ref b_13), .val (.ref b_19), .val (.ref b_26), .val (.ref b_34), .val (.int x0), .unset, .unset] [(.int (0 : Int32))])) (fun t_ k_ => XS.iload X_48.here hx rfl (hb hby at_177) rfl k_) ?_
            refine own_st (S' := T_48.setTop (mkF m 182 #[.val (.int p0), .val (.int p1), .val (.int p2), .val (.int p3), .val (.int p4), .val (.int x0), .val (.int y0), .val (.int x1), .val (.int y1), .val (.int (0 : Int32)), .val (.ref b_1), .val (.ref b_4), .val (.ref b_8), .val (.ref b_13), .val (.ref b_19), .val (.ref b_26), .val (.ref b_34), .val (.int x0), .unset, .unset] [])) (fun t_ k_ => XS.ifNo X_48.here hx rfl (hb hby at_179) rfl ((if0 _ _).trans (teq (by decide : (0 : Int32) = (0 : Int32))).2) k_) ?_
            refine own_st (S' := T_48.setTop (mkF m 184 #[.val (.int p0), .val (.int p1), .val (.int p2), .val (.int p3), .val (.int p4), .val (.int x0), .val (.int y0), .val (.int x1), .val (.int y1), .val (.int (0 : Int32)), .val (.ref b_1), .val (.ref b_4), .val (.ref b_8), .val (.ref b_13), .val (.ref b_19), .val (.ref b_26), .val (.ref b_34), .val (.int x0), .unset, .unset] [(.int y0)])) (fun t_ k_ => XS.iload X_48.here hx rfl (hb hby at_182) rfl k_) ?_
            refine own_st (S' := T_48.setTop (mkF m 189 #[.val (.int p0), .val (.int p1), .val (.int p2), .val (.int p3), .val (.int p4), .val (.int x0), .val (.int y0), .val (.int x1), .val (.int y1), .val (.int (0 : Int32)), .val (.ref b_1), .val (.ref b_4), .val (.ref b_8), .val (.ref b_13), .val (.ref b_19), .val (.ref b_26), .val (.ref b_34), .val (.int x0), .unset, .unset] [(.int y0)])) (fun t_ k_ => XS.goto X_48.here hx rfl (pc0 := 184) (pc' := 189) rfl (hb hby at_184) (by decide) (by decide) k_) ?_
            refine own_st (S' := T_48.setTop (mkF m 191 #[.val (.int p0), .val (.int p1), .val (.int p2), .val (.int p3), .val (.int p4), .val (.int x0), .val (.int y0), .val (.int x1), .val (.int y1), .val (.int (0 : Int32)), .val (.ref b_1), .val (.ref b_4), .val (.ref b_8), .val (.ref b_13), .val (.ref b_19), .val (.ref b_26), .val (.ref b_34), .val (.int x0), .val (.int y0), .unset] [])) (fun t_ k_ => XS.istore X_48.here hx rfl (hb hby at_189) rfl (l' := #[.val (.int p0), .val (.int p1), .val (.int p2), .val (.int p3), .val (.int p4), .val (.int x0), .val (.int y0), .val (.int x1), .val (.int y1), .val (.int (0 : Int32)), .val (.ref b_1), .val (.ref b_4), .val (.ref b_8), .val (.ref b_13), .val (.ref b_19), .val (.ref b_26), .val (.ref b_34), .val (.int x0), .val (.int y0), .unset]) rfl k_) ?_
            refine own_st (S' := T_48.setTop (mkF m 193 #[.val (.int p0), .val (.int p1), .val (.int p2), .val (.int p3), .val (.int p4), .val (.int x0), .val (.int y0), .val (.int x1), .val (.int y1), .val (.int (0 : Int32)), .val (.ref b_1), .val (.ref b_4), .val (.ref b_8), .val (.ref b_13), .val (.ref b_19), .val (.ref b_26), .val (.ref b_34), .val (.int x0), .val (.int y0), .unset] [(.ref b_34)])) (fun t_ k_ => XS.aload X_48.here hx rfl (hb hby at_191) rfl rfl k_) ?_
            refine own_st (S' := T_48.setTop (mkF m 195 #[.val (.int p0), .val (.int p1), .val (.int p2), .val (.int p3), .val (.int p4), .val (.int x0), .val (.int y0), .val (.int x1), .val (.int y1), .val (.int (0 : Int32)), .val (.ref b_1), .val (.ref b_4), .val (.ref b_8), .val (.ref b_13), .val (.ref b_19), .val (.ref b_26), .val (.ref b_34), .val (.int x0), .val (.int y0), .unset] [(.int (0 : Int32)), (.ref b_34)])) (fun t_ k_ => XS.iload X_48.here hx rfl (hb hby at_193) rfl k_) ?_
            by_cases hx0 : x0 = (-1 : Int32)
            · have f_49 : Exa Z T_48.heap b_1 "[I" := (f_40.keep K_48c)
              have f_50 : Exa Z T_48.heap b_13 "[I" := (f_43.keep K_48c)
              have f_51 : Exa Z T_48.heap b_19 "[I" := (f_44.keep K_48c)
              have f_52 : Exa Z T_48.heap b_26 "java/util/ArrayList" := (f_45.keep K_48c)
              have f_53 : Exa Z T_48.heap b_4 "[I" := (f_41.keep K_48c)
              have f_54 : Exa Z T_48.heap b_8 "[I" := (f_42.keep K_48c)
              obtain ⟨cq_55, kq_55, q_55a, q_55b, q_55c⟩ := isOf hZ rfl c_48_0
              obtain ⟨_, _, ⟨T_55, L_55, k_55, n_55⟩, -, X_55, ⟨Lc_55, hQ_55, l_55, y_55, z_55⟩, st_55⟩ := X_48.virtualBack hx (y := (⟨"com/example/frisk/frisk/pattern/StateGraph", "successors", "(I)[I"⟩ : MethodName)) (z := (⟨"com/example/frisk/frisk/pattern/StateGraph", "successors", "(I)[I"⟩ : MethodName)) hown (mvT hZ (hw _ (List.mem_of_getElem? (i := 100) rfl))) (mvT hZ (hw _ (List.mem_of_getElem? (i := 101) rfl))) (notFace_of_selects (args := #[]) (mvT hZ (hw _ (List.mem_of_getElem? (i := 103) rfl)))) (mvT hZ (hw _ (List.mem_of_getElem? (i := 103) rfl))) (mvT hZ (hw _ (List.mem_of_getElem? (i := 102) rfl))) (by decide) (backOf (W := 0) (rm10a l Z a0 hw [] b_34 x_48_bx x_48_by_ k_4 k_8 x0 x1 y0 y1 T_48.heap n0 Z_48 c_48_1 c_48_2 c_48_3 c_48_4 hx0) hZ (hw _ (List.mem_of_getElem? (i := 104) rfl)) (hw _ (List.mem_of_getElem? (i := 29) rfl)) (by decide) (by decide)) q_55a q_55c (g := (mkF m 195 #[.val (.int p0), .val (.int p1), .val (.int p2), .val (.int p3), .val (.int p4), .val (.int x0), .val (.int y0), .val (.int x1), .val (.int y1), .val (.int (0 : Int32)), .val (.ref b_1), .val (.ref b_4), .val (.ref b_8), .val (.ref b_13), .val (.ref b_19), .val (.ref b_26), .val (.ref b_34), .val (.int x0), .val (.int y0), .unset] [(.int (0 : Int32)), (.ref b_34)])) rfl (by rw [hml]; rfl) (Steps.refl _) (argsL := [(.int (0 : Int32))]) (rest := []) (lenOf pd_7 rfl) rfl (by show 2 * 0 + _ ≤ _; exact Nat.le_of_eq rfl) (hb hby at_195) (fun _ _ => ⟨rfl, rfl, (by decide : 16 + 1 ≤ _), (by decide : 37 + 0 ≤ _)⟩)
              dsimp only [Pt.U, Pt.locs, Pt.cells, Pt.slots] at X_55 l_55 y_55 z_55 st_55 hQ_55
              subst l_55 y_55 z_55
              obtain ⟨x_55_b, x_55_k, rfl, M_55, K_55c, z_55_0, c_55_0⟩ := hQ_55
              have N_55 := Fr.app N_48 M_55
              have ne_b_1_x_55_b : b_1 ≠ x_55_b := Nat.ne_of_lt (Nat.lt_of_lt_of_le f_49.lt z_55_0)
              have ne_b_13_x_55_b : b_13 ≠ x_55_b := Nat.ne_of_lt (Nat.lt_of_lt_of_le f_50.lt z_55_0)
              have ne_b_19_x_55_b : b_19 ≠ x_55_b := Nat.ne_of_lt (Nat.lt_of_lt_of_le f_51.lt z_55_0)
              have ne_b_26_x_55_b : b_26 ≠ x_55_b := Nat.ne_of_lt (Nat.lt_of_lt_of_le f_52.lt z_55_0)
              have ne_b_34_x_55_b : b_34 ≠ x_55_b := Nat.ne_of_lt (Nat.lt_of_lt_of_le c_48_0.lt z_55_0)
              have ne_b_4_x_55_b : b_4 ≠ x_55_b := Nat.ne_of_lt (Nat.lt_of_lt_of_le f_53.lt z_55_0)
              have ne_b_8_x_55_b : b_8 ≠ x_55_b := Nat.ne_of_lt (Nat.lt_of_lt_of_le f_54.lt z_55_0)
              have ne_x_48_bx_x_55_b : x_48_bx ≠ x_55_b := Nat.ne_of_lt (Nat.lt_of_lt_of_le c_48_3.lt z_55_0)
              have ne_x_48_by__x_55_b : x_48_by_ ≠ x_55_b := Nat.ne_of_lt (Nat.lt_of_lt_of_le c_48_4.lt z_55_0)
              have g_x_55_b : n0 ≤ x_55_b := Nat.le_trans Z_48 z_55_0
              have Z_55 : n0 ≤ T_55.heap.size := Nat.le_trans Z_48 K_55c.1
              refine own_st (S' := T_55.setTop (mkF m 198 #[.val (.int p0), .val (.int p1), .val (.int p2), .val (.int p3), .val (.int p4), .val (.int x0), .val (.int y0), .val (.int x1), .val (.int y1), .val (.int (0 : Int32)), .val (.ref b_1), .val (.ref b_4), .val (.ref b_8), .val (.ref b_13), .val (.ref b_19), .val (.ref b_26), .val (.ref b_34), .val (.int x0), .val (.int y0), .unset] [(.ref x_55_b)])) (fun t_ k_ => st_55.trans k_) ?_
              refine own_st (S' := T_55.setTop (mkF m 200 #[.val (.int p0), .val (.int p1), .val (.int p2), .val (.int p3), .val (.int p4), .val (.int x0), .val (.int y0), .val (.int x1), .val (.int y1), .val (.int (0 : Int32)), .val (.ref b_1), .val (.ref b_4), .val (.ref b_8), .val (.ref b_13), .val (.ref b_19), .val (.ref b_26), .val (.ref b_34), .val (.int x0), .val (.int y0), .val (.ref x_55_b)] [])) (fun t_ k_ => XS.astore X_55.here hx rfl (hb hby at_198) rfl rfl (l' := #[.val (.int p0), .val (.int p1), .val (.int p2), .val (.int p3), .val (.int p4), .val (.int x0), .val (.int y0), .val (.int x1), .val (.int y1), .val (.int (0 : Int32)), .val (.ref b_1), .val (.ref b_4), .val (.ref b_8), .val (.ref b_13), .val (.ref b_19), .val (.ref b_26), .val (.ref b_34), .val (.int x0), .val (.int y0), .val (.ref x_55_b)]) rfl k_) ?_
              refine own_st (S' := T_55.setTop (mkF m 202 #[.val (.int p0), .val (.int p1), .val (.int p2), .val (.int p3), .val (.int p4), .val (.int x0), .val (.int y0), .val (.int x1), .val (.int y1), .val (.int (0 : Int32)), .val (.ref b_1), .val (.ref b_4), .val (.ref b_8), .val (.ref b_13), .val (.ref b_19), .val (.ref b_26), .val (.ref b_34), .val (.int x0), .val (.int y0), .val (.ref x_55_b)] [(.int x0)])) (fun t_ k_ => XS.iload X_55.here hx rfl (hb hby at_200) rfl k_) ?_
              refine own_st (S' := T_55.setTop (mkF m 203 #[.val (.int p0), .val (.int p1), .val (.int p2), .val (.int p3), .val (.int p4), .val (.int x0), .val (.int y0), .val (.int x1), .val (.int y1), .val (.int (0 : Int32)), .val (.ref b_1), .val (.ref b_4), .val (.ref b_8), .val (.ref b_13), .val (.ref b_19), .val (.ref b_26), .val (.ref b_34), .val (.int x0), .val (.int y0), .val (.ref x_55_b)] [(.int (-1 : Int32)), (.int x0)])) (fun t_ k_ => XS.iconst X_55.here hx rfl (hb hby at_202) k_) ?_
              refine own_st (S' := T_55.setTop (mkF m 206 #[.val (.int p0), .val (.int p1), .val (.int p2), .val (.int p3), .val (.int p4), .val (.int x0), .val (.int y0), .val (.int x1), .val (.int y1), .val (.int (0 : Int32)), .val (.ref b_1), .val (.ref b_4), .val (.ref b_8), .val (.ref b_13), .val (.ref b_19), .val (.ref b_26), .val (.ref b_34), .val (.int x0), .val (.int y0), .val (.ref x_55_b)] [])) (fun t_ k_ => XS.icmpNo X_55.here hx rfl (hb hby at_203) rfl (teq hx0).2 k_) ?_
              refine own_st (S' := T_55.setTop (mkF m 208 #[.val (.int p0), .val (.int p1), .val (.int p2), .val (.int p3), .val (.int p4), .val (.int x0), .val (.int y0), .val (.int x1), .val (.int y1), .val (.int (0 : Int32)), .val (.ref b_1), .val (.ref b_4), .val (.ref b_8), .val (.ref b_13), .val (.ref b_19), .val (.ref b_26), .val (.ref b_34), .val (.int x0), .val (.int y0), .val (.ref x_55_b)] [(.ref x_55_b)])) (fun t_ k_ => XS.aload X_55.here hx rfl (hb hby at_206) rfl rfl k_) ?_
              obtain ⟨cl_56, Ar_56, q_56, S_56, M_56, H_56, G_56⟩ := id c_55_0
              refine own_st (S' := T_55.setTop (mkF m 209 #[.val (.int p0), .val (.int p1), .val (.int p2), .val (.int p3), .val (.int p4), .val (.int x0), .val (.int y0), .val (.int x1), .val (.int y1), .val (.int (0 : Int32)), .val (.ref b_1), .val (.ref b_4), .val (.ref b_8), .val (.ref b_13), .val (.ref b_19), .val (.ref b_26), .val (.ref b_34), .val (.int x0), .val (.int y0), .val (.ref x_55_b)] [(.int (0 : Int32))])) (fun t_ k_ => X_55.arraylength hx Ar_56.1 (State.isArrayOf_alike hZ.alike Ar_56.2.1) (g := (mkF m 208 #[.val (.int p0), .val (.int p1), .val (.int p2), .val (.int p3), .val (.int p4), .val (.int x0), .val (.int y0), .val (.int x1), .val (.int y1), .val (.int (0 : Int32)), .val (.ref b_1), .val (.ref b_4), .val (.ref b_8), .val (.ref b_13), .val (.ref b_19), .val (.ref b_26), .val (.ref b_34), .val (.int x0), .val (.int y0), .val (.ref x_55_b)] [(.ref x_55_b)])) rfl rfl (hb hby at_208) _ (by rw [len_of S_56 M_56]; exact k_)) ?_
              refine own_st (S' := T_55.setTop (mkF m 212 #[.val (.int p0), .val (.int p1), .val (.int p2), .val (.int p3), .val (.int p4), .val (.int x0), .val (.int y0), .val (.int x1), .val (.int y1), .val (.int (0 : Int32)), .val (.ref b_1), .val (.ref b_4), .val (.ref b_8), .val (.ref b_13), .val (.ref b_19), .val (.ref b_26), .val (.ref b_34), .val (.int x0), .val (.int y0), .val (.ref x_55_b)] [])) (fun t_ k_ => XS.ifNo X_55.here hx rfl (hb hby at_209) rfl ((if0 _ _).trans (teq (by decide : (0 : Int32) = (0 : Int32))).2) k_) ?_
              refine own_st (S' := T_55.setTop (mkF m 213 #[.val (.int p0), .val (.int p1), .val (.int p2), .val (.int p3), .val (.int p4), .val (.int x0), .val (.int y0), .val (.int x1), .val (.int y1), .val (.int (0 : Int32)), .val (.ref b_1), .val (.ref b_4), .val (.ref b_8), .val (.ref b_13), .val (.ref b_19), .val (.ref b_26), .val (.ref b_34), .val (.int x0), .val (.int y0), .val (.ref x_55_b)] [(.int (1 : Int32))])) (fun t_ k_ => XS.iconst X_55.here hx rfl (hb hby at_212) k_) ?_
              refine own_st (S' := T_55.setTop (mkF m 217 #[.val (.int p0), .val (.int p1), .val (.int p2), .val (.int p3), .val (.int p4), .val (.int x0), .val (.int y0), .val (.int x1), .val (.int y1), .val (.int (0 : Int32)), .val (.ref b_1), .val (.ref b_4), .val (.ref b_8), .val (.ref b_13), .val (.ref b_19), .val (.ref b_26), .val (.ref b_34), .val (.int x0), .val (.int y0), .val (.ref x_55_b)] [(.int (1 : Int32))])) (fun t_ k_ => XS.goto X_55.here hx rfl (pc0 := 213) (pc' := 217) rfl (hb hby at_213) (by decide) (by decide) k_) ?_
              obtain ⟨fs, hr, hrun, hended, hW, hsame⟩ := X_55.leave (v := some (.int (1 : Int32))) (fun h => by rw [Bd.returns] at h; cases h)
              refine ⟨_, _, retN X_55 hx (t := .boolean) Bd.returns (by simp) (hb hby at_217) hr, hrun, hended, _, _, rfl, ?_, ⟨_, rfl⟩, hW, hsame.mono (by decide) (by decide)⟩
              show Q0 Z p0 p1 p2 p3 p4 dd kd h0 n0 _ T_55.heap _
              exact ⟨rfl, N_55⟩
            · by_cases hy0 : y0 = (-1 : Int32)
              · have f_57 : Exa Z T_48.heap b_1 "[I" := (f_40.keep K_48c)
                have f_58 : Exa Z T_48.heap b_13 "[I" := (f_43.keep K_48c)
                have f_59 : Exa Z T_48.heap b_19 "[I" := (f_44.keep K_48c)
                have f_60 : Exa Z T_48.heap b_26 "java/util/ArrayList" := (f_45.keep K_48c)
                have f_61 : Exa Z T_48.heap b_4 "[I" := (f_41.keep K_48c)
                have f_62 : Exa Z T_48.heap b_8 "[I" := (f_42.keep K_48c)
                obtain ⟨cq_63, kq_63, q_63a, q_63b, q_63c⟩ := isOf hZ rfl c_48_0
                obtain ⟨_, _, ⟨T_63, L_63, k_63, n_63⟩, -, X_63, ⟨Lc_63, hQ_63, l_63, y_63, z_63⟩, st_63⟩ := X_48.virtualBack hx (y := (⟨"com/example/frisk/frisk/pattern/StateGraph", "successors", "(I)[I"⟩ : MethodName)) (z := (⟨"com/example/frisk/frisk/pattern/StateGraph", "successors", "(I)[I"⟩ : MethodName)) hown (mvT hZ (hw _ (List.mem_of_getElem? (i := 100) rfl))) (mvT hZ (hw _ (List.mem_of_getElem? (i := 101) rfl))) (notFace_of_selects (args := #[]) (mvT hZ (hw _ (List.mem_of_getElem? (i := 103) rfl)))) (mvT hZ (hw _ (List.mem_of_getElem? (i := 103) rfl))) (mvT hZ (hw _ (List.mem_of_getElem? (i := 102) rfl))) (by decide) (backOf (W := 0) (rm10b l Z a0 hw [] b_34 x_48_bx x_48_by_ k_4 k_8 x0 x1 y0 y1 T_48.heap n0 Z_48 c_48_1 c_48_2 c_48_3 c_48_4 hx0 hy0) hZ (hw _ (List.mem_of_getElem? (i := 104) rfl)) (hw _ (List.mem_of_getElem? (i := 29) rfl)) (by decide) (by decide)) q_63a q_63c (g := (mkF m 195 #[.val (.int p0), .val (.int p1), .val (.int p2), .val (.int p3), .val (.int p4), .val (.int x0), .val (.int y0), .val (.int x1), .val (.int y1), .val (.int (0 : Int32)), .val (.ref b_1), .val (.ref b_4), .val (.ref b_8), .val (.ref b_13), .val (.ref b_19), .val (.ref b_26), .val (.ref b_34), .val (.int x0), .val (.int y0), .unset] [(.int (0 : Int32)), (.ref b_34)])) rfl (by rw [hml]; rfl) (Steps.refl _) (argsL := [(.int (0 : Int32))]) (rest := []) (lenOf pd_7 rfl) rfl (by show 2 * 0 + _ ≤ _; exact Nat.le_of_eq rfl) (hb hby at_195) (fun _ _ => ⟨rfl, rfl, (by decide : 16 + 1 ≤ _), (by decide : 37 + 1 ≤ _)⟩)
                dsimp only [Pt.U, Pt.locs, Pt.cells, Pt.slots] at X_63 l_63 y_63 z_63 st_63 hQ_63
                subst l_63 y_63 z_63
                obtain ⟨x_63_b, x_63_k, rfl, M_63, K_63c, z_63_0, c_63_0⟩ := hQ_63
                have N_63 := Fr.app N_48 M_63
                have ne_b_1_x_63_b : b_1 ≠ x_63_b := Nat.ne_of_lt (Nat.lt_of_lt_of_le f_57.lt z_63_0)
                have ne_b_13_x_63_b : b_13 ≠ x_63_b := Nat.ne_of_lt (Nat.lt_of_lt_of_le f_58.lt z_63_0)
                have ne_b_19_x_63_b : b_19 ≠ x_63_b := Nat.ne_of_lt (Nat.lt_of_lt_of_le f_59.lt z_63_0)
                have ne_b_26_x_63_b : b_26 ≠ x_63_b := Nat.ne_of_lt (Nat.lt_of_lt_of_le f_60.lt z_63_0)
                have ne_b_34_x_63_b : b_34 ≠ x_63_b := Nat.ne_of_lt (Nat.lt_of_lt_of_le c_48_0.lt z_63_0)
                have ne_b_4_x_63_b : b_4 ≠ x_63_b := Nat.ne_of_lt (Nat.lt_of_lt_of_le f_61.lt z_63_0)
                have ne_b_8_x_63_b : b_8 ≠ x_63_b := Nat.ne_of_lt (Nat.lt_of_lt_of_le f_62.lt z_63_0)
                have ne_x_48_bx_x_63_b : x_48_bx ≠ x_63_b := Nat.ne_of_lt (Nat.lt_of_lt_of_le c_48_3.lt z_63_0)
                have ne_x_48_by__x_63_b : x_48_by_ ≠ x_63_b := Nat.ne_of_lt (Nat.lt_of_lt_of_le c_48_4.lt z_63_0)
                have g_x_63_b : n0 ≤ x_63_b := Nat.le_trans Z_48 z_63_0
                have Z_63 : n0 ≤ T_63.heap.size := Nat.le_trans Z_48 K_63c.1
                refine own_st (S' := T_63.setTop (mkF m 198 #[.val (.int p0), .val (.int p1), .val (.int p2), .val (.int p3), .val (.int p4), .val (.int x0), .val (.int y0), .val (.int x1), .val (.int y1), .val (.int (0 : Int32)), .val (.ref b_1), .val (.ref b_4), .val (.ref b_8), .val (.ref b_13), .val (.ref b_19), .val (.ref b_26), .val (.ref b_34), .val (.int x0), .val (.int y0), .unset] [(.ref x_63_b)])) (fun t_ k_ => st_63.trans k_) ?_
                refine own_st (S' := T_63.setTop (mkF m 200 #[.val (.int p0), .val (.int p1), .val (.int p2), .val (.int p3), .val (.int p4), .val (.int x0), .val (.int y0), .val (.int x1), .val (.int y1), .val (.int (0 : Int32)), .val (.ref b_1), .val (.ref b_4), .val (.ref b_8), .val (.ref b_13), .val (.ref b_19), .val (.ref b_26), .val (.ref b_34), .val (.int x0), .val (.int y0), .val (.ref x_63_b)] [])) (fun t_ k_ => XS.astore X_63.here hx rfl (hb hby at_198) rfl rfl (l' := #[.val (.int p0), .val (.int p1), .val (.int p2), .val (.int p3), .val (.int p4), .val (.int x0), .val (.int y0), .val (.int x1), .val (.int y1), .val (.int (0 : Int32)), .val (.ref b_1), .val (.ref b_4), .val (.ref b_8), .val (.ref b_13), .val (.ref b_19), .val (.ref b_26), .val (.ref b_34), .val (.int x0), .val (.int y0), .val (.ref x_63_b)]) rfl k_) ?_
                refine own_st (S' := T_63.setTop (mkF m 202 #[.val (.int p0), .val (.int p1), .val (.int p2), .val (.int p3), .val (.int p4), .val (.int x0), .val (.int y0), .val (.int x1), .val (.int y1), .val (.int (0 : Int32)), .val (.ref b_1), .val (.ref b_4), .val (.ref b_8), .val (.ref b_13), .val (.ref b_19), .val (.ref b_26), .val (.ref b_34), .val (.int x0), .val (.int y0), .val (.ref x_63_b)] [(.int x0)])) (fun t_ k_ => XS.iload X_63.here hx rfl (hb hby at_200) rfl k_) ?_
                refine own_st (S' := T_63.setTop (mkF m 203 #[.val (.int p0), .val (.int p1), .val (.int p2), .val (.int p3), .val (.int p4), .val (.int x0), .val (.int y0), .val (.int x1), .val (.int y1), .val (.int (0 : Int32)), .val (.ref b_1), .val (.ref b_4), .val (.ref b_8), .val (.ref b_13), .val (.ref b_19), .val (.ref b_26), .val (.ref b_34), .val (.int x0), .val (.int y0), .val (.ref x_63_b)] [(.int (-1 : Int32)), (.int x0)])) (fun t_ k_ => XS.iconst X_63.here hx rfl (hb hby at_202) k_) ?_
                refine own_st (S' := T_63.setTop (mkF m 218 #[.val (.int p0), .val (.int p1), .val (.int p2), .val (.int p3), .val (.int p4), .val (.int x0), .val (.int y0), .val (.int x1), .val (.int y1), .val (.int (0 : Int32)), .val (.ref b_1), .val (.ref b_4), .val (.ref b_8), .val (.ref b_13), .val (.ref b_19), .val (.ref b_26), .val (.ref b_34), .val (.int x0), .val (.int y0), .val (.ref x_63_b)] [])) (fun t_ k_ => XS.icmpYes X_63.here hx rfl (pc0 := 203) (pc' := 218) rfl (hb hby at_203) rfl (feq hx0).2 (by decide) (by decide) k_) ?_
                refine own_st (S' := T_63.setTop (mkF m 220 #[.val (.int p0), .val (.int p1), .val (.int p2), .val (.int p3), .val (.int p4), .val (.int x0), .val (.int y0), .val (.int x1), .val (.int y1), .val (.int (0 : Int32)), .val (.ref b_1), .val (.ref b_4), .val (.ref b_8), .val (.ref b_13), .val (.ref b_19), .val (.ref b_26), .val (.ref b_34), .val (.int x0), .val (.int y0), .val (.ref x_63_b)] [(.int y0)])) (fun t_ k_ => XS.iload X_63.here hx rfl (hb hby at_218) rfl k_) ?_
                refine own_st (S' := T_63.setTop (mkF m 221 #[.val (.int p0), .val (.int p1), .val (.int p2), .val (.int p3), .val (.int p4), .val (.int x0), .val (.int y0), .val (.int x1), .val (.int y1), .val (.int (0 : Int32)), .val (.ref b_1), .val (.ref b_4), .val (.ref b_8), .val (.ref b_13), .val (.ref b_19), .val (.ref b_26), .val (.ref b_34), .val (.int x0), .val (.int y0), .val (.ref x_63_b)] [(.int (-1 : Int32)), (.int y0)])) (fun t_ k_ => XS.iconst X_63.here hx rfl (hb hby at_220) k_) ?_
                refine own_st (S' := T_63.setTop (mkF m 224 #[.val (.int p0), .val (.int p1), .val (.int p2), .val (.int p3), .val (.int p4), .val (.int x0), .val (.int y0), .val (.int x1), .val (.int y1), .val (.int (0 : Int32)), .val (.ref b_1), .val (.ref b_4), .val (.ref b_8), .val (.ref b_13), .val (.ref b_19), .val (.ref b_26), .val (.ref b_34), .val (.int x0), .val (.int y0), .val (.ref x_63_b)] [])) (fun t_ k_ => XS.icmpNo X_63.here hx rfl (hb hby at_221) rfl (teq hy0).2 k_) ?_
                refine own_st (S' := T_63.setTop (mkF m 226 #[.val (.int p0), .val (.int p1), .val (.int p2), .val (.int p3), .val (.int p4), .val (.int x0), .val (.int y0), .val (.int x1), .val (.int y1), .val (.int (0 : Int32)), .val (.ref b_1), .val (.ref b_4), .val (.ref b_8), .val (.ref b_13), .val (.ref b_19), .val (.ref b_26), .val (.ref b_34), .val (.int x0), .val (.int y0), .val (.ref x_63_b)] [(.ref x_63_b)])) (fun t_ k_ => XS.aload X_63.here hx rfl (hb hby at_224) rfl rfl k_) ?_
                obtain ⟨cl_64, Ar_64, q_64, S_64, M_64, H_64, G_64⟩ := id c_63_0
                refine own_st (S' := T_63.setTop (mkF m 227 #[.val (.int p0), .val (.int p1), .val (.int p2), .val (.int p3), .val (.int p4), .val (.int x0), .val (.int y0), .val (.int x1), .val (.int y1), .val (.int (0 : Int32)), .val (.ref b_1), .val (.ref b_4), .val (.ref b_8), .val (.ref b_13), .val (.ref b_19), .val (.ref b_26), .val (.ref b_34), .val (.int x0), .val (.int y0), .val (.ref x_63_b)] [(.int (1 : Int32))])) (fun t_ k_ => X_63.arraylength hx Ar_64.1 (State.isArrayOf_alike hZ.alike Ar_64.2.1) (g := (mkF m 226 #[.val (.int p0), .val (.int p1), .val (.int p2), .val (.int p3), .val (.int p4), .val (.int x0), .val (.int y0), .val (.int x1), .val (.int y1), .val (.int (0 : Int32)), .val (.ref b_1), .val (.ref b_4), .val (.ref b_8), .val (.ref b_13), .val (.ref b_19), .val (.ref b_26), .val (.ref b_34), .val (.int x0), .val (.int y0), .val (.ref x_63_b)] [(.ref x_63_b)])) rfl rfl (hb hby at_226) _ (by rw [len_of S_64 M_64]; exact k_)) ?_
                refine own_st (S' := T_63.setTop (mkF m 228 #[.val (.int p0), .val (.int p1), .val (.int p2), .val (.int p3), .val (.int p4), .val (.int x0), .val (.int y0), .val (.int x1), .val (.int y1), .val (.int (0 : Int32)), .val (.ref b_1), .val (.ref b_4), .val (.ref b_8), .val (.ref b_13), .val (.ref b_19), .val (.ref b_26), .val (.ref b_34), .val (.int x0), .val (.int y0), .val (.ref x_63_b)] [(.int (1 : Int32)), (.int (1 : Int32))])) (fun t_ k_ => XS.iconst X_63.here hx rfl (hb hby at_227) k_) ?_
                refine own_st (S' := T_63.setTop (mkF m 231 #[.val (.int p0), .val (.int p1), .val (.int p2), .val (.int p3), .val (.int p4), .val (.int x0), .val (.int y0), .val (.int x1), .val (.int y1), .val (.int (0 : Int32)), .val (.ref b_1), .val (.ref b_4), .val (.ref b_8), .val (.ref b_13), .val (.ref b_19), .val (.ref b_26), .val (.ref b_34), .val (.int x0), .val (.int y0), .val (.ref x_63_b)] [])) (fun t_ k_ => XS.icmpNo X_63.here hx rfl (hb hby at_228) rfl (teq (by decide : (1 : Int32) = (1 : Int32))).2 k_) ?_
                refine own_st (S' := T_63.setTop (mkF m 233 #[.val (.int p0), .val (.int p1), .val (.int p2), .val (.int p3), .val (.int p4), .val (.int x0), .val (.int y0), .val (.int x1), .val (.int y1), .val (.int (0 : Int32)), .val (.ref b_1), .val (.ref b_4), .val (.ref b_8), .val (.ref b_13), .val (.ref b_19), .val (.ref b_26), .val (.ref b_34), .val (.int x0), .val (.int y0), .val (.ref x_63_b)] [(.ref x_63_b)])) (fun t_ k_ => XS.aload X_63.here hx rfl (hb hby at_231) rfl rfl k_) ?_
                refine own_st (S' := T_63.setTop (mkF m 234 #[.val (.int p0), .val (.int p1), .val (.int p2), .val (.int p3), .val (.int p4), .val (.int x0), .val (.int y0), .val (.int x1), .val (.int y1), .val (.int (0 : Int32)), .val (.ref b_1), .val (.ref b_4), .val (.ref b_8), .val (.ref b_13), .val (.ref b_19), .val (.ref b_26), .val (.ref b_34), .val (.int x0), .val (.int y0), .val (.ref x_63_b)] [(.int (0 : Int32)), (.ref x_63_b)])) (fun t_ k_ => XS.iconst X_63.here hx rfl (hb hby at_233) k_) ?_
                obtain ⟨cl_65, Ar_65, q_65, S_65, M_65, H_65, G_65⟩ := id c_63_0
                have hin_65 : ¬ ((0 : Int32) < 0 ∨ cl_65.slots.size ≤ ((0 : Int32)).toNatClampNeg) := inb_of S_65 ⟨by decide, by decide⟩
                have hat_65 : cl_65.slots[((0 : Int32)).toNatClampNeg]? = some (.int x0) := H_65.at hin_65 rfl
                refine own_st (S' := T_63.setTop (mkF m 235 #[.val (.int p0), .val (.int p1), .val (.int p2), .val (.int p3), .val (.int p4), .val (.int x0), .val (.int y0), .val (.int x1), .val (.int y1), .val (.int (0 : Int32)), .val (.ref b_1), .val (.ref b_4), .val (.ref b_8), .val (.ref b_13), .val (.ref b_19), .val (.ref b_26), .val (.ref b_34), .val (.int x0), .val (.int y0), .val (.ref x_63_b)] [(.int x0)])) (fun t_ k_ => X_63.iaload hx (j := (0 : Int32)) (v := (.int x0)) Ar_65.1 (State.isArrayOf_alike hZ.alike Ar_65.2.1) Ar_65.2.2 hin_65 hat_65 (g := (mkF m 234 #[.val (.int p0), .val (.int p1), .val (.int p2), .val (.int p3), .val (.int p4), .val (.int x0), .val (.int y0), .val (.int x1), .val (.int y1), .val (.int (0 : Int32)), .val (.ref b_1), .val (.ref b_4), .val (.ref b_8), .val (.ref b_13), .val (.ref b_19), .val (.ref b_26), .val (.ref b_34), .val (.int x0), .val (.int y0), .val (.ref x_63_b)] [(.int (0 : Int32)), (.ref x_63_b)])) rfl rfl (hb hby at_234) _ k_) ?_
                refine own_st (S' := T_63.setTop (mkF m 237 #[.val (.int p0), .val (.int p1), .val (.int p2), .val (.int p3), .val (.int p4), .val (.int x0), .val (.int y0), .val (.int x1), .val (.int y1), .val (.int (0 : Int32)), .val (.ref b_1), .val (.ref b_4), .val (.ref b_8), .val (.ref b_13), .val (.ref b_19), .val (.ref b_26), .val (.ref b_34), .val (.int x0), .val (.int y0), .val (.ref x_63_b)] [(.int x0), (.int x0)])) (fun t_ k_ => XS.iload X_63.here hx rfl (hb hby at_235) rfl k_) ?_
                refine own_st (S' := T_63.setTop (mkF m 240 #[.val (.int p0), .val (.int p1), .val (.int p2), .val (.int p3), .val (.int p4), .val (.int x0), .val (.int y0), .val (.int x1), .val (.int y1), .val (.int (0 : Int32)), .val (.ref b_1), .val (.ref b_4), .val (.ref b_8), .val (.ref b_13), .val (.ref b_19), .val (.ref b_26), .val (.ref b_34), .val (.int x0), .val (.int y0), .val (.ref x_63_b)] [])) (fun t_ k_ => XS.icmpNo X_63.here hx rfl (hb hby at_237) rfl (teq (rfl : x0 = x0)).2 k_) ?_
                refine own_st (S' := T_63.setTop (mkF m 241 #[.val (.int p0), .val (.int p1), .val (.int p2), .val (.int p3), .val (.int p4), .val (.int x0), .val (.int y0), .val (.int x1), .val (.int y1), .val (.int (0 : Int32)), .val (.ref b_1), .val (.ref b_4), .val (.ref b_8), .val (.ref b_13), .val (.ref b_19), .val (.ref b_26), .val (.ref b_34), .val (.int x0), .val (.int y0), .val (.ref x_63_b)] [(.int (1 : Int32))])) (fun t_ k_ => XS.iconst X_63.here hx rfl (hb hby at_240) k_) ?_
                refine own_st (S' := T_63.setTop (mkF m 245 #[.val (.int p0), .val (.int p1), .val (.int p2), .val (.int p3), .val (.int p4), .val (.int x0), .val (.int y0), .val (.int x1), .val (.int y1), .val (.int (0 : Int32)), .val (.ref b_1), .val (.ref b_4), .val (.ref b_8), .val (.ref b_13), .val (.ref b_19), .val (.ref b_26), .val (.ref b_34), .val (.int x0), .val (.int y0), .val (.ref x_63_b)] [(.int (1 : Int32))])) (fun t_ k_ => XS.goto X_63.here hx rfl (pc0 := 241) (pc' := 245) rfl (hb hby at_241) (by decide) (by decide) k_) ?_
                obtain ⟨fs, hr, hrun, hended, hW, hsame⟩ := X_63.leave (v := some (.int (1 : Int32))) (fun h => by rw [Bd.returns] at h; cases h)
                refine ⟨_, _, retN X_63 hx (t := .boolean) Bd.returns (by simp) (hb hby at_245) hr, hrun, hended, _, _, rfl, ?_, ⟨_, rfl⟩, hW, hsame.mono (by decide) (by decide)⟩
                show Q0 Z p0 p1 p2 p3 p4 dd kd h0 n0 _ T_63.heap _
                exact ⟨rfl, N_63⟩
              · have f_66 : Exa Z T_48.heap b_1 "[I" := (f_40.keep K_48c)
                have f_67 : Exa Z T_48.heap b_13 "[I" := (f_43.keep K_48c)
                have f_68 : Exa Z T_48.heap b_19 "[I" := (f_44.keep K_48c)
                have f_69 : Exa Z T_48.heap b_26 "java/util/ArrayList" := (f_45.keep K_48c)
                have f_70 : Exa Z T_48.heap b_4 "[I" := (f_41.keep K_48c)
                have f_71 : Exa Z T_48.heap b_8 "[I" := (f_42.keep K_48c)
                obtain ⟨cq_72, kq_72, q_72a, q_72b, q_72c⟩ := isOf hZ rfl c_48_0
                obtain ⟨_, _, ⟨T_72, L_72, k_72, n_72⟩, -, X_72, ⟨Lc_72, hQ_72, l_72, y_72, z_72⟩, st_72⟩ := X_48.virtualBack hx (y := (⟨"com/example/frisk/frisk/pattern/StateGraph", "successors", "(I)[I"⟩ : MethodName)) (z := (⟨"com/example/frisk/frisk/pattern/StateGraph", "successors", "(I)[I"⟩ : MethodName)) hown (mvT hZ (hw _ (List.mem_of_getElem? (i := 100) rfl))) (mvT hZ (hw _ (List.mem_of_getElem? (i := 101) rfl))) (notFace_of_selects (args := #[]) (mvT hZ (hw _ (List.mem_of_getElem? (i := 103) rfl)))) (mvT hZ (hw _ (List.mem_of_getElem? (i := 103) rfl))) (mvT hZ (hw _ (List.mem_of_getElem? (i := 102) rfl))) (by decide) (backOf (W := 0) (rm10c l Z a0 hw [] b_34 x_48_bx x_48_by_ k_4 k_8 x0 x1 y0 y1 T_48.heap n0 Z_48 c_48_1 c_48_2 c_48_3 c_48_4 hx0 hy0) hZ (hw _ (List.mem_of_getElem? (i := 104) rfl)) (hw _ (List.mem_of_getElem? (i := 29) rfl)) (by decide) (by decide)) q_72a q_72c (g := (mkF m 195 #[.val (.int p0), .val (.int p1), .val (.int p2), .val (.int p3), .val (.int p4), .val (.int x0), .val (.int y0), .val (.int x1), .val (.int y1), .val (.int (0 : Int32)), .val (.ref b_1), .val (.ref b_4), .val (.ref b_8), .val (.ref b_13), .val (.ref b_19), .val (.ref b_26), .val (.ref b_34), .val (.int x0), .val (.int y0), .unset] [(.int (0 : Int32)), (.ref b_34)])) rfl (by rw [hml]; rfl) (Steps.refl _) (argsL := [(.int (0 : Int32))]) (rest := []) (lenOf pd_7 rfl) rfl (by show 2 * 0 + _ ≤ _; exact Nat.le_of_eq rfl) (hb hby at_195) (fun _ _ => ⟨rfl, rfl, (by decide : 16 + 1 ≤ _), (by decide : 37 + 2 ≤ _)⟩)
                dsimp only [Pt.U, Pt.locs, Pt.cells, Pt.slots] at X_72 l_72 y_72 z_72 st_72 hQ_72
                subst l_72 y_72 z_72
                obtain ⟨x_72_b, x_72_k, rfl, M_72, K_72c, z_72_0, c_72_0⟩ := hQ_72
                have N_72 := Fr.app N_48 M_72
                have ne_b_1_x_72_b : b_1 ≠ x_72_b := Nat.ne_of_lt (Nat.lt_of_lt_of_le f_66.lt z_72_0)
                have ne_b_13_x_72_b : b_13 ≠ x_72_b := Nat.ne_of_lt (Nat.lt_of_lt_of_le f_67.lt z_72_0)
                have ne_b_19_x_72_b : b_19 ≠ x_72_b := Nat.ne_of_lt (Nat.lt_of_lt_of_le f_68.lt z_72_0)
                have ne_b_26_x_72_b : b_26 ≠ x_72_b := Nat.ne_of_lt (Nat.lt_of_lt_of_le f_69.lt z_72_0)
                have ne_b_34_x_72_b : b_34 ≠ x_72_b := Nat.ne_of_lt (Nat.lt_of_lt_of_le c_48_0.lt z_72_0)
                have ne_b_4_x_72_b : b_4 ≠ x_72_b := Nat.ne_of_lt (Nat.lt_of_lt_of_le f_70.lt z_72_0)
                have ne_b_8_x_72_b : b_8 ≠ x_72_b := Nat.ne_of_lt (Nat.lt_of_lt_of_le f_71.lt z_72_0)
                have ne_x_48_bx_x_72_b : x_48_bx ≠ x_72_b := Nat.ne_of_lt (Nat.lt_of_lt_of_le c_48_3.lt z_72_0)
                have ne_x_48_by__x_72_b : x_48_by_ ≠ x_72_b := Nat.ne_of_lt (Nat.lt_of_lt_of_le c_48_4.lt z_72_0)
                have g_x_72_b : n0 ≤ x_72_b := Nat.le_trans Z_48 z_72_0
                have Z_72 : n0 ≤ T_72.heap.size := Nat.le_trans Z_48 K_72c.1
                refine own_st (S' := T_72.setTop (mkF m 198 #[.val (.int p0), .val (.int p1), .val (.int p2), .val (.int p3), .val (.int p4), .val (.int x0), .val (.int y0), .val (.int x1), .val (.int y1), .val (.int (0 : Int32)), .val (.ref b_1), .val (.ref b_4), .val (.ref b_8), .val (.ref b_13), .val (.ref b_19), .val (.ref b_26), .val (.ref b_34), .val (.int x0), .val (.int y0), .unset] [(.ref x_72_b)])) (fun t_ k_ => st_72.trans k_) ?_
                refine own_st (S' := T_72.setTop (mkF m 200 #[.val (.int p0), .val (.int p1), .val (.int p2), .val (.int p3), .val (.int p4), .val (.int x0), .val (.int y0), .val (.int x1), .val (.int y1), .val (.int (0 : Int32)), .val (.ref b_1), .val (.ref b_4), .val (.ref b_8), .val (.ref b_13), .val (.ref b_19), .val (.ref b_26), .val (.ref b_34), .val (.int x0), .val (.int y0), .val (.ref x_72_b)] [])) (fun t_ k_ => XS.astore X_72.here hx rfl (hb hby at_198) rfl rfl (l' := #[.val (.int p0), .val (.int p1), .val (.int p2), .val (.int p3), .val (.int p4), .val (.int x0), .val (.int y0), .val (.int x1), .val (.int y1), .val (.int (0 : Int32)), .val (.ref b_1), .val (.ref b_4), .val (.ref b_8), .val (.ref b_13), .val (.ref b_19), .val (.ref b_26), .val (.ref b_34), .val (.int x0), .val (.int y0), .val (.ref x_72_b)]) rfl k_) ?_
                refine own_st (S' := T_72.setTop (mkF m 202 #[.val (.int p0), .val (.int p1), .val (.int p2), .val (.int p3), .val (.int p4), .val (.int x0), .val (.int y0), .val (.int x1), .val (.int y1), .val (.int (0 : Int32)), .val (.ref b_1), .val (.ref b_4), .val (.ref b_8), .val (.ref b_13), .val (.ref b_19), .val (.ref b_26), .val (.ref b_34), .val (.int x0), .val (.int y0), .val (.ref x_72_b)] [(.int x0)])) (fun t_ k_ => XS.iload X_72.here hx rfl (hb hby at_200) rfl k_) ?_
                refine own_st (S' := T_72.setTop (mkF m 203 #[.val (.int p0), .val (.int p1), .val (.int p2), .val (.int p3), .val (.int p4), .val (.int x0), .val (.int y0), .val (.int x1), .val (.int y1), .val (.int (0 : Int32)), .val (.ref b_1), .val (.ref b_4), .val (.ref b_8), .val (.ref b_13), .val (.ref b_19), .val (.ref b_26), .val (.ref b_34), .val (.int x0), .val (.int y0), .val (.ref x_72_b)] [(.int (-1 : Int32)), (.int x0)])) (fun t_ k_ => XS.iconst X_72.here hx rfl (hb hby at_202) k_) ?_
                refine own_st (S' := T_72.setTop (mkF m 218 #[.val (.int p0), .val (.int p1), .val (.int p2), .val (.int p3), .val (.int p4), .val (.int x0), .val (.int y0), .val (.int x1), .val (.int y1), .val (.int (0 : Int32)), .val (.ref b_1), .val (.ref b_4), .val (.ref b_8), .val (.ref b_13), .val (.ref b_19), .val (.ref b_26), .val (.ref b_34), .val (.int x0), .val (.int y0), .val (.ref x_72_b)] [])) (fun t_ k_ => XS.icmpYes X_72.here hx rfl (pc0 := 203) (pc' := 218) rfl (hb hby at_203) rfl (feq hx0).2 (by decide) (by decide) k_) ?_
                refine own_st (S' := T_72.setTop (mkF m 220 #[.val (.int p0), .val (.int p1), .val (.int p2), .val (.int p3), .val (.int p4), .val (.int x0), .val (.int y0), .val (.int x1), .val (.int y1), .val (.int (0 : Int32)), .val (.ref b_1), .val (.ref b_4), .val (.ref b_8), .val (.ref b_13), .val (.ref b_19), .val (.ref b_26), .val (.ref b_34), .val (.int x0), .val (.int y0), .val (.ref x_72_b)] [(.int y0)])) (fun t_ k_ => XS.iload X_72.here hx rfl (hb hby at_218) rfl k_) ?_
                refine own_st (S' := T_72.setTop (mkF m 221 #[.val (.int p0), .val (.int p1), .val (.int p2), .val (.int p3), .val (.int p4), .val (.int x0), .val (.int y0), .val (.int x1), .val (.int y1), .val (.int (0 : Int32)), .val (.ref b_1), .val (.ref b_4), .val (.ref b_8), .val (.ref b_13), .val (.ref b_19), .val (.ref b_26), .val (.ref b_34), .val (.int x0), .val (.int y0), .val (.ref x_72_b)] [(.int (-1 : Int32)), (.int y0)])) (fun t_ k_ => XS.iconst X_72.here hx rfl (hb hby at_220) k_) ?_
                refine own_st (S' := T_72.setTop (mkF m 246 #[.val (.int p0), .val (.int p1), .val (.int p2), .val (.int p3), .val (.int p4), .val (.int x0), .val (.int y0), .val (.int x1), .val (.int y1), .val (.int (0 : Int32)), .val (.ref b_1), .val (.ref b_4), .val (.ref b_8), .val (.ref b_13), .val (.ref b_19), .val (.ref b_26), .val (.ref b_34), .val (.int x0), .val (.int y0), .val (.ref x_72_b)] [])) (fun t_ k_ => XS.icmpYes X_72.here hx rfl (pc0 := 221) (pc' := 246) rfl (hb hby at_221) rfl (feq hy0).2 (by decide) (by decide) k_) ?_
                refine own_st (S' := T_72.setTop (mkF m 248 #[.val (.int p0), .val (.int p1), .val (.int p2), .val (.int p3), .val (.int p4), .val (.int x0), .val (.int y0), .val (.int x1), .val (.int y1), .val (.int (0 : Int32)), .val (.ref b_1), .val (.ref b_4), .val (.ref b_8), .val (.ref b_13), .val (.ref b_19), .val (.ref b_26), .val (.ref b_34), .val (.int x0), .val (.int y0), .val (.ref x_72_b)] [(.ref x_72_b)])) (fun t_ k_ => XS.aload X_72.here hx rfl (hb hby at_246) rfl rfl k_) ?_
                obtain ⟨cl_73, Ar_73, q_73, S_73, M_73, H_73, G_73⟩ := id c_72_0
                refine own_st (S' := T_72.setTop (mkF m 249 #[.val (.int p0), .val (.int p1), .val (.int p2), .val (.int p3), .val (.int p4), .val (.int x0), .val (.int y0), .val (.int x1), .val (.int y1), .val (.int (0 : Int32)), .val (.ref b_1), .val (.ref b_4), .val (.ref b_8), .val (.ref b_13), .val (.ref b_19), .val (.ref b_26), .val (.ref b_34), .val (.int x0), .val (.int y0), .val (.ref x_72_b)] [(.int (2 : Int32))])) (fun t_ k_ => X_72.arraylength hx Ar_73.1 (State.isArrayOf_alike hZ.alike Ar_73.2.1) (g := (mkF m 248 #[.val (.int p0), .val (.int p1), .val (.int p2), .val (.int p3), .val (.int p4), .val (.int x0), .val (.int y0), .val (.int x1), .val (.int y1), .val (.int (0 : Int32)), .val (.ref b_1), .val (.ref b_4), .val (.ref b_8), .val (.ref b_13), .val (.ref b_19), .val (.ref b_26), .val (.ref b_34), .val (.int x0), .val (.int y0), .val (.ref x_72_b)] [(.ref x_72_b)])) rfl rfl (hb hby at_248) _ (by rw [len_of S_73 M_73]; exact k_)) ?_
                refine own_st (S' := T_72.setTop (mkF m 250 #[.val (.int p0), .val (.int p1), .val (.int p2), .val (.int p3), .val (.int p4), .val (.int x0), .val (.int y0), .val (.int x1), .val (.int y1), .val (.int (0 : Int32)), .val (.ref b_1), .val (.ref b_4), .val (.ref b_8), .val (.ref b_13), .val (.ref b_19), .val (.ref b_26), .val (.ref b_34), .val (.int x0), .val (.int y0), .val (.ref x_72_b)] [(.int (2 : Int32)), (.int (2 : Int32))])) (fun t_ k_ => XS.iconst X_72.here hx rfl (hb hby at_249) k_) ?_
                refine own_st (S' := T_72.setTop (mkF m 253 #[.val (.int p0), .val (.int p1), .val (.int p2), .val (.int p3), .val (.int p4), .val (.int x0), .val (.int y0), .val (.int x1), .val (.int y1), .val (.int (0 : Int32)), .val (.ref b_1), .val (.ref b_4), .val (.ref b_8), .val (.ref b_13), .val (.ref b_19), .val (.ref b_26), .val (.ref b_34), .val (.int x0), .val (.int y0), .val (.ref x_72_b)] [])) (fun t_ k_ => XS.icmpNo X_72.here hx rfl (hb hby at_250) rfl (teq (by decide : (2 : Int32) = (2 : Int32))).2 k_) ?_
                refine own_st (S' := T_72.setTop (mkF m 255 #[.val (.int p0), .val (.int p1), .val (.int p2), .val (.int p3), .val (.int p4), .val (.int x0), .val (.int y0), .val (.int x1), .val (.int y1), .val (.int (0 : Int32)), .val (.ref b_1), .val (.ref b_4), .val (.ref b_8), .val (.ref b_13), .val (.ref b_19), .val (.ref b_26), .val (.ref b_34), .val (.int x0), .val (.int y0), .val (.ref x_72_b)] [(.ref x_72_b)])) (fun t_ k_ => XS.aload X_72.here hx rfl (hb hby at_253) rfl rfl k_) ?_
                refine own_st (S' := T_72.setTop (mkF m 256 #[.val (.int p0), .val (.int p1), .val (.int p2), .val (.int p3), .val (.int p4), .val (.int x0), .val (.int y0), .val (.int x1), .val (.int y1), .val (.int (0 : Int32)), .val (.ref b_1), .val (.ref b_4), .val (.ref b_8), .val (.ref b_13), .val (.ref b_19), .val (.ref b_26), .val (.ref b_34), .val (.int x0), .val (.int y0), .val (.ref x_72_b)] [(.int (0 : Int32)), (.ref x_72_b)])) (fun t_ k_ => XS.iconst X_72.here hx rfl (hb hby at_255) k_) ?_
                obtain ⟨cl_74, Ar_74, q_74, S_74, M_74, H_74, G_74⟩ := id c_72_0
                have hin_74 : ¬ ((0 : Int32) < 0 ∨ cl_74.slots.size ≤ ((0 : Int32)).toNatClampNeg) := inb_of S_74 ⟨by decide, by decide⟩
                have hat_74 : cl_74.slots[((0 : Int32)).toNatClampNeg]? = some (.int x0) := H_74.at hin_74 rfl
                refine own_st (S' := T_72.setTop (mkF m 257 #[.val (.int p0), .val (.int p1), .val (.int p2), .val (.int p3), .val (.int p4), .val (.int x0), .val (.int y0), .val (.int x1), .val (.int y1), .val (.int (0 : Int32)), .val (.ref b_1), .val (.ref b_4), .val (.ref b_8), .val (.ref b_13), .val (.ref b_19), .val (.ref b_26), .val (.ref b_34), .val (.int x0), .val (.int y0), .val (.ref x_72_b)] [(.int x0)])) (fun t_ k_ => X_72.iaload hx (j := (0 : Int32)) (v := (.int x0)) Ar_74.1 (State.isArrayOf_alike hZ.alike Ar_74.2.1) Ar_74.2.2 hin_74 hat_74 (g := (mkF m 256 #[.val (.int p0), .val (.int p1), .val (.int p2), .val (.int p3), .val (.int p4), .val (.int x0), .val (.int y0), .val (.int x1), .val (.int y1), .val (.int (0 : Int32)), .val (.ref b_1), .val (.ref b_4), .val (.ref b_8), .val (.ref b_13), .val (.ref b_19), .val (.ref b_26), .val (.ref b_34), .val (.int x0), .val (.int y0), .val (.ref x_72_b)] [(.int (0 : Int32)), (.ref x_72_b)])) rfl rfl (hb hby at_256) _ k_) ?_
                refine own_st (S' := T_72.setTop (mkF m 259 #[.val (.int p0), .val (.int p1), .val (.int p2), .val (.int p3), .val (.int p4), .val (.int x0), .val (.int y0), .val (.int x1), .val (.int y1), .val (.int (0 : Int32)), .val (.ref b_1), .val (.ref b_4), .val (.ref b_8), .val (.ref b_13), .val (.ref b_19), .val (.ref b_26), .val (.ref b_34), .val (.int x0), .val (.int y0), .val (.ref x_72_b)] [(.int x0), (.int x0)])) (fun t_ k_ => XS.iload X_72.here hx rfl (hb hby at_257) rfl k_) ?_
                refine own_st (S' := T_72.setTop (mkF m 262 #[.val (.int p0), .val (.int p1), .val (.int p2), .val (.int p3), .val (.int p4), .val (.int x0), .val (.int y0), .val (.int x1), .val (.int y1), .val (.int (0 : Int32)), .val (.ref b_1), .val (.ref b_4), .val (.ref b_8), .val (.ref b_13), .val (.ref b_19), .val (.ref b_26), .val (.ref b_34), .val (.int x0), .val (.int y0), .val (.ref x_72_b)] [])) (fun t_ k_ => XS.icmpNo X_72.here hx rfl (hb hby at_259) rfl (teq (rfl : x0 = x0)).2 k_) ?_
                refine own_st (S' := T_72.setTop (mkF m 264 #[.val (.int p0), .val (.int p1), .val (.int p2), .val (.int p3), .val (.int p4), .val (.int x0), .val (.int y0), .val (.int x1), .val (.int y1), .val (.int (0 : Int32)), .val (.ref b_1), .val (.ref b_4), .val (.ref b_8), .val (.ref b_13), .val (.ref b_19), .val (.ref b_26), .val (.ref b_34), .val (.int x0), .val (.int y0), .val (.ref x_72_b)] [(.ref x_72_b)])) (fun t_ k_ => XS.aload X_72.here hx rfl (hb hby at_262) rfl rfl k_) ?_
                refine own_st (S' := T_72.setTop (mkF m 265 #[.val (.int p0), .val (.int p1), .val (.int p2), .val (.int p3), .val (.int p4), .val (.int x0), .val (.int y0), .val (.int x1), .val (.int y1), .val (.int (0 : Int32)), .val (.ref b_1), .val (.ref b_4), .val (.ref b_8), .val (.ref b_13), .val (.ref b_19), .val (.ref b_26), .val (.ref b_34), .val (.int x0), .val (.int y0), .val (.ref x_72_b)] [(.int (1 : Int32)), (.ref x_72_b)])) (fun t_ k_ => XS.iconst X_72.here hx rfl (hb hby at_264) k_) ?_
                obtain ⟨cl_75, Ar_75, q_75, S_75, M_75, H_75, G_75⟩ := id c_72_0
                have hin_75 : ¬ ((1 : Int32) < 0 ∨ cl_75.slots.size ≤ ((1 : Int32)).toNatClampNeg) := inb_of S_75 ⟨by decide, by decide⟩
                have hat_75 : cl_75.slots[((1 : Int32)).toNatClampNeg]? = some (.int y0) := H_75.at hin_75 rfl
                refine own_st (S' := T_72.setTop (mkF m 266 #[.val (.int p0), .val (.int p1), .val (.int p2), .val (.int p3), .val (.int p4), .val (.int x0), .val (.int y0), .val (.int x1), .val (.int y1), .val (.int (0 : Int32)), .val (.ref b_1), .val (.ref b_4), .val (.ref b_8), .val (.ref b_13), .val (.ref b_19), .val (.ref b_26), .val (.ref b_34), .val (.int x0), .val (.int y0), .val (.ref x_72_b)] [(.int y0)])) (fun t_ k_ => X_72.iaload hx (j := (1 : Int32)) (v := (.int y0)) Ar_75.1 (State.isArrayOf_alike hZ.alike Ar_75.2.1) Ar_75.2.2 hin_75 hat_75 (g := (mkF m 265 #[.val (.int p0), .val (.int p1), .val (.int p2), .val (.int p3), .val (.int p4), .val (.int x0), .val (.int y0), .val (.int x1), .val (.int y1), .val (.int (0 : Int32)), .val (.ref b_1), .val (.ref b_4), .val (.ref b_8), .val (.ref b_13), .val (.ref b_19), .val (.ref b_26), .val (.ref b_34), .val (.int x0), .val (.int y0), .val (.ref x_72_b)] [(.int (1 : Int32)), (.ref x_72_b)])) rfl rfl (hb hby at_265) _ k_) ?_
                refine own_st (S' := T_72.setTop (mkF m 268 #[.val (.int p0), .val (.int p1), .val (.int p2), .val (.int p3), .val (.int p4), .val (.int x0), .val (.int y0), .val (.int x1), .val (.int y1), .val (.int (0 : Int32)), .val (.ref b_1), .val (.ref b_4), .val (.ref b_8), .val (.ref b_13), .val (.ref b_19), .val (.ref b_26), .val (.ref b_34), .val (.int x0), .val (.int y0), .val (.ref x_72_b)] [(.int y0), (.int y0)])) (fun t_ k_ => XS.iload X_72.here hx rfl (hb hby at_266) rfl k_) ?_
                refine own_st (S' := T_72.setTop (mkF m 271 #[.val (.int p0), .val (.int p1), .val (.int p2), .val (.int p3), .val (.int p4), .val (.int x0), .val (.int y0), .val (.int x1), .val (.int y1), .val (.int (0 : Int32)), .val (.ref b_1), .val (.ref b_4), .val (.ref b_8), .val (.ref b_13), .val (.ref b_19), .val (.ref b_26), .val (.ref b_34), .val (.int x0), .val (.int y0), .val (.ref x_72_b)] [])) (fun t_ k_ => XS.icmpNo X_72.here hx rfl (hb hby at_268) rfl (teq (rfl : y0 = y0)).2 k_) ?_
                refine own_st (S' := T_72.setTop (mkF m 272 #[.val (.int p0), .val (.int p1), .val (.int p2), .val (.int p3), .val (.int p4), .val (.int x0), .val (.int y0), .val (.int x1), .val (.int y1), .val (.int (0 : Int32)), .val (.ref b_1), .val (.ref b_4), .val (.ref b_8), .val (.ref b_13), .val (.ref b_19), .val (.ref b_26), .val (.ref b_34), .val (.int x0), .val (.int y0), .val (.ref x_72_b)] [(.int (1 : Int32))])) (fun t_ k_ => XS.iconst X_72.here hx rfl (hb hby at_271) k_) ?_
                refine own_st (S' := T_72.setTop (mkF m 276 #[.val (.int p0), .val (.int p1), .val (.int p2), .val (.int p3), .val (.int p4), .val (.int x0), .val (.int y0), .val (.int x1), .val (.int y1), .val (.int (0 : Int32)), .val (.ref b_1), .val (.ref b_4), .val (.ref b_8), .val (.ref b_13), .val (.ref b_19), .val (.ref b_26), .val (.ref b_34), .val (.int x0), .val (.int y0), .val (.ref x_72_b)] [(.int (1 : Int32))])) (fun t_ k_ => XS.goto X_72.here hx rfl (pc0 := 272) (pc' := 276) rfl (hb hby at_272) (by decide) (by decide) k_) ?_
                obtain ⟨fs, hr, hrun, hended, hW, hsame⟩ := X_72.leave (v := some (.int (1 : Int32))) (fun h => by rw [Bd.returns] at h; cases h)
                refine ⟨_, _, retN X_72 hx (t := .boolean) Bd.returns (by simp) (hb hby at_276) hr, hrun, hended, _, _, rfl, ?_, ⟨_, rfl⟩, hW, hsame.mono (by decide) (by decide)⟩
                show Q0 Z p0 p1 p2 p3 p4 dd kd h0 n0 _ T_72.heap _
                exact ⟨rfl, N_72⟩
          · refine own_cast (S' := s₁.setTop (mkF m 59 #[.val (.int p0), .val (.int p1), .val (.int p2), .val (.int p3), .val (.int p4), .val (.int x0), .val (.int y0), .val (.int x1), .val (.int y1), .unset, .unset, .unset, .unset, .unset, .unset, .unset, .unset, .unset, .unset, .unset] [(.int (1 : Int32))])) (by rw [own_bit hst]) ?_
            refine own_st (S' := s₁.setTop (mkF m 61 #[.val (.int p0), .val (.int p1), .val (.int p2), .val (.int p3), .val (.int p4), .val (.int x0), .val (.int y0), .val (.int x1), .val (.int y1), .val (.int (1 : Int32)), .unset, .unset, .unset, .unset, .unset, .unset, .unset, .unset, .unset, .unset] [])) (fun t_ k_ => XS.istore X0.here hx rfl (hb hby at_59) rfl (l' := #[.val (.int p0), .val (.int p1), .val (.int p2), .val (.int p3), .val (.int p4), .val (.int x0), .val (.int y0), .val (.int x1), .val (.int y1), .val (.int (1 : Int32)), .unset, .unset, .unset, .unset, .unset, .unset, .unset, .unset, .unset, .unset]) rfl k_) ?_
            refine own_st (S' := s₁.setTop (mkF m 62 #[.val (.int p0), .val (.int p1), .val (.int p2), .val (.int p3), .val (.int p4), .val (.int x0), .val (.int y0), .val (.int x1), .val (.int y1), .val (.int (1 : Int32)), .unset, .unset, .unset, .unset, .unset, .unset, .unset, .unset, .unset, .unset] [(.int (2 : Int32))])) (fun t_ k_ => XS.iconst X0.here hx rfl (hb hby at_61) k_) ?_
            obtain ⟨T_76, h_76, k_76, X_76, e_76, E_76, A_76, B_76, st_76⟩ := newPE X0 hx hZ (hw _ (List.mem_of_getElem? (i := 0) rfl)) e0 (g := (mkF m 62 #[.val (.int p0), .val (.int p1), .val (.int p2), .val (.int p3), .val (.int p4), .val (.int x0), .val (.int y0), .val (.int x1), .val (.int y1), .val (.int (1 : Int32)), .unset, .unset, .unset, .unset, .unset, .unset, .unset, .unset, .unset, .unset] [(.int (2 : Int32))])) rfl (hb hby at_62) rfl (by decide) (cap := 2) (by decide) (by decide) (by decide) (by decide) (ad := "[I") (by decide)
            obtain ⟨b_76, gg_76⟩ : ∃ z, z = h0.size := ⟨_, rfl⟩
            rw [← gg_76] at A_76 B_76 st_76
            have g_b_76 : n0 ≤ b_76 := Nat.le_trans Z0 (Nat.le_of_eq gg_76.symm)
            have Z_76 : n0 ≤ h_76.size := Nat.le_trans Z0 E_76.1
            have V_76 : Arv Z h_76 b_76 k_76 .int (2 : Int32) [(.int (0 : Int32)), (.int (0 : Int32))] (.int (0 : Int32)) := (Arv.new A_76 (by decide)).pad (pad_rep [] (.int (0 : Int32)) 2)
            refine own_st (S' := T_76.setTop (mkF m 64 #[.val (.int p0), .val (.int p1), .val (.int p2), .val (.int p3), .val (.int p4), .val (.int x0), .val (.int y0), .val (.int x1), .val (.int y1), .val (.int (1 : Int32)), .unset, .unset, .unset, .unset, .unset, .unset, .unset, .unset, .unset, .unset] [(.ref b_76)])) st_76 ?_
            refine own_st (S' := T_76.setTop (mkF m 65 #[.val (.int p0), .val (.int p1), .val (.int p2), .val (.int p3), .val (.int p4), .val (.int x0), .val (.int y0), .val (.int x1), .val (.int y1), .val (.int (1 : Int32)), .unset, .unset, .unset, .unset, .unset, .unset, .unset, .unset, .unset, .unset] [(.ref b_76), (.ref b_76)])) (fun t_ k_ => XS.dup X_76.here hx rfl (hb hby at_64) rfl rfl k_) ?_
            refine own_st (S' := T_76.setTop (mkF m 66 #[.val (.int p0), .val (.int p1), .val (.int p2), .val (.int p3), .val (.int p4), .val (.int x0), .val (.int y0), .val (.int x1), .val (.int y1), .val (.int (1 : Int32)), .unset, .unset, .unset, .unset, .unset, .unset, .unset, .unset, .unset, .unset] [(.int (0 : Int32)), (.ref b_76), (.ref b_76)])) (fun t_ k_ => XS.iconst X_76.here hx rfl (hb hby at_65) k_) ?_
            refine own_st (S' := T_76.setTop (mkF m 67 #[.val (.int p0), .val (.int p1), .val (.int p2), .val (.int p3), .val (.int p4), .val (.int x0), .val (.int y0), .val (.int x1), .val (.int y1), .val (.int (1 : Int32)), .unset, .unset, .unset, .unset, .unset, .unset, .unset, .unset, .unset, .unset] [(.int (-1 : Int32)), (.int (0 : Int32)), (.ref b_76), (.ref b_76)])) (fun t_ k_ => XS.iconst X_76.here hx rfl (hb hby at_66) k_) ?_
            obtain ⟨cl_77, Ar_77, q_77, S_77, M_77, H_77, G_77⟩ := id V_76
            have hin_77 : ¬ ((0 : Int32) < 0 ∨ cl_77.slots.size ≤ ((0 : Int32)).toNatClampNeg) := inb_of S_77 ⟨by decide, by decide⟩
            obtain ⟨T_77, h_77, X_77, e_77, W_77, st_77⟩ := stI X_76 hx hZ e_76 Ar_77 (j := (0 : Int32)) hin_77 (g := (mkF m 67 #[.val (.int p0), .val (.int p1), .val (.int p2), .val (.int p3), .val (.int p4), .val (.int x0), .val (.int y0), .val (.int x1), .val (.int y1), .val (.int (1 : Int32)), .unset, .unset, .unset, .unset, .unset, .unset, .unset, .unset, .unset, .unset] [(.int (-1 : Int32)), (.int (0 : Int32)), (.ref b_76), (.ref b_76)])) rfl rfl (hb hby at_67)
            have Z_77 : n0 ≤ h_77.size := Nat.le_trans Z_76 (Keep.of_wr W_77).1
            have N_77 := Fr.snoc X_77 N0 g_b_76
            have V_77 : Arv Z h_77 b_76 k_76 .int (2 : Int32) [(.int (-1 : Int32)), (.int (0 : Int32))] (.int (0 : Int32)) := Arv.set Ar_77 q_77 S_77 M_77 H_77 G_77 rfl W_77 0 rfl (Nat.le_of_ble_eq_true rfl)
            refine own_st (S' := T_77.setTop (mkF m 68 #[.val (.int p0), .val (.int p1), .val (.int p2), .val (.int p3), .val (.int p4), .val (.int x0), .val (.int y0), .val (.int x1), .val (.int y1), .val (.int (1 : Int32)), .unset, .unset, .unset, .unset, .unset, .unset, .unset, .unset, .unset, .unset] [(.ref b_76)])) st_77 ?_
            refine own_st (S' := T_77.setTop (mkF m 69 #[.val (.int p0), .val (.int p1), .val (.int p2), .val (.int p3), .val (.int p4), .val (.int x0), .val (.int y0), .val (.int x1), .val (.int y1), .val (.int (1 : Int32)), .unset, .unset, .unset, .unset, .unset, .unset, .unset, .unset, .unset, .unset] [(.ref b_76), (.ref b_76)])) (fun t_ k_ => XS.dup X_77.here hx rfl (hb hby at_68) rfl rfl k_) ?_
            refine own_st (S' := T_77.setTop (mkF m 70 #[.val (.int p0), .val (.int p1), .val (.int p2), .val (.int p3), .val (.int p4), .val (.int x0), .val (.int y0), .val (.int x1), .val (.int y1), .val (.int (1 : Int32)), .unset, .unset, .unset, .unset, .unset, .unset, .unset, .unset, .unset, .unset] [(.int (1 : Int32)), (.ref b_76), (.ref b_76)])) (fun t_ k_ => XS.iconst X_77.here hx rfl (hb hby at_69) k_) ?_
            refine own_st (S' := T_77.setTop (mkF m 72 #[.val (.int p0), .val (.int p1), .val (.int p2), .val (.int p3), .val (.int p4), .val (.int x0), .val (.int y0), .val (.int x1), .val (.int y1), .val (.int (1 : Int32)), .unset, .unset, .unset, .unset, .unset, .unset, .unset, .unset, .unset, .unset] [(.int (-2 : Int32)), (.int (1 : Int32)), (.ref b_76), (.ref b_76)])) (fun t_ k_ => XS.bipush X_77.here hx rfl (hb hby at_70) k_) ?_
            obtain ⟨cl_78, Ar_78, q_78, S_78, M_78, H_78, G_78⟩ := id V_77
            have hin_78 : ¬ ((1 : Int32) < 0 ∨ cl_78.slots.size ≤ ((1 : Int32)).toNatClampNeg) := inb_of S_78 ⟨by decide, by decide⟩
            obtain ⟨T_78, h_78, X_78, e_78, W_78, st_78⟩ := stI X_77 hx hZ e_77 Ar_78 (j := (1 : Int32)) hin_78 (g := (mkF m 72 #[.val (.int p0), .val (.int p1), .val (.int p2), .val (.int p3), .val (.int p4), .val (.int x0), .val (.int y0), .val (.int x1), .val (.int y1), .val (.int (1 : Int32)), .unset, .unset, .unset, .unset, .unset, .unset, .unset, .unset, .unset, .unset] [(.int (-2 : Int32)), (.int (1 : Int32)), (.ref b_76), (.ref b_76)])) rfl rfl (hb hby at_72)
            have Z_78 : n0 ≤ h_78.size := Nat.le_trans Z_77 (Keep.of_wr W_78).1
            have N_78 := Fr.snoc X_78 N_77 g_b_76
            have V_78 : Arv Z h_78 b_76 k_76 .int (2 : Int32) [(.int (-1 : Int32)), (.int (-2 : Int32))] (.int (0 : Int32)) := Arv.set Ar_78 q_78 S_78 M_78 H_78 G_78 rfl W_78 1 rfl (Nat.le_of_ble_eq_true rfl)
            refine own_st (S' := T_78.setTop (mkF m 73 #[.val (.int p0), .val (.int p1), .val (.int p2), .val (.int p3), .val (.int p4), .val (.int x0), .val (.int y0), .val (.int x1), .val (.int y1), .val (.int (1 : Int32)), .unset, .unset, .unset, .unset, .unset, .unset, .unset, .unset, .unset, .unset] [(.ref b_76)])) st_78 ?_
            refine own_st (S' := T_78.setTop (mkF m 75 #[.val (.int p0), .val (.int p1), .val (.int p2), .val (.int p3), .val (.int p4), .val (.int x0), .val (.int y0), .val (.int x1), .val (.int y1), .val (.int (1 : Int32)), .val (.ref b_76), .unset, .unset, .unset, .unset, .unset, .unset, .unset, .unset, .unset] [])) (fun t_ k_ => XS.astore X_78.here hx rfl (hb hby at_73) rfl rfl (l' := #[.val (.int p0), .val (.int p1), .val (.int p2), .val (.int p3), .val (.int p4), .val (.int x0), .val (.int y0), .val (.int x1), .val (.int y1), .val (.int (1 : Int32)), .val (.ref b_76), .unset, .unset, .unset, .unset, .unset, .unset, .unset, .unset, .unset]) rfl k_) ?_
            refine own_st (S' := T_78.setTop (mkF m 76 #[.val (.int p0), .val (.int p1), .val (.int p2), .val (.int p3), .val (.int p4), .val (.int x0), .val (.int y0), .val (.int x1), .val (.int y1), .val (.int (1 : Int32)), .val (.ref b_76), .unset, .unset, .unset, .unset, .unset, .unset, .unset, .unset, .unset] [(.int (2 : Int32))])) (fun t_ k_ => XS.iconst X_78.here hx rfl (hb hby at_75) k_) ?_
            obtain ⟨T_79, h_79, k_79, X_79, e_79, E_79, A_79, B_79, st_79⟩ := newPE X_78 hx hZ (hw _ (List.mem_of_getElem? (i := 0) rfl)) e_78 (g := (mkF m 76 #[.val (.int p0), .val (.int p1), .val (.int p2), .val (.int p3), .val (.int p4), .val (.int x0), .val (.int y0), .val (.int x1), .val (.int y1), .val (.int (1 : Int32)), .val (.ref b_76), .unset, .unset, .unset, .unset, .unset, .unset, .unset, .unset, .unset] [(.int (2 : Int32))])) rfl (hb hby at_76) rfl (by decide) (cap := 2) (by decide) (by decide) (by decide) (by decide) (ad := "[I") (by decide)
            obtain ⟨b_79, gg_79⟩ : ∃ z, z = h_78.size := ⟨_, rfl⟩
            rw [← gg_79] at A_79 B_79 st_79
            have ne_b_76_b_79 : b_76 ≠ b_79 := Nat.ne_of_lt (Nat.lt_of_lt_of_le V_78.lt (Nat.le_of_eq gg_79.symm))
            have g_b_79 : n0 ≤ b_79 := Nat.le_trans Z_78 (Nat.le_of_eq gg_79.symm)
            have Z_79 : n0 ≤ h_79.size := Nat.le_trans Z_78 E_79.1
            have V_79 : Arv Z h_79 b_79 k_79 .int (2 : Int32) [(.int (0 : Int32)), (.int (0 : Int32))] (.int (0 : Int32)) := (Arv.new A_79 (by decide)).pad (pad_rep [] (.int (0 : Int32)) 2)
            refine own_st (S' := T_79.setTop (mkF m 78 #[.val (.int p0), .val (.int p1), .val (.int p2), .val (.int p3), .val (.int p4), .val (.int x0), .val (.int y0), .val (.int x1), .val (.int y1), .val (.int (1 : Int32)), .val (.ref b_76), .unset, .unset, .unset, .unset, .unset, .unset, .unset, .unset, .unset] [(.ref b_79)])) st_79 ?_
            refine own_st (S' := T_79.setTop (mkF m 79 #[.val (.int p0), .val (.int p1), .val (.int p2), .val (.int p3), .val (.int p4), .val (.int x0), .val (.int y0), .val (.int x1), .val (.int y1), .val (.int (1 : Int32)), .val (.ref b_76), .unset, .unset, .unset, .unset, .unset, .unset, .unset, .unset, .unset] [(.ref b_79), (.ref b_79)])) (fun t_ k_ => XS.dup X_79.here hx rfl (hb hby at_78) rfl rfl k_) ?_
            refine own_st (S' := T_79.setTop (mkF m 80 #[.val (.int p0), .val (.int p1), .val (.int p2), .val (.int p3), .val (.int p4), .val (.int x0), .val (.int y0), .val (.int x1), .val (.int y1), .val (.int (1 : Int32)), .val (.ref b_76), .unset, .unset, .unset, .unset, .unset, .unset, .unset, .unset, .unset] [(.int (0 : Int32)), (.ref b_79), (.ref b_79)])) (fun t_ k_ => XS.iconst X_79.here hx rfl (hb hby at_79) k_) ?_
            refine own_st (S' := T_79.setTop (mkF m 82 #[.val (.int p0), .val (.int p1), .val (.int p2), .val (.int p3), .val (.int p4), .val (.int x0), .val (.int y0), .val (.int x1), .val (.int y1), .val (.int (1 : Int32)), .val (.ref b_76), .unset, .unset, .unset, .unset, .unset, .unset, .unset, .unset, .unset] [(.int x0), (.int (0 : Int32)), (.ref b_79), (.ref b_79)])) (fun t_ k_ => XS.iload X_79.here hx rfl (hb hby at_80) rfl k_) ?_
            obtain ⟨cl_80, Ar_80, q_80, S_80, M_80, H_80, G_80⟩ := id V_79
            have hin_80 : ¬ ((0 : Int32) < 0 ∨ cl_80.slots.size ≤ ((0 : Int32)).toNatClampNeg) := inb_of S_80 ⟨by decide, by decide⟩
            obtain ⟨T_80, h_80, X_80, e_80, W_80, st_80⟩ := stI X_79 hx hZ e_79 Ar_80 (j := (0 : Int32)) hin_80 (g := (mkF m 82 #[.val (.int p0), .val (.int p1), .val (.int p2), .val (.int p3), .val (.int p4), .val (.int x0), .val (.int y0), .val (.int x1), .val (.int y1), .val (.int (1 : Int32)), .val (.ref b_76), .unset, .unset, .unset, .unset, .unset, .unset, .unset, .unset, .unset] [(.int x0), (.int (0 : Int32)), (.ref b_79), (.ref b_79)])) rfl rfl (hb hby at_82)
            have Z_80 : n0 ≤ h_80.size := Nat.le_trans Z_79 (Keep.of_wr W_80).1
            have N_80 := Fr.snoc X_80 N_78 g_b_79
            have V_80 : Arv Z h_80 b_79 k_79 .int (2 : Int32) [(.int x0), (.int (0 : Int32))] (.int (0 : Int32)) := Arv.set Ar_80 q_80 S_80 M_80 H_80 G_80 rfl W_80 0 rfl (Nat.le_of_ble_eq_true rfl)
            refine own_st (S' := T_80.setTop (mkF m 83 #[.val (.int p0), .val (.int p1), .val (.int p2), .val (.int p3), .val (.int p4), .val (.int x0), .val (.int y0), .val (.int x1), .val (.int y1), .val (.int (1 : Int32)), .val (.ref b_76), .unset, .unset, .unset, .unset, .unset, .unset, .unset, .unset, .unset] [(.ref b_79)])) st_80 ?_
            refine own_st (S' := T_80.setTop (mkF m 84 #[.val (.int p0), .val (.int p1), .val (.int p2), .val (.int p3), .val (.int p4), .val (.int x0), .val (.int y0), .val (.int x1), .val (.int y1), .val (.int (1 : Int32)), .val (.ref b_76), .unset, .unset, .unset, .unset, .unset, .unset, .unset, .unset, .unset] [(.ref b_79), (.ref b_79)])) (fun t_ k_ => XS.dup X_80.here hx rfl (hb hby at_83) rfl rfl k_) ?_
            refine own_st (S' := T_80.setTop (mkF m 85 #[.val (.int p0), .val (.int p1), .val (.int p2), .val (.int p3), .val (.int p4), .val (.int x0), .val (.int y0), .val (.int x1), .val (.int y1), .val (.int (1 : Int32)), .val (.ref b_76), .unset, .unset, .unset, .unset, .unset, .unset, .unset, .unset, .unset] [(.int (1 : Int32)), (.ref b_79), (.ref b_79)])) (fun t_ k_ => XS.iconst X_80.here hx rfl (hb hby at_84) k_) ?_
            refine own_st (S' := T_80.setTop (mkF m 87 #[.val (.int p0), .val (.int p1), .val (.int p2), .val (.int p3), .val (.int p4), .val (.int x0), .val (.int y0), .val (.int x1), .val (.int y1), .val (.int (1 : Int32)), .val (.ref b_76), .unset, .unset, .unset, .unset, .unset, .unset, .unset, .unset, .unset] [(.int x1), (.int (1 : Int32)), (.ref b_79), (.ref b_79)])) (fun t_ k_ => XS.iload X_80.here hx rfl (hb hby at_85) rfl k_) ?_
            obtain ⟨cl_81, Ar_81, q_81, S_81, M_81, H_81, G_81⟩ := id V_80
            have hin_81 : ¬ ((1 : Int32) < 0 ∨ cl_81.slots.size ≤ ((1 : Int32)).toNatClampNeg) := inb_of S_81 ⟨by decide, by decide⟩
            obtain ⟨T_81, h_81, X_81, e_81, W_81, st_81⟩ := stI X_80 hx hZ e_80 Ar_81 (j := (1 : Int32)) hin_81 (g := (mkF m 87 #[.val (.int p0), .val (.int p1), .val (.int p2), .val (.int p3), .val (.int p4), .val (.int x0), .val (.int y0), .val (.int x1), .val (.int y1), .val (.int (1 : Int32)), .val (.ref b_76), .unset, .unset, .unset, .unset, .unset, .unset, .unset, .unset, .unset] [(.int x1), (.int (1 : Int32)), (.ref b_79), (.ref b_79)])) rfl rfl (hb hby at_87)
            have Z_81 : n0 ≤ h_81.size := Nat.le_trans Z_80 (Keep.of_wr W_81).1
            have N_81 := Fr.snoc X_81 N_80 g_b_79
            have V_81 : Arv Z h_81 b_79 k_79 .int (2 : Int32) [(.int x0), (.int x1)] (.int (0 : Int32)) := Arv.set Ar_81 q_81 S_81 M_81 H_81 G_81 rfl W_81 1 rfl (Nat.le_of_ble_eq_true rfl)
            refine own_st (S' := T_81.setTop (mkF m 88 #[.val (.int p0), .val (.int p1), .val (.int p2), .val (.int p3), .val (.int p4), .val (.int x0), .val (.int y0), .val (.int x1), .val (.int y1), .val (.int (1 : Int32)), .val (.ref b_76), .unset, .unset, .unset, .unset, .unset, .unset, .unset, .unset, .unset] [(.ref b_79)])) st_81 ?_
            refine own_st (S' := T_81.setTop (mkF m 90 #[.val (.int p0), .val (.int p1), .val (.int p2), .val (.int p3), .val (.int p4), .val (.int x0), .val (.int y0), .val (.int x1), .val (.int y1), .val (.int (1 : Int32)), .val (.ref b_76), .val (.ref b_79), .unset, .unset, .unset, .unset, .unset, .unset, .unset, .unset] [])) (fun t_ k_ => XS.astore X_81.here hx rfl (hb hby at_88) rfl rfl (l' := #[.val (.int p0), .val (.int p1), .val (.int p2), .val (.int p3), .val (.int p4), .val (.int x0), .val (.int y0), .val (.int x1), .val (.int y1), .val (.int (1 : Int32)), .val (.ref b_76), .val (.ref b_79), .unset, .unset, .unset, .unset, .unset, .unset, .unset, .unset]) rfl k_) ?_
            refine own_st (S' := T_81.setTop (mkF m 91 #[.val (.int p0), .val (.int p1), .val (.int p2), .val (.int p3), .val (.int p4), .val (.int x0), .val (.int y0), .val (.int x1), .val (.int y1), .val (.int (1 : Int32)), .val (.ref b_76), .val (.ref b_79), .unset, .unset, .unset, .unset, .unset, .unset, .unset, .unset] [(.int (2 : Int32))])) (fun t_ k_ => XS.iconst X_81.here hx rfl (hb hby at_90) k_) ?_
            have f_82 : Arv Z h_81 b_76 k_76 .int (2 : Int32) [(.int (-1 : Int32)), (.int (-2 : Int32))] (.int (0 : Int32)) := (((V_78.ext E_79).other W_80 ne_b_76_b_79).other W_81 ne_b_76_b_79)
            obtain ⟨T_83, h_83, k_83, X_83, e_83, E_83, A_83, B_83, st_83⟩ := newPE X_81 hx hZ (hw _ (List.mem_of_getElem? (i := 0) rfl)) e_81 (g := (mkF m 91 #[.val (.int p0), .val (.int p1), .val (.int p2), .val (.int p3), .val (.int p4), .val (.int x0), .val (.int y0), .val (.int x1), .val (.int y1), .val (.int (1 : Int32)), .val (.ref b_76), .val (.ref b_79), .unset, .unset, .unset, .unset, .unset, .unset, .unset, .unset] [(.int (2 : Int32))])) rfl (hb hby at_91) rfl (by decide) (cap := 2) (by decide) (by decide) (by decide) (by decide) (ad := "[I") (by decide)
            obtain ⟨b_83, gg_83⟩ : ∃ z, z = h_81.size := ⟨_, rfl⟩
            rw [← gg_83] at A_83 B_83 st_83
            have ne_b_76_b_83 : b_76 ≠ b_83 := Nat.ne_of_lt (Nat.lt_of_lt_of_le f_82.lt (Nat.le_of_eq gg_83.symm))
            have ne_b_79_b_83 : b_79 ≠ b_83 := Nat.ne_of_lt (Nat.lt_of_lt_of_le V_81.lt (Nat.le_of_eq gg_83.symm))
            have g_b_83 : n0 ≤ b_83 := Nat.le_trans Z_81 (Nat.le_of_eq gg_83.symm)
            have Z_83 : n0 ≤ h_83.size := Nat.le_trans Z_81 E_83.1
            have V_83 : Arv Z h_83 b_83 k_83 .int (2 : Int32) [(.int (0 : Int32)), (.int (0 : Int32))] (.int (0 : Int32)) := (Arv.new A_83 (by decide)).pad (pad_rep [] (.int (0 : Int32)) 2)
            refine own_st (S' := T_83.setTop (mkF m 93 #[.val (.int p0), .val (.int p1), .val (.int p2), .val (.int p3), .val (.int p4), .val (.int x0), .val (.int y0), .val (.int x1), .val (.int y1), .val (.int (1 : Int32)), .val (.ref b_76), .val (.ref b_79), .unset, .unset, .unset, .unset, .unset, .unset, .unset, .unset] [(.ref b_83)])) st_83 ?_
            refine own_st (S' := T_83.setTop (mkF m 94 #[.val (.int p0), .val (.int p1), .val (.int p2), .val (.int p3), .val (.int p4), .val (.int x0), .val (.int y0), .val (.int x1), .val (.int y1), .val (.int (1 : Int32)), .val (.ref b_76), .val (.ref b_79), .unset, .unset, .unset, .unset, .unset, .unset, .unset, .unset] [(.ref b_83), (.ref b_83)])) (fun t_ k_ => XS.dup X_83.here hx rfl (hb hby at_93) rfl rfl k_) ?_
            refine own_st (S' := T_83.setTop (mkF m 95 #[.val (.int p0), .val (.int p1), .val (.int p2), .val (.int p3), .val (.int p4), .val (.int x0), .val (.int y0), .val (.int x1), .val (.int y1), .val (.int (1 : Int32)), .val (.ref b_76), .val (.ref b_79), .unset, .unset, .unset, .unset, .unset, .unset, .unset, .unset] [(.int (0 : Int32)), (.ref b_83), (.ref b_83)])) (fun t_ k_ => XS.iconst X_83.here hx rfl (hb hby at_94) k_) ?_
            refine own_st (S' := T_83.setTop (mkF m 97 #[.val (.int p0), .val (.int p1), .val (.int p2), .val (.int p3), .val (.int p4), .val (.int x0), .val (.int y0), .val (.int x1), .val (.int y1), .val (.int (1 : Int32)), .val (.ref b_76), .val (.ref b_79), .unset, .unset, .unset, .unset, .unset, .unset, .unset, .unset] [(.int y0), (.int (0 : Int32)), (.ref b_83), (.ref b_83)])) (fun t_ k_ => XS.iload X_83.here hx rfl (hb hby at_95) rfl k_) ?_
            obtain ⟨cl_84, Ar_84, q_84, S_84, M_84, H_84, G_84⟩ := id V_83
            have hin_84 : ¬ ((0 : Int32) < 0 ∨ cl_84.slots.size ≤ ((0 : Int32)).toNatClampNeg) := inb_of S_84 ⟨by decide, by decide⟩
            obtain ⟨T_84, h_84, X_84, e_84, W_84, st_84⟩ := stI X_83 hx hZ e_83 Ar_84 (j := (0 : Int32)) hin_84 (g := (mkF m 97 #[.val (.int p0), .val (.int p1), .val (.int p2), .val (.int p3), .val (.int p4), .val (.int x0), .val (.int y0), .val (.int x1), .val (.int y1), .val (.int (1 : Int32)), .val (.ref b_76), .val (.ref b_79), .unset, .unset, .unset, .unset, .unset, .unset, .unset, .unset] [(.int y0), (.int (0 : Int32)), (.ref b_83), (.ref b_83)])) rfl rfl (hb hby at_97)
            have Z_84 : n0 ≤ h_84.size := Nat.le_trans Z_83 (Keep.of_wr W_84).1
            have N_84 := Fr.snoc X_84 N_81 g_b_83
            have V_84 : Arv Z h_84 b_83 k_83 .int (2 : Int32) [(.int y0), (.int (0 : Int32))] (.int (0 : Int32)) := Arv.set Ar_84 q_84 S_84 M_84 H_84 G_84 rfl W_84 0 rfl (Nat.le_of_ble_eq_true rfl)
            refine own_st (S' := T_84.setTop (mkF m 98 #[.val (.int p0), .val (.int p1), .val (.int p2), .val (.int p3), .val (.int p4), .val (.int x0), .val (.int y0), .val (.int x1), .val (.int y1), .val (.int (1 : Int32)), .val (.ref b_76), .val (.ref b_79), .unset, .unset, .unset, .unset, .unset, .unset, .unset, .unset] [(.ref b_83)])) st_84 ?_
            refine own_st (S' := T_84.setTop (mkF m 99 #[.val (.int p0), .val (.int p1), .val (.int p2), .val (.int p3), .val (.int p4), .val (.int x0), .val (.int y0), .val (.int x1), .val (.int y1), .val (.int (1 : Int32)), .val (.ref b_76), .val (.ref b_79), .unset, .unset, .unset, .unset, .unset, .unset, .unset, .unset] [(.ref b_83), (.ref b_83)])) (fun t_ k_ => XS.dup X_84.here hx rfl (hb hby at_98) rfl rfl k_) ?_
            refine own_st (S' := T_84.setTop (mkF m 100 #[.val (.int p0), .val (.int p1), .val (.int p2), .val (.int p3), .val (.int p4), .val (.int x0), .val (.int y0), .val (.int x1), .val (.int y1), .val (.int (1 : Int32)), .val (.ref b_76), .val (.ref b_79), .unset, .unset, .unset, .unset, .unset, .unset, .unset, .unset] [(.int (1 : Int32)), (.ref b_83), (.ref b_83)])) (fun t_ k_ => XS.iconst X_84.here hx rfl (hb hby at_99) k_) ?_
            refine own_st (S' := T_84.setTop (mkF m 102 #[.val (.int p0), .val (.int p1), .val (.int p2), .val (.int p3), .val (.int p4), .val (.int x0), .val (.int y0), .val (.int x1), .val (.int y1), .val (.int (1 : Int32)), .val (.ref b_76), .val (.ref b_79), .unset, .unset, .unset, .unset, .unset, .unset, .unset, .unset] [(.int y1), (.int (1 : Int32)), (.ref b_83), (.ref b_83)])) (fun t_ k_ => XS.iload X_84.here hx rfl (hb hby at_100) rfl k_) ?_
            obtain ⟨cl_85, Ar_85, q_85, S_85, M_85, H_85, G_85⟩ := id V_84
            have hin_85 : ¬ ((1 : Int32) < 0 ∨ cl_85.slots.size ≤ ((1 : Int32)).toNatClampNeg) := inb_of S_85 ⟨by decide, by decide⟩
            obtain ⟨T_85, h_85, X_85, e_85, W_85, st_85⟩ := stI X_84 hx hZ e_84 Ar_85 (j := (1 : Int32)) hin_85 (g := (mkF m 102 #[.val (.int p0), .val (.int p1), .val (.int p2), .val (.int p3), .val (.int p4), .val (.int x0), .val (.int y0), .val (.int x1), .val (.int y1), .val (.int (1 : Int32)), .val (.ref b_76), .val (.ref b_79), .unset, .unset, .unset, .unset, .unset, .unset, .unset, .unset] [(.int y1), (.int (1 : Int32)), (.ref b_83), (.ref b_83)])) rfl rfl (hb hby at_102)
            have Z_85 : n0 ≤ h_85.size := Nat.le_trans Z_84 (Keep.of_wr W_85).1
            have N_85 := Fr.snoc X_85 N_84 g_b_83
            have V_85 : Arv Z h_85 b_83 k_83 .int (2 : Int32) [(.int y0), (.int y1)] (.int (0 : Int32)) := Arv.set Ar_85 q_85 S_85 M_85 H_85 G_85 rfl W_85 1 rfl (Nat.le_of_ble_eq_true rfl)
            refine own_st (S' := T_85.setTop (mkF m 103 #[.val (.int p0), .val (.int p1), .val (.int p2), .val (.int p3), .val (.int p4), .val (.int x0), .val (.int y0), .val (.int x1), .val (.int y1), .val (.int (1 : Int32)), .val (.ref b_76), .val (.ref b_79), .unset, .unset, .unset, .unset, .unset, .unset, .unset, .unset] [(.ref b_83)])) st_85 ?_
            refine own_st (S' := T_85.setTop (mkF m 105 #[.val (.int p0), .val (.int p1), .val (.int p2), .val (.int p3), .val (.int p4), .val (.int x0), .val (.int y0), .val (.int x1), .val (.int y1), .val (.int (1 : Int32)), .val (.ref b_76), .val (.ref b_79), .val (.ref b_83), .unset, .unset, .unset, .unset, .unset, .unset, .unset] [])) (fun t_ k_ => XS.astore X_85.here hx rfl (hb hby at_103) rfl rfl (l' := #[.val (.int p0), .val (.int p1), .val (.int p2), .val (.int p3), .val (.int p4), .val (.int x0), .val (.int y0), .val (.int x1), .val (.int y1), .val (.int (1 : Int32)), .val (.ref b_76), .val (.ref b_79), .val (.ref b_83), .unset, .unset, .unset, .unset, .unset, .unset, .unset]) rfl k_) ?_
            refine own_st (S' := T_85.setTop (mkF m 106 #[.val (.int p0), .val (.int p1), .val (.int p2), .val (.int p3), .val (.int p4), .val (.int x0), .val (.int y0), .val (.int x1), .val (.int y1), .val (.int (1 : Int32)), .val (.ref b_76), .val (.ref b_79), .val (.ref b_83), .unset, .unset, .unset, .unset, .unset, .unset, .unset] [(.int (2 : Int32))])) (fun t_ k_ => XS.iconst X_85.here hx rfl (hb hby at_105) k_) ?_
            have f_86 : Arv Z h_85 b_76 k_76 .int (2 : Int32) [(.int (-1 : Int32)), (.int (-2 : Int32))] (.int (0 : Int32)) := (((f_82.ext E_83).other W_84 ne_b_76_b_83).other W_85 ne_b_76_b_83)
            have f_87 : Arv Z h_85 b_79 k_79 .int (2 : Int32) [(.int x0), (.int x1)] (.int (0 : Int32)) := (((V_81.ext E_83).other W_84 ne_b_79_b_83).other W_85 ne_b_79_b_83)
            obtain ⟨T_88, h_88, k_88, X_88, e_88, E_88, A_88, B_88, st_88⟩ := newPE X_85 hx hZ (hw _ (List.mem_of_getElem? (i := 0) rfl)) e_85 (g := (mkF m 106 #[.val (.int p0), .val (.int p1), .val (.int p2), .val (.int p3), .val (.int p4), .val (.int x0), .val (.int y0), .val (.int x1), .val (.int y1), .val (.int (1 : Int32)), .val (.ref b_76), .val (.ref b_79), .val (.ref b_83), .unset, .unset, .unset, .unset, .unset, .unset, .unset] [(.int (2 : Int32))])) rfl (hb hby at_106) rfl (by decide) (cap := 2) (by decide) (by decide) (by decide) (by decide) (ad := "[I") (by decide)
            obtain ⟨b_88, gg_88⟩ : ∃ z, z = h_85.size := ⟨_, rfl⟩
            rw [← gg_88] at A_88 B_88 st_88
            have ne_b_76_b_88 : b_76 ≠ b_88 := Nat.ne_of_lt (Nat.lt_of_lt_of_le f_86.lt (Nat.le_of_eq gg_88.symm))
            have ne_b_79_b_88 : b_79 ≠ b_88 := Nat.ne_of_lt (Nat.lt_of_lt_of_le f_87.lt (Nat.le_of_eq gg_88.symm))
            have ne_b_83_b_88 : b_83 ≠ b_88 := Nat.ne_of_lt (Nat.lt_of_lt_of_le V_85.lt (Nat.le_of_eq gg_88.symm))
            have g_b_88 : n0 ≤ b_88 := Nat.le_trans Z_85 (Nat.le_of_eq gg_88.symm)
            have Z_88 : n0 ≤ h_88.size := Nat.le_trans Z_85 E_88.1
            have V_88 : Arv Z h_88 b_88 k_88 .int (2 : Int32) [(.int (0 : Int32)), (.int (0 : Int32))] (.int (0 : Int32)) := (Arv.new A_88 (by decide)).pad (pad_rep [] (.int (0 : Int32)) 2)
            refine own_st (S' := T_88.setTop (mkF m 108 #[.val (.int p0), .val (.int p1), .val (.int p2), .val (.int p3), .val (.int p4), .val (.int x0), .val (.int y0), .val (.int x1), .val (.int y1), .val (.int (1 : Int32)), .val (.ref b_76), .val (.ref b_79), .val (.ref b_83), .unset, .unset, .unset, .unset, .unset, .unset, .unset] [(.ref b_88)])) st_88 ?_
            refine own_st (S' := T_88.setTop (mkF m 109 #[.val (.int p0), .val (.int p1), .val (.int p2), .val (.int p3), .val (.int p4), .val (.int x0), .val (.int y0), .val (.int x1), .val (.int y1), .val (.int (1 : Int32)), .val (.ref b_76), .val (.ref b_79), .val (.ref b_83), .unset, .unset, .unset, .unset, .unset, .unset, .unset] [(.ref b_88), (.ref b_88)])) (fun t_ k_ => XS.dup X_88.here hx rfl (hb hby at_108) rfl rfl k_) ?_
            refine own_st (S' := T_88.setTop (mkF m 110 #[.val (.int p0), .val (.int p1), .val (.int p2), .val (.int p3), .val (.int p4), .val (.int x0), .val (.int y0), .val (.int x1), .val (.int y1), .val (.int (1 : Int32)), .val (.ref b_76), .val (.ref b_79), .val (.ref b_83), .unset, .unset, .unset, .unset, .unset, .unset, .unset] [(.int (0 : Int32)), (.ref b_88), (.ref b_88)])) (fun t_ k_ => XS.iconst X_88.here hx rfl (hb hby at_109) k_) ?_
            refine own_st (S' := T_88.setTop (mkF m 111 #[.val (.int p0), .val (.int p1), .val (.int p2), .val (.int p3), .val (.int p4), .val (.int x0), .val (.int y0), .val (.int x1), .val (.int y1), .val (.int (1 : Int32)), .val (.ref b_76), .val (.ref b_79), .val (.ref b_83), .unset, .unset, .unset, .unset, .unset, .unset, .unset] [(.int (1 : Int32)), (.int (0 : Int32)), (.ref b_88), (.ref b_88)])) (fun t_ k_ => XS.iconst X_88.here hx rfl (hb hby at_110) k_) ?_
            obtain ⟨cl_89, Ar_89, q_89, S_89, M_89, H_89, G_89⟩ := id V_88
            have hin_89 : ¬ ((0 : Int32) < 0 ∨ cl_89.slots.size ≤ ((0 : Int32)).toNatClampNeg) := inb_of S_89 ⟨by decide, by decide⟩
            obtain ⟨T_89, h_89, X_89, e_89, W_89, st_89⟩ := stI X_88 hx hZ e_88 Ar_89 (j := (0 : Int32)) hin_89 (g := (mkF m 111 #[.val (.int p0), .val (.int p1), .val (.int p2), .val (.int p3), .val (.int p4), .val (.int x0), .val (.int y0), .val (.int x1), .val (.int y1), .val (.int (1 : Int32)), .val (.ref b_76), .val (.ref b_79), .val (.ref b_83), .unset, .unset, .unset, .unset, .unset, .unset, .unset] [(.int (1 : Int32)), (.int (0 : Int32)), (.ref b_88), (.ref b_88)])) rfl rfl (hb hby at_111)
            have Z_89 : n0 ≤ h_89.size := Nat.le_trans Z_88 (Keep.of_wr W_89).1
            have N_89 := Fr.snoc X_89 N_85 g_b_88
            have V_89 : Arv Z h_89 b_88 k_88 .int (2 : Int32) [(.int (1 : Int32)), (.int (0 : Int32))] (.int (0 : Int32)) := Arv.set Ar_89 q_89 S_89 M_89 H_89 G_89 rfl W_89 0 rfl (Nat.le_of_ble_eq_true rfl)
            refine own_st (S' := T_89.setTop (mkF m 112 #[.val (.int p0), .val (.int p1), .val (.int p2), .val (.int p3), .val (.int p4), .val (.int x0), .val (.int y0), .val (.int x1), .val (.int y1), .val (.int (1 : Int32)), .val (.ref b_76), .val (.ref b_79), .val (.ref b_83), .unset, .unset, .unset, .unset, .unset, .unset, .unset] [(.ref b_88)])) st_89 ?_
            refine own_st (S' := T_89.setTop (mkF m 113 #[.val (.int p0), .val (.int p1), .val (.int p2), .val (.int p3), .val (.int p4), .val (.int x0), .val (.int y0), .val (.int x1), .val (.int y1), .val (.int (1 : Int32)), .val (.ref b_76), .val (.ref b_79), .val (.ref b_83), .unset, .unset, .unset, .unset, .unset, .unset, .unset] [(.ref b_88), (.ref b_88)])) (fun t_ k_ => XS.dup X_89.here hx rfl (hb hby at_112) rfl rfl k_) ?_
            refine own_st (S' := T_89.setTop (mkF m 114 #[.val (.int p0), .val (.int p1), .val (.int p2), .val (.int p3), .val (.int p4), .val (.int x0), .val (.int y0), .val (.int x1), .val (.int y1), .val (.int (1 : Int32)), .val (.ref b_76), .val (.ref b_79), .val (.ref b_83), .unset, .unset, .unset, .unset, .unset, .unset, .unset] [(.int (1 : Int32)), (.ref b_88), (.ref b_88)])) (fun t_ k_ => XS.iconst X_89.here hx rfl (hb hby at_113) k_) ?_
            refine own_st (S' := T_89.setTop (mkF m 115 #[.val (.int p0), .val (.int p1), .val (.int p2), .val (.int p3), .val (.int p4), .val (.int x0), .val (.int y0), .val (.int x1), .val (.int y1), .val (.int (1 : Int32)), .val (.ref b_76), .val (.ref b_79), .val (.ref b_83), .unset, .unset, .unset, .unset, .unset, .unset, .unset] [(.int (1 : Int32)), (.int (1 : Int32)), (.ref b_88), (.ref b_88)])) (fun t_ k_ => XS.iconst X_89.here hx rfl (hb hby at_114) k_) ?_
            obtain ⟨cl_90, Ar_90, q_90, S_90, M_90, H_90, G_90⟩ := id V_89
            have hin_90 : ¬ ((1 : Int32) < 0 ∨ cl_90.slots.size ≤ ((1 : Int32)).toNatClampNeg) := inb_of S_90 ⟨by decide, by decide⟩
            obtain ⟨T_90, h_90, X_90, e_90, W_90, st_90⟩ := stI X_89 hx hZ e_89 Ar_90 (j := (1 : Int32)) hin_90 (g := (mkF m 115 #[.val (.int p0), .val (.int p1), .val (.int p2), .val (.int p3), .val (.int p4), .val (.int x0), .val (.int y0), .val (.int x1), .val (.int y1), .val (.int (1 : Int32)), .val (.ref b_76), .val (.ref b_79), .val (.ref b_83), .unset, .unset, .unset, .unset, .unset, .unset, .unset] [(.int (1 : Int32)), (.int (1 : Int32)), (.ref b_88), (.ref b_88)])) rfl rfl (hb hby at_115)
            have Z_90 : n0 ≤ h_90.size := Nat.le_trans Z_89 (Keep.of_wr W_90).1
            have N_90 := Fr.snoc X_90 N_89 g_b_88
            have V_90 : Arv Z h_90 b_88 k_88 .int (2 : Int32) [(.int (1 : Int32)), (.int (1 : Int32))] (.int (0 : Int32)) := Arv.set Ar_90 q_90 S_90 M_90 H_90 G_90 rfl W_90 1 rfl (Nat.le_of_ble_eq_true rfl)
            refine own_st (S' := T_90.setTop (mkF m 116 #[.val (.int p0), .val (.int p1), .val (.int p2), .val (.int p3), .val (.int p4), .val (.int x0), .val (.int y0), .val (.int x1), .val (.int y1), .val (.int (1 : Int32)), .val (.ref b_76), .val (.ref b_79), .val (.ref b_83), .unset, .unset, .unset, .unset, .unset, .unset, .unset] [(.ref b_88)])) st_90 ?_
            refine own_st (S' := T_90.setTop (mkF m 118 #[.val (.int p0), .val (.int p1), .val (.int p2), .val (.int p3), .val (.int p4), .val (.int x0), .val (.int y0), .val (.int x1), .val (.int y1), .val (.int (1 : Int32)), .val (.ref b_76), .val (.ref b_79), .val (.ref b_83), .val (.ref b_88), .unset, .unset, .unset, .unset, .unset, .unset] [])) (fun t_ k_ => XS.astore X_90.here hx rfl (hb hby at_116) rfl rfl (l' := #[.val (.int p0), .val (.int p1), .val (.int p2), .val (.int p3), .val (.int p4), .val (.int x0), .val (.int y0), .val (.int x1), .val (.int y1), .val (.int (1 : Int32)), .val (.ref b_76), .val (.ref b_79), .val (.ref b_83), .val (.ref b_88), .unset, .unset, .unset, .unset, .unset, .unset]) rfl k_) ?_
            refine own_st (S' := T_90.setTop (mkF m 119 #[.val (.int p0), .val (.int p1), .val (.int p2), .val (.int p3), .val (.int p4), .val (.int x0), .val (.int y0), .val (.int x1), .val (.int y1), .val (.int (1 : Int32)), .val (.ref b_76), .val (.ref b_79), .val (.ref b_83), .val (.ref b_88), .unset, .unset, .unset, .unset, .unset, .unset] [(.int (2 : Int32))])) (fun t_ k_ => XS.iconst X_90.here hx rfl (hb hby at_118) k_) ?_
            have f_91 : Arv Z h_90 b_76 k_76 .int (2 : Int32) [(.int (-1 : Int32)), (.int (-2 : Int32))] (.int (0 : Int32)) := (((f_86.ext E_88).other W_89 ne_b_76_b_88).other W_90 ne_b_76_b_88)
            have f_92 : Arv Z h_90 b_79 k_79 .int (2 : Int32) [(.int x0), (.int x1)] (.int (0 : Int32)) := (((f_87.ext E_88).other W_89 ne_b_79_b_88).other W_90 ne_b_79_b_88)
            have f_93 : Arv Z h_90 b_83 k_83 .int (2 : Int32) [(.int y0), (.int y1)] (.int (0 : Int32)) := (((V_85.ext E_88).other W_89 ne_b_83_b_88).other W_90 ne_b_83_b_88)
            obtain ⟨T_94, h_94, k_94, X_94, e_94, E_94, A_94, B_94, st_94⟩ := newPE X_90 hx hZ (hw _ (List.mem_of_getElem? (i := 0) rfl)) e_90 (g := (mkF m 119 #[.val (.int p0), .val (.int p1), .val (.int p2), .val (.int p3), .val (.int p4), .val (.int x0), .val (.int y0), .val (.int x1), .val (.int y1), .val (.int (1 : Int32)), .val (.ref b_76), .val (.ref b_79), .val (.ref b_83), .val (.ref b_88), .unset, .unset, .unset, .unset, .unset, .unset] [(.int (2 : Int32))])) rfl (hb hby at_119) rfl (by decide) (cap := 2) (by decide) (by decide) (by decide) (by decide) (ad := "[I") (by decide)
            obtain ⟨b_94, gg_94⟩ : ∃ z, z = h_90.size := ⟨_, rfl⟩
            rw [← gg_94] at A_94 B_94 st_94
            have ne_b_76_b_94 : b_76 ≠ b_94 := Nat.ne_of_lt (Nat.lt_of_lt_of_le f_91.lt (Nat.le_of_eq gg_94.symm))
            have ne_b_79_b_94 : b_79 ≠ b_94 := Nat.ne_of_lt (Nat.lt_of_lt_of_le f_92.lt (Nat.le_of_eq gg_94.symm))
            have ne_b_83_b_94 : b_83 ≠ b_94 := Nat.ne_of_lt (Nat.lt_of_lt_of_le f_93.lt (Nat.le_of_eq gg_94.symm))
            have ne_b_88_b_94 : b_88 ≠ b_94 := Nat.ne_of_lt (Nat.lt_of_lt_of_le V_90.lt (Nat.le_of_eq gg_94.symm))
            have g_b_94 : n0 ≤ b_94 := Nat.le_trans Z_90 (Nat.le_of_eq gg_94.symm)
            have Z_94 : n0 ≤ h_94.size := Nat.le_trans Z_90 E_94.1
            have V_94 : Arv Z h_94 b_94 k_94 .int (2 : Int32) [(.int (0 : Int32)), (.int (0 : Int32))] (.int (0 : Int32)) := (Arv.new A_94 (by decide)).pad (pad_rep [] (.int (0 : Int32)) 2)
            refine own_st (S' := T_94.setTop (mkF m 121 #[.val (.int p0), .val (.int p1), .val (.int p2), .val (.int p3), .val (.int p4), .val (.int x0), .val (.int y0), .val (.int x1), .val (.int y1), .val (.int (1 : Int32)), .val (.ref b_76), .val (.ref b_79), .val (.ref b_83), .val (.ref b_88), .unset, .unset, .unset, .unset, .unset, .unset] [(.ref b_94)])) st_94 ?_
            refine own_st (S' := T_94.setTop (mkF m 122 #[.val (.int p0), .val (.int p1), .val (.int p2), .val (.int p3), .val (.int p4), .val (.int x0), .val (.int y0), .val (.int x1), .val (.int y1), .val (.int (1 : Int32)), .val (.ref b_76), .val (.ref b_79), .val (.ref b_83), .val (.ref b_88), .unset, .unset, .unset, .unset, .unset, .unset] [(.ref b_94), (.ref b_94)])) (fun t_ k_ => XS.dup X_94.here hx rfl (hb hby at_121) rfl rfl k_) ?_
            refine own_st (S' := T_94.setTop (mkF m 123 #[.val (.int p0), .val (.int p1), .val (.int p2), .val (.int p3), .val (.int p4), .val (.int x0), .val (.int y0), .val (.int x1), .val (.int y1), .val (.int (1 : Int32)), .val (.ref b_76), .val (.ref b_79), .val (.ref b_83), .val (.ref b_88), .unset, .unset, .unset, .unset, .unset, .unset] [(.int (0 : Int32)), (.ref b_94), (.ref b_94)])) (fun t_ k_ => XS.iconst X_94.here hx rfl (hb hby at_122) k_) ?_
            refine own_st (S' := T_94.setTop (mkF m 124 #[.val (.int p0), .val (.int p1), .val (.int p2), .val (.int p3), .val (.int p4), .val (.int x0), .val (.int y0), .val (.int x1), .val (.int y1), .val (.int (1 : Int32)), .val (.ref b_76), .val (.ref b_79), .val (.ref b_83), .val (.ref b_88), .unset, .unset, .unset, .unset, .unset, .unset] [(.int (1 : Int32)), (.int (0 : Int32)), (.ref b_94), (.ref b_94)])) (fun t_ k_ => XS.iconst X_94.here hx rfl (hb hby at_123) k_) ?_
            obtain ⟨cl_95, Ar_95, q_95, S_95, M_95, H_95, G_95⟩ := id V_94
            have hin_95 : ¬ ((0 : Int32) < 0 ∨ cl_95.slots.size ≤ ((0 : Int32)).toNatClampNeg) := inb_of S_95 ⟨by decide, by decide⟩
            obtain ⟨T_95, h_95, X_95, e_95, W_95, st_95⟩ := stI X_94 hx hZ e_94 Ar_95 (j := (0 : Int32)) hin_95 (g := (mkF m 124 #[.val (.int p0), .val (.int p1), .val (.int p2), .val (.int p3), .val (.int p4), .val (.int x0), .val (.int y0), .val (.int x1), .val (.int y1), .val (.int (1 : Int32)), .val (.ref b_76), .val (.ref b_79), .val (.ref b_83), .val (.ref b_88), .unset, .unset, .unset, .unset, .unset, .unset] [(.int (1 : Int32)), (.int (0 : Int32)), (.ref b_94), (.ref b_94)])) rfl rfl (hb hby at_124)
            have Z_95 : n0 ≤ h_95.size := Nat.le_trans Z_94 (Keep.of_wr W_95).1
            have N_95 := Fr.snoc X_95 N_90 g_b_94
            have V_95 : Arv Z h_95 b_94 k_94 .int (2 : Int32) [(.int (1 : Int32)), (.int (0 : Int32))] (.int (0 : Int32)) := Arv.set Ar_95 q_95 S_95 M_95 H_95 G_95 rfl W_95 0 rfl (Nat.le_of_ble_eq_true rfl)
            refine own_st (S' := T_95.setTop (mkF m 125 #[.val (.int p0), .val (.int p1), .val (.int p2), .val (.int p3), .val (.int p4), .val (.int x0), .val (.int y0), .val (.int x1), .val (.int y1), .val (.int (1 : Int32)), .val (.ref b_76), .val (.ref b_79), .val (.ref b_83), .val (.ref b_88), .unset, .unset, .unset, .unset, .unset, .unset] [(.ref b_94)])) st_95 ?_
            refine own_st (S' := T_95.setTop (mkF m 126 #[.val (.int p0), .val (.int p1), .val (.int p2), .val (.int p3), .val (.int p4), .val (.int x0), .val (.int y0), .val (.int x1), .val (.int y1), .val (.int (1 : Int32)), .val (.ref b_76), .val (.ref b_79), .val (.ref b_83), .val (.ref b_88), .unset, .unset, .unset, .unset, .unset, .unset] [(.ref b_94), (.ref b_94)])) (fun t_ k_ => XS.dup X_95.here hx rfl (hb hby at_125) rfl rfl k_) ?_
            refine own_st (S' := T_95.setTop (mkF m 127 #[.val (.int p0), .val (.int p1), .val (.int p2), .val (.int p3), .val (.int p4), .val (.int x0), .val (.int y0), .val (.int x1), .val (.int y1), .val (.int (1 : Int32)), .val (.ref b_76), .val (.ref b_79), .val (.ref b_83), .val (.ref b_88), .unset, .unset, .unset, .unset, .unset, .unset] [(.int (1 : Int32)), (.ref b_94), (.ref b_94)])) (fun t_ k_ => XS.iconst X_95.here hx rfl (hb hby at_126) k_) ?_
            refine own_st (S' := T_95.setTop (mkF m 128 #[.val (.int p0), .val (.int p1), .val (.int p2), .val (.int p3), .val (.int p4), .val (.int x0), .val (.int y0), .val (.int x1), .val (.int y1), .val (.int (1 : Int32)), .val (.ref b_76), .val (.ref b_79), .val (.ref b_83), .val (.ref b_88), .unset, .unset, .unset, .unset, .unset, .unset] [(.int (1 : Int32)), (.int (1 : Int32)), (.ref b_94), (.ref b_94)])) (fun t_ k_ => XS.iconst X_95.here hx rfl (hb hby at_127) k_) ?_
            obtain ⟨cl_96, Ar_96, q_96, S_96, M_96, H_96, G_96⟩ := id V_95
            have hin_96 : ¬ ((1 : Int32) < 0 ∨ cl_96.slots.size ≤ ((1 : Int32)).toNatClampNeg) := inb_of S_96 ⟨by decide, by decide⟩
            obtain ⟨T_96, h_96, X_96, e_96, W_96, st_96⟩ := stI X_95 hx hZ e_95 Ar_96 (j := (1 : Int32)) hin_96 (g := (mkF m 128 #[.val (.int p0), .val (.int p1), .val (.int p2), .val (.int p3), .val (.int p4), .val (.int x0), .val (.int y0), .val (.int x1), .val (.int y1), .val (.int (1 : Int32)), .val (.ref b_76), .val (.ref b_79), .val (.ref b_83), .val (.ref b_88), .unset, .unset, .unset, .unset, .unset, .unset] [(.int (1 : Int32)), (.int (1 : Int32)), (.ref b_94), (.ref b_94)])) rfl rfl (hb hby at_128)
            have Z_96 : n0 ≤ h_96.size := Nat.le_trans Z_95 (Keep.of_wr W_96).1
            have N_96 := Fr.snoc X_96 N_95 g_b_94
            have V_96 : Arv Z h_96 b_94 k_94 .int (2 : Int32) [(.int (1 : Int32)), (.int (1 : Int32))] (.int (0 : Int32)) := Arv.set Ar_96 q_96 S_96 M_96 H_96 G_96 rfl W_96 1 rfl (Nat.le_of_ble_eq_true rfl)
            refine own_st (S' := T_96.setTop (mkF m 129 #[.val (.int p0), .val (.int p1), .val (.int p2), .val (.int p3), .val (.int p4), .val (.int x0), .val (.int y0), .val (.int x1), .val (.int y1), .val (.int (1 : Int32)), .val (.ref b_76), .val (.ref b_79), .val (.ref b_83), .val (.ref b_88), .unset, .unset, .unset, .unset, .unset, .unset] [(.ref b_94)])) st_96 ?_
            refine own_st (S' := T_96.setTop (mkF m 131 #[.val (.int p0), .val (.int p1), .val (.int p2), .val (.int p3), .val (.int p4), .val (.int x0), .val (.int y0), .val (.int x1), .val (.int y1), .val (.int (1 : Int32)), .val (.ref b_76), .val (.ref b_79), .val (.ref b_83), .val (.ref b_88), .val (.ref b_94), .unset, .unset, .unset, .unset, .unset] [])) (fun t_ k_ => XS.astore X_96.here hx rfl (hb hby at_129) rfl rfl (l' := #[.val (.int p0), .val (.int p1), .val (.int p2), .val (.int p3), .val (.int p4), .val (.int x0), .val (.int y0), .val (.int x1), .val (.int y1), .val (.int (1 : Int32)), .val (.ref b_76), .val (.ref b_79), .val (.ref b_83), .val (.ref b_88), .val (.ref b_94), .unset, .unset, .unset, .unset, .unset]) rfl k_) ?_
            have f_97 : Arv Z h_96 b_76 k_76 .int (2 : Int32) [(.int (-1 : Int32)), (.int (-2 : Int32))] (.int (0 : Int32)) := (((f_91.ext E_94).other W_95 ne_b_76_b_94).other W_96 ne_b_76_b_94)
            have f_98 : Arv Z h_96 b_79 k_79 .int (2 : Int32) [(.int x0), (.int x1)] (.int (0 : Int32)) := (((f_92.ext E_94).other W_95 ne_b_79_b_94).other W_96 ne_b_79_b_94)
            have f_99 : Arv Z h_96 b_83 k_83 .int (2 : Int32) [(.int y0), (.int y1)] (.int (0 : Int32)) := (((f_93.ext E_94).other W_95 ne_b_83_b_94).other W_96 ne_b_83_b_94)
            have f_100 : Arv Z h_96 b_88 k_88 .int (2 : Int32) [(.int (1 : Int32)), (.int (1 : Int32))] (.int (0 : Int32)) := (((V_90.ext E_94).other W_95 ne_b_88_b_94).other W_96 ne_b_88_b_94)
            obtain ⟨T_101, h_101, X_101, e_101, E_101, A_101, D_101, -, st_101⟩ := newO X_96 hx hZ hown (hw _ (List.mem_of_getElem? (i := 1) rfl)) (hw _ (List.mem_of_getElem? (i := 2) rfl)) (hw _ (List.mem_of_getElem? (i := 3) rfl)) e_96 (g := (mkF m 131 #[.val (.int p0), .val (.int p1), .val (.int p2), .val (.int p3), .val (.int p4), .val (.int x0), .val (.int y0), .val (.int x1), .val (.int y1), .val (.int (1 : Int32)), .val (.ref b_76), .val (.ref b_79), .val (.ref b_83), .val (.ref b_88), .val (.ref b_94), .unset, .unset, .unset, .unset, .unset] [])) rfl (hb hby at_131) (by decide) (by decide)
            obtain ⟨b_101, gg_101⟩ : ∃ z, z = h_96.size := ⟨_, rfl⟩
            rw [← gg_101] at A_101 D_101 st_101
            have ne_b_76_b_101 : b_76 ≠ b_101 := Nat.ne_of_lt (Nat.lt_of_lt_of_le f_97.lt (Nat.le_of_eq gg_101.symm))
            have ne_b_79_b_101 : b_79 ≠ b_101 := Nat.ne_of_lt (Nat.lt_of_lt_of_le f_98.lt (Nat.le_of_eq gg_101.symm))
            have ne_b_83_b_101 : b_83 ≠ b_101 := Nat.ne_of_lt (Nat.lt_of_lt_of_le f_99.lt (Nat.le_of_eq gg_101.symm))
            have ne_b_88_b_101 : b_88 ≠ b_101 := Nat.ne_of_lt (Nat.lt_of_lt_of_le f_100.lt (Nat.le_of_eq gg_101.symm))
            have ne_b_94_b_101 : b_94 ≠ b_101 := Nat.ne_of_lt (Nat.lt_of_lt_of_le V_96.lt (Nat.le_of_eq gg_101.symm))
            have g_b_101 : n0 ≤ b_101 := Nat.le_trans Z_96 (Nat.le_of_eq gg_101.symm)
            have Z_101 : n0 ≤ h_101.size := Nat.le_trans Z_96 E_101.1
            have F_101_modCount : Fld Z h_101 b_101 "java/util/AbstractList" "modCount" "I" (.int (0 : Int32)) := D_101 (Or.inl (hw _ (List.mem_of_getElem? (i := 23) rfl))) (ty := .int) (by decide)
            have F_101_elementData : Fld Z h_101 b_101 "java/util/ArrayList" "elementData" "[Ljava/lang/Object;" .null := D_101 (Or.inl (hw _ (List.mem_of_getElem? (i := 26) rfl))) (ty := (.array (.object "java/lang/Object"))) (by decide)
            have F_101_size : Fld Z h_101 b_101 "java/util/ArrayList" "size" "I" (.int (0 : Int32)) := D_101 (Or.inl (hw _ (List.mem_of_getElem? (i := 74) rfl))) (ty := .int) (by decide)
            refine own_st (S' := T_101.setTop (mkF m 134 #[.val (.int p0), .val (.int p1), .val (.int p2), .val (.int p3), .val (.int p4), .val (.int x0), .val (.int y0), .val (.int x1), .val (.int y1), .val (.int (1 : Int32)), .val (.ref b_76), .val (.ref b_79), .val (.ref b_83), .val (.ref b_88), .val (.ref b_94), .unset, .unset, .unset, .unset, .unset] [(.ref b_101)])) st_101 ?_
            refine own_st (S' := T_101.setTop (mkF m 135 #[.val (.int p0), .val (.int p1), .val (.int p2), .val (.int p3), .val (.int p4), .val (.int x0), .val (.int y0), .val (.int x1), .val (.int y1), .val (.int (1 : Int32)), .val (.ref b_76), .val (.ref b_79), .val (.ref b_83), .val (.ref b_88), .val (.ref b_94), .unset, .unset, .unset, .unset, .unset] [(.ref b_101), (.ref b_101)])) (fun t_ k_ => XS.dup X_101.here hx rfl (hb hby at_134) rfl rfl k_) ?_
            have f_102 : Old Z n0 h_101 := ((((((((((((((((O0.ext E_76).wr W_77 g_b_76).wr W_78 g_b_76).ext E_79).wr W_80 g_b_79).wr W_81 g_b_79).ext E_83).wr W_84 g_b_83).wr W_85 g_b_83).ext E_88).wr W_89 g_b_88).wr W_90 g_b_88).ext E_94).wr W_95 g_b_94).wr W_96 g_b_94).ext E_101)
            obtain ⟨_, _, ⟨T_103, L_103, k_103, n_103⟩, -, X_103, ⟨Lc_103, hQ_103, l_103, y_103, z_103⟩, st_103⟩ := X_101.specialBack hx (y := (⟨"java/util/ArrayList", "<init>", "()V"⟩ : MethodName)) rfl hown (mvT hZ (hw _ (List.mem_of_getElem? (i := 4) rfl))) (mvT hZ (hw _ (List.mem_of_getElem? (i := 5) rfl))) (mvT hZ (hw _ (List.mem_of_getElem? (i := 6) rfl))) (by decide) (backOf (W := 1) (rm3 l Z a0 hw [] b_101 dd h_101 n0 Z_101 A_101 F_101_modCount F_101_elementData F_101_size Y0 f_102 g_b_101) hZ (hw _ (List.mem_of_getElem? (i := 6) rfl)) (hw _ (List.mem_of_getElem? (i := 3) rfl)) (by decide) (by decide)) (g := (mkF m 135 #[.val (.int p0), .val (.int p1), .val (.int p2), .val (.int p3), .val (.int p4), .val (.int x0), .val (.int y0), .val (.int x1), .val (.int y1), .val (.int (1 : Int32)), .val (.ref b_76), .val (.ref b_79), .val (.ref b_83), .val (.ref b_88), .val (.ref b_94), .unset, .unset, .unset, .unset, .unset] [(.ref b_101), (.ref b_101)])) rfl (by rw [hml]; rfl) (Steps.refl _) (a := b_101) (argsL := []) (rest := [(.ref b_101)]) (lenOf pd_0 rfl) rfl (by show 2 * 0 + _ ≤ _; exact Nat.le_of_eq rfl) (hb hby at_135) (fun _ _ => ⟨rfl, e_101, (by decide : 6 + 0 ≤ _), (by decide : 13 + 0 ≤ _)⟩)
            dsimp only [Pt.U, Pt.locs, Pt.cells, Pt.slots] at X_103 l_103 y_103 z_103 st_103 hQ_103
            subst l_103 y_103 z_103
            obtain ⟨rfl, M_103, K_103c, c_103_0, c_103_1, c_103_2⟩ := hQ_103
            have N_103 := Fr.app N_96 M_103
            have Z_103 : n0 ≤ T_103.heap.size := Nat.le_trans Z_101 K_103c.1
            refine own_st (S' := T_103.setTop (mkF m 138 #[.val (.int p0), .val (.int p1), .val (.int p2), .val (.int p3), .val (.int p4), .val (.int x0), .val (.int y0), .val (.int x1), .val (.int y1), .val (.int (1 : Int32)), .val (.ref b_76), .val (.ref b_79), .val (.ref b_83), .val (.ref b_88), .val (.ref b_94), .unset, .unset, .unset, .unset, .unset] [(.ref b_101)])) (fun t_ k_ => st_103.trans k_) ?_
            refine own_st (S' := T_103.setTop (mkF m 140 #[.val (.int p0), .val (.int p1), .val (.int p2), .val (.int p3), .val (.int p4), .val (.int x0), .val (.int y0), .val (.int x1), .val (.int y1), .val (.int (1 : Int32)), .val (.ref b_76), .val (.ref b_79), .val (.ref b_83), .val (.ref b_88), .val (.ref b_94), .val (.ref b_101), .unset, .unset, .unset, .unset] [])) (fun t_ k_ => XS.astore X_103.here hx rfl (hb hby at_138) rfl rfl (l' := #[.val (.int p0), .val (.int p1), .val (.int p2), .val (.int p3), .val (.int p4), .val (.int x0), .val (.int y0), .val (.int x1), .val (.int y1), .val (.int (1 : Int32)), .val (.ref b_76), .val (.ref b_79), .val (.ref b_83), .val (.ref b_88), .val (.ref b_94), .val (.ref b_101), .unset, .unset, .unset, .unset]) rfl k_) ?_
            have f_104 : Arv Z T_103.heap b_76 k_76 .int (2 : Int32) [(.int (-1 : Int32)), (.int (-2 : Int32))] (.int (0 : Int32)) := ((f_97.ext E_101).keep K_103c (ninS ne_b_76_b_101 nin0))
            have f_105 : Arv Z T_103.heap b_79 k_79 .int (2 : Int32) [(.int x0), (.int x1)] (.int (0 : Int32)) := ((f_98.ext E_101).keep K_103c (ninS ne_b_79_b_101 nin0))
            have f_106 : Arv Z T_103.heap b_83 k_83 .int (2 : Int32) [(.int y0), (.int y1)] (.int (0 : Int32)) := ((f_99.ext E_101).keep K_103c (ninS ne_b_83_b_101 nin0))
            have f_107 : Arv Z T_103.heap b_88 k_88 .int (2 : Int32) [(.int (1 : Int32)), (.int (1 : Int32))] (.int (0 : Int32)) := ((f_100.ext E_101).keep K_103c (ninS ne_b_88_b_101 nin0))
            have f_108 : Arv Z T_103.heap b_94 k_94 .int (2 : Int32) [(.int (1 : Int32)), (.int (1 : Int32))] (.int (0 : Int32)) := ((V_96.ext E_101).keep K_103c (ninS ne_b_94_b_101 nin0))
            obtain ⟨T_109, h_109, X_109, e_109, E_109, A_109, D_109, -, st_109⟩ := newO X_103 hx hZ hown (hw _ (List.mem_of_getElem? (i := 27) rfl)) (hw _ (List.mem_of_getElem? (i := 28) rfl)) (hw _ (List.mem_of_getElem? (i := 29) rfl)) rfl (g := (mkF m 140 #[.val (.int p0), .val (.int p1), .val (.int p2), .val (.int p3), .val (.int p4), .val (.int x0), .val (.int y0), .val (.int x1), .val (.int y1), .val (.int (1 : Int32)), .val (.ref b_76), .val (.ref b_79), .val (.ref b_83), .val (.ref b_88), .val (.ref b_94), .val (.ref b_101), .unset, .unset, .unset, .unset] [])) rfl (hb hby at_140) (by decide) (by decide)
            obtain ⟨b_109, gg_109⟩ : ∃ z, z = T_103.heap.size := ⟨_, rfl⟩
            rw [← gg_109] at A_109 D_109 st_109
            have ne_b_101_b_109 : b_101 ≠ b_109 := Nat.ne_of_lt (Nat.lt_of_lt_of_le c_103_0.lt (Nat.le_of_eq gg_109.symm))
            have ne_b_76_b_109 : b_76 ≠ b_109 := Nat.ne_of_lt (Nat.lt_of_lt_of_le f_104.lt (Nat.le_of_eq gg_109.symm))
            have ne_b_79_b_109 : b_79 ≠ b_109 := Nat.ne_of_lt (Nat.lt_of_lt_of_le f_105.lt (Nat.le_of_eq gg_109.symm))
            have ne_b_83_b_109 : b_83 ≠ b_109 := Nat.ne_of_lt (Nat.lt_of_lt_of_le f_106.lt (Nat.le_of_eq gg_109.symm))
            have ne_b_88_b_109 : b_88 ≠ b_109 := Nat.ne_of_lt (Nat.lt_of_lt_of_le f_107.lt (Nat.le_of_eq gg_109.symm))
            have ne_b_94_b_109 : b_94 ≠ b_109 := Nat.ne_of_lt (Nat.lt_of_lt_of_le f_108.lt (Nat.le_of_eq gg_109.symm))
            have g_b_109 : n0 ≤ b_109 := Nat.le_trans Z_103 (Nat.le_of_eq gg_109.symm)
            have Z_109 : n0 ≤ h_109.size := Nat.le_trans Z_103 E_109.1
            have F_109_labels : Fld Z h_109 b_109 "com/example/frisk/frisk/pattern/StateGraph" "labels" "[I" .null := D_109 (Or.inr (hw _ (List.mem_of_getElem? (i := 48) rfl))) (ty := (.array .int)) (by decide)
            have F_109_next : Fld Z h_109 b_109 "com/example/frisk/frisk/pattern/StateGraph" "next" "[I" .null := D_109 (Or.inr (hw _ (List.mem_of_getElem? (i := 50) rfl))) (ty := (.array .int)) (by decide)
            have F_109_alternative : Fld Z h_109 b_109 "com/example/frisk/frisk/pattern/StateGraph" "alternative" "[I" .null := D_109 (Or.inr (hw _ (List.mem_of_getElem? (i := 52) rfl))) (ty := (.array .int)) (by decide)
            have F_109_leasts : Fld Z h_109 b_109 "com/example/frisk/frisk/pattern/StateGraph" "leasts" "[I" .null := D_109 (Or.inr (hw _ (List.mem_of_getElem? (i := 54) rfl))) (ty := (.array .int)) (by decide)
            have F_109_mosts : Fld Z h_109 b_109 "com/example/frisk/frisk/pattern/StateGraph" "mosts" "[I" .null := D_109 (Or.inr (hw _ (List.mem_of_getElem? (i := 56) rfl))) (ty := (.array .int)) (by decide)
            have F_109_counterNumbers : Fld Z h_109 b_109 "com/example/frisk/frisk/pattern/StateGraph" "counterNumbers" "[I" .null := D_109 (Or.inr (hw _ (List.mem_of_getElem? (i := 58) rfl))) (ty := (.array .int)) (by decide)
            have F_109_counterCount : Fld Z h_109 b_109 "com/example/frisk/frisk/pattern/StateGraph" "counterCount" "I" (.int (0 : Int32)) := D_109 (Or.inr (hw _ (List.mem_of_getElem? (i := 60) rfl))) (ty := .int) (by decide)
            have F_109_classes : Fld Z h_109 b_109 "com/example/frisk/frisk/pattern/StateGraph" "classes" "[Lcom/example/frisk/frisk/pattern/CharacterClass;" .null := D_109 (Or.inr (hw _ (List.mem_of_getElem? (i := 97) rfl))) (ty := (.array (.object "com/example/frisk/frisk/pattern/CharacterClass"))) (by decide)
            have F_109_start : Fld Z h_109 b_109 "com/example/frisk/frisk/pattern/StateGraph" "start" "I" (.int (0 : Int32)) := D_109 (Or.inr (hw _ (List.mem_of_getElem? (i := 99) rfl))) (ty := .int) (by decide)
            refine own_st (S' := T_109.setTop (mkF m 143 #[.val (.int p0), .val (.int p1), .val (.int p2), .val (.int p3), .val (.int p4), .val (.int x0), .val (.int y0), .val (.int x1), .val (.int y1), .val (.int (1 : Int32)), .val (.ref b_76), .val (.ref b_79), .val (.ref b_83), .val (.ref b_88), .val (.ref b_94), .val (.ref b_101), .unset, .unset, .unset, .unset] [(.ref b_109)])) st_109 ?_
            refine own_st (S' := T_109.setTop (mkF m 144 #[.val (.int p0), .val (.int p1), .val (.int p2), .val (.int p3), .val (.int p4), .val (.int x0), .val (.int y0), .val (.int x1), .val (.int y1), .val (.int (1 : Int32)), .val (.ref b_76), .val (.ref b_79), .val (.ref b_83), .val (.ref b_88), .val (.ref b_94), .val (.ref b_101), .unset, .unset, .unset, .unset] [(.ref b_109), (.ref b_109)])) (fun t_ k_ => XS.dup X_109.here hx rfl (hb hby at_143) rfl rfl k_) ?_
            refine own_st (S' := T_109.setTop (mkF m 145 #[.val (.int p0), .val (.int p1), .val (.int p2), .val (.int p3), .val (.int p4), .val (.int x0), .val (.int y0), .val (.int x1), .val (.int y1), .val (.int (1 : Int32)), .val (.ref b_76), .val (.ref b_79), .val (.ref b_83), .val (.ref b_88), .val (.ref b_94), .val (.ref b_101), .unset, .unset, .unset, .unset] [(.int (2 : Int32)), (.ref b_109), (.ref b_109)])) (fun t_ k_ => XS.iconst X_109.here hx rfl (hb hby at_144) k_) ?_
            refine own_st (S' := T_109.setTop (mkF m 147 #[.val (.int p0), .val (.int p1), .val (.int p2), .val (.int p3), .val (.int p4), .val (.int x0), .val (.int y0), .val (.int x1), .val (.int y1), .val (.int (1 : Int32)), .val (.ref b_76), .val (.ref b_79), .val (.ref b_83), .val (.ref b_88), .val (.ref b_94), .val (.ref b_101), .unset, .unset, .unset, .unset] [(.ref b_76), (.int (2 : Int32)), (.ref b_109), (.ref b_109)])) (fun t_ k_ => XS.aload X_109.here hx rfl (hb hby at_145) rfl rfl k_) ?_
            refine own_st (S' := T_109.setTop (mkF m 149 #[.val (.int p0), .val (.int p1), .val (.int p2), .val (.int p3), .val (.int p4), .val (.int x0), .val (.int y0), .val (.int x1), .val (.int y1), .val (.int (1 : Int32)), .val (.ref b_76), .val (.ref b_79), .val (.ref b_83), .val (.ref b_88), .val (.ref b_94), .val (.ref b_101), .unset, .unset, .unset, .unset] [(.ref b_79), (.ref b_76), (.int (2 : Int32)), (.ref b_109), (.ref b_109)])) (fun t_ k_ => XS.aload X_109.here hx rfl (hb hby at_147) rfl rfl k_) ?_
            refine own_st (S' := T_109.setTop (mkF m 151 #[.val (.int p0), .val (.int p1), .val (.int p2), .val (.int p3), .val (.int p4), .val (.int x0), .val (.int y0), .val (.int x1), .val (.int y1), .val (.int (1 : Int32)), .val (.ref b_76), .val (.ref b_79), .val (.ref b_83), .val (.ref b_88), .val (.ref b_94), .val (.ref b_101), .unset, .unset, .unset, .unset] [(.ref b_83), (.ref b_79), (.ref b_76), (.int (2 : Int32)), (.ref b_109), (.ref b_109)])) (fun t_ k_ => XS.aload X_109.here hx rfl (hb hby at_149) rfl rfl k_) ?_
            refine own_st (S' := T_109.setTop (mkF m 153 #[.val (.int p0), .val (.int p1), .val (.int p2), .val (.int p3), .val (.int p4), .val (.int x0), .val (.int y0), .val (.int x1), .val (.int y1), .val (.int (1 : Int32)), .val (.ref b_76), .val (.ref b_79), .val (.ref b_83), .val (.ref b_88), .val (.ref b_94), .val (.ref b_101), .unset, .unset, .unset, .unset] [(.ref b_88), (.ref b_83), (.ref b_79), (.ref b_76), (.int (2 : Int32)), (.ref b_109), (.ref b_109)])) (fun t_ k_ => XS.aload X_109.here hx rfl (hb hby at_151) rfl rfl k_) ?_
            refine own_st (S' := T_109.setTop (mkF m 155 #[.val (.int p0), .val (.int p1), .val (.int p2), .val (.int p3), .val (.int p4), .val (.int x0), .val (.int y0), .val (.int x1), .val (.int y1), .val (.int (1 : Int32)), .val (.ref b_76), .val (.ref b_79), .val (.ref b_83), .val (.ref b_88), .val (.ref b_94), .val (.ref b_101), .unset, .unset, .unset, .unset] [(.ref b_94), (.ref b_88), (.ref b_83), (.ref b_79), (.ref b_76), (.int (2 : Int32)), (.ref b_109), (.ref b_109)])) (fun t_ k_ => XS.aload X_109.here hx rfl (hb hby at_153) rfl rfl k_) ?_
            refine own_st (S' := T_109.setTop (mkF m 157 #[.val (.int p0), .val (.int p1), .val (.int p2), .val (.int p3), .val (.int p4), .val (.int x0), .val (.int y0), .val (.int x1), .val (.int y1), .val (.int (1 : Int32)), .val (.ref b_76), .val (.ref b_79), .val (.ref b_83), .val (.ref b_88), .val (.ref b_94), .val (.ref b_101), .unset, .unset, .unset, .unset] [(.ref b_101), (.ref b_94), (.ref b_88), (.ref b_83), (.ref b_79), (.ref b_76), (.int (2 : Int32)), (.ref b_109), (.ref b_109)])) (fun t_ k_ => XS.aload X_109.here hx rfl (hb hby at_155) rfl rfl k_) ?_
            refine own_st (S' := T_109.setTop (mkF m 158 #[.val (.int p0), .val (.int p1), .val (.int p2), .val (.int p3), .val (.int p4), .val (.int x0), .val (.int y0), .val (.int x1), .val (.int y1), .val (.int (1 : Int32)), .val (.ref b_76), .val (.ref b_79), .val (.ref b_83), .val (.ref b_88), .val (.ref b_94), .val (.ref b_101), .unset, .unset, .unset, .unset] [(.int (0 : Int32)), (.ref b_101), (.ref b_94), (.ref b_88), (.ref b_83), (.ref b_79), (.ref b_76), (.int (2 : Int32)), (.ref b_109), (.ref b_109)])) (fun t_ k_ => XS.iconst X_109.here hx rfl (hb hby at_157) k_) ?_
            have f_110 : Arv Z h_109 b_76 k_76 .int (2 : Int32) [(.int (-1 : Int32)), (.int (-2 : Int32))] (.int (0 : Int32)) := (f_104.ext E_109)
            have f_111 : Arv Z h_109 b_79 k_79 .int (2 : Int32) [(.int x0), (.int x1)] (.int (0 : Int32)) := (f_105.ext E_109)
            have f_112 : Arv Z h_109 b_83 k_83 .int (2 : Int32) [(.int y0), (.int y1)] (.int (0 : Int32)) := (f_106.ext E_109)
            have f_113 : Arv Z h_109 b_88 k_88 .int (2 : Int32) [(.int (1 : Int32)), (.int (1 : Int32))] (.int (0 : Int32)) := (f_107.ext E_109)
            have f_114 : Arv Z h_109 b_94 k_94 .int (2 : Int32) [(.int (1 : Int32)), (.int (1 : Int32))] (.int (0 : Int32)) := (f_108.ext E_109)
            have f_115 : Exa Z h_109 b_76 "[I" := (Exa.ext E_109 ((Exa.ext E_101 (Exa.wr W_96 (Exa.wr W_95 (Exa.ext E_94 (Exa.wr W_90 (Exa.wr W_89 (Exa.ext E_88 (Exa.wr W_85 (Exa.wr W_84 (Exa.ext E_83 (Exa.wr W_81 (Exa.wr W_80 (Exa.ext E_79 (Exa.wr W_78 (Exa.wr W_77 B_76))))))))))))))).keep K_103c))
            have f_116 : Exa Z h_109 b_79 "[I" := (Exa.ext E_109 ((Exa.ext E_101 (Exa.wr W_96 (Exa.wr W_95 (Exa.ext E_94 (Exa.wr W_90 (Exa.wr W_89 (Exa.ext E_88 (Exa.wr W_85 (Exa.wr W_84 (Exa.ext E_83 (Exa.wr W_81 (Exa.wr W_80 B_79)))))))))))).keep K_103c))
            have f_117 : Exa Z h_109 b_83 "[I" := (Exa.ext E_109 ((Exa.ext E_101 (Exa.wr W_96 (Exa.wr W_95 (Exa.ext E_94 (Exa.wr W_90 (Exa.wr W_89 (Exa.ext E_88 (Exa.wr W_85 (Exa.wr W_84 B_83))))))))).keep K_103c))
            have f_118 : Exa Z h_109 b_88 "[I" := (Exa.ext E_109 ((Exa.ext E_101 (Exa.wr W_96 (Exa.wr W_95 (Exa.ext E_94 (Exa.wr W_90 (Exa.wr W_89 B_88)))))).keep K_103c))
            have f_119 : Exa Z h_109 b_94 "[I" := (Exa.ext E_109 ((Exa.ext E_101 (Exa.wr W_96 (Exa.wr W_95 B_94))).keep K_103c))
            have f_120 : Exa Z h_109 b_101 "java/util/ArrayList" := (Exa.ext E_109 c_103_0)
            have f_121 : Fld Z h_109 b_101 "java/util/ArrayList" "size" "I" (.int (0 : Int32)) := (Fld.ext E_109 c_103_2)
            have f_122 : Old Z n0 h_109 := ((f_102.keep K_103c (allS g_b_101 all0)).ext E_109)
            obtain ⟨_, _, ⟨T_123, L_123, k_123, n_123⟩, -, X_123, ⟨Lc_123, hQ_123, l_123, y_123, z_123⟩, st_123⟩ := X_109.specialBack hx (y := (⟨"com/example/frisk/frisk/pattern/StateGraph", "<init>", "(I[I[I[I[I[ILjava/util/List;I)V"⟩ : MethodName)) rfl hown (mvT hZ (hw _ (List.mem_of_getElem? (i := 30) rfl))) (mvT hZ (hw _ (List.mem_of_getElem? (i := 31) rfl))) (mvT hZ (hw _ (List.mem_of_getElem? (i := 32) rfl))) (by decide) (backOf (W := 1) (rm9 l Z a0 hw [] b_109 b_76 b_79 b_83 b_88 b_94 b_101 dd kd k_76 k_79 k_83 k_88 k_94 x0 x1 y0 y1 h_109 n0 Z_109 A_109 F_109_labels F_109_next F_109_alternative F_109_leasts F_109_mosts F_109_counterNumbers F_109_classes F_109_counterCount F_109_start f_110 f_111 f_112 f_113 f_114 f_115 f_116 f_117 f_118 f_119 f_120 f_121 Y0 Y1 f_122 g_b_109 (Ne.symm ne_b_76_b_109) (Ne.symm ne_b_79_b_109) (Ne.symm ne_b_83_b_109) (Ne.symm ne_b_88_b_109) (Ne.symm ne_b_94_b_109) (Ne.symm ne_b_101_b_109)) hZ (hw _ (List.mem_of_getElem? (i := 32) rfl)) (hw _ (List.mem_of_getElem? (i := 29) rfl)) (by decide) (by decide)) (g := (mkF m 158 #[.val (.int p0), .val (.int p1), .val (.int p2), .val (.int p3), .val (.int p4), .val (.int x0), .val (.int y0), .val (.int x1), .val (.int y1), .val (.int (1 : Int32)), .val (.ref b_76), .val (.ref b_79), .val (.ref b_83), .val (.ref b_88), .val (.ref b_94), .val (.ref b_101), .unset, .unset, .unset, .unset] [(.int (0 : Int32)), (.ref b_101), (.ref b_94), (.ref b_88), (.ref b_83), (.ref b_79), (.ref b_76), (.int (2 : Int32)), (.ref b_109), (.ref b_109)])) rfl (by rw [hml]; rfl) (Steps.refl _) (a := b_109) (argsL := [(.int (2 : Int32)), (.ref b_76), (.ref b_79), (.ref b_83), (.ref b_88), (.ref b_94), (.ref b_101), (.int (0 : Int32))]) (rest := [(.ref b_109)]) (lenOf pd_6 rfl) rfl (by show 2 * 0 + _ ≤ _; exact Nat.le_of_eq rfl) (hb hby at_158) (fun _ _ => ⟨rfl, e_109, (by decide : 7 + 9 ≤ _), (by decide : 22 + 15 ≤ _)⟩)
            dsimp only [Pt.U, Pt.locs, Pt.cells, Pt.slots] at X_123 l_123 y_123 z_123 st_123 hQ_123
            subst l_123 y_123 z_123
            obtain ⟨x_123_bx, x_123_by_, rfl, M_123, K_123c, z_123_0, z_123_1, c_123_0, c_123_1, c_123_2, c_123_3, c_123_4⟩ := hQ_123
            have N_123 := Fr.app N_103 M_123
            have ne_b_101_x_123_bx : b_101 ≠ x_123_bx := Nat.ne_of_lt (Nat.lt_of_lt_of_le f_120.lt z_123_0)
            have ne_b_109_x_123_bx : b_109 ≠ x_123_bx := Nat.ne_of_lt (Nat.lt_of_lt_of_le A_109.lt z_123_0)
            have ne_b_76_x_123_bx : b_76 ≠ x_123_bx := Nat.ne_of_lt (Nat.lt_of_lt_of_le f_115.lt z_123_0)
            have ne_b_79_x_123_bx : b_79 ≠ x_123_bx := Nat.ne_of_lt (Nat.lt_of_lt_of_le f_116.lt z_123_0)
            have ne_b_83_x_123_bx : b_83 ≠ x_123_bx := Nat.ne_of_lt (Nat.lt_of_lt_of_le f_117.lt z_123_0)
            have ne_b_88_x_123_bx : b_88 ≠ x_123_bx := Nat.ne_of_lt (Nat.lt_of_lt_of_le f_118.lt z_123_0)
            have ne_b_94_x_123_bx : b_94 ≠ x_123_bx := Nat.ne_of_lt (Nat.lt_of_lt_of_le f_119.lt z_123_0)
            have g_x_123_bx : n0 ≤ x_123_bx := Nat.le_trans Z_109 z_123_0
            have ne_b_101_x_123_by_ : b_101 ≠ x_123_by_ := Nat.ne_of_lt (Nat.lt_of_lt_of_le f_120.lt z_123_1)
            have ne_b_109_x_123_by_ : b_109 ≠ x_123_by_ := Nat.ne_of_lt (Nat.lt_of_lt_of_le A_109.lt z_123_1)
            have ne_b_76_x_123_by_ : b_76 ≠ x_123_by_ := Nat.ne_of_lt (Nat.lt_of_lt_of_le f_115.lt z_123_1)
            have ne_b_79_x_123_by_ : b_79 ≠ x_123_by_ := Nat.ne_of_lt (Nat.lt_of_lt_of_le f_116.lt z_123_1)
            have ne_b_83_x_123_by_ : b_83 ≠ x_123_by_ := Nat.ne_of_lt (Nat.lt_of_lt_of_le f_117.lt z_123_1)
            have ne_b_88_x_123_by_ : b_88 ≠ x_123_by_ := Nat.ne_of_lt (Nat.lt_of_lt_of_le f_118.lt z_123_1)
            have ne_b_94_x_123_by_ : b_94 ≠ x_123_by_ := Nat.ne_of_lt (Nat.lt_of_lt_of_le f_119.lt z_123_1)
            have g_x_123_by_ : n0 ≤ x_123_by_ := Nat.le_trans Z_109 z_123_1
            have Z_123 : n0 ≤ T_123.heap.size := Nat.le_trans Z_109 K_123c.1
            refine own_st (S' := T_123.setTop (mkF m 161 #[.val (.int p0), .val (.int p1), .val (.int p2), .val (.int p3), .val (.int p4), .val (.int x0), .val (.int y0), .val (.int x1), .val (.int y1), .val (.int (1 : Int32)), .val (.ref b_76), .val (.ref b_79), .val (.ref b_83), .val (.ref b_88), .val (.ref b_94), .val (.ref b_101), .unset, .unset, .unset, .unset] [(.ref b_109)])) (fun t_ k_ => st_123.trans k_) ?_
            refine own_st (S' := T_123.setTop (mkF m 163 #[.val (.int p0), .val (.int p1), .val (.int p2), .val (.int p3), .val (.int p4), .val (.int x0), .val (.int y0), .val (.int x1), .val (.int y1), .val (.int (1 : Int32)), .val (.ref b_76), .val (.ref b_79), .val (.ref b_83), .val (.ref b_88), .val (.ref b_94), .val (.ref b_101), .val (.ref b_109), .unset, .unset, .unset] [])) (fun t_ k_ => XS.astore X_123.here hx rfl (hb hby at_161) rfl rfl (l' := #[.val (.int p0), .val (.int p1), .val (.int p2), .val (.int p3), .val (.int p4), .val (.int x0), .val (.int y0), .val (.int x1), .val (.int y1), .val (.int (1 : Int32)), .val (.ref b_76), .val (.ref b_79), .val (.ref b_83), .val (.ref b_88), .val (.ref b_94), .val (.ref b_101), .val (.ref b_109), .unset, .unset, .unset]) rfl k_) ?_
            refine own_st (S' := T_123.setTop (mkF m 165 #[.val (.int p0), .val (.int p1), .val (.int p2), .val (.int p3), .val (.int p4), .val (.int x0), .val (.int y0), .val (.int x1), .val (.int y1), .val (.int (1 : Int32)), .val (.ref b_76), .val (.ref b_79), .val (.ref b_83), .val (.ref b_88), .val (.ref b_94), .val (.ref b_101), .val (.ref b_109), .unset, .unset, .unset] [(.int (1 : Int32))])) (fun t_ k_ => XS.iload X_123.here hx rfl (hb hby at_163) rfl k_) ?_
            refine own_st (S' := T_123.setTop (mkF m 173 #[.val (.int p0), .val (.int p1), .val (.int p2), .val (.int p3), .val (.int p4), .val (.int x0), .val (.int y0), .val (.int x1), .val (.int y1), .val (.int (1 : Int32)), .val (.ref b_76), .val (.ref b_79), .val (.ref b_83), .val (.ref b_88), .val (.ref b_94), .val (.ref b_101), .val (.ref b_109), .unset, .unset, .unset] [])) (fun t_ k_ => XS.ifYes X_123.here hx rfl (pc0 := 165) (pc' := 173) rfl (hb hby at_165) rfl ((if0 _ _).trans (feq (by decide : ¬ ((1 : Int32) = (0 : Int32)))).2) (by decide) (by decide) k_) ?_
            refine own_st (S' := T_123.setTop (mkF m 175 #[.val (.int p0), .val (.int p1), .val (.int p2), .val (.int p3), .val (.int p4), .val (.int x0), .val (.int y0), .val (.int x1), .val (.int y1), .val (.int (1 : Int32)), .val (.ref b_76), .val (.ref b_79), .val (.ref b_83), .val (.ref b_88), .val (.ref b_94), .val (.ref b_101), .val (.ref b_109), .unset, .unset, .unset] [(.int x1)])) (fun t_ k_ => XS.iload X_123.here hx rfl (hb hby at_173) rfl k_) ?_
            refine own_st (S' := T_123.setTop (mkF m 177 #[.val (.int p0), .val (.int p1), .val (.int p2), .val (.int p3), .val (.int p4), .val (.int x0), .val (.int y0), .val (.int x1), .val (.int y1), .val (.int (1 : Int32)), .val (.ref b_76), .val (.ref b_79), .val (.ref b_83), .val (.ref b_88), .val (.ref b_94), .val (.ref b_101), .val (.ref b_109), .val (.int x1), .unset, .unset] [])) (fun t_ k_ => XS.istore X_123.here hx rfl (hb hby at_175) rfl (l' := #[.val (.int p0), .val (.int p1), .val (.int p2), .val (.int p3), .val (.int p4), .val (.int x0), .val (.int y0), .val (.int x1), .val (.int y1), .val (.int (1 : Int32)), .val (.ref b_76), .val (.ref b_79), .val (.ref b_83), .val (.ref b_88), .val (.ref b_94), .val (.ref b_101), .val (.ref b_109), .val (.int x1), .unset, .unset]) rfl k_) ?_
            refine own_st (S' := T_123.setTop (mkF m 179 #[.val (.int p0), .val (.int p1), .val (.int p2), .val (.int p3), .val (.int p4), .val (.int x0), .val (.int y0), .val (.int x1), .val (.int y1), .val (.int (1 : Int32)), .val (.ref b_76), .val (.ref b_79), .val (.ref b_83), .val (.ref b_88), .val (.ref b_94), .val (.ref b_101), .val (.ref b_109), .val (.int x1), .unset, .unset] [(.int (1 : Int32))])) (fun t_ k_ => XS.iload X_123.here hx rfl (hb hby at_177) rfl k_) ?_
            refine own_st (S' := T_123.setTop (mkF m 187 #[.val (.int p0), .val (.int p1), .val (.int p2), .val (.int p3), .val (.int p4), .val (.int x0), .val (.int y0), .val (.int x1), .val (.int y1), .val (.int (1 : Int32)), .val (.ref b_76), .val (.ref b_79), .val (.ref b_83), .val (.ref b_88), .val (.ref b_94), .val (.ref b_101), .val (.ref b_109), .val (.int x1), .unset, .unset] [])) (fun t_ k_ => XS.ifYes X_123.here hx rfl (pc0 := 179) (pc' := 187) rfl (hb hby at_179) rfl ((if0 _ _).trans (feq (by decide : ¬ ((1 : Int32) = (0 : Int32)))).2) (by decide) (by decide) k_) ?_
            refine own_st (S' := T_123.setTop (mkF m 189 #[.val (.int p0), .val (.int p1), .val (.int p2), .val (.int p3), .val (.int p4), .val (.int x0), .val (.int y0), .val (.int x1), .val (.int y1), .val (.int (1 : Int32)), .val (.ref b_76), .val (.ref b_79), .val (.ref b_83), .val (.ref b_88), .val (.ref b_94), .val (.ref b_101), .val (.ref b_109), .val (.int x1), .unset, .unset] [(.int y1)])) (fun t_ k_ => XS.iload X_123.here hx rfl (hb hby at_187) rfl k_) ?_
            refine own_st (S' := T_123.setTop (mkF m 191 #[.val (.int p0), .val (.int p1), .val (.int p2), .val (.int p3), .val (.int p4), .val (.int x0), .val (.int y0), .val (.int x1), .val (.int y1), .val (.int (1 : Int32)), .val (.ref b_76), .val (.ref b_79), .val (.ref b_83), .val (.ref b_88), .val (.ref b_94), .val (.ref b_101), .val (.ref b_109), .val (.int x1), .val (.int y1), .unset] [])) (fun t_ k_ => XS.istore X_123.here hx rfl (hb hby at_189) rfl (l' := #[.val (.int p0), .val (.int p1), .val (.int p2), .val (.int p3), .val (.int p4), .val (.int x0), .val (.int y0), .val (.int x1), .val (.int y1), .val (.int (1 : Int32)), .val (.ref b_76), .val (.ref b_79), .val (.ref b_83), .val (.ref b_88), .val (.ref b_94), .val (.ref b_101), .val (.ref b_109), .val (.int x1), .val (.int y1), .unset]) rfl k_) ?_
            refine own_st (S' := T_123.setTop (mkF m 193 #[.val (.int p0), .val (.int p1), .val (.int p2), .val (.int p3), .val (.int p4), .val (.int x0), .val (.int y0), .val (.int x1), .val (.int y1), .val (.int (1 : Int32)), .val (.ref b_76), .val (.ref b_79), .val (.ref b_83), .val (.ref b_88), .val (.ref b_94), .val (.ref b_101), .val (.ref b_109), .val (.int x1), .val (.int y1), .unset] [(.ref b_109)])) (fun t_ k_ => XS.aload X_123.here hx rfl (hb hby at_191) rfl rfl k_) ?_
            refine own_st (S' := T_123.setTop (mkF m 195 #[.val (.int p0), .val (.int p1), .val (.int p2), .val (.int p3), .val (.int p4), .val (.int x0), .val (.int y0), .val (.int x1), .val (.int y1), .val (.int (1 : Int32)), .val (.ref b_76), .val (.ref b_79), .val (.ref b_83), .val (.ref b_88), .val (.ref b_94), .val (.ref b_101), .val (.ref b_109), .val (.int x1), .val (.int y1), .unset] [(.int (1 : Int32)), (.ref b_109)])) (fun t_ k_ => XS.iload X_123.here hx rfl (hb hby at_193) rfl k_) ?_
            by_cases hx1 : x1 = (-1 : Int32)
            · have f_124 : Exa Z T_123.heap b_101 "java/util/ArrayList" := (f_120.keep K_123c)
              have f_125 : Exa Z T_123.heap b_76 "[I" := (f_115.keep K_123c)
              have f_126 : Exa Z T_123.heap b_79 "[I" := (f_116.keep K_123c)
              have f_127 : Exa Z T_123.heap b_83 "[I" := (f_117.keep K_123c)
              have f_128 : Exa Z T_123.heap b_88 "[I" := (f_118.keep K_123c)
              have f_129 : Exa Z T_123.heap b_94 "[I" := (f_119.keep K_123c)
              obtain ⟨cq_130, kq_130, q_130a, q_130b, q_130c⟩ := isOf hZ rfl c_123_0
              obtain ⟨_, _, ⟨T_130, L_130, k_130, n_130⟩, -, X_130, ⟨Lc_130, hQ_130, l_130, y_130, z_130⟩, st_130⟩ := X_123.virtualBack hx (y := (⟨"com/example/frisk/frisk/pattern/StateGraph", "successors", "(I)[I"⟩ : MethodName)) (z := (⟨"com/example/frisk/frisk/pattern/StateGraph", "successors", "(I)[I"⟩ : MethodName)) hown (mvT hZ (hw _ (List.mem_of_getElem? (i := 100) rfl))) (mvT hZ (hw _ (List.mem_of_getElem? (i := 101) rfl))) (notFace_of_selects (args := #[]) (mvT hZ (hw _ (List.mem_of_getElem? (i := 103) rfl)))) (mvT hZ (hw _ (List.mem_of_getElem? (i := 103) rfl))) (mvT hZ (hw _ (List.mem_of_getElem? (i := 102) rfl))) (by decide) (backOf (W := 0) (rm10d l Z a0 hw [] b_109 x_123_bx x_123_by_ k_79 k_83 x0 x1 y0 y1 T_123.heap n0 Z_123 c_123_1 c_123_2 c_123_3 c_123_4 hx1) hZ (hw _ (List.mem_of_getElem? (i := 104) rfl)) (hw _ (List.mem_of_getElem? (i := 29) rfl)) (by decide) (by decide)) q_130a q_130c (g := (mkF m 195 #[.val (.int p0), .val (.int p1), .val (.int p2), .val (.int p3), .val (.int p4), .val (.int x0), .val (.int y0), .val (.int x1), .val (.int y1), .val (.int (1 : Int32)), .val (.ref b_76), .val (.ref b_79), .val (.ref b_83), .val (.ref b_88), .val (.ref b_94), .val (.ref b_101), .val (.ref b_109), .val (.int x1), .val (.int y1), .unset] [(.int (1 : Int32)), (.ref b_109)])) rfl (by rw [hml]; rfl) (Steps.refl _) (argsL := [(.int (1 : Int32))]) (rest := []) (lenOf pd_7 rfl) rfl (by show 2 * 0 + _ ≤ _; exact Nat.le_of_eq rfl) (hb hby at_195) (fun _ _ => ⟨rfl, rfl, (by decide : 16 + 1 ≤ _), (by decide : 37 + 0 ≤ _)⟩)
              dsimp only [Pt.U, Pt.locs, Pt.cells, Pt.slots] at X_130 l_130 y_130 z_130 st_130 hQ_130
              subst l_130 y_130 z_130
              obtain ⟨x_130_b, x_130_k, rfl, M_130, K_130c, z_130_0, c_130_0⟩ := hQ_130
              have N_130 := Fr.app N_123 M_130
              have ne_b_101_x_130_b : b_101 ≠ x_130_b := Nat.ne_of_lt (Nat.lt_of_lt_of_le f_124.lt z_130_0)
              have ne_b_109_x_130_b : b_109 ≠ x_130_b := Nat.ne_of_lt (Nat.lt_of_lt_of_le c_123_0.lt z_130_0)
              have ne_b_76_x_130_b : b_76 ≠ x_130_b := Nat.ne_of_lt (Nat.lt_of_lt_of_le f_125.lt z_130_0)
              have ne_b_79_x_130_b : b_79 ≠ x_130_b := Nat.ne_of_lt (Nat.lt_of_lt_of_le f_126.lt z_130_0)
              have ne_b_83_x_130_b : b_83 ≠ x_130_b := Nat.ne_of_lt (Nat.lt_of_lt_of_le f_127.lt z_130_0)
              have ne_b_88_x_130_b : b_88 ≠ x_130_b := Nat.ne_of_lt (Nat.lt_of_lt_of_le f_128.lt z_130_0)
              have ne_b_94_x_130_b : b_94 ≠ x_130_b := Nat.ne_of_lt (Nat.lt_of_lt_of_le f_129.lt z_130_0)
              have ne_x_123_bx_x_130_b : x_123_bx ≠ x_130_b := Nat.ne_of_lt (Nat.lt_of_lt_of_le c_123_3.lt z_130_0)
              have ne_x_123_by__x_130_b : x_123_by_ ≠ x_130_b := Nat.ne_of_lt (Nat.lt_of_lt_of_le c_123_4.lt z_130_0)
              have g_x_130_b : n0 ≤ x_130_b := Nat.le_trans Z_123 z_130_0
              have Z_130 : n0 ≤ T_130.heap.size := Nat.le_trans Z_123 K_130c.1
              refine own_st (S' := T_130.setTop (mkF m 198 #[.val (.int p0), .val (.int p1), .val (.int p2), .val (.int p3), .val (.int p4), .val (.int x0), .val (.int y0), .val (.int x1), .val (.int y1), .val (.int (1 : Int32)), .val (.ref b_76), .val (.ref b_79), .val (.ref b_83), .val (.ref b_88), .val (.ref b_94), .val (.ref b_101), .val (.ref b_109), .val (.int x1), .val (.int y1), .unset] [(.ref x_130_b)])) (fun t_ k_ => st_130.trans k_) ?_
              refine own_st (S' := T_130.setTop (mkF m 200 #[.val (.int p0), .val (.int p1), .val (.int p2), .val (.int p3), .val (.int p4), .val (.int x0), .val (.int y0), .val (.int x1), .val (.int y1), .val (.int (1 : Int32)), .val (.ref b_76), .val (.ref b_79), .val (.ref b_83), .val (.ref b_88), .val (.ref b_94), .val (.ref b_101), .val (.ref b_109), .val (.int x1), .val (.int y1), .val (.ref x_130_b)] [])) (fun t_ k_ => XS.astore X_130.here hx rfl (hb hby at_198) rfl rfl (l' := #[.val (.int p0), .val (.int p1), .val (.int p2), .val (.int p3), .val (.int p4), .val (.int x0), .val (.int y0), .val (.int x1), .val (.int y1), .val (.int (1 : Int32)), .val (.ref b_76), .val (.ref b_79), .val (.ref b_83), .val (.ref b_88), .val (.ref b_94), .val (.ref b_101), .val (.ref b_109), .val (.int x1), .val (.int y1), .val (.ref x_130_b)]) rfl k_) ?_
              refine own_st (S' := T_130.setTop (mkF m 202 #[.val (.int p0), .val (.int p1), .val (.int p2), .val (.int p3), .val (.int p4), .val (.int x0), .val (.int y0), .val (.int x1), .val (.int y1), .val (.int (1 : Int32)), .val (.ref b_76), .val (.ref b_79), .val (.ref b_83), .val (.ref b_88), .val (.ref b_94), .val (.ref b_101), .val (.ref b_109), .val (.int x1), .val (.int y1), .val (.ref x_130_b)] [(.int x1)])) (fun t_ k_ => XS.iload X_130.here hx rfl (hb hby at_200) rfl k_) ?_
              refine own_st (S' := T_130.setTop (mkF m 203 #[.val (.int p0), .val (.int p1), .val (.int p2), .val (.int p3), .val (.int p4), .val (.int x0), .val (.int y0), .val (.int x1), .val (.int y1), .val (.int (1 : Int32)), .val (.ref b_76), .val (.ref b_79), .val (.ref b_83), .val (.ref b_88), .val (.ref b_94), .val (.ref b_101), .val (.ref b_109), .val (.int x1), .val (.int y1), .val (.ref x_130_b)] [(.int (-1 : Int32)), (.int x1)])) (fun t_ k_ => XS.iconst X_130.here hx rfl (hb hby at_202) k_) ?_
              refine own_st (S' := T_130.setTop (mkF m 206 #[.val (.int p0), .val (.int p1), .val (.int p2), .val (.int p3), .val (.int p4), .val (.int x0), .val (.int y0), .val (.int x1), .val (.int y1), .val (.int (1 : Int32)), .val (.ref b_76), .val (.ref b_79), .val (.ref b_83), .val (.ref b_88), .val (.ref b_94), .val (.ref b_101), .val (.ref b_109), .val (.int x1), .val (.int y1), .val (.ref x_130_b)] [])) (fun t_ k_ => XS.icmpNo X_130.here hx rfl (hb hby at_203) rfl (teq hx1).2 k_) ?_
              refine own_st (S' := T_130.setTop (mkF m 208 #[.val (.int p0), .val (.int p1), .val (.int p2), .val (.int p3), .val (.int p4), .val (.int x0), .val (.int y0), .val (.int x1), .val (.int y1), .val (.int (1 : Int32)), .val (.ref b_76), .val (.ref b_79), .val (.ref b_83), .val (.ref b_88), .val (.ref b_94), .val (.ref b_101), .val (.ref b_109), .val (.int x1), .val (.int y1), .val (.ref x_130_b)] [(.ref x_130_b)])) (fun t_ k_ => XS.aload X_130.here hx rfl (hb hby at_206) rfl rfl k_) ?_
              obtain ⟨cl_131, Ar_131, q_131, S_131, M_131, H_131, G_131⟩ := id c_130_0
              refine own_st (S' := T_130.setTop (mkF m 209 #[.val (.int p0), .val (.int p1), .val (.int p2), .val (.int p3), .val (.int p4), .val (.int x0), .val (.int y0), .val (.int x1), .val (.int y1), .val (.int (1 : Int32)), .val (.ref b_76), .val (.ref b_79), .val (.ref b_83), .val (.ref b_88), .val (.ref b_94), .val (.ref b_101), .val (.ref b_109), .val (.int x1), .val (.int y1), .val (.ref x_130_b)] [(.int (0 : Int32))])) (fun t_ k_ => X_130.arraylength hx Ar_131.1 (State.isArrayOf_alike hZ.alike Ar_131.2.1) (g := (mkF m 208 #[.val (.int p0), .val (.int p1), .val (.int p2), .val (.int p3), .val (.int p4), .val (.int x0), .val (.int y0), .val (.int x1), .val (.int y1), .val (.int (1 : Int32)), .val (.ref b_76), .val (.ref b_79), .val (.ref b_83), .val (.ref b_88), .val (.ref b_94), .val (.ref b_101), .val (.ref b_109), .val (.int x1), .val (.int y1), .val (.ref x_130_b)] [(.ref x_130_b)])) rfl rfl (hb hby at_208) _ (by rw [len_of S_131 M_131]; exact k_)) ?_
              refine own_st (S' := T_130.setTop (mkF m 212 #[.val (.int p0), .val (.int p1), .val (.int p2), .val (.int p3), .val (.int p4), .val (.int x0), .val (.int y0), .val (.int x1), .val (.int y1), .val (.int (1 : Int32)), .val (.ref b_76), .val (.ref b_79), .val (.ref b_83), .val (.ref b_88), .val (.ref b_94), .val (.ref b_101), .val (.ref b_109), .val (.int x1), .val (.int y1), .val (.ref x_130_b)] [])) (fun t_ k_ => XS.ifNo X_130.here hx rfl (hb hby at_209) rfl ((if0 _ _).trans (teq (by decide : (0 : Int32) = (0 : Int32))).2) k_) ?_
              refine own_st (S' := T_130.setTop (mkF m 213 #[.val (.int p0), .val (.int p1), .val (.int p2), .val (.int p3), .val (.int p4), .val (.int x0), .val (.int y0), .val (.int x1), .val (.int y1), .val (.int (1 : Int32)), .val (.ref b_76), .val (.ref b_79), .val (.ref b_83), .val (.ref b_88), .val (.ref b_94), .val (.ref b_101), .val (.ref b_109), .val (.int x1), .val (.int y1), .val (.ref x_130_b)] [(.int (1 : Int32))])) (fun t_ k_ => XS.iconst X_130.here hx rfl (hb hby at_212) k_) ?_
              refine own_st (S' := T_130.setTop (mkF m 217 #[.val (.int p0), .val (.int p1), .val (.int p2), .val (.int p3), .val (.int p4), .val (.int x0), .val (.int y0), .val (.int x1), .val (.int y1), .val (.int (1 : Int32)), .val (.ref b_76), .val (.ref b_79), .val (.ref b_83), .val (.ref b_88), .val (.ref b_94), .val (.ref b_101), .val (.ref b_109), .val (.int x1), .val (.int y1), .val (.ref x_130_b)] [(.int (1 : Int32))])) (fun t_ k_ => XS.goto X_130.here hx rfl (pc0 := 213) (pc' := 217) rfl (hb hby at_213) (by decide) (by decide) k_) ?_
              obtain ⟨fs, hr, hrun, hended, hW, hsame⟩ := X_130.leave (v := some (.int (1 : Int32))) (fun h => by rw [Bd.returns] at h; cases h)
              refine ⟨_, _, retN X_130 hx (t := .boolean) Bd.returns (by simp) (hb hby at_217) hr, hrun, hended, _, _, rfl, ?_, ⟨_, rfl⟩, hW, hsame.mono (by decide) (by decide)⟩
              show Q0 Z p0 p1 p2 p3 p4 dd kd h0 n0 _ T_130.heap _
              exact ⟨rfl, N_130⟩
            · by_cases hy1 : y1 = (-1 : Int32)
              · have f_132 : Exa Z T_123.heap b_101 "java/util/ArrayList" := (f_120.keep K_123c)
                have f_133 : Exa Z T_123.heap b_76 "[I" := (f_115.keep K_123c)
                have f_134 : Exa Z T_123.heap b_79 "[I" := (f_116.keep K_123c)
                have f_135 : Exa Z T_123.heap b_83 "[I" := (f_117.keep K_123c)
                have f_136 : Exa Z T_123.heap b_88 "[I" := (f_118.keep K_123c)
                have f_137 : Exa Z T_123.heap b_94 "[I" := (f_119.keep K_123c)
                obtain ⟨cq_138, kq_138, q_138a, q_138b, q_138c⟩ := isOf hZ rfl c_123_0
                obtain ⟨_, _, ⟨T_138, L_138, k_138, n_138⟩, -, X_138, ⟨Lc_138, hQ_138, l_138, y_138, z_138⟩, st_138⟩ := X_123.virtualBack hx (y := (⟨"com/example/frisk/frisk/pattern/StateGraph", "successors", "(I)[I"⟩ : MethodName)) (z := (⟨"com/example/frisk/frisk/pattern/StateGraph", "successors", "(I)[I"⟩ : MethodName)) hown (mvT hZ (hw _ (List.mem_of_getElem? (i := 100) rfl))) (mvT hZ (hw _ (List.mem_of_getElem? (i := 101) rfl))) (notFace_of_selects (args := #[]) (mvT hZ (hw _ (List.mem_of_getElem? (i := 103) rfl)))) (mvT hZ (hw _ (List.mem_of_getElem? (i := 103) rfl))) (mvT hZ (hw _ (List.mem_of_getElem? (i := 102) rfl))) (by decide) (backOf (W := 0) (rm10e l Z a0 hw [] b_109 x_123_bx x_123_by_ k_79 k_83 x0 x1 y0 y1 T_123.heap n0 Z_123 c_123_1 c_123_2 c_123_3 c_123_4 hx1 hy1) hZ (hw _ (List.mem_of_getElem? (i := 104) rfl)) (hw _ (List.mem_of_getElem? (i := 29) rfl)) (by decide) (by decide)) q_138a q_138c (g := (mkF m 195 #[.val (.int p0), .val (.int p1), .val (.int p2), .val (.int p3), .val (.int p4), .val (.int x0), .val (.int y0), .val (.int x1), .val (.int y1), .val (.int (1 : Int32)), .val (.ref b_76), .val (.ref b_79), .val (.ref b_83), .val (.ref b_88), .val (.ref b_94), .val (.ref b_101), .val (.ref b_109), .val (.int x1), .val (.int y1), .unset] [(.int (1 : Int32)), (.ref b_109)])) rfl (by rw [hml]; rfl) (Steps.refl _) (argsL := [(.int (1 : Int32))]) (rest := []) (lenOf pd_7 rfl) rfl (by show 2 * 0 + _ ≤ _; exact Nat.le_of_eq rfl) (hb hby at_195) (fun _ _ => ⟨rfl, rfl, (by decide : 16 + 1 ≤ _), (by decide : 37 + 1 ≤ _)⟩)
                dsimp only [Pt.U, Pt.locs, Pt.cells, Pt.slots] at X_138 l_138 y_138 z_138 st_138 hQ_138
                subst l_138 y_138 z_138
                obtain ⟨x_138_b, x_138_k, rfl, M_138, K_138c, z_138_0, c_138_0⟩ := hQ_138
                have N_138 := Fr.app N_123 M_138
                have ne_b_101_x_138_b : b_101 ≠ x_138_b := Nat.ne_of_lt (Nat.lt_of_lt_of_le f_132.lt z_138_0)
                have ne_b_109_x_138_b : b_109 ≠ x_138_b := Nat.ne_of_lt (Nat.lt_of_lt_of_le c_123_0.lt z_138_0)
                have ne_b_76_x_138_b : b_76 ≠ x_138_b := Nat.ne_of_lt (Nat.lt_of_lt_of_le f_133.lt z_138_0)
                have ne_b_79_x_138_b : b_79 ≠ x_138_b := Nat.ne_of_lt (Nat.lt_of_lt_of_le f_134.lt z_138_0)
                have ne_b_83_x_138_b : b_83 ≠ x_138_b := Nat.ne_of_lt (Nat.lt_of_lt_of_le f_135.lt z_138_0)
                have ne_b_88_x_138_b : b_88 ≠ x_138_b := Nat.ne_of_lt (Nat.lt_of_lt_of_le f_136.lt z_138_0)
                have ne_b_94_x_138_b : b_94 ≠ x_138_b := Nat.ne_of_lt (Nat.lt_of_lt_of_le f_137.lt z_138_0)
                have ne_x_123_bx_x_138_b : x_123_bx ≠ x_138_b := Nat.ne_of_lt (Nat.lt_of_lt_of_le c_123_3.lt z_138_0)
                have ne_x_123_by__x_138_b : x_123_by_ ≠ x_138_b := Nat.ne_of_lt (Nat.lt_of_lt_of_le c_123_4.lt z_138_0)
                have g_x_138_b : n0 ≤ x_138_b := Nat.le_trans Z_123 z_138_0
                have Z_138 : n0 ≤ T_138.heap.size := Nat.le_trans Z_123 K_138c.1
                refine own_st (S' := T_138.setTop (mkF m 198 #[.val (.int p0), .val (.int p1), .val (.int p2), .val (.int p3), .val (.int p4), .val (.int x0), .val (.int y0), .val (.int x1), .val (.int y1), .val (.int (1 : Int32)), .val (.ref b_76), .val (.ref b_79), .val (.ref b_83), .val (.ref b_88), .val (.ref b_94), .val (.ref b_101), .val (.ref b_109), .val (.int x1), .val (.int y1), .unset] [(.ref x_138_b)])) (fun t_ k_ => st_138.trans k_) ?_
                refine own_st (S' := T_138.setTop (mkF m 200 #[.val (.int p0), .val (.int p1), .val (.int p2), .val (.int p3), .val (.int p4), .val (.int x0), .val (.int y0), .val (.int x1), .val (.int y1), .val (.int (1 : Int32)), .val (.ref b_76), .val (.ref b_79), .val (.ref b_83), .val (.ref b_88), .val (.ref b_94), .val (.ref b_101), .val (.ref b_109), .val (.int x1), .val (.int y1), .val (.ref x_138_b)] [])) (fun t_ k_ => XS.astore X_138.here hx rfl (hb hby at_198) rfl rfl (l' := #[.val (.int p0), .val (.int p1), .val (.int p2), .val (.int p3), .val (.int p4), .val (.int x0), .val (.int y0), .val (.int x1), .val (.int y1), .val (.int (1 : Int32)), .val (.ref b_76), .val (.ref b_79), .val (.ref b_83), .val (.ref b_88), .val (.ref b_94), .val (.ref b_101), .val (.ref b_109), .val (.int x1), .val (.int y1), .val (.ref x_138_b)]) rfl k_) ?_
                refine own_st (S' := T_138.setTop (mkF m 202 #[.val (.int p0), .val (.int p1), .val (.int p2), .val (.int p3), .val (.int p4), .val (.int x0), .val (.int y0), .val (.int x1), .val (.int y1), .val (.int (1 : Int32)), .val (.ref b_76), .val (.ref b_79), .val (.ref b_83), .val (.ref b_88), .val (.ref b_94), .val (.ref b_101), .val (.ref b_109), .val (.int x1), .val (.int y1), .val (.ref x_138_b)] [(.int x1)])) (fun t_ k_ => XS.iload X_138.here hx rfl (hb hby at_200) rfl k_) ?_
                refine own_st (S' := T_138.setTop (mkF m 203 #[.val (.int p0), .val (.int p1), .val (.int p2), .val (.int p3), .val (.int p4), .val (.int x0), .val (.int y0), .val (.int x1), .val (.int y1), .val (.int (1 : Int32)), .val (.ref b_76), .val (.ref b_79), .val (.ref b_83), .val (.ref b_88), .val (.ref b_94), .val (.ref b_101), .val (.ref b_109), .val (.int x1), .val (.int y1), .val (.ref x_138_b)] [(.int (-1 : Int32)), (.int x1)])) (fun t_ k_ => XS.iconst X_138.here hx rfl (hb hby at_202) k_) ?_
                refine own_st (S' := T_138.setTop (mkF m 218 #[.val (.int p0), .val (.int p1), .val (.int p2), .val (.int p3), .val (.int p4), .val (.int x0), .val (.int y0), .val (.int x1), .val (.int y1), .val (.int (1 : Int32)), .val (.ref b_76), .val (.ref b_79), .val (.ref b_83), .val (.ref b_88), .val (.ref b_94), .val (.ref b_101), .val (.ref b_109), .val (.int x1), .val (.int y1), .val (.ref x_138_b)] [])) (fun t_ k_ => XS.icmpYes X_138.here hx rfl (pc0 := 203) (pc' := 218) rfl (hb hby at_203) rfl (feq hx1).2 (by decide) (by decide) k_) ?_
                refine own_st (S' := T_138.setTop (mkF m 220 #[.val (.int p0), .val (.int p1), .val (.int p2), .val (.int p3), .val (.int p4), .val (.int x0), .val (.int y0), .val (.int x1), .val (.int y1), .val (.int (1 : Int32)), .val (.ref b_76), .val (.ref b_79), .val (.ref b_83), .val (.ref b_88), .val (.ref b_94), .val (.ref b_101), .val (.ref b_109), .val (.int x1), .val (.int y1), .val (.ref x_138_b)] [(.int y1)])) (fun t_ k_ => XS.iload X_138.here hx rfl (hb hby at_218) rfl k_) ?_
                refine own_st (S' := T_138.setTop (mkF m 221 #[.val (.int p0), .val (.int p1), .val (.int p2), .val (.int p3), .val (.int p4), .val (.int x0), .val (.int y0), .val (.int x1), .val (.int y1), .val (.int (1 : Int32)), .val (.ref b_76), .val (.ref b_79), .val (.ref b_83), .val (.ref b_88), .val (.ref b_94), .val (.ref b_101), .val (.ref b_109), .val (.int x1), .val (.int y1), .val (.ref x_138_b)] [(.int (-1 : Int32)), (.int y1)])) (fun t_ k_ => XS.iconst X_138.here hx rfl (hb hby at_220) k_) ?_
                refine own_st (S' := T_138.setTop (mkF m 224 #[.val (.int p0), .val (.int p1), .val (.int p2), .val (.int p3), .val (.int p4), .val (.int x0), .val (.int y0), .val (.int x1), .val (.int y1), .val (.int (1 : Int32)), .val (.ref b_76), .val (.ref b_79), .val (.ref b_83), .val (.ref b_88), .val (.ref b_94), .val (.ref b_101), .val (.ref b_109), .val (.int x1), .val (.int y1), .val (.ref x_138_b)] [])) (fun t_ k_ => XS.icmpNo X_138.here hx rfl (hb hby at_221) rfl (teq hy1).2 k_) ?_
                refine own_st (S' := T_138.setTop (mkF m 226 #[.val (.int p0), .val (.int p1), .val (.int p2), .val (.int p3), .val (.int p4), .val (.int x0), .val (.int y0), .val (.int x1), .val (.int y1), .val (.int (1 : Int32)), .val (.ref b_76), .val (.ref b_79), .val (.ref b_83), .val (.ref b_88), .val (.ref b_94), .val (.ref b_101), .val (.ref b_109), .val (.int x1), .val (.int y1), .val (.ref x_138_b)] [(.ref x_138_b)])) (fun t_ k_ => XS.aload X_138.here hx rfl (hb hby at_224) rfl rfl k_) ?_
                obtain ⟨cl_139, Ar_139, q_139, S_139, M_139, H_139, G_139⟩ := id c_138_0
                refine own_st (S' := T_138.setTop (mkF m 227 #[.val (.int p0), .val (.int p1), .val (.int p2), .val (.int p3), .val (.int p4), .val (.int x0), .val (.int y0), .val (.int x1), .val (.int y1), .val (.int (1 : Int32)), .val (.ref b_76), .val (.ref b_79), .val (.ref b_83), .val (.ref b_88), .val (.ref b_94), .val (.ref b_101), .val (.ref b_109), .val (.int x1), .val (.int y1), .val (.ref x_138_b)] [(.int (1 : Int32))])) (fun t_ k_ => X_138.arraylength hx Ar_139.1 (State.isArrayOf_alike hZ.alike Ar_139.2.1) (g := (mkF m 226 #[.val (.int p0), .val (.int p1), .val (.int p2), .val (.int p3), .val (.int p4), .val (.int x0), .val (.int y0), .val (.int x1), .val (.int y1), .val (.int (1 : Int32)), .val (.ref b_76), .val (.ref b_79), .val (.ref b_83), .val (.ref b_88), .val (.ref b_94), .val (.ref b_101), .val (.ref b_109), .val (.int x1), .val (.int y1), .val (.ref x_138_b)] [(.ref x_138_b)])) rfl rfl (hb hby at_226) _ (by rw [len_of S_139 M_139]; exact k_)) ?_
                refine own_st (S' := T_138.setTop (mkF m 228 #[.val (.int p0), .val (.int p1), .val (.int p2), .val (.int p3), .val (.int p4), .val (.int x0), .val (.int y0), .val (.int x1), .val (.int y1), .val (.int (1 : Int32)), .val (.ref b_76), .val (.ref b_79), .val (.ref b_83), .val (.ref b_88), .val (.ref b_94), .val (.ref b_101), .val (.ref b_109), .val (.int x1), .val (.int y1), .val (.ref x_138_b)] [(.int (1 : Int32)), (.int (1 : Int32))])) (fun t_ k_ => XS.iconst X_138.here hx rfl (hb hby at_227) k_) ?_
                refine own_st (S' := T_138.setTop (mkF m 231 #[.val (.int p0), .val (.int p1), .val (.int p2), .val (.int p3), .val (.int p4), .val (.int x0), .val (.int y0), .val (.int x1), .val (.int y1), .val (.int (1 : Int32)), .val (.ref b_76), .val (.ref b_79), .val (.ref b_83), .val (.ref b_88), .val (.ref b_94), .val (.ref b_101), .val (.ref b_109), .val (.int x1), .val (.int y1), .val (.ref x_138_b)] [])) (fun t_ k_ => XS.icmpNo X_138.here hx rfl (hb hby at_228) rfl (teq (by decide : (1 : Int32) = (1 : Int32))).2 k_) ?_
                refine own_st (S' := T_138.setTop (mkF m 233 #[.val (.int p0), .val (.int p1), .val (.int p2), .val (.int p3), .val (.int p4), .val (.int x0), .val (.int y0), .val (.int x1), .val (.int y1), .val (.int (1 : Int32)), .val (.ref b_76), .val (.ref b_79), .val (.ref b_83), .val (.ref b_88), .val (.ref b_94), .val (.ref b_101), .val (.ref b_109), .val (.int x1), .val (.int y1), .val (.ref x_138_b)] [(.ref x_138_b)])) (fun t_ k_ => XS.aload X_138.here hx rfl (hb hby at_231) rfl rfl k_) ?_
                refine own_st (S' := T_138.setTop (mkF m 234 #[.val (.int p0), .val (.int p1), .val (.int p2), .val (.int p3), .val (.int p4), .val (.int x0), .val (.int y0), .val (.int x1), .val (.int y1), .val (.int (1 : Int32)), .val (.ref b_76), .val (.ref b_79), .val (.ref b_83), .val (.ref b_88), .val (.ref b_94), .val (.ref b_101), .val (.ref b_109), .val (.int x1), .val (.int y1), .val (.ref x_138_b)] [(.int (0 : Int32)), (.ref x_138_b)])) (fun t_ k_ => XS.iconst X_138.here hx rfl (hb hby at_233) k_) ?_
                obtain ⟨cl_140, Ar_140, q_140, S_140, M_140, H_140, G_140⟩ := id c_138_0
                have hin_140 : ¬ ((0 : Int32) < 0 ∨ cl_140.slots.size ≤ ((0 : Int32)).toNatClampNeg) := inb_of S_140 ⟨by decide, by decide⟩
                have hat_140 : cl_140.slots[((0 : Int32)).toNatClampNeg]? = some (.int x1) := H_140.at hin_140 rfl
                refine own_st (S' := T_138.setTop (mkF m 235 #[.val (.int p0), .val (.int p1), .val (.int p2), .val (.int p3), .val (.int p4), .val (.int x0), .val (.int y0), .val (.int x1), .val (.int y1), .val (.int (1 : Int32)), .val (.ref b_76), .val (.ref b_79), .val (.ref b_83), .val (.ref b_88), .val (.ref b_94), .val (.ref b_101), .val (.ref b_109), .val (.int x1), .val (.int y1), .val (.ref x_138_b)] [(.int x1)])) (fun t_ k_ => X_138.iaload hx (j := (0 : Int32)) (v := (.int x1)) Ar_140.1 (State.isArrayOf_alike hZ.alike Ar_140.2.1) Ar_140.2.2 hin_140 hat_140 (g := (mkF m 234 #[.val (.int p0), .val (.int p1), .val (.int p2), .val (.int p3), .val (.int p4), .val (.int x0), .val (.int y0), .val (.int x1), .val (.int y1), .val (.int (1 : Int32)), .val (.ref b_76), .val (.ref b_79), .val (.ref b_83), .val (.ref b_88), .val (.ref b_94), .val (.ref b_101), .val (.ref b_109), .val (.int x1), .val (.int y1), .val (.ref x_138_b)] [(.int (0 : Int32)), (.ref x_138_b)])) rfl rfl (hb hby at_234) _ k_) ?_
                refine own_st (S' := T_138.setTop (mkF m 237 #[.val (.int p0), .val (.int p1), .val (.int p2), .val (.int p3), .val (.int p4), .val (.int x0), .val (.int y0), .val (.int x1), .val (.int y1), .val (.int (1 : Int32)), .val (.ref b_76), .val (.ref b_79), .val (.ref b_83), .val (.ref b_88), .val (.ref b_94), .val (.ref b_101), .val (.ref b_109), .val (.int x1), .val (.int y1), .val (.ref x_138_b)] [(.int x1), (.int x1)])) (fun t_ k_ => XS.iload X_138.here hx rfl (hb hby at_235) rfl k_) ?_
                refine own_st (S' := T_138.setTop (mkF m 240 #[.val (.int p0), .val (.int p1), .val (.int p2), .val (.int p3), .val (.int p4), .val (.int x0), .val (.int y0), .val (.int x1), .val (.int y1), .val (.int (1 : Int32)), .val (.ref b_76), .val (.ref b_79), .val (.ref b_83), .val (.ref b_88), .val (.ref b_94), .val (.ref b_101), .val (.ref b_109), .val (.int x1), .val (.int y1), .val (.ref x_138_b)] [])) (fun t_ k_ => XS.icmpNo X_138.here hx rfl (hb hby at_237) rfl (teq (rfl : x1 = x1)).2 k_) ?_
                refine own_st (S' := T_138.setTop (mkF m 241 #[.val (.int p0), .val (.int p1), .val (.int p2), .val (.int p3), .val (.int p4), .val (.int x0), .val (.int y0), .val (.int x1), .val (.int y1), .val (.int (1 : Int32)), .val (.ref b_76), .val (.ref b_79), .val (.ref b_83), .val (.ref b_88), .val (.ref b_94), .val (.ref b_101), .val (.ref b_109), .val (.int x1), .val (.int y1), .val (.ref x_138_b)] [(.int (1 : Int32))])) (fun t_ k_ => XS.iconst X_138.here hx rfl (hb hby at_240) k_) ?_
                refine own_st (S' := T_138.setTop (mkF m 245 #[.val (.int p0), .val (.int p1), .val (.int p2), .val (.int p3), .val (.int p4), .val (.int x0), .val (.int y0), .val (.int x1), .val (.int y1), .val (.int (1 : Int32)), .val (.ref b_76), .val (.ref b_79), .val (.ref b_83), .val (.ref b_88), .val (.ref b_94), .val (.ref b_101), .val (.ref b_109), .val (.int x1), .val (.int y1), .val (.ref x_138_b)] [(.int (1 : Int32))])) (fun t_ k_ => XS.goto X_138.here hx rfl (pc0 := 241) (pc' := 245) rfl (hb hby at_241) (by decide) (by decide) k_) ?_
                obtain ⟨fs, hr, hrun, hended, hW, hsame⟩ := X_138.leave (v := some (.int (1 : Int32))) (fun h => by rw [Bd.returns] at h; cases h)
                refine ⟨_, _, retN X_138 hx (t := .boolean) Bd.returns (by simp) (hb hby at_245) hr, hrun, hended, _, _, rfl, ?_, ⟨_, rfl⟩, hW, hsame.mono (by decide) (by decide)⟩
                show Q0 Z p0 p1 p2 p3 p4 dd kd h0 n0 _ T_138.heap _
                exact ⟨rfl, N_138⟩
              · have f_141 : Exa Z T_123.heap b_101 "java/util/ArrayList" := (f_120.keep K_123c)
                have f_142 : Exa Z T_123.heap b_76 "[I" := (f_115.keep K_123c)
                have f_143 : Exa Z T_123.heap b_79 "[I" := (f_116.keep K_123c)
                have f_144 : Exa Z T_123.heap b_83 "[I" := (f_117.keep K_123c)
                have f_145 : Exa Z T_123.heap b_88 "[I" := (f_118.keep K_123c)
                have f_146 : Exa Z T_123.heap b_94 "[I" := (f_119.keep K_123c)
                obtain ⟨cq_147, kq_147, q_147a, q_147b, q_147c⟩ := isOf hZ rfl c_123_0
                obtain ⟨_, _, ⟨T_147, L_147, k_147, n_147⟩, -, X_147, ⟨Lc_147, hQ_147, l_147, y_147, z_147⟩, st_147⟩ := X_123.virtualBack hx (y := (⟨"com/example/frisk/frisk/pattern/StateGraph", "successors", "(I)[I"⟩ : MethodName)) (z := (⟨"com/example/frisk/frisk/pattern/StateGraph", "successors", "(I)[I"⟩ : MethodName)) hown (mvT hZ (hw _ (List.mem_of_getElem? (i := 100) rfl))) (mvT hZ (hw _ (List.mem_of_getElem? (i := 101) rfl))) (notFace_of_selects (args := #[]) (mvT hZ (hw _ (List.mem_of_getElem? (i := 103) rfl)))) (mvT hZ (hw _ (List.mem_of_getElem? (i := 103) rfl))) (mvT hZ (hw _ (List.mem_of_getElem? (i := 102) rfl))) (by decide) (backOf (W := 0) (rm10f l Z a0 hw [] b_109 x_123_bx x_123_by_ k_79 k_83 x0 x1 y0 y1 T_123.heap n0 Z_123 c_123_1 c_123_2 c_123_3 c_123_4 hx1 hy1) hZ (hw _ (List.mem_of_getElem? (i := 104) rfl)) (hw _ (List.mem_of_getElem? (i := 29) rfl)) (by decide) (by decide)) q_147a q_147c (g := (mkF m 195 #[.val (.int p0), .val (.int p1), .val (.int p2), .val (.int p3), .val (.int p4), .val (.int x0), .val (.int y0), .val (.int x1), .val (.int y1), .val (.int (1 : Int32)), .val (.ref b_76), .val (.ref b_79), .val (.ref b_83), .val (.ref b_88), .val (.ref b_94), .val (.ref b_101), .val (.ref b_109), .val (.int x1), .val (.int y1), .unset] [(.int (1 : Int32)), (.ref b_109)])) rfl (by rw [hml]; rfl) (Steps.refl _) (argsL := [(.int (1 : Int32))]) (rest := []) (lenOf pd_7 rfl) rfl (by show 2 * 0 + _ ≤ _; exact Nat.le_of_eq rfl) (hb hby at_195) (fun _ _ => ⟨rfl, rfl, (by decide : 16 + 1 ≤ _), (by decide : 37 + 2 ≤ _)⟩)
                dsimp only [Pt.U, Pt.locs, Pt.cells, Pt.slots] at X_147 l_147 y_147 z_147 st_147 hQ_147
                subst l_147 y_147 z_147
                obtain ⟨x_147_b, x_147_k, rfl, M_147, K_147c, z_147_0, c_147_0⟩ := hQ_147
                have N_147 := Fr.app N_123 M_147
                have ne_b_101_x_147_b : b_101 ≠ x_147_b := Nat.ne_of_lt (Nat.lt_of_lt_of_le f_141.lt z_147_0)
                have ne_b_109_x_147_b : b_109 ≠ x_147_b := Nat.ne_of_lt (Nat.lt_of_lt_of_le c_123_0.lt z_147_0)
                have ne_b_76_x_147_b : b_76 ≠ x_147_b := Nat.ne_of_lt (Nat.lt_of_lt_of_le f_142.lt z_147_0)
                have ne_b_79_x_147_b : b_79 ≠ x_147_b := Nat.ne_of_lt (Nat.lt_of_lt_of_le f_143.lt z_147_0)
                have ne_b_83_x_147_b : b_83 ≠ x_147_b := Nat.ne_of_lt (Nat.lt_of_lt_of_le f_144.lt z_147_0)
                have ne_b_88_x_147_b : b_88 ≠ x_147_b := Nat.ne_of_lt (Nat.lt_of_lt_of_le f_145.lt z_147_0)
                have ne_b_94_x_147_b : b_94 ≠ x_147_b := Nat.ne_of_lt (Nat.lt_of_lt_of_le f_146.lt z_147_0)
                have ne_x_123_bx_x_147_b : x_123_bx ≠ x_147_b := Nat.ne_of_lt (Nat.lt_of_lt_of_le c_123_3.lt z_147_0)
                have ne_x_123_by__x_147_b : x_123_by_ ≠ x_147_b := Nat.ne_of_lt (Nat.lt_of_lt_of_le c_123_4.lt z_147_0)
                have g_x_147_b : n0 ≤ x_147_b := Nat.le_trans Z_123 z_147_0
                have Z_147 : n0 ≤ T_147.heap.size := Nat.le_trans Z_123 K_147c.1
                refine own_st (S' := T_147.setTop (mkF m 198 #[.val (.int p0), .val (.int p1), .val (.int p2), .val (.int p3), .val (.int p4), .val (.int x0), .val (.int y0), .val (.int x1), .val (.int y1), .val (.int (1 : Int32)), .val (.ref b_76), .val (.ref b_79), .val (.ref b_83), .val (.ref b_88), .val (.ref b_94), .val (.ref b_101), .val (.ref b_109), .val (.int x1), .val (.int y1), .unset] [(.ref x_147_b)])) (fun t_ k_ => st_147.trans k_) ?_
                refine own_st (S' := T_147.setTop (mkF m 200 #[.val (.int p0), .val (.int p1), .val (.int p2), .val (.int p3), .val (.int p4), .val (.int x0), .val (.int y0), .val (.int x1), .val (.int y1), .val (.int (1 : Int32)), .val (.ref b_76), .val (.ref b_79), .val (.ref b_83), .val (.ref b_88), .val (.ref b_94), .val (.ref b_101), .val (.ref b_109), .val (.int x1), .val (.int y1), .val (.ref x_147_b)] [])) (fun t_ k_ => XS.astore X_147.here hx rfl (hb hby at_198) rfl rfl (l' := #[.val (.int p0), .val (.int p1), .val (.int p2), .val (.int p3), .val (.int p4), .val (.int x0), .val (.int y0), .val (.int x1), .val (.int y1), .val (.int (1 : Int32)), .val (.ref b_76), .val (.ref b_79), .val (.ref b_83), .val (.ref b_88), .val (.ref b_94), .val (.ref b_101), .val (.ref b_109), .val (.int x1), .val (.int y1), .val (.ref x_147_b)]) rfl k_) ?_
                refine own_st (S' := T_147.setTop (mkF m 202 #[.val (.int p0), .val (.int p1), .val (.int p2), .val (.int p3), .val (.int p4), .val (.int x0), .val (.int y0), .val (.int x1), .val (.int y1), .val (.int (1 : Int32)), .val (.ref b_76), .val (.ref b_79), .val (.ref b_83), .val (.ref b_88), .val (.ref b_94), .val (.ref b_101), .val (.ref b_109), .val (.int x1), .val (.int y1), .val (.ref x_147_b)] [(.int x1)])) (fun t_ k_ => XS.iload X_147.here hx rfl (hb hby at_200) rfl k_) ?_
                refine own_st (S' := T_147.setTop (mkF m 203 #[.val (.int p0), .val (.int p1), .val (.int p2), .val (.int p3), .val (.int p4), .val (.int x0), .val (.int y0), .val (.int x1), .val (.int y1), .val (.int (1 : Int32)), .val (.ref b_76), .val (.ref b_79), .val (.ref b_83), .val (.ref b_88), .val (.ref b_94), .val (.ref b_101), .val (.ref b_109), .val (.int x1), .val (.int y1), .val (.ref x_147_b)] [(.int (-1 : Int32)), (.int x1)])) (fun t_ k_ => XS.iconst X_147.here hx rfl (hb hby at_202) k_) ?_
                refine own_st (S' := T_147.setTop (mkF m 218 #[.val (.int p0), .val (.int p1), .val (.int p2), .val (.int p3), .val (.int p4), .val (.int x0), .val (.int y0), .val (.int x1), .val (.int y1), .val (.int (1 : Int32)), .val (.ref b_76), .val (.ref b_79), .val (.ref b_83), .val (.ref b_88), .val (.ref b_94), .val (.ref b_101), .val (.ref b_109), .val (.int x1), .val (.int y1), .val (.ref x_147_b)] [])) (fun t_ k_ => XS.icmpYes X_147.here hx rfl (pc0 := 203) (pc' := 218) rfl (hb hby at_203) rfl (feq hx1).2 (by decide) (by decide) k_) ?_
                refine own_st (S' := T_147.setTop (mkF m 220 #[.val (.int p0), .val (.int p1), .val (.int p2), .val (.int p3), .val (.int p4), .val (.int x0), .val (.int y0), .val (.int x1), .val (.int y1), .val (.int (1 : Int32)), .val (.ref b_76), .val (.ref b_79), .val (.ref b_83), .val (.ref b_88), .val (.ref b_94), .val (.ref b_101), .val (.ref b_109), .val (.int x1), .val (.int y1), .val (.ref x_147_b)] [(.int y1)])) (fun t_ k_ => XS.iload X_147.here hx rfl (hb hby at_218) rfl k_) ?_
                refine own_st (S' := T_147.setTop (mkF m 221 #[.val (.int p0), .val (.int p1), .val (.int p2), .val (.int p3), .val (.int p4), .val (.int x0), .val (.int y0), .val (.int x1), .val (.int y1), .val (.int (1 : Int32)), .val (.ref b_76), .val (.ref b_79), .val (.ref b_83), .val (.ref b_88), .val (.ref b_94), .val (.ref b_101), .val (.ref b_109), .val (.int x1), .val (.int y1), .val (.ref x_147_b)] [(.int (-1 : Int32)), (.int y1)])) (fun t_ k_ => XS.iconst X_147.here hx rfl (hb hby at_220) k_) ?_
                refine own_st (S' := T_147.setTop (mkF m 246 #[.val (.int p0), .val (.int p1), .val (.int p2), .val (.int p3), .val (.int p4), .val (.int x0), .val (.int y0), .val (.int x1), .val (.int y1), .val (.int (1 : Int32)), .val (.ref b_76), .val (.ref b_79), .val (.ref b_83), .val (.ref b_88), .val (.ref b_94), .val (.ref b_101), .val (.ref b_109), .val (.int x1), .val (.int y1), .val (.ref x_147_b)] [])) (fun t_ k_ => XS.icmpYes X_147.here hx rfl (pc0 := 221) (pc' := 246) rfl (hb hby at_221) rfl (feq hy1).2 (by decide) (by decide) k_) ?_
                refine own_st (S' := T_147.setTop (mkF m 248 #[.val (.int p0), .val (.int p1), .val (.int p2), .val (.int p3), .val (.int p4), .val (.int x0), .val (.int y0), .val (.int x1), .val (.int y1), .val (.int (1 : Int32)), .val (.ref b_76), .val (.ref b_79), .val (.ref b_83), .val (.ref b_88), .val (.ref b_94), .val (.ref b_101), .val (.ref b_109), .val (.int x1), .val (.int y1), .val (.ref x_147_b)] [(.ref x_147_b)])) (fun t_ k_ => XS.aload X_147.here hx rfl (hb hby at_246) rfl rfl k_) ?_
                obtain ⟨cl_148, Ar_148, q_148, S_148, M_148, H_148, G_148⟩ := id c_147_0
                refine own_st (S' := T_147.setTop (mkF m 249 #[.val (.int p0), .val (.int p1), .val (.int p2), .val (.int p3), .val (.int p4), .val (.int x0), .val (.int y0), .val (.int x1), .val (.int y1), .val (.int (1 : Int32)), .val (.ref b_76), .val (.ref b_79), .val (.ref b_83), .val (.ref b_88), .val (.ref b_94), .val (.ref b_101), .val (.ref b_109), .val (.int x1), .val (.int y1), .val (.ref x_147_b)] [(.int (2 : Int32))])) (fun t_ k_ => X_147.arraylength hx Ar_148.1 (State.isArrayOf_alike hZ.alike Ar_148.2.1) (g := (mkF m 248 #[.val (.int p0), .val (.int p1), .val (.int p2), .val (.int p3), .val (.int p4), .val (.int x0), .val (.int y0), .val (.int x1), .val (.int y1), .val (.int (1 : Int32)), .val (.ref b_76), .val (.ref b_79), .val (.ref b_83), .val (.ref b_88), .val (.ref b_94), .val (.ref b_101), .val (.ref b_109), .val (.int x1), .val (.int y1), .val (.ref x_147_b)] [(.ref x_147_b)])) rfl rfl (hb hby at_248) _ (by rw [len_of S_148 M_148]; exact k_)) ?_
                refine own_st (S' := T_147.setTop (mkF m 250 #[.val (.int p0), .val (.int p1), .val (.int p2), .val (.int p3), .val (.int p4), .val (.int x0), .val (.int y0), .val (.int x1), .val (.int y1), .val (.int (1 : Int32)), .val (.ref b_76), .val (.ref b_79), .val (.ref b_83), .val (.ref b_88), .val (.ref b_94), .val (.ref b_101), .val (.ref b_109), .val (.int x1), .val (.int y1), .val (.ref x_147_b)] [(.int (2 : Int32)), (.int (2 : Int32))])) (fun t_ k_ => XS.iconst X_147.here hx rfl (hb hby at_249) k_) ?_
                refine own_st (S' := T_147.setTop (mkF m 253 #[.val (.int p0), .val (.int p1), .val (.int p2), .val (.int p3), .val (.int p4), .val (.int x0), .val (.int y0), .val (.int x1), .val (.int y1), .val (.int (1 : Int32)), .val (.ref b_76), .val (.ref b_79), .val (.ref b_83), .val (.ref b_88), .val (.ref b_94), .val (.ref b_101), .val (.ref b_109), .val (.int x1), .val (.int y1), .val (.ref x_147_b)] [])) (fun t_ k_ => XS.icmpNo X_147.here hx rfl (hb hby at_250) rfl (teq (by decide : (2 : Int32) = (2 : Int32))).2 k_) ?_
                refine own_st (S' := T_147.setTop (mkF m 255 #[.val (.int p0), .val (.int p1), .val (.int p2), .val (.int p3), .val (.int p4), .val (.int x0), .val (.int y0), .val (.int x1), .val (.int y1), .val (.int (1 : Int32)), .val (.ref b_76), .val (.ref b_79), .val (.ref b_83), .val (.ref b_88), .val (.ref b_94), .val (.ref b_101), .val (.ref b_109), .val (.int x1), .val (.int y1), .val (.ref x_147_b)] [(.ref x_147_b)])) (fun t_ k_ => XS.aload X_147.here hx rfl (hb hby at_253) rfl rfl k_) ?_
                refine own_st (S' := T_147.setTop (mkF m 256 #[.val (.int p0), .val (.int p1), .val (.int p2), .val (.int p3), .val (.int p4), .val (.int x0), .val (.int y0), .val (.int x1), .val (.int y1), .val (.int (1 : Int32)), .val (.ref b_76), .val (.ref b_79), .val (.ref b_83), .val (.ref b_88), .val (.ref b_94), .val (.ref b_101), .val (.ref b_109), .val (.int x1), .val (.int y1), .val (.ref x_147_b)] [(.int (0 : Int32)), (.ref x_147_b)])) (fun t_ k_ => XS.iconst X_147.here hx rfl (hb hby at_255) k_) ?_
                obtain ⟨cl_149, Ar_149, q_149, S_149, M_149, H_149, G_149⟩ := id c_147_0
                have hin_149 : ¬ ((0 : Int32) < 0 ∨ cl_149.slots.size ≤ ((0 : Int32)).toNatClampNeg) := inb_of S_149 ⟨by decide, by decide⟩
                have hat_149 : cl_149.slots[((0 : Int32)).toNatClampNeg]? = some (.int x1) := H_149.at hin_149 rfl
                refine own_st (S' := T_147.setTop (mkF m 257 #[.val (.int p0), .val (.int p1), .val (.int p2), .val (.int p3), .val (.int p4), .val (.int x0), .val (.int y0), .val (.int x1), .val (.int y1), .val (.int (1 : Int32)), .val (.ref b_76), .val (.ref b_79), .val (.ref b_83), .val (.ref b_88), .val (.ref b_94), .val (.ref b_101), .val (.ref b_109), .val (.int x1), .val (.int y1), .val (.ref x_147_b)] [(.int x1)])) (fun t_ k_ => X_147.iaload hx (j := (0 : Int32)) (v := (.int x1)) Ar_149.1 (State.isArrayOf_alike hZ.alike Ar_149.2.1) Ar_149.2.2 hin_149 hat_149 (g := (mkF m 256 #[.val (.int p0), .val (.int p1), .val (.int p2), .val (.int p3), .val (.int p4), .val (.int x0), .val (.int y0), .val (.int x1), .val (.int y1), .val (.int (1 : Int32)), .val (.ref b_76), .val (.ref b_79), .val (.ref b_83), .val (.ref b_88), .val (.ref b_94), .val (.ref b_101), .val (.ref b_109), .val (.int x1), .val (.int y1), .val (.ref x_147_b)] [(.int (0 : Int32)), (.ref x_147_b)])) rfl rfl (hb hby at_256) _ k_) ?_
                refine own_st (S' := T_147.setTop (mkF m 259 #[.val (.int p0), .val (.int p1), .val (.int p2), .val (.int p3), .val (.int p4), .val (.int x0), .val (.int y0), .val (.int x1), .val (.int y1), .val (.int (1 : Int32)), .val (.ref b_76), .val (.ref b_79), .val (.ref b_83), .val (.ref b_88), .val (.ref b_94), .val (.ref b_101), .val (.ref b_109), .val (.int x1), .val (.int y1), .val (.ref x_147_b)] [(.int x1), (.int x1)])) (fun t_ k_ => XS.iload X_147.here hx rfl (hb hby at_257) rfl k_) ?_
                refine own_st (S' := T_147.setTop (mkF m 262 #[.val (.int p0), .val (.int p1), .val (.int p2), .val (.int p3), .val (.int p4), .val (.int x0), .val (.int y0), .val (.int x1), .val (.int y1), .val (.int (1 : Int32)), .val (.ref b_76), .val (.ref b_79), .val (.ref b_83), .val (.ref b_88), .val (.ref b_94), .val (.ref b_101), .val (.ref b_109), .val (.int x1), .val (.int y1), .val (.ref x_147_b)] [])) (fun t_ k_ => XS.icmpNo X_147.here hx rfl (hb hby at_259) rfl (teq (rfl : x1 = x1)).2 k_) ?_
                refine own_st (S' := T_147.setTop (mkF m 264 #[.val (.int p0), .val (.int p1), .val (.int p2), .val (.int p3), .val (.int p4), .val (.int x0), .val (.int y0), .val (.int x1), .val (.int y1), .val (.int (1 : Int32)), .val (.ref b_76), .val (.ref b_79), .val (.ref b_83), .val (.ref b_88), .val (.ref b_94), .val (.ref b_101), .val (.ref b_109), .val (.int x1), .val (.int y1), .val (.ref x_147_b)] [(.ref x_147_b)])) (fun t_ k_ => XS.aload X_147.here hx rfl (hb hby at_262) rfl rfl k_) ?_
                refine own_st (S' := T_147.setTop (mkF m 265 #[.val (.int p0), .val (.int p1), .val (.int p2), .val (.int p3), .val (.int p4), .val (.int x0), .val (.int y0), .val (.int x1), .val (.int y1), .val (.int (1 : Int32)), .val (.ref b_76), .val (.ref b_79), .val (.ref b_83), .val (.ref b_88), .val (.ref b_94), .val (.ref b_101), .val (.ref b_109), .val (.int x1), .val (.int y1), .val (.ref x_147_b)] [(.int (1 : Int32)), (.ref x_147_b)])) (fun t_ k_ => XS.iconst X_147.here hx rfl (hb hby at_264) k_) ?_
                obtain ⟨cl_150, Ar_150, q_150, S_150, M_150, H_150, G_150⟩ := id c_147_0
                have hin_150 : ¬ ((1 : Int32) < 0 ∨ cl_150.slots.size ≤ ((1 : Int32)).toNatClampNeg) := inb_of S_150 ⟨by decide, by decide⟩
                have hat_150 : cl_150.slots[((1 : Int32)).toNatClampNeg]? = some (.int y1) := H_150.at hin_150 rfl
                refine own_st (S' := T_147.setTop (mkF m 266 #[.val (.int p0), .val (.int p1), .val (.int p2), .val (.int p3), .val (.int p4), .val (.int x0), .val (.int y0), .val (.int x1), .val (.int y1), .val (.int (1 : Int32)), .val (.ref b_76), .val (.ref b_79), .val (.ref b_83), .val (.ref b_88), .val (.ref b_94), .val (.ref b_101), .val (.ref b_109), .val (.int x1), .val (.int y1), .val (.ref x_147_b)] [(.int y1)])) (fun t_ k_ => X_147.iaload hx (j := (1 : Int32)) (v := (.int y1)) Ar_150.1 (State.isArrayOf_alike hZ.alike Ar_150.2.1) Ar_150.2.2 hin_150 hat_150 (g := (mkF m 265 #[.val (.int p0), .val (.int p1), .val (.int p2), .val (.int p3), .val (.int p4), .val (.int x0), .val (.int y0), .val (.int x1), .val (.int y1), .val (.int (1 : Int32)), .val (.ref b_76), .val (.ref b_79), .val (.ref b_83), .val (.ref b_88), .val (.ref b_94), .val (.ref b_101), .val (.ref b_109), .val (.int x1), .val (.int y1), .val (.ref x_147_b)] [(.int (1 : Int32)), (.ref x_147_b)])) rfl rfl (hb hby at_265) _ k_) ?_
                refine own_st (S' := T_147.setTop (mkF m 268 #[.val (.int p0), .val (.int p1), .val (.int p2), .val (.int p3), .val (.int p4), .val (.int x0), .val (.int y0), .val (.int x1), .val (.int y1), .val (.int (1 : Int32)), .val (.ref b_76), .val (.ref b_79), .val (.ref b_83), .val (.ref b_88), .val (.ref b_94), .val (.ref b_101), .val (.ref b_109), .val (.int x1), .val (.int y1), .val (.ref x_147_b)] [(.int y1), (.int y1)])) (fun t_ k_ => XS.iload X_147.here hx rfl (hb hby at_266) rfl k_) ?_
                refine own_st (S' := T_147.setTop (mkF m 271 #[.val (.int p0), .val (.int p1), .val (.int p2), .val (.int p3), .val (.int p4), .val (.int x0), .val (.int y0), .val (.int x1), .val (.int y1), .val (.int (1 : Int32)), .val (.ref b_76), .val (.ref b_79), .val (.ref b_83), .val (.ref b_88), .val (.ref b_94), .val (.ref b_101), .val (.ref b_109), .val (.int x1), .val (.int y1), .val (.ref x_147_b)] [])) (fun t_ k_ => XS.icmpNo X_147.here hx rfl (hb hby at_268) rfl (teq (rfl : y1 = y1)).2 k_) ?_
                refine own_st (S' := T_147.setTop (mkF m 272 #[.val (.int p0), .val (.int p1), .val (.int p2), .val (.int p3), .val (.int p4), .val (.int x0), .val (.int y0), .val (.int x1), .val (.int y1), .val (.int (1 : Int32)), .val (.ref b_76), .val (.ref b_79), .val (.ref b_83), .val (.ref b_88), .val (.ref b_94), .val (.ref b_101), .val (.ref b_109), .val (.int x1), .val (.int y1), .val (.ref x_147_b)] [(.int (1 : Int32))])) (fun t_ k_ => XS.iconst X_147.here hx rfl (hb hby at_271) k_) ?_
                refine own_st (S' := T_147.setTop (mkF m 276 #[.val (.int p0), .val (.int p1), .val (.int p2), .val (.int p3), .val (.int p4), .val (.int x0), .val (.int y0), .val (.int x1), .val (.int y1), .val (.int (1 : Int32)), .val (.ref b_76), .val (.ref b_79), .val (.ref b_83), .val (.ref b_88), .val (.ref b_94), .val (.ref b_101), .val (.ref b_109), .val (.int x1), .val (.int y1), .val (.ref x_147_b)] [(.int (1 : Int32))])) (fun t_ k_ => XS.goto X_147.here hx rfl (pc0 := 272) (pc' := 276) rfl (hb hby at_272) (by decide) (by decide) k_) ?_
                obtain ⟨fs, hr, hrun, hended, hW, hsame⟩ := X_147.leave (v := some (.int (1 : Int32))) (fun h => by rw [Bd.returns] at h; cases h)
                refine ⟨_, _, retN X_147 hx (t := .boolean) Bd.returns (by simp) (hb hby at_276) hr, hrun, hended, _, _, rfl, ?_, ⟨_, rfl⟩, hW, hsame.mono (by decide) (by decide)⟩
                show Q0 Z p0 p1 p2 p3 p4 dd kd h0 n0 _ T_147.heap _
                exact ⟨rfl, N_147⟩
        · by_cases hc43 : (p0 &&& (8 : Int32)) = (0 : Int32)
          · refine own_st (S' := s₁.setTop (mkF m 50 #[.val (.int p0), .val (.int p1), .val (.int p2), .val (.int p3), .val (.int p4), .val (.int x0), .val (.int y0), .val (.int x1), .unset, .unset, .unset, .unset, .unset, .unset, .unset, .unset, .unset, .unset, .unset, .unset] [])) (fun t_ k_ => XS.ifYes X0.here hx rfl (pc0 := 43) (pc' := 50) rfl (hb hby at_43) rfl ((if0 _ _).trans (teq hc43).1) (by decide) (by decide) k_) ?_
            refine own_st (S' := s₁.setTop (mkF m 52 #[.val (.int p0), .val (.int p1), .val (.int p2), .val (.int p3), .val (.int p4), .val (.int x0), .val (.int y0), .val (.int x1), .unset, .unset, .unset, .unset, .unset, .unset, .unset, .unset, .unset, .unset, .unset, .unset] [(.int p4)])) (fun t_ k_ => XS.iload X0.here hx rfl (hb hby at_50) rfl k_) ?_
            refine own_st (S' := s₁.setTop (mkF m 54 #[.val (.int p0), .val (.int p1), .val (.int p2), .val (.int p3), .val (.int p4), .val (.int x0), .val (.int y0), .val (.int x1), .val (.int p4), .unset, .unset, .unset, .unset, .unset, .unset, .unset, .unset, .unset, .unset, .unset] [])) (fun t_ k_ => XS.istore X0.here hx rfl (hb hby at_52) rfl (l' := #[.val (.int p0), .val (.int p1), .val (.int p2), .val (.int p3), .val (.int p4), .val (.int x0), .val (.int y0), .val (.int x1), .val (.int p4), .unset, .unset, .unset, .unset, .unset, .unset, .unset, .unset, .unset, .unset, .unset]) rfl k_) ?_
            exact J54 _ trivial
          · refine own_st (S' := s₁.setTop (mkF m 46 #[.val (.int p0), .val (.int p1), .val (.int p2), .val (.int p3), .val (.int p4), .val (.int x0), .val (.int y0), .val (.int x1), .unset, .unset, .unset, .unset, .unset, .unset, .unset, .unset, .unset, .unset, .unset, .unset] [])) (fun t_ k_ => XS.ifNo X0.here hx rfl (hb hby at_43) rfl ((if0 _ _).trans (feq hc43).1) k_) ?_
            refine own_st (S' := s₁.setTop (mkF m 47 #[.val (.int p0), .val (.int p1), .val (.int p2), .val (.int p3), .val (.int p4), .val (.int x0), .val (.int y0), .val (.int x1), .unset, .unset, .unset, .unset, .unset, .unset, .unset, .unset, .unset, .unset, .unset, .unset] [(.int (-1 : Int32))])) (fun t_ k_ => XS.iconst X0.here hx rfl (hb hby at_46) k_) ?_
            refine own_st (S' := s₁.setTop (mkF m 52 #[.val (.int p0), .val (.int p1), .val (.int p2), .val (.int p3), .val (.int p4), .val (.int x0), .val (.int y0), .val (.int x1), .unset, .unset, .unset, .unset, .unset, .unset, .unset, .unset, .unset, .unset, .unset, .unset] [(.int (-1 : Int32))])) (fun t_ k_ => XS.goto X0.here hx rfl (pc0 := 47) (pc' := 52) rfl (hb hby at_47) (by decide) (by decide) k_) ?_
            refine own_st (S' := s₁.setTop (mkF m 54 #[.val (.int p0), .val (.int p1), .val (.int p2), .val (.int p3), .val (.int p4), .val (.int x0), .val (.int y0), .val (.int x1), .val (.int (-1 : Int32)), .unset, .unset, .unset, .unset, .unset, .unset, .unset, .unset, .unset, .unset, .unset] [])) (fun t_ k_ => XS.istore X0.here hx rfl (hb hby at_52) rfl (l' := #[.val (.int p0), .val (.int p1), .val (.int p2), .val (.int p3), .val (.int p4), .val (.int x0), .val (.int y0), .val (.int x1), .val (.int (-1 : Int32)), .unset, .unset, .unset, .unset, .unset, .unset, .unset, .unset, .unset, .unset, .unset]) rfl k_) ?_
            exact J54 _ trivial
      · by_cases hc29 : (p0 &&& (4 : Int32)) = (0 : Int32)
        · refine own_st (S' := s₁.setTop (mkF m 36 #[.val (.int p0), .val (.int p1), .val (.int p2), .val (.int p3), .val (.int p4), .val (.int x0), .val (.int y0), .unset, .unset, .unset, .unset, .unset, .unset, .unset, .unset, .unset, .unset, .unset, .unset, .unset] [])) (fun t_ k_ => XS.ifYes X0.here hx rfl (pc0 := 29) (pc' := 36) rfl (hb hby at_29) rfl ((if0 _ _).trans (teq hc29).1) (by decide) (by decide) k_) ?_
          refine own_st (S' := s₁.setTop (mkF m 37 #[.val (.int p0), .val (.int p1), .val (.int p2), .val (.int p3), .val (.int p4), .val (.int x0), .val (.int y0), .unset, .unset, .unset, .unset, .unset, .unset, .unset, .unset, .unset, .unset, .unset, .unset, .unset] [(.int p3)])) (fun t_ k_ => XS.iloadN X0.here hx rfl (hb hby at_36) rfl k_) ?_
          refine own_st (S' := s₁.setTop (mkF m 39 #[.val (.int p0), .val (.int p1), .val (.int p2), .val (.int p3), .val (.int p4), .val (.int x0), .val (.int y0), .val (.int p3), .unset, .unset, .unset, .unset, .unset, .unset, .unset, .unset, .unset, .unset, .unset, .unset] [])) (fun t_ k_ => XS.istore X0.here hx rfl (hb hby at_37) rfl (l' := #[.val (.int p0), .val (.int p1), .val (.int p2), .val (.int p3), .val (.int p4), .val (.int x0), .val (.int y0), .val (.int p3), .unset, .unset, .unset, .unset, .unset, .unset, .unset, .unset, .unset, .unset, .unset, .unset]) rfl k_) ?_
          exact J39 _ trivial
        · refine own_st (S' := s₁.setTop (mkF m 32 #[.val (.int p0), .val (.int p1), .val (.int p2), .val (.int p3), .val (.int p4), .val (.int x0), .val (.int y0), .unset, .unset, .unset, .unset, .unset, .unset, .unset, .unset, .unset, .unset, .unset, .unset, .unset] [])) (fun t_ k_ => XS.ifNo X0.here hx rfl (hb hby at_29) rfl ((if0 _ _).trans (feq hc29).1) k_) ?_
          refine own_st (S' := s₁.setTop (mkF m 33 #[.val (.int p0), .val (.int p1), .val (.int p2), .val (.int p3), .val (.int p4), .val (.int x0), .val (.int y0), .unset, .unset, .unset, .unset, .unset, .unset, .unset, .unset, .unset, .unset, .unset, .unset, .unset] [(.int (-1 : Int32))])) (fun t_ k_ => XS.iconst X0.here hx rfl (hb hby at_32) k_) ?_
          refine own_st (S' := s₁.setTop (mkF m 37 #[.val (.int p0), .val (.int p1), .val (.int p2), .val (.int p3), .val (.int p4), .val (.int x0), .val (.int y0), .unset, .unset, .unset, .unset, .unset, .unset, .unset, .unset, .unset, .unset, .unset, .unset, .unset] [(.int (-1 : Int32))])) (fun t_ k_ => XS.goto X0.here hx rfl (pc0 := 33) (pc' := 37) rfl (hb hby at_33) (by decide) (by decide) k_) ?_
          refine own_st (S' := s₁.setTop (mkF m 39 #[.val (.int p0), .val (.int p1), .val (.int p2), .val (.int p3), .val (.int p4), .val (.int x0), .val (.int y0), .val (.int (-1 : Int32)), .unset, .unset, .unset, .unset, .unset, .unset, .unset, .unset, .unset, .unset, .unset, .unset] [])) (fun t_ k_ => XS.istore X0.here hx rfl (hb hby at_37) rfl (l' := #[.val (.int p0), .val (.int p1), .val (.int p2), .val (.int p3), .val (.int p4), .val (.int x0), .val (.int y0), .val (.int (-1 : Int32)), .unset, .unset, .unset, .unset, .unset, .unset, .unset, .unset, .unset, .unset, .unset, .unset]) rfl k_) ?_
          exact J39 _ trivial
    · by_cases hc16 : (p0 &&& (2 : Int32)) = (0 : Int32)
      · refine own_st (S' := s₁.setTop (mkF m 23 #[.val (.int p0), .val (.int p1), .val (.int p2), .val (.int p3), .val (.int p4), .val (.int x0), .unset, .unset, .unset, .unset, .unset, .unset, .unset, .unset, .unset, .unset, .unset, .unset, .unset, .unset] [])) (fun t_ k_ => XS.ifYes X0.here hx rfl (pc0 := 16) (pc' := 23) rfl (hb hby at_16) rfl ((if0 _ _).trans (teq hc16).1) (by decide) (by decide) k_) ?_
        refine own_st (S' := s₁.setTop (mkF m 24 #[.val (.int p0), .val (.int p1), .val (.int p2), .val (.int p3), .val (.int p4), .val (.int x0), .unset, .unset, .unset, .unset, .unset, .unset, .unset, .unset, .unset, .unset, .unset, .unset, .unset, .unset] [(.int p2)])) (fun t_ k_ => XS.iloadN X0.here hx rfl (hb hby at_23) rfl k_) ?_
        refine own_st (S' := s₁.setTop (mkF m 26 #[.val (.int p0), .val (.int p1), .val (.int p2), .val (.int p3), .val (.int p4), .val (.int x0), .val (.int p2), .unset, .unset, .unset, .unset, .unset, .unset, .unset, .unset, .unset, .unset, .unset, .unset, .unset] [])) (fun t_ k_ => XS.istore X0.here hx rfl (hb hby at_24) rfl (l' := #[.val (.int p0), .val (.int p1), .val (.int p2), .val (.int p3), .val (.int p4), .val (.int x0), .val (.int p2), .unset, .unset, .unset, .unset, .unset, .unset, .unset, .unset, .unset, .unset, .unset, .unset, .unset]) rfl k_) ?_
        exact J26 _ trivial
      · refine own_st (S' := s₁.setTop (mkF m 19 #[.val (.int p0), .val (.int p1), .val (.int p2), .val (.int p3), .val (.int p4), .val (.int x0), .unset, .unset, .unset, .unset, .unset, .unset, .unset, .unset, .unset, .unset, .unset, .unset, .unset, .unset] [])) (fun t_ k_ => XS.ifNo X0.here hx rfl (hb hby at_16) rfl ((if0 _ _).trans (feq hc16).1) k_) ?_
        refine own_st (S' := s₁.setTop (mkF m 20 #[.val (.int p0), .val (.int p1), .val (.int p2), .val (.int p3), .val (.int p4), .val (.int x0), .unset, .unset, .unset, .unset, .unset, .unset, .unset, .unset, .unset, .unset, .unset, .unset, .unset, .unset] [(.int (-1 : Int32))])) (fun t_ k_ => XS.iconst X0.here hx rfl (hb hby at_19) k_) ?_
        refine own_st (S' := s₁.setTop (mkF m 24 #[.val (.int p0), .val (.int p1), .val (.int p2), .val (.int p3), .val (.int p4), .val (.int x0), .unset, .unset, .unset, .unset, .unset, .unset, .unset, .unset, .unset, .unset, .unset, .unset, .unset, .unset] [(.int (-1 : Int32))])) (fun t_ k_ => XS.goto X0.here hx rfl (pc0 := 20) (pc' := 24) rfl (hb hby at_20) (by decide) (by decide) k_) ?_
        refine own_st (S' := s₁.setTop (mkF m 26 #[.val (.int p0), .val (.int p1), .val (.int p2), .val (.int p3), .val (.int p4), .val (.int x0), .val (.int (-1 : Int32)), .unset, .unset, .unset, .unset, .unset, .unset, .unset, .unset, .unset, .unset, .unset, .unset, .unset] [])) (fun t_ k_ => XS.istore X0.here hx rfl (hb hby at_24) rfl (l' := #[.val (.int p0), .val (.int p1), .val (.int p2), .val (.int p3), .val (.int p4), .val (.int x0), .val (.int (-1 : Int32)), .unset, .unset, .unset, .unset, .unset, .unset, .unset, .unset, .unset, .unset, .unset, .unset, .unset]) rfl k_) ?_
        exact J26 _ trivial
  · by_cases hc3 : (p0 &&& (1 : Int32)) = (0 : Int32)
    · refine own_st (S' := s₁.setTop (mkF m 10 #[.val (.int p0), .val (.int p1), .val (.int p2), .val (.int p3), .val (.int p4), .unset, .unset, .unset, .unset, .unset, .unset, .unset, .unset, .unset, .unset, .unset, .unset, .unset, .unset, .unset] [])) (fun t_ k_ => XS.ifYes X0.here hx rfl (pc0 := 3) (pc' := 10) rfl (hb hby at_3) rfl ((if0 _ _).trans (teq hc3).1) (by decide) (by decide) k_) ?_
      refine own_st (S' := s₁.setTop (mkF m 11 #[.val (.int p0), .val (.int p1), .val (.int p2), .val (.int p3), .val (.int p4), .unset, .unset, .unset, .unset, .unset, .unset, .unset, .unset, .unset, .unset, .unset, .unset, .unset, .unset, .unset] [(.int p1)])) (fun t_ k_ => XS.iloadN X0.here hx rfl (hb hby at_10) rfl k_) ?_
      refine own_st (S' := s₁.setTop (mkF m 13 #[.val (.int p0), .val (.int p1), .val (.int p2), .val (.int p3), .val (.int p4), .val (.int p1), .unset, .unset, .unset, .unset, .unset, .unset, .unset, .unset, .unset, .unset, .unset, .unset, .unset, .unset] [])) (fun t_ k_ => XS.istore X0.here hx rfl (hb hby at_11) rfl (l' := #[.val (.int p0), .val (.int p1), .val (.int p2), .val (.int p3), .val (.int p4), .val (.int p1), .unset, .unset, .unset, .unset, .unset, .unset, .unset, .unset, .unset, .unset, .unset, .unset, .unset, .unset]) rfl k_) ?_
      exact J13 _ trivial
    · refine own_st (S' := s₁.setTop (mkF m 6 #[.val (.int p0), .val (.int p1), .val (.int p2), .val (.int p3), .val (.int p4), .unset, .unset, .unset, .unset, .unset, .unset, .unset, .unset, .unset, .unset, .unset, .unset, .unset, .unset, .unset] [])) (fun t_ k_ => XS.ifNo X0.here hx rfl (hb hby at_3) rfl ((if0 _ _).trans (feq hc3).1) k_) ?_
      refine own_st (S' := s₁.setTop (mkF m 7 #[.val (.int p0), .val (.int p1), .val (.int p2), .val (.int p3), .val (.int p4), .unset, .unset, .unset, .unset, .unset, .unset, .unset, .unset, .unset, .unset, .unset, .unset, .unset, .unset, .unset] [(.int (-1 : Int32))])) (fun t_ k_ => XS.iconst X0.here hx rfl (hb hby at_6) k_) ?_
      refine own_st (S' := s₁.setTop (mkF m 11 #[.val (.int p0), .val (.int p1), .val (.int p2), .val (.int p3), .val (.int p4), .unset, .unset, .unset, .unset, .unset, .unset, .unset, .unset, .unset, .unset, .unset, .unset, .unset, .unset, .unset] [(.int (-1 : Int32))])) (fun t_ k_ => XS.goto X0.here hx rfl (pc0 := 7) (pc' := 11) rfl (hb hby at_7) (by decide) (by decide) k_) ?_
      refine own_st (S' := s₁.setTop (mkF m 13 #[.val (.int p0), .val (.int p1), .val (.int p2), .val (.int p3), .val (.int p4), .val (.int (-1 : Int32)), .unset, .unset, .unset, .unset, .unset, .unset, .unset, .unset, .unset, .unset, .unset, .unset, .unset, .unset] [])) (fun t_ k_ => XS.istore X0.here hx rfl (hb hby at_11) rfl (l' := #[.val (.int p0), .val (.int p1), .val (.int p2), .val (.int p3), .val (.int p4), .val (.int (-1 : Int32)), .unset, .unset, .unset, .unset, .unset, .unset, .unset, .unset, .unset, .unset, .unset, .unset, .unset, .unset]) rfl k_) ?_
      exact J13 _ trivial
set_option maxRecDepth 65536 in
set_option maxHeartbeats 40000000 in
theorem comes_1 {Post : Tables → Env → Array Value → State → Outcome → State → Prop} (hpost : ∀ tb e args s v u, (limb_1_1.after args s (.returned v) u = true ∧ limb_1_2.after args s (.returned v) u = true ∧ True) → FrameEnd s (.returned v) u (Jvm.fieldLocs frame_1_writes args s ++ Jvm.arrayLocs frame_1_arrays args s ++ Jvm.staticLocs frame_1_statics s) 48 192 → Post tb e args s (.returned v) u) :
    ArmFor flags0 classFile x code maxLocals ret World_1 tables_1 room_1 Calls_1 rest_1 Pre_1 Post := by
  intro l hfl _ _ p e ha hc hk s m args below hf hA hF happ hP
  obtain ⟨hcalls, hrest, hpre⟩ := hP
  obtain ⟨-, -, -, hnamed, -, -, -, hat⟩ := (Spec.applies_iff hf).mp happ
  obtain ⟨hg, hn⟩ := and_e (Cond.before_iff.mp (show (Jvm.Cond.and given_1 narrow_1).before args s = true from hpre))
  obtain ⟨hcount, ht0⟩ := and_e hg
  obtain ⟨ha0, ht1⟩ := and_e ht0
  obtain ⟨ha1, ht2⟩ := and_e ht1
  obtain ⟨ha2, ht3⟩ := and_e ht2
  obtain ⟨ha3, ht4⟩ := and_e ht3
  obtain ⟨w0, w1, w2, w3, w4, rfl⟩ : ∃ w0 w1 w2 w3 w4 : Value, args = #[w0, w1, w2, w3, w4] := by
    have hs : args.size = 5 := by simpa [Cond.value, given_1] using hcount
    obtain ⟨L⟩ := args
    match L, hs with
    | [w0, w1, w2, w3, w4], _ => exact ⟨w0, w1, w2, w3, w4, rfl⟩
  have hw := fun d (hd : d ∈ tables_1) => atoms_spec (ws := Jvm.Cond.code x code maxLocals ret :: tables_1) hat d (List.mem_cons_of_mem _ hd)
  have hfit : Fit s := fun {y c} hc i hi => by
    obtain ⟨ha, rfl⟩ := Array.getElem?_eq_some_iff.mp hc
    have q := List.all_eq_true.mp ((Array.all_eq_true_iff_forall_mem.mp hF) _ (Array.getElem_mem ha)) i (List.mem_range.mpr hi)
    simpa [Array.getElem?_eq_getElem hi] using q
  obtain ⟨hsets, hown0⟩ := atoms_of _ (rest_1_c_eq ▸ (show rest_1_c.before _ s = true from hrest))
  have hr0 := Cond.before_iff.mp hown0
  obtain ⟨i0, ei0⟩ := is_v ha0
  obtain rfl : w0 = (.int i0) := Option.some.inj ei0
  obtain ⟨i1, ei1⟩ := is_v ha1
  obtain rfl : w1 = (.int i1) := Option.some.inj ei1
  obtain ⟨i2, ei2⟩ := is_v ha2
  obtain rfl : w2 = (.int i2) := Option.some.inj ei2
  obtain ⟨i3, ei3⟩ := is_v ha3
  obtain rfl : w3 = (.int i3) := Option.some.inj ei3
  obtain ⟨i4, ei4⟩ := is_v ht4
  obtain rfl : w4 = (.int i4) := Option.some.inj ei4
  obtain ⟨dd, evd⟩ := arr_v (Cond.before_iff.mp (hsets _ (List.mem_of_getElem? (i := 6) rfl)))
  have Sd := Sta.start evd (Or.inr ⟨(hw _ (List.mem_of_getElem? (i := 3) rfl)), (hsets _ (List.mem_of_getElem? (i := 2) rfl))⟩)
  obtain ⟨cd, Ad⟩ := Arr.start evd (Cond.before_iff.mp (hsets _ (List.mem_of_getElem? (i := 6) rfl)))
  have Vd := own_empty hfit evd Ad (Cond.before_iff.mp (hsets _ (List.mem_of_getElem? (i := 8) rfl)))
  obtain ⟨n, o, h1, h2, h3, _, L, rfl, ⟨rfl, N⟩, hq⟩ := rm0 l s _ hw tables_1 i0 i1 i2 i3 i4 dd cd.cls s.heap s.heap.size (Nat.le_refl _) Sd Vd (Old.start s) p e ha hc hk s m _ below hf ((Spec.applies_iff_loose hf).mp happ).1 ⟨rfl, State.Warmed39.refl s, rfl⟩ trivial
  refine ⟨n, _, h1, h2, h3, hpost _ _ _ _ _ _ ⟨Cond.after_iff.mpr rfl, Cond.after_iff.mpr (eq_i res_at (Term.int_eval (1)) rfl), trivial⟩ ⟨hq.1, hq.2.1, (hq.2.2.sift fun y hy => Or.inr (N y hy)).mono (by decide) (by decide)⟩⟩
theorem main_1_1 : Claimed_1_1 := comes_1 fun _ _ _ _ _ _ h hF => ⟨h.1, hF⟩
theorem main_1_2 : Claimed_1_2 := comes_1 fun _ _ _ _ _ _ h hF => ⟨h.2.1, hF⟩
end Jvm.Pilot.@@N@@
namespace Jvm.Pilot.@@N@@
open Jvm Jvm.ClassFile Sem Op Lib Jvm.Free Jvm.Stand Jvm.Pilot.@@N@@.Jvm.D
/-! MADE BY PROGRAM (witnessworld.py) out of the Statement's table words and the real class files: 22 classes; the members and pool entries that the words name. The judged class is class 1, her method 1. -/
namespace start1
open Jvm.ClassFile
def u (s : String) : CpInfo := .utf8 (stringToUtf16 s)
/-- a pool by its gaps: so many unusable entries, then the entry; so many at the end -/
def gap : Nat → List CpInfo → List CpInfo
  | 0, r => r
  | n + 1, r => .unusable :: gap n r
def poolList (es : List (Nat × CpInfo)) (last : Nat) : List CpInfo := es.foldr (fun e r => gap e.1 (e.2 :: r)) (gap last [])
def pool (es : List (Nat × CpInfo)) (last : Nat) : Array CpInfo := ⟨poolList es last⟩
def fileOf (pool : Array CpInfo) (this : Nat) (attrs : Array Attribute := #[]) (ms : Array MethodInfo := #[]) (fl : Nat := 33) (sup : Nat := 0) (ifs : Array Nat := #[]) (fds : Array FieldInfo := #[]) : ClassFile where
  minorVersion := 0
  majorVersion := 65
  constantPool := pool
  accessFlags := fl
  thisClass := this
  superClass := sup
  interfaces := ifs
  fields := fds
  methods := ms
  attributes := attrs
def plain (name : String) (sup : Option ClassId) : Class where
  name := name
  kind := .ordinary
  loader := none
  accessFlags := 33
  super := sup
  interfaces := #[]
  cf := none
  fields := #[]
  methods := #[]
  instanceTypes := #[]
  staticTypes := #[]
  resolved := #[]
  callSites := []
  init := .initialized
  statics := none
  mirror := none

def pool0 : Array CpInfo := pool [(5, u "<init>"), (0, u "()V"), (1, .class_ 10), (1, u "java/lang/Object"), (85, u "clone"), (0, u "()Ljava/lang/Object;")] 26

def k0c0 : Code := { maxStack := 0, maxLocals := 1, code := object_method_1_code, exceptionTable := #[], attributes := #[] }
def k0m0 : Method := { name := "<init>", desc := "()V", sig := { parameters := [], returnType := none }, accessFlags := 1, code := some k0c0 }
def k0m1 : Method := { name := "clone", desc := "()Ljava/lang/Object;", sig := { parameters := [], returnType := some (.object "java/lang/Object") }, accessFlags := 260, code := none }
/-- java/lang/Object -/
def k0 : Class := { plain "java/lang/Object" none with
  accessFlags := 33
  interfaces := #[]
  cf := some (fileOf pool0 8 #[] #[{ accessFlags := 1, nameIndex := 5, descriptorIndex := 6, attributes := #[] }, { accessFlags := 260, nameIndex := 96, descriptorIndex := 97, attributes := #[] }] 33 0 #[] #[])
  fields := #[]
  methods := #[k0m0, k0m1]
  instanceTypes := #[]
  staticTypes := #[]
  resolved := Array.replicate 124 none
  statics := none }

def pool1 : Array CpInfo := pool [(2, .class_ 4), (0, .nameAndType 5 6), (0, u "java/lang/Object"), (0, u "<init>"), (0, u "()V"), (0, .class_ 8), (0, u "java/util/ArrayList"), (0, .methodref 7 3), (0, .class_ 11), (0, u "com/example/frisk/frisk/pattern/StateGraph"), (0, .methodref 10 13), (0, .nameAndType 5 14), (0, u "(I[I[I[I[I[ILjava/util/List;I)V"), (0, .methodref 10 16), (0, .nameAndType 17 18), (0, u "successors"), (0, u "(I)[I"), (0, .class_ 20), (0, u "com/example/frisk/frisk/pattern/StateGraphSuccessorsPinLaw"), (2, u "law"), (0, u "(IIIII)Z")] 5

def k1m0 : Method := { name := "<init>", desc := "()V", sig := { parameters := [], returnType := none }, accessFlags := 1, code := none }
def k1c1 : Code := { maxStack := 10, maxLocals := 20, code := code, exceptionTable := #[], attributes := #[] }
def k1m1 : Method := { name := "law", desc := "(IIIII)Z", sig := { parameters := [.int, .int, .int, .int, .int], returnType := some .boolean }, accessFlags := 9, code := some k1c1 }
/-- com/example/frisk/frisk/pattern/StateGraphSuccessorsPinLaw -/
def k1 : Class := { plain "com/example/frisk/frisk/pattern/StateGraphSuccessorsPinLaw" (some 0) with
  accessFlags := 49
  interfaces := #[]
  cf := some (fileOf pool1 19 #[] #[{ accessFlags := 1, nameIndex := 5, descriptorIndex := 6, attributes := #[] }, { accessFlags := 9, nameIndex := 23, descriptorIndex := 24, attributes := #[] }] 49 2 #[] #[])
  fields := #[]
  methods := #[k1m0, k1m1]
  instanceTypes := #[]
  staticTypes := #[]
  resolved := Array.replicate 30 none
  statics := none }

def pool2 : Array CpInfo := pool [(8, .class_ 10), (1, u "java/lang/Iterable"), (24, .class_ 36), (0, u "java/lang/Object")] 25

/-- java/lang/Iterable -/
def k2 : Class := { plain "java/lang/Iterable" (some 0) with
  accessFlags := 1537
  interfaces := #[]
  cf := some (fileOf pool2 8 #[] #[] 1537 35 #[] #[])
  fields := #[]
  methods := #[]
  instanceTypes := #[]
  staticTypes := #[]
  resolved := Array.replicate 62 none
  statics := none }

def pool3 : Array CpInfo := pool [(10, .class_ 12), (1, u "java/util/Collection"), (47, .class_ 61), (0, u "java/lang/Object"), (0, .class_ 63), (0, u "java/lang/Iterable")] 51

/-- java/util/Collection -/
def k3 : Class := { plain "java/util/Collection" (some 0) with
  accessFlags := 1537
  interfaces := #[2]
  cf := some (fileOf pool3 10 #[] #[] 1537 60 #[62] #[])
  fields := #[]
  methods := #[]
  instanceTypes := #[]
  staticTypes := #[]
  resolved := Array.replicate 115 none
  statics := none }

def pool4 : Array CpInfo := pool [(1, .methodref 2 3), (0, .class_ 4), (0, .nameAndType 5 6), (0, u "java/lang/Object"), (0, u "<init>"), (0, u "()V"), (1, .class_ 10), (1, u "java/util/AbstractCollection"), (66, .class_ 78), (0, u "java/util/Collection")] 81

def k4c0 : Code := { maxStack := 1, maxLocals := 1, code := jdk_22_method_1_code, exceptionTable := #[], attributes := #[] }
def k4m0 : Method := { name := "<init>", desc := "()V", sig := { parameters := [], returnType := none }, accessFlags := 4, code := some k4c0 }
/-- java/util/AbstractCollection -/
def k4 : Class := { plain "java/util/AbstractCollection" (some 0) with
  accessFlags := 1057
  interfaces := #[3]
  cf := some (fileOf pool4 8 #[] #[{ accessFlags := 4, nameIndex := 5, descriptorIndex := 6, attributes := #[] }] 1057 2 #[77] #[])
  fields := #[]
  methods := #[k4m0]
  instanceTypes := #[]
  staticTypes := #[]
  resolved := Array.replicate 160 none
  statics := none }

def pool5 : Array CpInfo := pool [(8, .class_ 10), (1, u "java/util/SequencedCollection"), (15, .class_ 27), (0, u "java/lang/Object"), (0, .class_ 29), (0, u "java/util/Collection")] 27

/-- java/util/SequencedCollection -/
def k5 : Class := { plain "java/util/SequencedCollection" (some 0) with
  accessFlags := 1537
  interfaces := #[3]
  cf := some (fileOf pool5 8 #[] #[] 1537 26 #[28] #[])
  fields := #[]
  methods := #[]
  instanceTypes := #[]
  staticTypes := #[]
  resolved := Array.replicate 57 none
  statics := none }

def pool6 : Array CpInfo := pool [(8, .class_ 10), (1, u "java/util/List"), (23, u "toArray"), (44, u "size"), (0, u "()I"), (22, .class_ 104), (0, u "java/lang/Object"), (15, .class_ 121), (0, u "java/util/SequencedCollection"), (5, u "([Ljava/lang/Object;)[Ljava/lang/Object;")] 123

def k6m0 : Method := { name := "size", desc := "()I", sig := { parameters := [], returnType := some .int }, accessFlags := 1025, code := none }
def k6m1 : Method := { name := "toArray", desc := "([Ljava/lang/Object;)[Ljava/lang/Object;", sig := { parameters := [(.array (.object "java/lang/Object"))], returnType := some (.array (.object "java/lang/Object")) }, accessFlags := 1025, code := none }
/-- java/util/List -/
def k6 : Class := { plain "java/util/List" (some 0) with
  accessFlags := 1537
  interfaces := #[5]
  cf := some (fileOf pool6 8 #[] #[{ accessFlags := 1025, nameIndex := 79, descriptorIndex := 80, attributes := #[] }, { accessFlags := 1025, nameIndex := 34, descriptorIndex := 127, attributes := #[] }] 1537 103 #[120] #[])
  fields := #[]
  methods := #[k6m0, k6m1]
  instanceTypes := #[]
  staticTypes := #[]
  resolved := Array.replicate 251 none
  statics := none }

def pool7 : Array CpInfo := pool [(1, .methodref 2 3), (0, .class_ 4), (0, .nameAndType 5 6), (0, u "java/util/AbstractCollection"), (0, u "<init>"), (0, u "()V"), (0, .fieldref 8 9), (0, .class_ 10), (0, .nameAndType 11 12), (0, u "java/util/AbstractList"), (0, u "modCount"), (0, u "I"), (64, .class_ 78), (0, u "java/util/AbstractList$Itr"), (3, .class_ 83), (0, u "java/util/AbstractList$ListItr"), (9, .class_ 94), (0, u "java/util/AbstractList$RandomAccessSubList"), (3, .class_ 99), (0, u "java/util/AbstractList$SubList"), (33, .class_ 134), (0, u "java/util/List"), (73, .class_ 209), (0, u "java/util/AbstractList$SubList$1"), (0, .class_ 211), (0, u "java/util/AbstractList$RandomAccessSpliterator")] 6

def k7c0 : Code := { maxStack := 2, maxLocals := 1, code := jdk_39_method_1_code, exceptionTable := #[], attributes := #[] }
def k7m0 : Method := { name := "<init>", desc := "()V", sig := { parameters := [], returnType := none }, accessFlags := 4, code := some k7c0 }
/-- java/util/AbstractList -/
def k7 : Class := { plain "java/util/AbstractList" (some 4) with
  accessFlags := 1057
  interfaces := #[6]
  cf := some (fileOf pool7 8 #[.nestMembers #[93, 98, 208, 210, 82, 77]] #[{ accessFlags := 4, nameIndex := 5, descriptorIndex := 6, attributes := #[] }] 1057 2 #[133] #[{ accessFlags := 132, nameIndex := 11, descriptorIndex := 12, attributes := #[] }])
  fields := #[{ name := "modCount", type := .int, accessFlags := 132, slot := 0, constantValue := 0 }]
  methods := #[k7m0]
  instanceTypes := #[.int]
  staticTypes := #[]
  resolved := Array.replicate 218 none
  statics := none }

def pool8 : Array CpInfo := pool [(1, .class_ 2), (0, u "java/util/RandomAccess"), (0, .class_ 4), (0, u "java/lang/Object")] 2

/-- java/util/RandomAccess -/
def k8 : Class := { plain "java/util/RandomAccess" (some 0) with
  accessFlags := 1537
  interfaces := #[]
  cf := some (fileOf pool8 1 #[] #[] 1537 3 #[] #[])
  fields := #[]
  methods := #[]
  instanceTypes := #[]
  staticTypes := #[]
  resolved := Array.replicate 7 none
  statics := none }

def pool9 : Array CpInfo := pool [(1, .class_ 2), (0, u "java/lang/Cloneable"), (0, .class_ 4), (0, u "java/lang/Object")] 2

/-- java/lang/Cloneable -/
def k9 : Class := { plain "java/lang/Cloneable" (some 0) with
  accessFlags := 1537
  interfaces := #[]
  cf := some (fileOf pool9 1 #[] #[] 1537 3 #[] #[])
  fields := #[]
  methods := #[]
  instanceTypes := #[]
  staticTypes := #[]
  resolved := Array.replicate 7 none
  statics := none }

def pool10 : Array CpInfo := pool [(1, .class_ 2), (0, u "java/io/Serializable"), (0, .class_ 4), (0, u "java/lang/Object")] 2

/-- java/io/Serializable -/
def k10 : Class := { plain "java/io/Serializable" (some 0) with
  accessFlags := 1537
  interfaces := #[]
  cf := some (fileOf pool10 1 #[] #[] 1537 3 #[] #[])
  fields := #[]
  methods := #[]
  instanceTypes := #[]
  staticTypes := #[]
  resolved := Array.replicate 7 none
  statics := none }

def pool11 : Array CpInfo := pool [(1, .methodref 2 3), (0, .class_ 4), (0, .nameAndType 5 6), (0, u "java/util/AbstractList"), (0, u "<init>"), (0, u "()V"), (2, .fieldref 10 11), (0, .class_ 12), (0, .nameAndType 13 14), (0, u "java/util/ArrayList"), (0, u "elementData"), (0, u "[Ljava/lang/Object;"), (2, u "EMPTY_ELEMENTDATA"), (21, .fieldref 10 40), (0, .nameAndType 41 14), (0, u "DEFAULTCAPACITY_EMPTY_ELEMENTDATA"), (4, u "toArray"), (1, .fieldref 10 49), (0, .nameAndType 50 51), (0, u "size"), (0, u "I"), (60, .methodref 113 114), (0, .class_ 115), (0, .nameAndType 116 117), (0, u "java/lang/System"), (0, u "arraycopy"), (0, u "(Ljava/lang/Object;ILjava/lang/Object;II)V"), (30, .class_ 149), (0, u "java/util/List"), (36, u "()I"), (75, .class_ 263), (0, u "java/util/ArrayList$ListItr"), (3, .class_ 268), (0, u "java/util/ArrayList$Itr"), (7, .class_ 277), (0, u "java/util/ArrayList$SubList"), (12, .class_ 291), (0, u "java/util/ArrayList$ArrayListSpliterator"), (37, .class_ 330), (0, u "java/util/RandomAccess"), (0, .class_ 332), (0, u "java/lang/Cloneable"), (0, .class_ 334), (0, u "java/io/Serializable"), (0, u "serialVersionUID"), (0, u "J"), (3, u "DEFAULT_CAPACITY"), (34, u "([Ljava/lang/Object;)[Ljava/lang/Object;"), (124, .class_ 501), (0, u "java/util/ArrayList$SubList$2"), (0, .class_ 503), (0, u "java/util/ArrayList$SubList$1")] 5

def k11c0 : Code := { maxStack := 2, maxLocals := 1, code := jdk_38_method_2_code, exceptionTable := #[], attributes := #[] }
def k11m0 : Method := { name := "<init>", desc := "()V", sig := { parameters := [], returnType := none }, accessFlags := 1, code := some k11c0 }
def k11c1 : Code := { maxStack := 1, maxLocals := 1, code := jdk_38_method_8_code, exceptionTable := #[], attributes := #[] }
def k11m1 : Method := { name := "size", desc := "()I", sig := { parameters := [], returnType := some .int }, accessFlags := 1, code := some k11c1 }
def k11c2 : Code := { maxStack := 5, maxLocals := 2, code := jdk_38_method_17_code, exceptionTable := #[], attributes := #[] }
def k11m2 : Method := { name := "toArray", desc := "([Ljava/lang/Object;)[Ljava/lang/Object;", sig := { parameters := [(.array (.object "java/lang/Object"))], returnType := some (.array (.object "java/lang/Object")) }, accessFlags := 1, code := some k11c2 }
/-- java/util/ArrayList -/
def k11 : Class := { plain "java/util/ArrayList" (some 7) with
  accessFlags := 33
  interfaces := #[6, 8, 9, 10]
  cf := some (fileOf pool11 10 #[.nestMembers #[290, 276, 500, 502, 262, 267]] #[{ accessFlags := 1, nameIndex := 5, descriptorIndex := 6, attributes := #[] }, { accessFlags := 1, nameIndex := 50, descriptorIndex := 186, attributes := #[] }, { accessFlags := 1, nameIndex := 46, descriptorIndex := 375, attributes := #[] }] 33 2 #[148, 329, 331, 333] #[{ accessFlags := 26, nameIndex := 335, descriptorIndex := 336, attributes := #[] }, { accessFlags := 26, nameIndex := 340, descriptorIndex := 51, attributes := #[] }, { accessFlags := 26, nameIndex := 17, descriptorIndex := 14, attributes := #[] }, { accessFlags := 26, nameIndex := 41, descriptorIndex := 14, attributes := #[] }, { accessFlags := 128, nameIndex := 13, descriptorIndex := 14, attributes := #[] }, { accessFlags := 2, nameIndex := 50, descriptorIndex := 51, attributes := #[] }])
  fields := #[{ name := "serialVersionUID", type := .long, accessFlags := 26, slot := 0, constantValue := 0 }, { name := "DEFAULT_CAPACITY", type := .int, accessFlags := 26, slot := 1, constantValue := 0 }, { name := "EMPTY_ELEMENTDATA", type := (.array (.object "java/lang/Object")), accessFlags := 26, slot := 2, constantValue := 0 }, { name := "DEFAULTCAPACITY_EMPTY_ELEMENTDATA", type := (.array (.object "java/lang/Object")), accessFlags := 26, slot := 3, constantValue := 0 }, { name := "elementData", type := (.array (.object "java/lang/Object")), accessFlags := 128, slot := 1, constantValue := 0 }, { name := "size", type := .int, accessFlags := 2, slot := 2, constantValue := 0 }]
  methods := #[k11m0, k11m1, k11m2]
  instanceTypes := #[.int, (.array (.object "java/lang/Object")), .int]
  staticTypes := #[.long, .int, (.array (.object "java/lang/Object")), (.array (.object "java/lang/Object"))]
  resolved := Array.replicate 509 none
  statics := some 0 }

def pool12 : Array CpInfo := pool [(1, .methodref 2 3), (0, .class_ 4), (0, .nameAndType 5 6), (0, u "java/lang/Object"), (0, u "<init>"), (0, u "()V"), (0, .methodref 8 9), (0, .class_ 10), (0, .nameAndType 11 12), (0, u "java/util/Arrays"), (0, u "copyOf"), (0, u "([II)[I"), (0, .fieldref 14 15), (0, .class_ 16), (0, .nameAndType 17 18), (0, u "com/example/frisk/frisk/pattern/StateGraph"), (0, u "labels"), (0, u "[I"), (0, .fieldref 14 20), (0, .nameAndType 21 18), (0, u "next"), (0, .fieldref 14 23), (0, .nameAndType 24 18), (0, u "alternative"), (0, .fieldref 14 26), (0, .nameAndType 27 18), (0, u "leasts"), (0, .fieldref 14 29), (0, .nameAndType 30 18), (0, u "mosts"), (0, .fieldref 14 32), (0, .nameAndType 33 18), (0, u "counterNumbers"), (0, .fieldref 14 35), (0, .nameAndType 36 37), (0, u "counterCount"), (0, u "I"), (0, .methodref 14 39), (0, .nameAndType 40 41), (0, u "renumberClasses"), (0, u "([ILjava/util/List;)[Lcom/example/frisk/frisk/pattern/CharacterClass;"), (0, .fieldref 14 43), (0, .nameAndType 44 45), (0, u "classes"), (0, u "[Lcom/example/frisk/frisk/pattern/CharacterClass;"), (0, .fieldref 14 47), (0, .nameAndType 48 37), (0, u "start"), (2, u "successors"), (0, u "(I)[I"), (0, .class_ 54), (0, u "com/example/frisk/frisk/pattern/StateGraph$Predecessors"), (4, .class_ 61), (1, u "java/util/List"), (2, .interfaceMethodref 59 65), (0, .nameAndType 66 67), (0, u "size"), (0, u "()I"), (0, .methodref 8 69), (0, .nameAndType 70 71), (0, u "fill"), (0, u "([II)V"), (0, .class_ 73), (0, u "java/util/ArrayList"), (0, .methodref 72 3), (4, .class_ 80), (0, u "com/example/frisk/frisk/pattern/CharacterClass"), (4, .interfaceMethodref 59 86), (0, .nameAndType 87 88), (0, u "toArray"), (0, u "([Ljava/lang/Object;)[Ljava/lang/Object;"), (0, .class_ 45), (0, u "SPLIT"), (2, u "PASS"), (1, u "MATCH"), (1, u "NONE"), (0, u "(I[I[I[I[I[ILjava/util/List;I)V")] 27

def k12c0 : Code := { maxStack := 4, maxLocals := 11, code := prog_109_method_1_code, exceptionTable := #[], attributes := #[] }
def k12m0 : Method := { name := "<init>", desc := "(I[I[I[I[I[ILjava/util/List;I)V", sig := { parameters := [.int, (.array .int), (.array .int), (.array .int), (.array .int), (.array .int), (.object "java/util/List"), .int], returnType := none }, accessFlags := 0, code := some k12c0 }
def k12c1 : Code := { maxStack := 5, maxLocals := 3, code := prog_109_method_9_code, exceptionTable := #[], attributes := #[] }
def k12m1 : Method := { name := "successors", desc := "(I)[I", sig := { parameters := [.int], returnType := some (.array .int) }, accessFlags := 0, code := some k12c1 }
def k12c2 : Code := { maxStack := 4, maxLocals := 6, code := prog_109_method_18_code, exceptionTable := #[], attributes := #[] }
def k12m2 : Method := { name := "renumberClasses", desc := "([ILjava/util/List;)[Lcom/example/frisk/frisk/pattern/CharacterClass;", sig := { parameters := [(.array .int), (.object "java/util/List")], returnType := some (.array (.object "com/example/frisk/frisk/pattern/CharacterClass")) }, accessFlags := 10, code := some k12c2 }
/-- com/example/frisk/frisk/pattern/StateGraph -/
def k12 : Class := { plain "com/example/frisk/frisk/pattern/StateGraph" (some 0) with
  accessFlags := 48
  interfaces := #[]
  cf := some (fileOf pool12 14 #[.nestMembers #[53]] #[{ accessFlags := 0, nameIndex := 5, descriptorIndex := 98, attributes := #[] }, { accessFlags := 0, nameIndex := 51, descriptorIndex := 52, attributes := #[] }, { accessFlags := 10, nameIndex := 40, descriptorIndex := 41, attributes := #[] }] 48 2 #[] #[{ accessFlags := 24, nameIndex := 90, descriptorIndex := 37, attributes := #[] }, { accessFlags := 24, nameIndex := 93, descriptorIndex := 37, attributes := #[] }, { accessFlags := 24, nameIndex := 95, descriptorIndex := 37, attributes := #[] }, { accessFlags := 24, nameIndex := 97, descriptorIndex := 37, attributes := #[] }, { accessFlags := 18, nameIndex := 17, descriptorIndex := 18, attributes := #[] }, { accessFlags := 18, nameIndex := 21, descriptorIndex := 18, attributes := #[] }, { accessFlags := 18, nameIndex := 24, descriptorIndex := 18, attributes := #[] }, { accessFlags := 18, nameIndex := 27, descriptorIndex := 18, attributes := #[] }, { accessFlags := 18, nameIndex := 30, descriptorIndex := 18, attributes := #[] }, { accessFlags := 18, nameIndex := 33, descriptorIndex := 18, attributes := #[] }, { accessFlags := 18, nameIndex := 36, descriptorIndex := 37, attributes := #[] }, { accessFlags := 18, nameIndex := 44, descriptorIndex := 45, attributes := #[] }, { accessFlags := 18, nameIndex := 48, descriptorIndex := 37, attributes := #[] }])
  fields := #[{ name := "SPLIT", type := .int, accessFlags := 24, slot := 0, constantValue := 0 }, { name := "PASS", type := .int, accessFlags := 24, slot := 1, constantValue := 0 }, { name := "MATCH", type := .int, accessFlags := 24, slot := 2, constantValue := 0 }, { name := "NONE", type := .int, accessFlags := 24, slot := 3, constantValue := 0 }, { name := "labels", type := (.array .int), accessFlags := 18, slot := 0, constantValue := 0 }, { name := "next", type := (.array .int), accessFlags := 18, slot := 1, constantValue := 0 }, { name := "alternative", type := (.array .int), accessFlags := 18, slot := 2, constantValue := 0 }, { name := "leasts", type := (.array .int), accessFlags := 18, slot := 3, constantValue := 0 }, { name := "mosts", type := (.array .int), accessFlags := 18, slot := 4, constantValue := 0 }, { name := "counterNumbers", type := (.array .int), accessFlags := 18, slot := 5, constantValue := 0 }, { name := "counterCount", type := .int, accessFlags := 18, slot := 6, constantValue := 0 }, { name := "classes", type := (.array (.object "com/example/frisk/frisk/pattern/CharacterClass")), accessFlags := 18, slot := 7, constantValue := 0 }, { name := "start", type := .int, accessFlags := 18, slot := 8, constantValue := 0 }]
  methods := #[k12m0, k12m1, k12m2]
  instanceTypes := #[(.array .int), (.array .int), (.array .int), (.array .int), (.array .int), (.array .int), .int, (.array (.object "com/example/frisk/frisk/pattern/CharacterClass")), .int]
  staticTypes := #[.int, .int, .int, .int]
  resolved := Array.replicate 126 none
  statics := none }

def pool13 : Array CpInfo := pool [(2, .class_ 4), (1, u "java/lang/Object"), (0, u "<init>"), (0, u "()V"), (7, .class_ 16), (1, u "java/util/Arrays"), (57, .class_ 76), (1, u "java/util/Arrays$NaturalOrder"), (32, u "()Ljava/lang/Object;"), (3, .class_ 115), (1, u "java/util/Arrays$LegacyMergeSort"), (1, u "Z"), (10, .nameAndType 129 109), (0, u "clone"), (172, u "copyOf"), (13, .methodref 317 128), (0, .class_ 318), (0, u "[I"), (56, .class_ 376), (0, u "java/util/Arrays$ArrayList"), (68, u "$assertionsDisabled"), (269, u "MIN_ARRAY_SORT_GRAN"), (0, u "I"), (2, u "INSERTIONSORT_THRESHOLD"), (120, u "fill"), (4, u "([II)V"), (25, u "([II)[I"), (103, .class_ 976), (0, u "java/util/Arrays$ArrayItr")] 52

def k13m0 : Method := { name := "<init>", desc := "()V", sig := { parameters := [], returnType := none }, accessFlags := 2, code := none }
def k13c1 : Code := { maxStack := 3, maxLocals := 4, code := jdk_65_method_103_code, exceptionTable := #[], attributes := #[] }
def k13m1 : Method := { name := "fill", desc := "([II)V", sig := { parameters := [(.array .int), .int], returnType := none }, accessFlags := 9, code := some k13c1 }
def k13c2 : Code := { maxStack := 6, maxLocals := 3, code := jdk_65_method_123_code, exceptionTable := #[], attributes := #[] }
def k13m2 : Method := { name := "copyOf", desc := "([II)[I", sig := { parameters := [(.array .int), .int], returnType := some (.array .int) }, accessFlags := 9, code := some k13c2 }
/-- java/util/Arrays -/
def k13 : Class := { plain "java/util/Arrays" (some 0) with
  accessFlags := 49
  interfaces := #[]
  cf := some (fileOf pool13 14 #[.nestMembers #[975, 375, 113, 74]] #[{ accessFlags := 2, nameIndex := 5, descriptorIndex := 6, attributes := #[] }, { accessFlags := 9, nameIndex := 840, descriptorIndex := 845, attributes := #[] }, { accessFlags := 9, nameIndex := 302, descriptorIndex := 871, attributes := #[] }] 49 2 #[] #[{ accessFlags := 26, nameIndex := 715, descriptorIndex := 716, attributes := #[] }, { accessFlags := 26, nameIndex := 719, descriptorIndex := 716, attributes := #[] }, { accessFlags := 4120, nameIndex := 445, descriptorIndex := 117, attributes := #[] }])
  fields := #[{ name := "MIN_ARRAY_SORT_GRAN", type := .int, accessFlags := 26, slot := 0, constantValue := 0 }, { name := "INSERTIONSORT_THRESHOLD", type := .int, accessFlags := 26, slot := 1, constantValue := 0 }, { name := "$assertionsDisabled", type := .boolean, accessFlags := 4120, slot := 2, constantValue := 0 }]
  methods := #[k13m0, k13m1, k13m2]
  instanceTypes := #[]
  staticTypes := #[.int, .int, .boolean]
  resolved := Array.replicate 1029 none
  statics := none }

def pool14 : Array CpInfo := pool [(4, .class_ 6), (1, u "java/lang/Object"), (3, .class_ 12), (1, u "com/example/frisk/frisk/pattern/CharacterClass"), (0, u "ranges"), (0, u "[I"), (6, u "EMPTY"), (0, u "Lcom/example/frisk/frisk/pattern/CharacterClass;"), (3, .class_ 27), (0, u "com/example/frisk/frisk/pattern/CharacterClass$Union"), (59, .class_ 88), (0, u "com/example/frisk/frisk/pattern/CharacterClass$RangeWriter"), (16, .class_ 107), (1, u "com/example/frisk/frisk/pattern/CharacterClass$Intervals"), (20, .class_ 130), (1, u "com/example/frisk/frisk/pattern/CharacterClass$Operation"), (11, u "ALL"), (7, .class_ 152), (1, u "com/example/frisk/frisk/pattern/CharacterClass$Relation"), (91, u "MAX_CODE_POINT"), (0, u "I")] 61

/-- com/example/frisk/frisk/pattern/CharacterClass -/
def k14 : Class := { plain "com/example/frisk/frisk/pattern/CharacterClass" (some 0) with
  accessFlags := 48
  interfaces := #[]
  cf := some (fileOf pool14 10 #[.nestMembers #[87, 105, 26, 128, 150]] #[] 48 4 #[] #[{ accessFlags := 24, nameIndex := 244, descriptorIndex := 245, attributes := #[] }, { accessFlags := 24, nameIndex := 21, descriptorIndex := 22, attributes := #[] }, { accessFlags := 24, nameIndex := 142, descriptorIndex := 22, attributes := #[] }, { accessFlags := 18, nameIndex := 13, descriptorIndex := 14, attributes := #[] }])
  fields := #[{ name := "MAX_CODE_POINT", type := .int, accessFlags := 24, slot := 0, constantValue := 0 }, { name := "EMPTY", type := (.object "com/example/frisk/frisk/pattern/CharacterClass"), accessFlags := 24, slot := 1, constantValue := 0 }, { name := "ALL", type := (.object "com/example/frisk/frisk/pattern/CharacterClass"), accessFlags := 24, slot := 2, constantValue := 0 }, { name := "ranges", type := (.array .int), accessFlags := 18, slot := 0, constantValue := 0 }]
  methods := #[]
  instanceTypes := #[(.array .int)]
  staticTypes := #[.int, (.object "com/example/frisk/frisk/pattern/CharacterClass"), (.object "com/example/frisk/frisk/pattern/CharacterClass")]
  resolved := Array.replicate 307 none
  statics := none }

def pool15 : Array CpInfo := pool [(2, .class_ 4), (1, u "java/lang/Object"), (0, u "<init>"), (0, u "()V"), (1, .class_ 10), (1, u "java/lang/System"), (0, u "allowSecurityManager"), (0, u "I"), (16, u "cons"), (0, u "Ljava/io/Console;"), (77, .class_ 110), (1, u "java/lang/System$CallersHolder"), (43, u "initialErrStream"), (0, u "Ljava/io/PrintStream;"), (19, u "security"), (0, u "Ljava/lang/SecurityManager;"), (31, .class_ 209), (0, u "java/lang/System$1"), (7, u "props"), (0, u "Ljava/util/Properties;"), (2, u "lineSeparator"), (0, u "Ljava/lang/String;"), (96, .class_ 321), (1, u "java/lang/System$LoggerFinder"), (5, .class_ 328), (0, u "java/lang/System$Logger"), (67, u "err"), (2, u "out"), (91, u "notSupportedJnuEncoding"), (15, u "in"), (17, u "initialIn"), (0, u "Ljava/io/InputStream;"), (35, u "bootLayer"), (0, u "Ljava/lang/ModuleLayer;"), (99, .class_ 664), (0, u "java/lang/System$2"), (9, u "NEVER"), (2, u "MAYBE"), (49, u "arraycopy"), (0, u "(Ljava/lang/Object;ILjava/lang/Object;II)V"), (72, .class_ 802), (0, u "java/lang/System$Logger$Level")] 31

def k15m0 : Method := { name := "<init>", desc := "()V", sig := { parameters := [], returnType := none }, accessFlags := 2, code := none }
def k15m1 : Method := { name := "arraycopy", desc := "(Ljava/lang/Object;ILjava/lang/Object;II)V", sig := { parameters := [(.object "java/lang/Object"), .int, (.object "java/lang/Object"), .int, .int], returnType := none }, accessFlags := 265, code := none }
/-- java/lang/System -/
def k15 : Class := { plain "java/lang/System" (some 0) with
  accessFlags := 49
  interfaces := #[]
  cf := some (fileOf pool15 8 #[.nestMembers #[319, 327, 801, 108, 663, 208]] #[{ accessFlags := 2, nameIndex := 5, descriptorIndex := 6, attributes := #[] }, { accessFlags := 265, nameIndex := 727, descriptorIndex := 728, attributes := #[] }] 49 2 #[] #[{ accessFlags := 25, nameIndex := 507, descriptorIndex := 526, attributes := #[] }, { accessFlags := 25, nameIndex := 399, descriptorIndex := 155, attributes := #[] }, { accessFlags := 25, nameIndex := 396, descriptorIndex := 155, attributes := #[] }, { accessFlags := 10, nameIndex := 525, descriptorIndex := 526, attributes := #[] }, { accessFlags := 26, nameIndex := 674, descriptorIndex := 12, attributes := #[] }, { accessFlags := 26, nameIndex := 677, descriptorIndex := 12, attributes := #[] }, { accessFlags := 10, nameIndex := 11, descriptorIndex := 12, attributes := #[] }, { accessFlags := 74, nameIndex := 175, descriptorIndex := 176, attributes := #[] }, { accessFlags := 10, nameIndex := 491, descriptorIndex := 222, attributes := #[] }, { accessFlags := 74, nameIndex := 29, descriptorIndex := 30, attributes := #[] }, { accessFlags := 74, nameIndex := 154, descriptorIndex := 155, attributes := #[] }, { accessFlags := 10, nameIndex := 217, descriptorIndex := 218, attributes := #[] }, { accessFlags := 10, nameIndex := 221, descriptorIndex := 222, attributes := #[] }, { accessFlags := 8, nameIndex := 562, descriptorIndex := 563, attributes := #[] }])
  fields := #[{ name := "in", type := (.object "java/io/InputStream"), accessFlags := 25, slot := 0, constantValue := 0 }, { name := "out", type := (.object "java/io/PrintStream"), accessFlags := 25, slot := 1, constantValue := 0 }, { name := "err", type := (.object "java/io/PrintStream"), accessFlags := 25, slot := 2, constantValue := 0 }, { name := "initialIn", type := (.object "java/io/InputStream"), accessFlags := 10, slot := 3, constantValue := 0 }, { name := "NEVER", type := .int, accessFlags := 26, slot := 4, constantValue := 0 }, { name := "MAYBE", type := .int, accessFlags := 26, slot := 5, constantValue := 0 }, { name := "allowSecurityManager", type := .int, accessFlags := 10, slot := 6, constantValue := 0 }, { name := "security", type := (.object "java/lang/SecurityManager"), accessFlags := 74, slot := 7, constantValue := 0 }, { name := "notSupportedJnuEncoding", type := (.object "java/lang/String"), accessFlags := 10, slot := 8, constantValue := 0 }, { name := "cons", type := (.object "java/io/Console"), accessFlags := 74, slot := 9, constantValue := 0 }, { name := "initialErrStream", type := (.object "java/io/PrintStream"), accessFlags := 74, slot := 10, constantValue := 0 }, { name := "props", type := (.object "java/util/Properties"), accessFlags := 10, slot := 11, constantValue := 0 }, { name := "lineSeparator", type := (.object "java/lang/String"), accessFlags := 10, slot := 12, constantValue := 0 }, { name := "bootLayer", type := (.object "java/lang/ModuleLayer"), accessFlags := 8, slot := 13, constantValue := 0 }]
  methods := #[k15m0, k15m1]
  instanceTypes := #[]
  staticTypes := #[(.object "java/io/InputStream"), (.object "java/io/PrintStream"), (.object "java/io/PrintStream"), (.object "java/io/InputStream"), .int, .int, .int, (.object "java/lang/SecurityManager"), (.object "java/lang/String"), (.object "java/io/Console"), (.object "java/io/PrintStream"), (.object "java/util/Properties"), (.object "java/lang/String"), (.object "java/lang/ModuleLayer")]
  resolved := Array.replicate 834 none
  statics := none }

/-- the primitive byte -/
def k16 : Class := { plain "byte" none with kind := .primitive 'B', accessFlags := 0x411 }
/-- [B -/
def k17 : Class := { plain "[B" (some 0) with kind := .array 16 .byte, interfaces := #[9, 10], accessFlags := 1041 }

/-- the primitive int -/
def k18 : Class := { plain "int" none with kind := .primitive 'I', accessFlags := 0x411 }
/-- [I -/
def k19 : Class := { plain "[I" (some 0) with kind := .array 18 .int, interfaces := #[9, 10], accessFlags := 1041 }

/-- [Lcom/example/frisk/frisk/pattern/CharacterClass; -/
def k20 : Class := { plain "[Lcom/example/frisk/frisk/pattern/CharacterClass;" (some 0) with kind := .array 14 (.object "com/example/frisk/frisk/pattern/CharacterClass"), interfaces := #[9, 10], accessFlags := 1041 }

/-- [Ljava/lang/Object; -/
def k21 : Class := { plain "[Ljava/lang/Object;" (some 0) with kind := .array 0 (.object "java/lang/Object"), interfaces := #[9, 10], accessFlags := 1041 }

def heap : Heap := #[{ cls := 11, slots := #[.long 0, .int 0, .ref 1, .ref 2], vm := .statics 11 },
  { cls := 21, slots := #[], vm := .none },
  { cls := 21, slots := #[], vm := .none }]
def classes : Array Class := #[k0, k1, k2, k3, k4, k5, k6, k7, k8, k9, k10, k11, k12, k13, k14, k15, k16, k17, k18, k19, k20, k21]
def interned : List (Array UInt16 × Addr) := []
def slotsUsed : Nat := 4
def theMethod : MethodId := ⟨1, 1⟩
def args0 : Array Value := #[.int 5, .int 1, .int 2, .int 3, .int 4]
def aboutOver (below : List Frame) : State where
  vm := { classes := classes, interned := interned.toArray }
  heap := heap
  slotsUsed := slotsUsed
  threads := #[{ frames := .invoking theMethod args0 :: below }]
def below0 : List Frame := [.native { method := ⟨0, 0⟩, args := #[] }]
def about1 : State := aboutOver below0
def p0 : Program := .bare "" "" ""
def e0 : Env := launch0.env 0 0 0
theorem w_frames : about1.frames = Frame.invoking theMethod args0 :: below0 := rfl
set_option maxRecDepth 65536 in
theorem w_args : argsFit about1.vm theMethod args0 = true := by decide +kernel
set_option maxRecDepth 65536 in
theorem w_heap : heapFits about1 = true := by decide +kernel
set_option maxRecDepth 65536 in
theorem w_runnable : about1.curStatus? = some .runnable := by decide +kernel
set_option maxRecDepth 65536 in
theorem w_alone : about1.alone = true := by decide +kernel
set_option maxRecDepth 65536 in
theorem w_named : about1.methodNamed? x = some theMethod := by decide +kernel
set_option maxRecDepth 65536 in
theorem w_hears : about1.hears theMethod below0 = true := by decide +kernel
set_option maxRecDepth 65536 in
theorem w_ripe : about1.ripe theMethod args0 below0 = true := by decide +kernel
theorem w_running : about1.status = .running := rfl
set_option maxRecDepth 65536 in
theorem w_room : about1.hasRoom e0.platform room_1 = true :=
  launch0.hasRoom_least _ room_1 (by decide +kernel) (by decide +kernel) (by decide +kernel) (by decide +kernel) (by decide +kernel) (by decide +kernel)
theorem allAtoms_all (ts : List Jvm.Cond) (a : Array Jvm.Value) (st : Jvm.State) : (allAtoms ts).before a st = ts.all (fun c => c.before a st) := by
  induction ts with
  | nil => rfl
  | cons c t ih =>
    show (Jvm.Cond.and c (allAtoms t)).before a st = _
    rw [Jvm.Cond.before_and, ih, List.all_cons]
def words1 : List Jvm.Cond := Jvm.Cond.code x code maxLocals ret :: tables_1
/-- a 'code' word, met by the world's own term for the bytes: nothing is compared byte by byte -/
theorem code_word {y : MethodName} {bytes : ByteArray} {mx : Nat} {rt : Option FieldType} {a : Array Value} {s : State} {m : MethodId} {meth : Method} {c : Code} (h1 : s.methodNamed? y = some m) (h2 : s.vm.method? m = some meth) (h3 : meth.code = some c) (h4 : c.code = bytes)
    (h5 : (c.maxLocals == mx && c.exceptionTable.isEmpty && decide (c.maxStack ≤ mostOperands) && decide (meth.sig.returnType = rt) && !meth.locks && decide (parseMethodDescriptor y.desc = some meth.sig)) = true) : (Jvm.Cond.code y bytes mx rt).before a s = true := by
  simp only [Bool.and_eq_true, beq_iff_eq, Bool.not_eq_true', decide_eq_true_eq] at h5
  obtain ⟨⟨⟨⟨⟨g1, g2⟩, g3⟩, g4⟩, g5⟩, g6⟩ := h5
  simp [Cond.before, Cond.holds, Cond.value, h1, h2, h3, h4, g1, g2, g3, g4, g5, g6]
def isCode : Jvm.Cond → Bool
  | .code _ _ _ _ => true
  | _ => false
theorem all_split {L : List Jvm.Cond} {P : Jvm.Cond → Bool} (h1 : L.all (fun c => isCode c || P c) = true) (h2 : ∀ c ∈ L.filter isCode, P c = true) : L.all P = true := by
  refine List.all_eq_true.mpr fun c hc => ?_
  have h := List.all_eq_true.mp h1 c hc
  rcases Bool.eq_false_or_eq_true (isCode c) with hi | hi
  · exact h2 c (List.mem_filter.mpr ⟨hc, hi⟩)
  · simpa [hi] using h
set_option maxRecDepth 65536 in
theorem w_c0 : (Jvm.Cond.code x code maxLocals ret).before args0 about1 = true := code_word (m := ⟨1, 1⟩) (meth := k1m1) (c := k1c1) (by decide +kernel) rfl rfl rfl (by decide +kernel)
set_option maxRecDepth 65536 in
theorem w_c1 : (Jvm.Cond.code ({ cls := "java/util/ArrayList", name := "<init>", desc := "()V" } : Jvm.MethodName) jdk_38_method_2_code (1 : Nat) (Option.none : Option Jvm.ClassFile.FieldType)).before args0 about1 = true := code_word (m := ⟨11, 0⟩) (meth := k11m0) (c := k11c0) (by decide +kernel) rfl rfl rfl (by decide +kernel)
set_option maxRecDepth 65536 in
theorem w_c2 : (Jvm.Cond.code ({ cls := "java/util/AbstractList", name := "<init>", desc := "()V" } : Jvm.MethodName) jdk_39_method_1_code (1 : Nat) (Option.none : Option Jvm.ClassFile.FieldType)).before args0 about1 = true := code_word (m := ⟨7, 0⟩) (meth := k7m0) (c := k7c0) (by decide +kernel) rfl rfl rfl (by decide +kernel)
set_option maxRecDepth 65536 in
theorem w_c3 : (Jvm.Cond.code ({ cls := "java/util/AbstractCollection", name := "<init>", desc := "()V" } : Jvm.MethodName) jdk_22_method_1_code (1 : Nat) (Option.none : Option Jvm.ClassFile.FieldType)).before args0 about1 = true := code_word (m := ⟨4, 0⟩) (meth := k4m0) (c := k4c0) (by decide +kernel) rfl rfl rfl (by decide +kernel)
set_option maxRecDepth 65536 in
theorem w_c4 : (Jvm.Cond.code ({ cls := "java/lang/Object", name := "<init>", desc := "()V" } : Jvm.MethodName) object_method_1_code (1 : Nat) (Option.none : Option Jvm.ClassFile.FieldType)).before args0 about1 = true := code_word (m := ⟨0, 0⟩) (meth := k0m0) (c := k0c0) (by decide +kernel) rfl rfl rfl (by decide +kernel)
set_option maxRecDepth 65536 in
theorem w_c5 : (Jvm.Cond.code ({ cls := "com/example/frisk/frisk/pattern/StateGraph", name := "<init>", desc := "(I[I[I[I[I[ILjava/util/List;I)V" } : Jvm.MethodName) prog_109_method_1_code (11 : Nat) (Option.none : Option Jvm.ClassFile.FieldType)).before args0 about1 = true := code_word (m := ⟨12, 0⟩) (meth := k12m0) (c := k12c0) (by decide +kernel) rfl rfl rfl (by decide +kernel)
set_option maxRecDepth 65536 in
theorem w_c6 : (Jvm.Cond.code ({ cls := "java/util/Arrays", name := "copyOf", desc := "([II)[I" } : Jvm.MethodName) jdk_65_method_123_code (3 : Nat) (Option.some (Jvm.ClassFile.FieldType.array Jvm.ClassFile.FieldType.int))).before args0 about1 = true := code_word (m := ⟨13, 2⟩) (meth := k13m2) (c := k13c2) (by decide +kernel) rfl rfl rfl (by decide +kernel)
set_option maxRecDepth 65536 in
theorem w_c7 : (Jvm.Cond.code ({ cls := "com/example/frisk/frisk/pattern/StateGraph", name := "renumberClasses", desc := "([ILjava/util/List;)[Lcom/example/frisk/frisk/pattern/CharacterClass;" } : Jvm.MethodName) prog_109_method_18_code (6 : Nat) (Option.some (Jvm.ClassFile.FieldType.array (Jvm.ClassFile.FieldType.object "com/example/frisk/frisk/pattern/CharacterClass")))).before args0 about1 = true := code_word (m := ⟨12, 2⟩) (meth := k12m2) (c := k12c2) (by decide +kernel) rfl rfl rfl (by decide +kernel)
set_option maxRecDepth 65536 in
theorem w_c8 : (Jvm.Cond.code ({ cls := "java/util/ArrayList", name := "size", desc := "()I" } : Jvm.MethodName) jdk_38_method_8_code (1 : Nat) (Option.some Jvm.ClassFile.FieldType.int)).before args0 about1 = true := code_word (m := ⟨11, 1⟩) (meth := k11m1) (c := k11c1) (by decide +kernel) rfl rfl rfl (by decide +kernel)
set_option maxRecDepth 65536 in
theorem w_c9 : (Jvm.Cond.code ({ cls := "java/util/Arrays", name := "fill", desc := "([II)V" } : Jvm.MethodName) jdk_65_method_103_code (4 : Nat) (Option.none : Option Jvm.ClassFile.FieldType)).before args0 about1 = true := code_word (m := ⟨13, 1⟩) (meth := k13m1) (c := k13c1) (by decide +kernel) rfl rfl rfl (by decide +kernel)
set_option maxRecDepth 65536 in
theorem w_c10 : (Jvm.Cond.code ({ cls := "java/util/ArrayList", name := "toArray", desc := "([Ljava/lang/Object;)[Ljava/lang/Object;" } : Jvm.MethodName) jdk_38_method_17_code (2 : Nat) (Option.some (Jvm.ClassFile.FieldType.array (Jvm.ClassFile.FieldType.object "java/lang/Object")))).before args0 about1 = true := code_word (m := ⟨11, 2⟩) (meth := k11m2) (c := k11c2) (by decide +kernel) rfl rfl rfl (by decide +kernel)
set_option maxRecDepth 65536 in
theorem w_c11 : (Jvm.Cond.code ({ cls := "com/example/frisk/frisk/pattern/StateGraph", name := "successors", desc := "(I)[I" } : Jvm.MethodName) prog_109_method_9_code (3 : Nat) (Option.some (Jvm.ClassFile.FieldType.array Jvm.ClassFile.FieldType.int))).before args0 about1 = true := code_word (m := ⟨12, 1⟩) (meth := k12m1) (c := k12c1) (by decide +kernel) rfl rfl rfl (by decide +kernel)
def codes1 : List Jvm.Cond := [Jvm.Cond.code x code maxLocals ret, Jvm.Cond.code ({ cls := "java/util/ArrayList", name := "<init>", desc := "()V" } : Jvm.MethodName) jdk_38_method_2_code (1 : Nat) (Option.none : Option Jvm.ClassFile.FieldType), Jvm.Cond.code ({ cls := "java/util/AbstractList", name := "<init>", desc := "()V" } : Jvm.MethodName) jdk_39_method_1_code (1 : Nat) (Option.none : Option Jvm.ClassFile.FieldType), Jvm.Cond.code ({ cls := "java/util/AbstractCollection", name := "<init>", desc := "()V" } : Jvm.MethodName) jdk_22_method_1_code (1 : Nat) (Option.none : Option Jvm.ClassFile.FieldType), Jvm.Cond.code ({ cls := "java/lang/Object", name := "<init>", desc := "()V" } : Jvm.MethodName) object_method_1_code (1 : Nat) (Option.none : Option Jvm.ClassFile.FieldType), Jvm.Cond.code ({ cls := "com/example/frisk/frisk/pattern/StateGraph", name := "<init>", desc := "(I[I[I[I[I[ILjava/util/List;I)V" } : Jvm.MethodName) prog_109_method_1_code (11 : Nat) (Option.none : Option Jvm.ClassFile.FieldType), Jvm.Cond.code ({ cls := "java/util/Arrays", name := "copyOf", desc := "([II)[I" } : Jvm.MethodName) jdk_65_method_123_code (3 : Nat) (Option.some (Jvm.ClassFile.FieldType.array Jvm.ClassFile.FieldType.int)), Jvm.Cond.code ({ cls := "com/example/frisk/frisk/pattern/StateGraph", name := "renumberClasses", desc := "([ILjava/util/List;)[Lcom/example/frisk/frisk/pattern/CharacterClass;" } : Jvm.MethodName) prog_109_method_18_code (6 : Nat) (Option.some (Jvm.ClassFile.FieldType.array (Jvm.ClassFile.FieldType.object "com/example/frisk/frisk/pattern/CharacterClass"))), Jvm.Cond.code ({ cls := "java/util/ArrayList", name := "size", desc := "()I" } : Jvm.MethodName) jdk_38_method_8_code (1 : Nat) (Option.some Jvm.ClassFile.FieldType.int), Jvm.Cond.code ({ cls := "java/util/Arrays", name := "fill", desc := "([II)V" } : Jvm.MethodName) jdk_65_method_103_code (4 : Nat) (Option.none : Option Jvm.ClassFile.FieldType), Jvm.Cond.code ({ cls := "java/util/ArrayList", name := "toArray", desc := "([Ljava/lang/Object;)[Ljava/lang/Object;" } : Jvm.MethodName) jdk_38_method_17_code (2 : Nat) (Option.some (Jvm.ClassFile.FieldType.array (Jvm.ClassFile.FieldType.object "java/lang/Object"))), Jvm.Cond.code ({ cls := "com/example/frisk/frisk/pattern/StateGraph", name := "successors", desc := "(I)[I" } : Jvm.MethodName) prog_109_method_9_code (3 : Nat) (Option.some (Jvm.ClassFile.FieldType.array Jvm.ClassFile.FieldType.int))]
set_option maxRecDepth 65536 in
theorem codes_eq : words1.filter isCode = codes1 := rfl
theorem w_codes : ∀ c ∈ words1.filter isCode, c.before args0 about1 = true := by
  rw [codes_eq]
  intro c hc
  simp only [codes1, List.mem_cons, List.not_mem_nil, or_false] at hc
  rcases hc with rfl | rfl | rfl | rfl | rfl | rfl | rfl | rfl | rfl | rfl | rfl | rfl
  · exact w_c0
  · exact w_c1
  · exact w_c2
  · exact w_c3
  · exact w_c4
  · exact w_c5
  · exact w_c6
  · exact w_c7
  · exact w_c8
  · exact w_c9
  · exact w_c10
  · exact w_c11
set_option maxRecDepth 65536 in
theorem w_t1 : (words1.take 24).all (fun c => isCode c || c.before args0 about1) = true := by decide +kernel
set_option maxRecDepth 65536 in
theorem w_t2 : ((words1.drop 24).take 24).all (fun c => isCode c || c.before args0 about1) = true := by decide +kernel
set_option maxRecDepth 65536 in
theorem w_t3 : (((words1.drop 24).drop 24).take 24).all (fun c => isCode c || c.before args0 about1) = true := by decide +kernel
set_option maxRecDepth 65536 in
theorem w_t4 : ((((words1.drop 24).drop 24).drop 24).take 24).all (fun c => isCode c || c.before args0 about1) = true := by decide +kernel
set_option maxRecDepth 65536 in
theorem w_t5 : ((((words1.drop 24).drop 24).drop 24).drop 24).all (fun c => isCode c || c.before args0 about1) = true := by decide +kernel
theorem w_tables : (allAtoms (Jvm.Cond.code x code maxLocals ret :: tables_1)).before args0 about1 = true := by
  rw [allAtoms_all]
  show words1.all (fun c => c.before args0 about1) = true
  refine all_split ?_ w_codes
  rw [← List.take_append_drop 24 words1, List.all_append, w_t1, ← List.take_append_drop 24 (words1.drop 24), List.all_append, w_t2, ← List.take_append_drop 24 ((words1.drop 24).drop 24), List.all_append, w_t3, ← List.take_append_drop 24 (((words1.drop 24).drop 24).drop 24), List.all_append, w_t4, w_t5]
  rfl
set_option maxRecDepth 65536 in
theorem w_rest : rest_1_c.before args0 about1 = true := by decide +kernel
set_option maxRecDepth 65536 in
theorem w_case : (Jvm.Cond.and given_1 narrow_1).before args0 about1 = true := by decide +kernel
theorem w_applies : (headSpec (Jvm.Cond.code x code maxLocals ret :: tables_1) room_1).applies x e0.platform about1 = true :=
  (Spec.applies_iff w_frames).mpr ⟨w_running, w_runnable, w_alone, w_named, w_hears, w_ripe, w_room, w_tables⟩
theorem atStart : AtStart classFile x code maxLocals ret World_1 tables_1 room_1 Calls_1 rest_1 Pre_1 launch0 p0 e0 about1 theMethod args0 below0 :=
  ⟨lists_1, trivial, launch0.admits_env _ _ _, launch0.least_env, fairChoices_fair.cas, fairChoices_fair.clock, w_frames, w_args, w_heap, w_applies, trivial, w_rest, w_case⟩
end start1
theorem witness_1 : WitnessClaimed_1 := ⟨start1.p0, start1.e0, start1.about1, start1.theMethod, start1.args0, start1.below0, start1.atStart⟩
end Jvm.Pilot.@@N@@
