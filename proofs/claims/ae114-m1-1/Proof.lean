import JvmDerived
import JvmDerived.Pilot.@@N@@Statement
import JvmDerived.Pilot.@@N@@Code
set_option linter.unusedVariables false
set_option linter.unusedSimpArgs false
namespace Jvm.RoadKit
open Sem ClassFile Op Lib Jvm.Stand Jvm.Free Jvm.LawKit
section New
variable {p : Program} {l : Launch} {e : Env} {R : Room} {s : State} {m : MethodId} {args : Array Value} {below : List Frame} {meth : Method} {c : Code} {T : State} {locs : List Loc} {cells slots : Nat}
theorem retI (X : Stand p l e R s m args below meth c T locs cells slots) (hx : p.tables.exec = Jvm.exec) {pc : Nat} {Ls : Array Slot} {z : Int32} {rest : List Value} (hret : meth.sig.returnType = some .int) (hd : decode c.code pc = .ok (.ireturn, 1)) {fs : List Frame}
    (hl : ∀ (f : JFrame) (acts : List Action), f.method = m → f.locked = none → f.entered = [] → (doReturn e (T.setTop f) acts (some (.int z))).1 = T.setFrames fs) : Steps p.tables e below (T.setTop (mkF m pc Ls (.int z :: rest))) (T.setFrames fs) :=
  retOut X hx hret rfl (Or.inl ⟨rfl, Or.inl rfl, _, rfl⟩) hd hl
theorem own_retJ (X : Stand p l e R s m args below meth c T locs cells slots) (hx : p.tables.exec = Jvm.exec) {pc : Nat} {Ls : Array Slot} {z : Int64} {rest : List Value} (hret : meth.sig.returnType = some .long) (hd : decode c.code pc = .ok (.lreturn, 1)) {fs : List Frame}
    (hl : ∀ (f : JFrame) (acts : List Action), f.method = m → f.locked = none → f.entered = [] → (doReturn e (T.setTop f) acts (some (.long z))).1 = T.setFrames fs) : Steps p.tables e below (T.setTop (mkF m pc Ls (.long z :: rest))) (T.setFrames fs) :=
  retOut X hx hret rfl (Or.inr (Or.inl ⟨rfl, rfl, _, rfl⟩)) hd hl
theorem own_retD (X : Stand p l e R s m args below meth c T locs cells slots) (hx : p.tables.exec = Jvm.exec) {pc : Nat} {Ls : Array Slot} {z : UInt64} {rest : List Value} (hret : meth.sig.returnType = some .double) (hd : decode c.code pc = .ok (.dreturn, 1)) {fs : List Frame}
    (hl : ∀ (f : JFrame) (acts : List Action), f.method = m → f.locked = none → f.entered = [] → (doReturn e (T.setTop f) acts (some (.double z))).1 = T.setFrames fs) : Steps p.tables e below (T.setTop (mkF m pc Ls (.double z :: rest))) (T.setFrames fs) :=
  retOut X hx hret rfl (Or.inr (Or.inr (Or.inl ⟨rfl, rfl, _, rfl⟩))) hd hl
theorem own_retR (X : Stand p l e R s m args below meth c T locs cells slots) (hx : p.tables.exec = Jvm.exec) {pc : Nat} {Ls : Array Slot} {w : Value} {t : FieldType} {rest : List Value} (hret : meth.sig.returnType = some t) (ht : t.isReference = true) (hv : w.isRef = true) (hd : decode c.code pc = .ok (.areturn, 1)) {fs : List Frame}
    (hl : ∀ (f : JFrame) (acts : List Action), f.method = m → f.locked = none → f.entered = [] → (doReturn e (T.setTop f) acts (some w)).1 = T.setFrames fs) : Steps p.tables e below (T.setTop (mkF m pc Ls (w :: rest))) (T.setFrames fs) :=
  retOut X hx hret (by rcases ref_cases hv with rfl | ⟨a, rfl⟩ <;> cases t <;> first | rfl | cases ht) (Or.inr (Or.inr (Or.inr (Or.inr ⟨rfl, ht, hv⟩)))) hd hl
end New
section Own
variable {p : Program} {e : Env} {below : List Frame}
/-- the run from S ends as P says -/
def own_Gl (p : Program) (e : Env) (below : List Frame) (P : Outcome → State → Prop) (S : State) : Prop := ∃ s₂ o, Steps p.tables e below S s₂ ∧ s₂.status = .running ∧ Ended s₂ below o ∧ P o s₂
theorem own_gl {P : Outcome → State → Prop} {S : State} (h : own_Gl p e below P S) : ∃ s₂ o, Steps p.tables e below S s₂ ∧ s₂.status = .running ∧ Ended s₂ below o ∧ P o s₂ := h
theorem own_st {P : Outcome → State → Prop} {S S' : State} (h : ∀ t, Steps p.tables e below S' t → Steps p.tables e below S t) (k : own_Gl p e below P S') : own_Gl p e below P S := by
  obtain ⟨s₂, o, h1, h2⟩ := k
  exact ⟨s₂, o, h _ h1, h2⟩
theorem own_cast {P : Outcome → State → Prop} {S S' : State} (h : S' = S) (k : own_Gl p e below P S') : own_Gl p e below P S := h ▸ k
theorem own_join {P : Outcome → State → Prop} {S : State} {α : Type} {F : α → State} {H : α → Prop} (J : ∀ x, H x → own_Gl p e below P (F x)) (k : (∀ x, H x → own_Gl p e below P (F x)) → own_Gl p e below P S) : own_Gl p e below P S := k J
theorem own_selfsel {s : State} {args : Array Value} {y : MethodName} {n : Nat} (wi : (Cond.instantiable y.cls n).before args s = true) (wp : (Cond.privateMethod y).before args s = true) (hinst : (Cond.instanceMethod y).before args s = true) (hy : y.cls ≠ "java/lang/invoke/MethodHandle" ∧ y.cls ≠ "java/lang/invoke/VarHandle") : (Cond.selects y.cls y y).before args s = true := by
  obtain ⟨c, k, h1, h2, -, h3, -⟩ := Cond.instantiable_spec wi
  exact selects_self_of_private h1 h2 (by simp only [Bool.or_eq_false_iff] at h3; exact h3.1) (Cond.privateMethod_at wp) hinst hy
/-- a place of an array is written, whatever it holds -/
theorem own_arv_any {Z : State} {h h' : Heap} {a : Addr} {c : Cell} {k : ClassId} {ty : FieldType} {z j : Int32} {vs : List Value} {dv v : Value} (A : Arr Z h a c ty) (q1 : c.cls = k) (S : c.slots.size = z.toNatClampNeg) (q3 : ¬ z < 0) (H : Has c vs dv) (G : ∀ i, i < c.slots.size → fits ty (vs.getD i dv) = true) (hv : fits ty v = true) (W : Wr h h' a j.toNatClampNeg v) (hj : ¬ (j < 0 ∨ c.slots.size ≤ j.toNatClampNeg)) : ∃ vs', Arv Z h' a k ty z vs' dv := by
  have F : Arv Z h a k ty z (vs ++ List.replicate z.toNatClampNeg dv) dv := Arv.pad ⟨c, A, q1, S, q3, H, G⟩ (pad_rep vs dv _)
  obtain ⟨c', A', r1, r2, r3, r4, r5⟩ := F
  cases A.1.symm.trans A'.1
  exact ⟨_, Arv.set A' r1 r2 r3 r4 r5 hv W j.toNatClampNeg rfl (by
    have q := Nat.lt_of_not_le fun y => hj (Or.inr y)
    rw [S] at q
    simp only [List.length_append, List.length_replicate]
    omega)⟩
end Own
end Jvm.RoadKit

namespace Jvm.Pilot.@@N@@
open Jvm Jvm.ClassFile Sem Op Lib Jvm.Free Jvm.Stand Jvm.LawKit Jvm.RoadKit Bundle Jvm.Pilot.@@N@@.Jvm.D

/-- what isChar and reference compute -/
def own_isc (c : Int32) : Int32 := if c < 32 then (if c = 9 then 1 else if c = 10 then 1 else if c = 13 then 1 else 0) else if 55295 < c then (if c < 57344 then (if c < 65536 then 0 else if 1114111 < c then 0 else 1) else if 65533 < c then (if c < 65536 then 0 else if 1114111 < c then 0 else 1) else 1) else 1
def own_ref (c : Int32) : Int32 := if c = 9 then 1 else if c = 10 then 1 else if c = 13 then 1 else if c < 32 then (if c < 57344 then (if c < 65536 then 0 else if 1114111 < c then 0 else 1) else if 65533 < c then (if c < 65536 then 0 else if 1114111 < c then 0 else 1) else 1) else if 55295 < c then (if c < 57344 then (if c < 65536 then 0 else if 1114111 < c then 0 else 1) else if 65533 < c then (if c < 65536 then 0 else if 1114111 < c then 0 else 1) else 1) else 1
theorem own_same (c : Int32) : own_isc c = own_ref c := by
  apply Int32.toInt_inj.mp
  unfold own_isc own_ref
  simp only [Int32.lt_iff_toInt_lt, ← Int32.toInt_inj, apply_ite Int32.toInt]
  have e : (9 : Int32).toInt = 9 ∧ (10 : Int32).toInt = 10 ∧ (13 : Int32).toInt = 13 ∧ (32 : Int32).toInt = 32 ∧ (55295 : Int32).toInt = 55295 ∧ (57344 : Int32).toInt = 57344 ∧ (65533 : Int32).toInt = 65533 ∧ (65536 : Int32).toInt = 65536 ∧ (1114111 : Int32).toInt = 1114111 ∧ (0 : Int32).toInt = 0 ∧ (1 : Int32).toInt = 1 := by decide
  obtain ⟨e0, e1, e2, e3, e4, e5, e6, e7, e8, z0, z1⟩ := e
  rw [e0, e1, e2, e3, e4, e5, e6, e7, e8, z0, z1]
  omega
theorem own_idx (x : Int32) : ¬ (x &&& 15) < 0 ∧ (x &&& 15) < (16 : Int32) := by
  have h := c_mask x 15 4 (by decide) (by decide)
  rw [Int32.lt_iff_toInt_lt, Int32.lt_iff_toInt_lt]
  have e : (0 : Int32).toInt = 0 ∧ (16 : Int32).toInt = 16 := by decide
  rw [e.1, e.2]
  omega
theorem own_allint {l : List Value} (h : ∀ v ∈ l, ∃ w : Int32, v = .int w) (i : Nat) : ∃ w : Int32, l.getD i (.int (0 : Int32)) = .int w := by
  rw [List.getD_eq_getElem?_getD]
  cases e : l[i]? with
  | none => exact ⟨0, rfl⟩
  | some v => exact h v (List.mem_of_getElem? e)

theorem d1_0 : decode prog_111_method_2_code 0 = .ok (.iload_n 0, 1) := by decide +kernel
theorem d1_1 : decode prog_111_method_2_code 1 = .ok (.bipush 32, 2) := by decide +kernel
theorem d1_3 : decode prog_111_method_2_code 3 = .ok (.if_icmp .lt 41, 3) := by decide +kernel
theorem d1_6 : decode prog_111_method_2_code 6 = .ok (.iload_n 0, 1) := by decide +kernel
theorem d1_7 : decode prog_111_method_2_code 7 = .ok (.ldc 7, 2) := by decide +kernel
theorem d1_9 : decode prog_111_method_2_code 9 = .ok (.if_icmp .le 27, 3) := by decide +kernel
theorem d1_12 : decode prog_111_method_2_code 12 = .ok (.iload_n 0, 1) := by decide +kernel
theorem d1_13 : decode prog_111_method_2_code 13 = .ok (.ldc 8, 2) := by decide +kernel
theorem d1_15 : decode prog_111_method_2_code 15 = .ok (.if_icmp .lt 9, 3) := by decide +kernel
theorem d1_18 : decode prog_111_method_2_code 18 = .ok (.iload_n 0, 1) := by decide +kernel
theorem d1_19 : decode prog_111_method_2_code 19 = .ok (.ldc 9, 2) := by decide +kernel
theorem d1_21 : decode prog_111_method_2_code 21 = .ok (.if_icmp .le 15, 3) := by decide +kernel
theorem d1_24 : decode prog_111_method_2_code 24 = .ok (.iload_n 0, 1) := by decide +kernel
theorem d1_25 : decode prog_111_method_2_code 25 = .ok (.ldc 10, 2) := by decide +kernel
theorem d1_27 : decode prog_111_method_2_code 27 = .ok (.if_icmp .lt 13, 3) := by decide +kernel
theorem d1_30 : decode prog_111_method_2_code 30 = .ok (.iload_n 0, 1) := by decide +kernel
theorem d1_31 : decode prog_111_method_2_code 31 = .ok (.ldc 11, 2) := by decide +kernel
theorem d1_33 : decode prog_111_method_2_code 33 = .ok (.if_icmp .gt 7, 3) := by decide +kernel
theorem d1_36 : decode prog_111_method_2_code 36 = .ok (.iconst 1, 1) := by decide +kernel
theorem d1_37 : decode prog_111_method_2_code 37 = .ok (.goto 30, 3) := by decide +kernel
theorem d1_40 : decode prog_111_method_2_code 40 = .ok (.iconst 0, 1) := by decide +kernel
theorem d1_41 : decode prog_111_method_2_code 41 = .ok (.goto 26, 3) := by decide +kernel
theorem d1_44 : decode prog_111_method_2_code 44 = .ok (.iload_n 0, 1) := by decide +kernel
theorem d1_45 : decode prog_111_method_2_code 45 = .ok (.bipush 9, 2) := by decide +kernel
theorem d1_47 : decode prog_111_method_2_code 47 = .ok (.if_icmp .eq 15, 3) := by decide +kernel
theorem d1_50 : decode prog_111_method_2_code 50 = .ok (.iload_n 0, 1) := by decide +kernel
theorem d1_51 : decode prog_111_method_2_code 51 = .ok (.bipush 10, 2) := by decide +kernel
theorem d1_53 : decode prog_111_method_2_code 53 = .ok (.if_icmp .eq 9, 3) := by decide +kernel
theorem d1_56 : decode prog_111_method_2_code 56 = .ok (.iload_n 0, 1) := by decide +kernel
theorem d1_57 : decode prog_111_method_2_code 57 = .ok (.bipush 13, 2) := by decide +kernel
theorem d1_59 : decode prog_111_method_2_code 59 = .ok (.if_icmp .ne 7, 3) := by decide +kernel
theorem d1_62 : decode prog_111_method_2_code 62 = .ok (.iconst 1, 1) := by decide +kernel
theorem d1_63 : decode prog_111_method_2_code 63 = .ok (.goto 4, 3) := by decide +kernel
theorem d1_66 : decode prog_111_method_2_code 66 = .ok (.iconst 0, 1) := by decide +kernel
theorem d1_67 : decode prog_111_method_2_code 67 = .ok (.ireturn, 1) := by decide +kernel
theorem pn_0 : plainName "com/example/frisk/frisk/pattern/XmlCharacters" = true := by first | (simp [plainName, overriddenIn]; done) | decide +kernel
theorem ef_1 (m : MethodId) (p1 : Int32) : entryFrame m #[(.int p1)] 1 = mkF m 0 #[.val (.int p1)] [] := by first | (simp [entryFrame, mkF, argsToLocals, Value.category]; done) | rfl
def Q1 (Z : State) (p1 : Int32) (h0 : Heap) (n0 : Nat) (v : Option Value) (h : Heap) (L : List Loc) : Prop := v = some (.int (own_isc p1)) ∧ Fr n0 L ∧ h = h0
set_option maxRecDepth 65536 in
set_option maxHeartbeats 40000000 in
theorem rm1 (l : Launch) (Z : State) (a0 : Array Value) (hw : ∀ d ∈ tables_1, d.before a0 Z = true) (ws : List Jvm.Cond) (p1 : Int32) (h0 : Heap) (n0 : Nat) (Z0 : n0 ≤ h0.size)  :
    MetFree l (⟨"com/example/frisk/frisk/pattern/XmlCharacters", "isChar", "(I)Z"⟩ : MethodName) (head1 (Jvm.Cond.code (⟨"com/example/frisk/frisk/pattern/XmlCharacters", "isChar", "(I)Z"⟩ : MethodName) prog_111_method_2_code 1 (some .boolean) :: ws) ({ frames := 0, cells := 0, slots := 0, locals := 0 } : Room)) (fun ar_ U => ar_ = #[(.int p1)] ∧ Z.Warmed39 U.vm ∧ U.heap = h0) (fun _ _ _ _ _ => True) (fun _ U o U' => ∃ v L, o = .returned v ∧ Q1 Z p1 h0 n0 v U'.heap L ∧ FrameEnd U o U' L ({ frames := 0, cells := 0, slots := 0, locals := 0 } : Room).cells ({ frames := 0, cells := 0, slots := 0, locals := 0 } : Room).slots) := by
  refine MetFree.of_bodySF (plainFor_of_name pn_0) hisR ?_
  intro p e s m args below meth c s₁ Bd hml0 hP hK
  obtain ⟨rfl, hZ, hh⟩ := hP
  have hx := Bd.exec
  have hby := Bd.bytes
  have hml : c.maxLocals = 1 := hml0
  have hown : s.vm.findClass "com/example/frisk/frisk/pattern/XmlCharacters" = some m.cls := findClass_of_methodNamed Bd.named
  have hnm := (name_of_methodNamed Bd.named Bd.method).1
  have X0 : Stand p l e ({ frames := 0, cells := 0, slots := 0, locals := 0 } : Room) s m #[(.int p1)] below meth c s₁ [] 0 0 := Stand.of_body Bd
  have e0 : s₁.heap = h0 := by rw [← hh, Bd.state]; rfl
  have N0 := Fr.nil n0
  refine own_gl ?_
  refine own_st (S' := s₁.setTop (mkF m 0 #[.val (.int p1)] [])) (fun t_ k_ => castTop (ef_1 m p1) k_) ?_
  refine own_st (S' := s₁.setTop (mkF m 1 #[.val (.int p1)] [(.int p1)])) (fun t_ k_ => XS.iloadN X0.here hx rfl (hb hby d1_0) rfl k_) ?_
  refine own_st (S' := s₁.setTop (mkF m 3 #[.val (.int p1)] [(.int (32 : Int32)), (.int p1)])) (fun t_ k_ => XS.bipush X0.here hx rfl (hb hby d1_1) k_) ?_
  by_cases hc3 : p1 < (32 : Int32)
  · refine own_st (S' := s₁.setTop (mkF m 44 #[.val (.int p1)] [])) (fun t_ k_ => XS.icmpYes X0.here hx rfl (pc0 := 3) (pc' := 44) rfl (hb hby d1_3) rfl (tlt hc3).1 (by decide) (by decide) k_) ?_
    refine own_st (S' := s₁.setTop (mkF m 45 #[.val (.int p1)] [(.int p1)])) (fun t_ k_ => XS.iloadN X0.here hx rfl (hb hby d1_44) rfl k_) ?_
    refine own_st (S' := s₁.setTop (mkF m 47 #[.val (.int p1)] [(.int (9 : Int32)), (.int p1)])) (fun t_ k_ => XS.bipush X0.here hx rfl (hb hby d1_45) k_) ?_
    by_cases hc47 : p1 = (9 : Int32)
    · refine own_st (S' := s₁.setTop (mkF m 62 #[.val (.int p1)] [])) (fun t_ k_ => XS.icmpYes X0.here hx rfl (pc0 := 47) (pc' := 62) rfl (hb hby d1_47) rfl (teq hc47).1 (by decide) (by decide) k_) ?_
      refine own_st (S' := s₁.setTop (mkF m 63 #[.val (.int p1)] [(.int (1 : Int32))])) (fun t_ k_ => XS.iconst X0.here hx rfl (hb hby d1_62) k_) ?_
      refine own_st (S' := s₁.setTop (mkF m 67 #[.val (.int p1)] [(.int (1 : Int32))])) (fun t_ k_ => XS.goto X0.here hx rfl (pc0 := 63) (pc' := 67) rfl (hb hby d1_63) (by decide) (by decide) k_) ?_
      obtain ⟨fs, hr, hrun, hended, hW, hsame⟩ := X0.leave (v := some (.int (1 : Int32))) (fun h => by rw [Bd.returns] at h; cases h)
      refine ⟨_, _, retN X0 hx (t := .boolean) Bd.returns (by simp) (hb hby d1_67) hr, hrun, hended, _, _, rfl, ?_, ⟨_, rfl⟩, hW, hsame.mono (by decide) (by decide)⟩
      show Q1 Z p1 h0 n0 _ s₁.heap _
      rw [e0]
      exact ⟨(congrArg (fun z => some (Value.int z)) (show (1 : Int32) = (own_isc p1) from by simp [own_isc, hc3, hc47])), N0, rfl⟩
    · refine own_st (S' := s₁.setTop (mkF m 50 #[.val (.int p1)] [])) (fun t_ k_ => XS.icmpNo X0.here hx rfl (hb hby d1_47) rfl (feq hc47).1 k_) ?_
      refine own_st (S' := s₁.setTop (mkF m 51 #[.val (.int p1)] [(.int p1)])) (fun t_ k_ => XS.iloadN X0.here hx rfl (hb hby d1_50) rfl k_) ?_
      refine own_st (S' := s₁.setTop (mkF m 53 #[.val (.int p1)] [(.int (10 : Int32)), (.int p1)])) (fun t_ k_ => XS.bipush X0.here hx rfl (hb hby d1_51) k_) ?_
      by_cases hc53 : p1 = (10 : Int32)
      · refine own_st (S' := s₁.setTop (mkF m 62 #[.val (.int p1)] [])) (fun t_ k_ => XS.icmpYes X0.here hx rfl (pc0 := 53) (pc' := 62) rfl (hb hby d1_53) rfl (teq hc53).1 (by decide) (by decide) k_) ?_
        refine own_st (S' := s₁.setTop (mkF m 63 #[.val (.int p1)] [(.int (1 : Int32))])) (fun t_ k_ => XS.iconst X0.here hx rfl (hb hby d1_62) k_) ?_
        refine own_st (S' := s₁.setTop (mkF m 67 #[.val (.int p1)] [(.int (1 : Int32))])) (fun t_ k_ => XS.goto X0.here hx rfl (pc0 := 63) (pc' := 67) rfl (hb hby d1_63) (by decide) (by decide) k_) ?_
        obtain ⟨fs, hr, hrun, hended, hW, hsame⟩ := X0.leave (v := some (.int (1 : Int32))) (fun h => by rw [Bd.returns] at h; cases h)
        refine ⟨_, _, retN X0 hx (t := .boolean) Bd.returns (by simp) (hb hby d1_67) hr, hrun, hended, _, _, rfl, ?_, ⟨_, rfl⟩, hW, hsame.mono (by decide) (by decide)⟩
        show Q1 Z p1 h0 n0 _ s₁.heap _
        rw [e0]
        exact ⟨(congrArg (fun z => some (Value.int z)) (show (1 : Int32) = (own_isc p1) from by simp [own_isc, hc3, hc47, hc53])), N0, rfl⟩
      · refine own_st (S' := s₁.setTop (mkF m 56 #[.val (.int p1)] [])) (fun t_ k_ => XS.icmpNo X0.here hx rfl (hb hby d1_53) rfl (feq hc53).1 k_) ?_
        refine own_st (S' := s₁.setTop (mkF m 57 #[.val (.int p1)] [(.int p1)])) (fun t_ k_ => XS.iloadN X0.here hx rfl (hb hby d1_56) rfl k_) ?_
        refine own_st (S' := s₁.setTop (mkF m 59 #[.val (.int p1)] [(.int (13 : Int32)), (.int p1)])) (fun t_ k_ => XS.bipush X0.here hx rfl (hb hby d1_57) k_) ?_
        by_cases hc59 : p1 = (13 : Int32)
        · refine own_st (S' := s₁.setTop (mkF m 62 #[.val (.int p1)] [])) (fun t_ k_ => XS.icmpNo X0.here hx rfl (hb hby d1_59) rfl (teq hc59).2 k_) ?_
          refine own_st (S' := s₁.setTop (mkF m 63 #[.val (.int p1)] [(.int (1 : Int32))])) (fun t_ k_ => XS.iconst X0.here hx rfl (hb hby d1_62) k_) ?_
          refine own_st (S' := s₁.setTop (mkF m 67 #[.val (.int p1)] [(.int (1 : Int32))])) (fun t_ k_ => XS.goto X0.here hx rfl (pc0 := 63) (pc' := 67) rfl (hb hby d1_63) (by decide) (by decide) k_) ?_
          obtain ⟨fs, hr, hrun, hended, hW, hsame⟩ := X0.leave (v := some (.int (1 : Int32))) (fun h => by rw [Bd.returns] at h; cases h)
          refine ⟨_, _, retN X0 hx (t := .boolean) Bd.returns (by simp) (hb hby d1_67) hr, hrun, hended, _, _, rfl, ?_, ⟨_, rfl⟩, hW, hsame.mono (by decide) (by decide)⟩
          show Q1 Z p1 h0 n0 _ s₁.heap _
          rw [e0]
          exact ⟨(congrArg (fun z => some (Value.int z)) (show (1 : Int32) = (own_isc p1) from by simp [own_isc, hc3, hc47, hc53, hc59])), N0, rfl⟩
        · refine own_st (S' := s₁.setTop (mkF m 66 #[.val (.int p1)] [])) (fun t_ k_ => XS.icmpYes X0.here hx rfl (pc0 := 59) (pc' := 66) rfl (hb hby d1_59) rfl (feq hc59).2 (by decide) (by decide) k_) ?_
          refine own_st (S' := s₁.setTop (mkF m 67 #[.val (.int p1)] [(.int (0 : Int32))])) (fun t_ k_ => XS.iconst X0.here hx rfl (hb hby d1_66) k_) ?_
          obtain ⟨fs, hr, hrun, hended, hW, hsame⟩ := X0.leave (v := some (.int (0 : Int32))) (fun h => by rw [Bd.returns] at h; cases h)
          refine ⟨_, _, retN X0 hx (t := .boolean) Bd.returns (by simp) (hb hby d1_67) hr, hrun, hended, _, _, rfl, ?_, ⟨_, rfl⟩, hW, hsame.mono (by decide) (by decide)⟩
          show Q1 Z p1 h0 n0 _ s₁.heap _
          rw [e0]
          exact ⟨(congrArg (fun z => some (Value.int z)) (show (0 : Int32) = (own_isc p1) from by simp [own_isc, hc3, hc47, hc53, hc59])), N0, rfl⟩
  · refine own_st (S' := s₁.setTop (mkF m 6 #[.val (.int p1)] [])) (fun t_ k_ => XS.icmpNo X0.here hx rfl (hb hby d1_3) rfl (flt hc3).1 k_) ?_
    refine own_st (S' := s₁.setTop (mkF m 7 #[.val (.int p1)] [(.int p1)])) (fun t_ k_ => XS.iloadN X0.here hx rfl (hb hby d1_6) rfl k_) ?_
    refine own_st (S' := s₁.setTop (mkF m 9 #[.val (.int p1)] [(.int (55295 : Int32)), (.int p1)])) (fun t_ k_ => X0.ldcI hx hown (mvT hZ (hw _ (List.mem_of_getElem? (i := 18) rfl))) (g := (mkF m 7 #[.val (.int p1)] [(.int p1)])) rfl (hb hby d1_7) k_) ?_
    by_cases hc9 : (55295 : Int32) < p1
    · refine own_st (S' := s₁.setTop (mkF m 12 #[.val (.int p1)] [])) (fun t_ k_ => XS.icmpNo X0.here hx rfl (hb hby d1_9) rfl (tlt hc9).2.2.2 k_) ?_
      refine own_st (S' := s₁.setTop (mkF m 13 #[.val (.int p1)] [(.int p1)])) (fun t_ k_ => XS.iloadN X0.here hx rfl (hb hby d1_12) rfl k_) ?_
      refine own_st (S' := s₁.setTop (mkF m 15 #[.val (.int p1)] [(.int (57344 : Int32)), (.int p1)])) (fun t_ k_ => X0.ldcI hx hown (mvT hZ (hw _ (List.mem_of_getElem? (i := 19) rfl))) (g := (mkF m 13 #[.val (.int p1)] [(.int p1)])) rfl (hb hby d1_13) k_) ?_
      by_cases hc15 : p1 < (57344 : Int32)
      · refine own_st (S' := s₁.setTop (mkF m 24 #[.val (.int p1)] [])) (fun t_ k_ => XS.icmpYes X0.here hx rfl (pc0 := 15) (pc' := 24) rfl (hb hby d1_15) rfl (tlt hc15).1 (by decide) (by decide) k_) ?_
        refine own_st (S' := s₁.setTop (mkF m 25 #[.val (.int p1)] [(.int p1)])) (fun t_ k_ => XS.iloadN X0.here hx rfl (hb hby d1_24) rfl k_) ?_
        refine own_st (S' := s₁.setTop (mkF m 27 #[.val (.int p1)] [(.int (65536 : Int32)), (.int p1)])) (fun t_ k_ => X0.ldcI hx hown (mvT hZ (hw _ (List.mem_of_getElem? (i := 20) rfl))) (g := (mkF m 25 #[.val (.int p1)] [(.int p1)])) rfl (hb hby d1_25) k_) ?_
        by_cases hc27 : p1 < (65536 : Int32)
        · refine own_st (S' := s₁.setTop (mkF m 40 #[.val (.int p1)] [])) (fun t_ k_ => XS.icmpYes X0.here hx rfl (pc0 := 27) (pc' := 40) rfl (hb hby d1_27) rfl (tlt hc27).1 (by decide) (by decide) k_) ?_
          refine own_st (S' := s₁.setTop (mkF m 41 #[.val (.int p1)] [(.int (0 : Int32))])) (fun t_ k_ => XS.iconst X0.here hx rfl (hb hby d1_40) k_) ?_
          refine own_st (S' := s₁.setTop (mkF m 67 #[.val (.int p1)] [(.int (0 : Int32))])) (fun t_ k_ => XS.goto X0.here hx rfl (pc0 := 41) (pc' := 67) rfl (hb hby d1_41) (by decide) (by decide) k_) ?_
          obtain ⟨fs, hr, hrun, hended, hW, hsame⟩ := X0.leave (v := some (.int (0 : Int32))) (fun h => by rw [Bd.returns] at h; cases h)
          refine ⟨_, _, retN X0 hx (t := .boolean) Bd.returns (by simp) (hb hby d1_67) hr, hrun, hended, _, _, rfl, ?_, ⟨_, rfl⟩, hW, hsame.mono (by decide) (by decide)⟩
          show Q1 Z p1 h0 n0 _ s₁.heap _
          rw [e0]
          exact ⟨(congrArg (fun z => some (Value.int z)) (show (0 : Int32) = (own_isc p1) from by simp [own_isc, hc3, hc9, hc15, hc27])), N0, rfl⟩
        · refine own_st (S' := s₁.setTop (mkF m 30 #[.val (.int p1)] [])) (fun t_ k_ => XS.icmpNo X0.here hx rfl (hb hby d1_27) rfl (flt hc27).1 k_) ?_
          refine own_st (S' := s₁.setTop (mkF m 31 #[.val (.int p1)] [(.int p1)])) (fun t_ k_ => XS.iloadN X0.here hx rfl (hb hby d1_30) rfl k_) ?_
          refine own_st (S' := s₁.setTop (mkF m 33 #[.val (.int p1)] [(.int (1114111 : Int32)), (.int p1)])) (fun t_ k_ => X0.ldcI hx hown (mvT hZ (hw _ (List.mem_of_getElem? (i := 22) rfl))) (g := (mkF m 31 #[.val (.int p1)] [(.int p1)])) rfl (hb hby d1_31) k_) ?_
          by_cases hc33 : (1114111 : Int32) < p1
          · refine own_st (S' := s₁.setTop (mkF m 40 #[.val (.int p1)] [])) (fun t_ k_ => XS.icmpYes X0.here hx rfl (pc0 := 33) (pc' := 40) rfl (hb hby d1_33) rfl (tlt hc33).2.2.1 (by decide) (by decide) k_) ?_
            refine own_st (S' := s₁.setTop (mkF m 41 #[.val (.int p1)] [(.int (0 : Int32))])) (fun t_ k_ => XS.iconst X0.here hx rfl (hb hby d1_40) k_) ?_
            refine own_st (S' := s₁.setTop (mkF m 67 #[.val (.int p1)] [(.int (0 : Int32))])) (fun t_ k_ => XS.goto X0.here hx rfl (pc0 := 41) (pc' := 67) rfl (hb hby d1_41) (by decide) (by decide) k_) ?_
            obtain ⟨fs, hr, hrun, hended, hW, hsame⟩ := X0.leave (v := some (.int (0 : Int32))) (fun h => by rw [Bd.returns] at h; cases h)
            refine ⟨_, _, retN X0 hx (t := .boolean) Bd.returns (by simp) (hb hby d1_67) hr, hrun, hended, _, _, rfl, ?_, ⟨_, rfl⟩, hW, hsame.mono (by decide) (by decide)⟩
            show Q1 Z p1 h0 n0 _ s₁.heap _
            rw [e0]
            exact ⟨(congrArg (fun z => some (Value.int z)) (show (0 : Int32) = (own_isc p1) from by simp [own_isc, hc3, hc9, hc15, hc27, hc33])), N0, rfl⟩
          · refine own_st (S' := s₁.setTop (mkF m 36 #[.val (.int p1)] [])) (fun t_ k_ => XS.icmpNo X0.here hx rfl (hb hby d1_33) rfl (flt hc33).2.2.1 k_) ?_
            refine own_st (S' := s₁.setTop (mkF m 37 #[.val (.int p1)] [(.int (1 : Int32))])) (fun t_ k_ => XS.iconst X0.here hx rfl (hb hby d1_36) k_) ?_
            refine own_st (S' := s₁.setTop (mkF m 67 #[.val (.int p1)] [(.int (1 : Int32))])) (fun t_ k_ => XS.goto X0.here hx rfl (pc0 := 37) (pc' := 67) rfl (hb hby d1_37) (by decide) (by decide) k_) ?_
            obtain ⟨fs, hr, hrun, hended, hW, hsame⟩ := X0.leave (v := some (.int (1 : Int32))) (fun h => by rw [Bd.returns] at h; cases h)
            refine ⟨_, _, retN X0 hx (t := .boolean) Bd.returns (by simp) (hb hby d1_67) hr, hrun, hended, _, _, rfl, ?_, ⟨_, rfl⟩, hW, hsame.mono (by decide) (by decide)⟩
            show Q1 Z p1 h0 n0 _ s₁.heap _
            rw [e0]
            exact ⟨(congrArg (fun z => some (Value.int z)) (show (1 : Int32) = (own_isc p1) from by simp [own_isc, hc3, hc9, hc15, hc27, hc33])), N0, rfl⟩
      · refine own_st (S' := s₁.setTop (mkF m 18 #[.val (.int p1)] [])) (fun t_ k_ => XS.icmpNo X0.here hx rfl (hb hby d1_15) rfl (flt hc15).1 k_) ?_
        refine own_st (S' := s₁.setTop (mkF m 19 #[.val (.int p1)] [(.int p1)])) (fun t_ k_ => XS.iloadN X0.here hx rfl (hb hby d1_18) rfl k_) ?_
        refine own_st (S' := s₁.setTop (mkF m 21 #[.val (.int p1)] [(.int (65533 : Int32)), (.int p1)])) (fun t_ k_ => X0.ldcI hx hown (mvT hZ (hw _ (List.mem_of_getElem? (i := 21) rfl))) (g := (mkF m 19 #[.val (.int p1)] [(.int p1)])) rfl (hb hby d1_19) k_) ?_
        by_cases hc21 : (65533 : Int32) < p1
        · refine own_st (S' := s₁.setTop (mkF m 24 #[.val (.int p1)] [])) (fun t_ k_ => XS.icmpNo X0.here hx rfl (hb hby d1_21) rfl (tlt hc21).2.2.2 k_) ?_
          refine own_st (S' := s₁.setTop (mkF m 25 #[.val (.int p1)] [(.int p1)])) (fun t_ k_ => XS.iloadN X0.here hx rfl (hb hby d1_24) rfl k_) ?_
          refine own_st (S' := s₁.setTop (mkF m 27 #[.val (.int p1)] [(.int (65536 : Int32)), (.int p1)])) (fun t_ k_ => X0.ldcI hx hown (mvT hZ (hw _ (List.mem_of_getElem? (i := 20) rfl))) (g := (mkF m 25 #[.val (.int p1)] [(.int p1)])) rfl (hb hby d1_25) k_) ?_
          by_cases hc27 : p1 < (65536 : Int32)
          · refine own_st (S' := s₁.setTop (mkF m 40 #[.val (.int p1)] [])) (fun t_ k_ => XS.icmpYes X0.here hx rfl (pc0 := 27) (pc' := 40) rfl (hb hby d1_27) rfl (tlt hc27).1 (by decide) (by decide) k_) ?_
            refine own_st (S' := s₁.setTop (mkF m 41 #[.val (.int p1)] [(.int (0 : Int32))])) (fun t_ k_ => XS.iconst X0.here hx rfl (hb hby d1_40) k_) ?_
            refine own_st (S' := s₁.setTop (mkF m 67 #[.val (.int p1)] [(.int (0 : Int32))])) (fun t_ k_ => XS.goto X0.here hx rfl (pc0 := 41) (pc' := 67) rfl (hb hby d1_41) (by decide) (by decide) k_) ?_
            obtain ⟨fs, hr, hrun, hended, hW, hsame⟩ := X0.leave (v := some (.int (0 : Int32))) (fun h => by rw [Bd.returns] at h; cases h)
            refine ⟨_, _, retN X0 hx (t := .boolean) Bd.returns (by simp) (hb hby d1_67) hr, hrun, hended, _, _, rfl, ?_, ⟨_, rfl⟩, hW, hsame.mono (by decide) (by decide)⟩
            show Q1 Z p1 h0 n0 _ s₁.heap _
            rw [e0]
            exact ⟨(congrArg (fun z => some (Value.int z)) (show (0 : Int32) = (own_isc p1) from by simp [own_isc, hc3, hc9, hc15, hc21, hc27])), N0, rfl⟩
          · refine own_st (S' := s₁.setTop (mkF m 30 #[.val (.int p1)] [])) (fun t_ k_ => XS.icmpNo X0.here hx rfl (hb hby d1_27) rfl (flt hc27).1 k_) ?_
            refine own_st (S' := s₁.setTop (mkF m 31 #[.val (.int p1)] [(.int p1)])) (fun t_ k_ => XS.iloadN X0.here hx rfl (hb hby d1_30) rfl k_) ?_
            refine own_st (S' := s₁.setTop (mkF m 33 #[.val (.int p1)] [(.int (1114111 : Int32)), (.int p1)])) (fun t_ k_ => X0.ldcI hx hown (mvT hZ (hw _ (List.mem_of_getElem? (i := 22) rfl))) (g := (mkF m 31 #[.val (.int p1)] [(.int p1)])) rfl (hb hby d1_31) k_) ?_
            by_cases hc33 : (1114111 : Int32) < p1
            · refine own_st (S' := s₁.setTop (mkF m 40 #[.val (.int p1)] [])) (fun t_ k_ => XS.icmpYes X0.here hx rfl (pc0 := 33) (pc' := 40) rfl (hb hby d1_33) rfl (tlt hc33).2.2.1 (by decide) (by decide) k_) ?_
              refine own_st (S' := s₁.setTop (mkF m 41 #[.val (.int p1)] [(.int (0 : Int32))])) (fun t_ k_ => XS.iconst X0.here hx rfl (hb hby d1_40) k_) ?_
              refine own_st (S' := s₁.setTop (mkF m 67 #[.val (.int p1)] [(.int (0 : Int32))])) (fun t_ k_ => XS.goto X0.here hx rfl (pc0 := 41) (pc' := 67) rfl (hb hby d1_41) (by decide) (by decide) k_) ?_
              obtain ⟨fs, hr, hrun, hended, hW, hsame⟩ := X0.leave (v := some (.int (0 : Int32))) (fun h => by rw [Bd.returns] at h; cases h)
              refine ⟨_, _, retN X0 hx (t := .boolean) Bd.returns (by simp) (hb hby d1_67) hr, hrun, hended, _, _, rfl, ?_, ⟨_, rfl⟩, hW, hsame.mono (by decide) (by decide)⟩
              show Q1 Z p1 h0 n0 _ s₁.heap _
              rw [e0]
              exact ⟨(congrArg (fun z => some (Value.int z)) (show (0 : Int32) = (own_isc p1) from by simp [own_isc, hc3, hc9, hc15, hc21, hc27, hc33])), N0, rfl⟩
            · refine own_st (S' := s₁.setTop (mkF m 36 #[.val (.int p1)] [])) (fun t_ k_ => XS.icmpNo X0.here hx rfl (hb hby d1_33) rfl (flt hc33).2.2.1 k_) ?_
              refine own_st (S' := s₁.setTop (mkF m 37 #[.val (.int p1)] [(.int (1 : Int32))])) (fun t_ k_ => XS.iconst X0.here hx rfl (hb hby d1_36) k_) ?_
              refine own_st (S' := s₁.setTop (mkF m 67 #[.val (.int p1)] [(.int (1 : Int32))])) (fun t_ k_ => XS.goto X0.here hx rfl (pc0 := 37) (pc' := 67) rfl (hb hby d1_37) (by decide) (by decide) k_) ?_
              obtain ⟨fs, hr, hrun, hended, hW, hsame⟩ := X0.leave (v := some (.int (1 : Int32))) (fun h => by rw [Bd.returns] at h; cases h)
              refine ⟨_, _, retN X0 hx (t := .boolean) Bd.returns (by simp) (hb hby d1_67) hr, hrun, hended, _, _, rfl, ?_, ⟨_, rfl⟩, hW, hsame.mono (by decide) (by decide)⟩
              show Q1 Z p1 h0 n0 _ s₁.heap _
              rw [e0]
              exact ⟨(congrArg (fun z => some (Value.int z)) (show (1 : Int32) = (own_isc p1) from by simp [own_isc, hc3, hc9, hc15, hc21, hc27, hc33])), N0, rfl⟩
        · refine own_st (S' := s₁.setTop (mkF m 36 #[.val (.int p1)] [])) (fun t_ k_ => XS.icmpYes X0.here hx rfl (pc0 := 21) (pc' := 36) rfl (hb hby d1_21) rfl (flt hc21).2.2.2 (by decide) (by decide) k_) ?_
          refine own_st (S' := s₁.setTop (mkF m 37 #[.val (.int p1)] [(.int (1 : Int32))])) (fun t_ k_ => XS.iconst X0.here hx rfl (hb hby d1_36) k_) ?_
          refine own_st (S' := s₁.setTop (mkF m 67 #[.val (.int p1)] [(.int (1 : Int32))])) (fun t_ k_ => XS.goto X0.here hx rfl (pc0 := 37) (pc' := 67) rfl (hb hby d1_37) (by decide) (by decide) k_) ?_
          obtain ⟨fs, hr, hrun, hended, hW, hsame⟩ := X0.leave (v := some (.int (1 : Int32))) (fun h => by rw [Bd.returns] at h; cases h)
          refine ⟨_, _, retN X0 hx (t := .boolean) Bd.returns (by simp) (hb hby d1_67) hr, hrun, hended, _, _, rfl, ?_, ⟨_, rfl⟩, hW, hsame.mono (by decide) (by decide)⟩
          show Q1 Z p1 h0 n0 _ s₁.heap _
          rw [e0]
          exact ⟨(congrArg (fun z => some (Value.int z)) (show (1 : Int32) = (own_isc p1) from by simp [own_isc, hc3, hc9, hc15, hc21])), N0, rfl⟩
    · refine own_st (S' := s₁.setTop (mkF m 36 #[.val (.int p1)] [])) (fun t_ k_ => XS.icmpYes X0.here hx rfl (pc0 := 9) (pc' := 36) rfl (hb hby d1_9) rfl (flt hc9).2.2.2 (by decide) (by decide) k_) ?_
      refine own_st (S' := s₁.setTop (mkF m 37 #[.val (.int p1)] [(.int (1 : Int32))])) (fun t_ k_ => XS.iconst X0.here hx rfl (hb hby d1_36) k_) ?_
      refine own_st (S' := s₁.setTop (mkF m 67 #[.val (.int p1)] [(.int (1 : Int32))])) (fun t_ k_ => XS.goto X0.here hx rfl (pc0 := 37) (pc' := 67) rfl (hb hby d1_37) (by decide) (by decide) k_) ?_
      obtain ⟨fs, hr, hrun, hended, hW, hsame⟩ := X0.leave (v := some (.int (1 : Int32))) (fun h => by rw [Bd.returns] at h; cases h)
      refine ⟨_, _, retN X0 hx (t := .boolean) Bd.returns (by simp) (hb hby d1_67) hr, hrun, hended, _, _, rfl, ?_, ⟨_, rfl⟩, hW, hsame.mono (by decide) (by decide)⟩
      show Q1 Z p1 h0 n0 _ s₁.heap _
      rw [e0]
      exact ⟨(congrArg (fun z => some (Value.int z)) (show (1 : Int32) = (own_isc p1) from by simp [own_isc, hc3, hc9])), N0, rfl⟩
theorem d2_0 : decode method_2_code 0 = .ok (.iload_n 0, 1) := by decide +kernel
theorem d2_1 : decode method_2_code 1 = .ok (.bipush 9, 2) := by decide +kernel
theorem d2_3 : decode method_2_code 3 = .ok (.if_icmp .eq 15, 3) := by decide +kernel
theorem d2_6 : decode method_2_code 6 = .ok (.iload_n 0, 1) := by decide +kernel
theorem d2_7 : decode method_2_code 7 = .ok (.bipush 10, 2) := by decide +kernel
theorem d2_9 : decode method_2_code 9 = .ok (.if_icmp .eq 9, 3) := by decide +kernel
theorem d2_12 : decode method_2_code 12 = .ok (.iload_n 0, 1) := by decide +kernel
theorem d2_13 : decode method_2_code 13 = .ok (.bipush 13, 2) := by decide +kernel
theorem d2_15 : decode method_2_code 15 = .ok (.if_icmp .ne 5, 3) := by decide +kernel
theorem d2_18 : decode method_2_code 18 = .ok (.iconst 1, 1) := by decide +kernel
theorem d2_19 : decode method_2_code 19 = .ok (.ireturn, 1) := by decide +kernel
theorem d2_20 : decode method_2_code 20 = .ok (.bipush 32, 2) := by decide +kernel
theorem d2_22 : decode method_2_code 22 = .ok (.iload_n 0, 1) := by decide +kernel
theorem d2_23 : decode method_2_code 23 = .ok (.if_icmp .gt 11, 3) := by decide +kernel
theorem d2_26 : decode method_2_code 26 = .ok (.iload_n 0, 1) := by decide +kernel
theorem d2_27 : decode method_2_code 27 = .ok (.ldc 7, 2) := by decide +kernel
theorem d2_29 : decode method_2_code 29 = .ok (.if_icmp .gt 5, 3) := by decide +kernel
theorem d2_32 : decode method_2_code 32 = .ok (.iconst 1, 1) := by decide +kernel
theorem d2_33 : decode method_2_code 33 = .ok (.ireturn, 1) := by decide +kernel
theorem d2_34 : decode method_2_code 34 = .ok (.ldc 8, 2) := by decide +kernel
theorem d2_36 : decode method_2_code 36 = .ok (.iload_n 0, 1) := by decide +kernel
theorem d2_37 : decode method_2_code 37 = .ok (.if_icmp .gt 11, 3) := by decide +kernel
theorem d2_40 : decode method_2_code 40 = .ok (.iload_n 0, 1) := by decide +kernel
theorem d2_41 : decode method_2_code 41 = .ok (.ldc 9, 2) := by decide +kernel
theorem d2_43 : decode method_2_code 43 = .ok (.if_icmp .gt 5, 3) := by decide +kernel
theorem d2_46 : decode method_2_code 46 = .ok (.iconst 1, 1) := by decide +kernel
theorem d2_47 : decode method_2_code 47 = .ok (.ireturn, 1) := by decide +kernel
theorem d2_48 : decode method_2_code 48 = .ok (.ldc 10, 2) := by decide +kernel
theorem d2_50 : decode method_2_code 50 = .ok (.iload_n 0, 1) := by decide +kernel
theorem d2_51 : decode method_2_code 51 = .ok (.if_icmp .gt 13, 3) := by decide +kernel
theorem d2_54 : decode method_2_code 54 = .ok (.iload_n 0, 1) := by decide +kernel
theorem d2_55 : decode method_2_code 55 = .ok (.ldc 11, 2) := by decide +kernel
theorem d2_57 : decode method_2_code 57 = .ok (.if_icmp .gt 7, 3) := by decide +kernel
theorem d2_60 : decode method_2_code 60 = .ok (.iconst 1, 1) := by decide +kernel
theorem d2_61 : decode method_2_code 61 = .ok (.goto 4, 3) := by decide +kernel
theorem d2_64 : decode method_2_code 64 = .ok (.iconst 0, 1) := by decide +kernel
theorem d2_65 : decode method_2_code 65 = .ok (.ireturn, 1) := by decide +kernel
theorem pn_1 : plainName "com/example/frisk/frisk/pattern/XmlCharactersIsCharPinLaw" = true := by first | (simp [plainName, overriddenIn]; done) | decide +kernel
theorem ef_2 (m : MethodId) (p1 : Int32) : entryFrame m #[(.int p1)] 1 = mkF m 0 #[.val (.int p1)] [] := by first | (simp [entryFrame, mkF, argsToLocals, Value.category]; done) | rfl
def Q2 (Z : State) (p1 : Int32) (h0 : Heap) (n0 : Nat) (v : Option Value) (h : Heap) (L : List Loc) : Prop := v = some (.int (own_ref p1)) ∧ Fr n0 L ∧ h = h0
set_option maxRecDepth 65536 in
set_option maxHeartbeats 40000000 in
theorem rm2 (l : Launch) (Z : State) (a0 : Array Value) (hw : ∀ d ∈ tables_1, d.before a0 Z = true) (ws : List Jvm.Cond) (p1 : Int32) (h0 : Heap) (n0 : Nat) (Z0 : n0 ≤ h0.size)  :
    MetFree l (⟨"com/example/frisk/frisk/pattern/XmlCharactersIsCharPinLaw", "reference", "(I)Z"⟩ : MethodName) (head1 (Jvm.Cond.code (⟨"com/example/frisk/frisk/pattern/XmlCharactersIsCharPinLaw", "reference", "(I)Z"⟩ : MethodName) method_2_code 1 (some .boolean) :: ws) ({ frames := 0, cells := 0, slots := 0, locals := 0 } : Room)) (fun ar_ U => ar_ = #[(.int p1)] ∧ Z.Warmed39 U.vm ∧ U.heap = h0) (fun _ _ _ _ _ => True) (fun _ U o U' => ∃ v L, o = .returned v ∧ Q2 Z p1 h0 n0 v U'.heap L ∧ FrameEnd U o U' L ({ frames := 0, cells := 0, slots := 0, locals := 0 } : Room).cells ({ frames := 0, cells := 0, slots := 0, locals := 0 } : Room).slots) := by
  refine MetFree.of_bodySF (plainFor_of_name pn_1) hisR ?_
  intro p e s m args below meth c s₁ Bd hml0 hP hK
  obtain ⟨rfl, hZ, hh⟩ := hP
  have hx := Bd.exec
  have hby := Bd.bytes
  have hml : c.maxLocals = 1 := hml0
  have hown : s.vm.findClass "com/example/frisk/frisk/pattern/XmlCharactersIsCharPinLaw" = some m.cls := findClass_of_methodNamed Bd.named
  have hnm := (name_of_methodNamed Bd.named Bd.method).1
  have X0 : Stand p l e ({ frames := 0, cells := 0, slots := 0, locals := 0 } : Room) s m #[(.int p1)] below meth c s₁ [] 0 0 := Stand.of_body Bd
  have e0 : s₁.heap = h0 := by rw [← hh, Bd.state]; rfl
  have N0 := Fr.nil n0
  refine own_gl ?_
  refine own_st (S' := s₁.setTop (mkF m 0 #[.val (.int p1)] [])) (fun t_ k_ => castTop (ef_2 m p1) k_) ?_
  refine own_st (S' := s₁.setTop (mkF m 1 #[.val (.int p1)] [(.int p1)])) (fun t_ k_ => XS.iloadN X0.here hx rfl (hb hby d2_0) rfl k_) ?_
  refine own_st (S' := s₁.setTop (mkF m 3 #[.val (.int p1)] [(.int (9 : Int32)), (.int p1)])) (fun t_ k_ => XS.bipush X0.here hx rfl (hb hby d2_1) k_) ?_
  by_cases hc3 : p1 = (9 : Int32)
  · refine own_st (S' := s₁.setTop (mkF m 18 #[.val (.int p1)] [])) (fun t_ k_ => XS.icmpYes X0.here hx rfl (pc0 := 3) (pc' := 18) rfl (hb hby d2_3) rfl (teq hc3).1 (by decide) (by decide) k_) ?_
    refine own_st (S' := s₁.setTop (mkF m 19 #[.val (.int p1)] [(.int (1 : Int32))])) (fun t_ k_ => XS.iconst X0.here hx rfl (hb hby d2_18) k_) ?_
    obtain ⟨fs, hr, hrun, hended, hW, hsame⟩ := X0.leave (v := some (.int (1 : Int32))) (fun h => by rw [Bd.returns] at h; cases h)
    refine ⟨_, _, retN X0 hx (t := .boolean) Bd.returns (by simp) (hb hby d2_19) hr, hrun, hended, _, _, rfl, ?_, ⟨_, rfl⟩, hW, hsame.mono (by decide) (by decide)⟩
    show Q2 Z p1 h0 n0 _ s₁.heap _
    rw [e0]
    exact ⟨(congrArg (fun z => some (Value.int z)) (show (1 : Int32) = (own_ref p1) from by simp [own_ref, hc3])), N0, rfl⟩
  · refine own_st (S' := s₁.setTop (mkF m 6 #[.val (.int p1)] [])) (fun t_ k_ => XS.icmpNo X0.here hx rfl (hb hby d2_3) rfl (feq hc3).1 k_) ?_
    refine own_st (S' := s₁.setTop (mkF m 7 #[.val (.int p1)] [(.int p1)])) (fun t_ k_ => XS.iloadN X0.here hx rfl (hb hby d2_6) rfl k_) ?_
    refine own_st (S' := s₁.setTop (mkF m 9 #[.val (.int p1)] [(.int (10 : Int32)), (.int p1)])) (fun t_ k_ => XS.bipush X0.here hx rfl (hb hby d2_7) k_) ?_
    by_cases hc9 : p1 = (10 : Int32)
    · refine own_st (S' := s₁.setTop (mkF m 18 #[.val (.int p1)] [])) (fun t_ k_ => XS.icmpYes X0.here hx rfl (pc0 := 9) (pc' := 18) rfl (hb hby d2_9) rfl (teq hc9).1 (by decide) (by decide) k_) ?_
      refine own_st (S' := s₁.setTop (mkF m 19 #[.val (.int p1)] [(.int (1 : Int32))])) (fun t_ k_ => XS.iconst X0.here hx rfl (hb hby d2_18) k_) ?_
      obtain ⟨fs, hr, hrun, hended, hW, hsame⟩ := X0.leave (v := some (.int (1 : Int32))) (fun h => by rw [Bd.returns] at h; cases h)
      refine ⟨_, _, retN X0 hx (t := .boolean) Bd.returns (by simp) (hb hby d2_19) hr, hrun, hended, _, _, rfl, ?_, ⟨_, rfl⟩, hW, hsame.mono (by decide) (by decide)⟩
      show Q2 Z p1 h0 n0 _ s₁.heap _
      rw [e0]
      exact ⟨(congrArg (fun z => some (Value.int z)) (show (1 : Int32) = (own_ref p1) from by simp [own_ref, hc3, hc9])), N0, rfl⟩
    · refine own_st (S' := s₁.setTop (mkF m 12 #[.val (.int p1)] [])) (fun t_ k_ => XS.icmpNo X0.here hx rfl (hb hby d2_9) rfl (feq hc9).1 k_) ?_
      refine own_st (S' := s₁.setTop (mkF m 13 #[.val (.int p1)] [(.int p1)])) (fun t_ k_ => XS.iloadN X0.here hx rfl (hb hby d2_12) rfl k_) ?_
      refine own_st (S' := s₁.setTop (mkF m 15 #[.val (.int p1)] [(.int (13 : Int32)), (.int p1)])) (fun t_ k_ => XS.bipush X0.here hx rfl (hb hby d2_13) k_) ?_
      by_cases hc15 : p1 = (13 : Int32)
      · refine own_st (S' := s₁.setTop (mkF m 18 #[.val (.int p1)] [])) (fun t_ k_ => XS.icmpNo X0.here hx rfl (hb hby d2_15) rfl (teq hc15).2 k_) ?_
        refine own_st (S' := s₁.setTop (mkF m 19 #[.val (.int p1)] [(.int (1 : Int32))])) (fun t_ k_ => XS.iconst X0.here hx rfl (hb hby d2_18) k_) ?_
        obtain ⟨fs, hr, hrun, hended, hW, hsame⟩ := X0.leave (v := some (.int (1 : Int32))) (fun h => by rw [Bd.returns] at h; cases h)
        refine ⟨_, _, retN X0 hx (t := .boolean) Bd.returns (by simp) (hb hby d2_19) hr, hrun, hended, _, _, rfl, ?_, ⟨_, rfl⟩, hW, hsame.mono (by decide) (by decide)⟩
        show Q2 Z p1 h0 n0 _ s₁.heap _
        rw [e0]
        exact ⟨(congrArg (fun z => some (Value.int z)) (show (1 : Int32) = (own_ref p1) from by simp [own_ref, hc3, hc9, hc15])), N0, rfl⟩
      · refine own_st (S' := s₁.setTop (mkF m 20 #[.val (.int p1)] [])) (fun t_ k_ => XS.icmpYes X0.here hx rfl (pc0 := 15) (pc' := 20) rfl (hb hby d2_15) rfl (feq hc15).2 (by decide) (by decide) k_) ?_
        refine own_st (S' := s₁.setTop (mkF m 22 #[.val (.int p1)] [(.int (32 : Int32))])) (fun t_ k_ => XS.bipush X0.here hx rfl (hb hby d2_20) k_) ?_
        refine own_st (S' := s₁.setTop (mkF m 23 #[.val (.int p1)] [(.int p1), (.int (32 : Int32))])) (fun t_ k_ => XS.iloadN X0.here hx rfl (hb hby d2_22) rfl k_) ?_
        by_cases hc23 : p1 < (32 : Int32)
        · refine own_st (S' := s₁.setTop (mkF m 34 #[.val (.int p1)] [])) (fun t_ k_ => XS.icmpYes X0.here hx rfl (pc0 := 23) (pc' := 34) rfl (hb hby d2_23) rfl (tlt hc23).2.2.1 (by decide) (by decide) k_) ?_
          refine own_st (S' := s₁.setTop (mkF m 36 #[.val (.int p1)] [(.int (57344 : Int32))])) (fun t_ k_ => X0.ldcI hx hown (mvT hZ (hw _ (List.mem_of_getElem? (i := 2) rfl))) (g := (mkF m 34 #[.val (.int p1)] [])) rfl (hb hby d2_34) k_) ?_
          refine own_st (S' := s₁.setTop (mkF m 37 #[.val (.int p1)] [(.int p1), (.int (57344 : Int32))])) (fun t_ k_ => XS.iloadN X0.here hx rfl (hb hby d2_36) rfl k_) ?_
          by_cases hc37 : p1 < (57344 : Int32)
          · refine own_st (S' := s₁.setTop (mkF m 48 #[.val (.int p1)] [])) (fun t_ k_ => XS.icmpYes X0.here hx rfl (pc0 := 37) (pc' := 48) rfl (hb hby d2_37) rfl (tlt hc37).2.2.1 (by decide) (by decide) k_) ?_
            refine own_st (S' := s₁.setTop (mkF m 50 #[.val (.int p1)] [(.int (65536 : Int32))])) (fun t_ k_ => X0.ldcI hx hown (mvT hZ (hw _ (List.mem_of_getElem? (i := 4) rfl))) (g := (mkF m 48 #[.val (.int p1)] [])) rfl (hb hby d2_48) k_) ?_
            refine own_st (S' := s₁.setTop (mkF m 51 #[.val (.int p1)] [(.int p1), (.int (65536 : Int32))])) (fun t_ k_ => XS.iloadN X0.here hx rfl (hb hby d2_50) rfl k_) ?_
            by_cases hc51 : p1 < (65536 : Int32)
            · refine own_st (S' := s₁.setTop (mkF m 64 #[.val (.int p1)] [])) (fun t_ k_ => XS.icmpYes X0.here hx rfl (pc0 := 51) (pc' := 64) rfl (hb hby d2_51) rfl (tlt hc51).2.2.1 (by decide) (by decide) k_) ?_
              refine own_st (S' := s₁.setTop (mkF m 65 #[.val (.int p1)] [(.int (0 : Int32))])) (fun t_ k_ => XS.iconst X0.here hx rfl (hb hby d2_64) k_) ?_
              obtain ⟨fs, hr, hrun, hended, hW, hsame⟩ := X0.leave (v := some (.int (0 : Int32))) (fun h => by rw [Bd.returns] at h; cases h)
              refine ⟨_, _, retN X0 hx (t := .boolean) Bd.returns (by simp) (hb hby d2_65) hr, hrun, hended, _, _, rfl, ?_, ⟨_, rfl⟩, hW, hsame.mono (by decide) (by decide)⟩
              show Q2 Z p1 h0 n0 _ s₁.heap _
              rw [e0]
              exact ⟨(congrArg (fun z => some (Value.int z)) (show (0 : Int32) = (own_ref p1) from by simp [own_ref, hc3, hc9, hc15, hc23, hc37, hc51])), N0, rfl⟩
            · refine own_st (S' := s₁.setTop (mkF m 54 #[.val (.int p1)] [])) (fun t_ k_ => XS.icmpNo X0.here hx rfl (hb hby d2_51) rfl (flt hc51).2.2.1 k_) ?_
              refine own_st (S' := s₁.setTop (mkF m 55 #[.val (.int p1)] [(.int p1)])) (fun t_ k_ => XS.iloadN X0.here hx rfl (hb hby d2_54) rfl k_) ?_
              refine own_st (S' := s₁.setTop (mkF m 57 #[.val (.int p1)] [(.int (1114111 : Int32)), (.int p1)])) (fun t_ k_ => X0.ldcI hx hown (mvT hZ (hw _ (List.mem_of_getElem? (i := 5) rfl))) (g := (mkF m 55 #[.val (.int p1)] [(.int p1)])) rfl (hb hby d2_55) k_) ?_
              by_cases hc57 : (1114111 : Int32) < p1
              · refine own_st (S' := s₁.setTop (mkF m 64 #[.val (.int p1)] [])) (fun t_ k_ => XS.icmpYes X0.here hx rfl (pc0 := 57) (pc' := 64) rfl (hb hby d2_57) rfl (tlt hc57).2.2.1 (by decide) (by decide) k_) ?_
                refine own_st (S' := s₁.setTop (mkF m 65 #[.val (.int p1)] [(.int (0 : Int32))])) (fun t_ k_ => XS.iconst X0.here hx rfl (hb hby d2_64) k_) ?_
                obtain ⟨fs, hr, hrun, hended, hW, hsame⟩ := X0.leave (v := some (.int (0 : Int32))) (fun h => by rw [Bd.returns] at h; cases h)
                refine ⟨_, _, retN X0 hx (t := .boolean) Bd.returns (by simp) (hb hby d2_65) hr, hrun, hended, _, _, rfl, ?_, ⟨_, rfl⟩, hW, hsame.mono (by decide) (by decide)⟩
                show Q2 Z p1 h0 n0 _ s₁.heap _
                rw [e0]
                exact ⟨(congrArg (fun z => some (Value.int z)) (show (0 : Int32) = (own_ref p1) from by simp [own_ref, hc3, hc9, hc15, hc23, hc37, hc51, hc57])), N0, rfl⟩
              · refine own_st (S' := s₁.setTop (mkF m 60 #[.val (.int p1)] [])) (fun t_ k_ => XS.icmpNo X0.here hx rfl (hb hby d2_57) rfl (flt hc57).2.2.1 k_) ?_
                refine own_st (S' := s₁.setTop (mkF m 61 #[.val (.int p1)] [(.int (1 : Int32))])) (fun t_ k_ => XS.iconst X0.here hx rfl (hb hby d2_60) k_) ?_
                refine own_st (S' := s₁.setTop (mkF m 65 #[.val (.int p1)] [(.int (1 : Int32))])) (fun t_ k_ => XS.goto X0.here hx rfl (pc0 := 61) (pc' := 65) rfl (hb hby d2_61) (by decide) (by decide) k_) ?_
                obtain ⟨fs, hr, hrun, hended, hW, hsame⟩ := X0.leave (v := some (.int (1 : Int32))) (fun h => by rw [Bd.returns] at h; cases h)
                refine ⟨_, _, retN X0 hx (t := .boolean) Bd.returns (by simp) (hb hby d2_65) hr, hrun, hended, _, _, rfl, ?_, ⟨_, rfl⟩, hW, hsame.mono (by decide) (by decide)⟩
                show Q2 Z p1 h0 n0 _ s₁.heap _
                rw [e0]
                exact ⟨(congrArg (fun z => some (Value.int z)) (show (1 : Int32) = (own_ref p1) from by simp [own_ref, hc3, hc9, hc15, hc23, hc37, hc51, hc57])), N0, rfl⟩
          · refine own_st (S' := s₁.setTop (mkF m 40 #[.val (.int p1)] [])) (fun t_ k_ => XS.icmpNo X0.here hx rfl (hb hby d2_37) rfl (flt hc37).2.2.1 k_) ?_
            refine own_st (S' := s₁.setTop (mkF m 41 #[.val (.int p1)] [(.int p1)])) (fun t_ k_ => XS.iloadN X0.here hx rfl (hb hby d2_40) rfl k_) ?_
            refine own_st (S' := s₁.setTop (mkF m 43 #[.val (.int p1)] [(.int (65533 : Int32)), (.int p1)])) (fun t_ k_ => X0.ldcI hx hown (mvT hZ (hw _ (List.mem_of_getElem? (i := 3) rfl))) (g := (mkF m 41 #[.val (.int p1)] [(.int p1)])) rfl (hb hby d2_41) k_) ?_
            by_cases hc43 : (65533 : Int32) < p1
            · refine own_st (S' := s₁.setTop (mkF m 48 #[.val (.int p1)] [])) (fun t_ k_ => XS.icmpYes X0.here hx rfl (pc0 := 43) (pc' := 48) rfl (hb hby d2_43) rfl (tlt hc43).2.2.1 (by decide) (by decide) k_) ?_
              refine own_st (S' := s₁.setTop (mkF m 50 #[.val (.int p1)] [(.int (65536 : Int32))])) (fun t_ k_ => X0.ldcI hx hown (mvT hZ (hw _ (List.mem_of_getElem? (i := 4) rfl))) (g := (mkF m 48 #[.val (.int p1)] [])) rfl (hb hby d2_48) k_) ?_
              refine own_st (S' := s₁.setTop (mkF m 51 #[.val (.int p1)] [(.int p1), (.int (65536 : Int32))])) (fun t_ k_ => XS.iloadN X0.here hx rfl (hb hby d2_50) rfl k_) ?_
              by_cases hc51 : p1 < (65536 : Int32)
              · refine own_st (S' := s₁.setTop (mkF m 64 #[.val (.int p1)] [])) (fun t_ k_ => XS.icmpYes X0.here hx rfl (pc0 := 51) (pc' := 64) rfl (hb hby d2_51) rfl (tlt hc51).2.2.1 (by decide) (by decide) k_) ?_
                refine own_st (S' := s₁.setTop (mkF m 65 #[.val (.int p1)] [(.int (0 : Int32))])) (fun t_ k_ => XS.iconst X0.here hx rfl (hb hby d2_64) k_) ?_
                obtain ⟨fs, hr, hrun, hended, hW, hsame⟩ := X0.leave (v := some (.int (0 : Int32))) (fun h => by rw [Bd.returns] at h; cases h)
                refine ⟨_, _, retN X0 hx (t := .boolean) Bd.returns (by simp) (hb hby d2_65) hr, hrun, hended, _, _, rfl, ?_, ⟨_, rfl⟩, hW, hsame.mono (by decide) (by decide)⟩
                show Q2 Z p1 h0 n0 _ s₁.heap _
                rw [e0]
                exact ⟨(congrArg (fun z => some (Value.int z)) (show (0 : Int32) = (own_ref p1) from by simp [own_ref, hc3, hc9, hc15, hc23, hc37, hc43, hc51])), N0, rfl⟩
              · refine own_st (S' := s₁.setTop (mkF m 54 #[.val (.int p1)] [])) (fun t_ k_ => XS.icmpNo X0.here hx rfl (hb hby d2_51) rfl (flt hc51).2.2.1 k_) ?_
                refine own_st (S' := s₁.setTop (mkF m 55 #[.val (.int p1)] [(.int p1)])) (fun t_ k_ => XS.iloadN X0.here hx rfl (hb hby d2_54) rfl k_) ?_
                refine own_st (S' := s₁.setTop (mkF m 57 #[.val (.int p1)] [(.int (1114111 : Int32)), (.int p1)])) (fun t_ k_ => X0.ldcI hx hown (mvT hZ (hw _ (List.mem_of_getElem? (i := 5) rfl))) (g := (mkF m 55 #[.val (.int p1)] [(.int p1)])) rfl (hb hby d2_55) k_) ?_
                by_cases hc57 : (1114111 : Int32) < p1
                · refine own_st (S' := s₁.setTop (mkF m 64 #[.val (.int p1)] [])) (fun t_ k_ => XS.icmpYes X0.here hx rfl (pc0 := 57) (pc' := 64) rfl (hb hby d2_57) rfl (tlt hc57).2.2.1 (by decide) (by decide) k_) ?_
                  refine own_st (S' := s₁.setTop (mkF m 65 #[.val (.int p1)] [(.int (0 : Int32))])) (fun t_ k_ => XS.iconst X0.here hx rfl (hb hby d2_64) k_) ?_
                  obtain ⟨fs, hr, hrun, hended, hW, hsame⟩ := X0.leave (v := some (.int (0 : Int32))) (fun h => by rw [Bd.returns] at h; cases h)
                  refine ⟨_, _, retN X0 hx (t := .boolean) Bd.returns (by simp) (hb hby d2_65) hr, hrun, hended, _, _, rfl, ?_, ⟨_, rfl⟩, hW, hsame.mono (by decide) (by decide)⟩
                  show Q2 Z p1 h0 n0 _ s₁.heap _
                  rw [e0]
                  exact ⟨(congrArg (fun z => some (Value.int z)) (show (0 : Int32) = (own_ref p1) from by simp [own_ref, hc3, hc9, hc15, hc23, hc37, hc43, hc51, hc57])), N0, rfl⟩
                · refine own_st (S' := s₁.setTop (mkF m 60 #[.val (.int p1)] [])) (fun t_ k_ => XS.icmpNo X0.here hx rfl (hb hby d2_57) rfl (flt hc57).2.2.1 k_) ?_
                  refine own_st (S' := s₁.setTop (mkF m 61 #[.val (.int p1)] [(.int (1 : Int32))])) (fun t_ k_ => XS.iconst X0.here hx rfl (hb hby d2_60) k_) ?_
                  refine own_st (S' := s₁.setTop (mkF m 65 #[.val (.int p1)] [(.int (1 : Int32))])) (fun t_ k_ => XS.goto X0.here hx rfl (pc0 := 61) (pc' := 65) rfl (hb hby d2_61) (by decide) (by decide) k_) ?_
                  obtain ⟨fs, hr, hrun, hended, hW, hsame⟩ := X0.leave (v := some (.int (1 : Int32))) (fun h => by rw [Bd.returns] at h; cases h)
                  refine ⟨_, _, retN X0 hx (t := .boolean) Bd.returns (by simp) (hb hby d2_65) hr, hrun, hended, _, _, rfl, ?_, ⟨_, rfl⟩, hW, hsame.mono (by decide) (by decide)⟩
                  show Q2 Z p1 h0 n0 _ s₁.heap _
                  rw [e0]
                  exact ⟨(congrArg (fun z => some (Value.int z)) (show (1 : Int32) = (own_ref p1) from by simp [own_ref, hc3, hc9, hc15, hc23, hc37, hc43, hc51, hc57])), N0, rfl⟩
            · refine own_st (S' := s₁.setTop (mkF m 46 #[.val (.int p1)] [])) (fun t_ k_ => XS.icmpNo X0.here hx rfl (hb hby d2_43) rfl (flt hc43).2.2.1 k_) ?_
              refine own_st (S' := s₁.setTop (mkF m 47 #[.val (.int p1)] [(.int (1 : Int32))])) (fun t_ k_ => XS.iconst X0.here hx rfl (hb hby d2_46) k_) ?_
              obtain ⟨fs, hr, hrun, hended, hW, hsame⟩ := X0.leave (v := some (.int (1 : Int32))) (fun h => by rw [Bd.returns] at h; cases h)
              refine ⟨_, _, retN X0 hx (t := .boolean) Bd.returns (by simp) (hb hby d2_47) hr, hrun, hended, _, _, rfl, ?_, ⟨_, rfl⟩, hW, hsame.mono (by decide) (by decide)⟩
              show Q2 Z p1 h0 n0 _ s₁.heap _
              rw [e0]
              exact ⟨(congrArg (fun z => some (Value.int z)) (show (1 : Int32) = (own_ref p1) from by simp [own_ref, hc3, hc9, hc15, hc23, hc37, hc43])), N0, rfl⟩
        · refine own_st (S' := s₁.setTop (mkF m 26 #[.val (.int p1)] [])) (fun t_ k_ => XS.icmpNo X0.here hx rfl (hb hby d2_23) rfl (flt hc23).2.2.1 k_) ?_
          refine own_st (S' := s₁.setTop (mkF m 27 #[.val (.int p1)] [(.int p1)])) (fun t_ k_ => XS.iloadN X0.here hx rfl (hb hby d2_26) rfl k_) ?_
          refine own_st (S' := s₁.setTop (mkF m 29 #[.val (.int p1)] [(.int (55295 : Int32)), (.int p1)])) (fun t_ k_ => X0.ldcI hx hown (mvT hZ (hw _ (List.mem_of_getElem? (i := 1) rfl))) (g := (mkF m 27 #[.val (.int p1)] [(.int p1)])) rfl (hb hby d2_27) k_) ?_
          by_cases hc29 : (55295 : Int32) < p1
          · refine own_st (S' := s₁.setTop (mkF m 34 #[.val (.int p1)] [])) (fun t_ k_ => XS.icmpYes X0.here hx rfl (pc0 := 29) (pc' := 34) rfl (hb hby d2_29) rfl (tlt hc29).2.2.1 (by decide) (by decide) k_) ?_
            refine own_st (S' := s₁.setTop (mkF m 36 #[.val (.int p1)] [(.int (57344 : Int32))])) (fun t_ k_ => X0.ldcI hx hown (mvT hZ (hw _ (List.mem_of_getElem? (i := 2) rfl))) (g := (mkF m 34 #[.val (.int p1)] [])) rfl (hb hby d2_34) k_) ?_
            refine own_st (S' := s₁.setTop (mkF m 37 #[.val (.int p1)] [(.int p1), (.int (57344 : Int32))])) (fun t_ k_ => XS.iloadN X0.here hx rfl (hb hby d2_36) rfl k_) ?_
            by_cases hc37 : p1 < (57344 : Int32)
            · refine own_st (S' := s₁.setTop (mkF m 48 #[.val (.int p1)] [])) (fun t_ k_ => XS.icmpYes X0.here hx rfl (pc0 := 37) (pc' := 48) rfl (hb hby d2_37) rfl (tlt hc37).2.2.1 (by decide) (by decide) k_) ?_
              refine own_st (S' := s₁.setTop (mkF m 50 #[.val (.int p1)] [(.int (65536 : Int32))])) (fun t_ k_ => X0.ldcI hx hown (mvT hZ (hw _ (List.mem_of_getElem? (i := 4) rfl))) (g := (mkF m 48 #[.val (.int p1)] [])) rfl (hb hby d2_48) k_) ?_
              refine own_st (S' := s₁.setTop (mkF m 51 #[.val (.int p1)] [(.int p1), (.int (65536 : Int32))])) (fun t_ k_ => XS.iloadN X0.here hx rfl (hb hby d2_50) rfl k_) ?_
              by_cases hc51 : p1 < (65536 : Int32)
              · refine own_st (S' := s₁.setTop (mkF m 64 #[.val (.int p1)] [])) (fun t_ k_ => XS.icmpYes X0.here hx rfl (pc0 := 51) (pc' := 64) rfl (hb hby d2_51) rfl (tlt hc51).2.2.1 (by decide) (by decide) k_) ?_
                refine own_st (S' := s₁.setTop (mkF m 65 #[.val (.int p1)] [(.int (0 : Int32))])) (fun t_ k_ => XS.iconst X0.here hx rfl (hb hby d2_64) k_) ?_
                obtain ⟨fs, hr, hrun, hended, hW, hsame⟩ := X0.leave (v := some (.int (0 : Int32))) (fun h => by rw [Bd.returns] at h; cases h)
                refine ⟨_, _, retN X0 hx (t := .boolean) Bd.returns (by simp) (hb hby d2_65) hr, hrun, hended, _, _, rfl, ?_, ⟨_, rfl⟩, hW, hsame.mono (by decide) (by decide)⟩
                show Q2 Z p1 h0 n0 _ s₁.heap _
                rw [e0]
                exact ⟨(congrArg (fun z => some (Value.int z)) (show (0 : Int32) = (own_ref p1) from by simp [own_ref, hc3, hc9, hc15, hc23, hc29, hc37, hc51])), N0, rfl⟩
              · refine own_st (S' := s₁.setTop (mkF m 54 #[.val (.int p1)] [])) (fun t_ k_ => XS.icmpNo X0.here hx rfl (hb hby d2_51) rfl (flt hc51).2.2.1 k_) ?_
                refine own_st (S' := s₁.setTop (mkF m 55 #[.val (.int p1)] [(.int p1)])) (fun t_ k_ => XS.iloadN X0.here hx rfl (hb hby d2_54) rfl k_) ?_
                refine own_st (S' := s₁.setTop (mkF m 57 #[.val (.int p1)] [(.int (1114111 : Int32)), (.int p1)])) (fun t_ k_ => X0.ldcI hx hown (mvT hZ (hw _ (List.mem_of_getElem? (i := 5) rfl))) (g := (mkF m 55 #[.val (.int p1)] [(.int p1)])) rfl (hb hby d2_55) k_) ?_
                by_cases hc57 : (1114111 : Int32) < p1
                · refine own_st (S' := s₁.setTop (mkF m 64 #[.val (.int p1)] [])) (fun t_ k_ => XS.icmpYes X0.here hx rfl (pc0 := 57) (pc' := 64) rfl (hb hby d2_57) rfl (tlt hc57).2.2.1 (by decide) (by decide) k_) ?_
                  refine own_st (S' := s₁.setTop (mkF m 65 #[.val (.int p1)] [(.int (0 : Int32))])) (fun t_ k_ => XS.iconst X0.here hx rfl (hb hby d2_64) k_) ?_
                  obtain ⟨fs, hr, hrun, hended, hW, hsame⟩ := X0.leave (v := some (.int (0 : Int32))) (fun h => by rw [Bd.returns] at h; cases h)
                  refine ⟨_, _, retN X0 hx (t := .boolean) Bd.returns (by simp) (hb hby d2_65) hr, hrun, hended, _, _, rfl, ?_, ⟨_, rfl⟩, hW, hsame.mono (by decide) (by decide)⟩
                  show Q2 Z p1 h0 n0 _ s₁.heap _
                  rw [e0]
                  exact ⟨(congrArg (fun z => some (Value.int z)) (show (0 : Int32) = (own_ref p1) from by simp [own_ref, hc3, hc9, hc15, hc23, hc29, hc37, hc51, hc57])), N0, rfl⟩
                · refine own_st (S' := s₁.setTop (mkF m 60 #[.val (.int p1)] [])) (fun t_ k_ => XS.icmpNo X0.here hx rfl (hb hby d2_57) rfl (flt hc57).2.2.1 k_) ?_
                  refine own_st (S' := s₁.setTop (mkF m 61 #[.val (.int p1)] [(.int (1 : Int32))])) (fun t_ k_ => XS.iconst X0.here hx rfl (hb hby d2_60) k_) ?_
                  refine own_st (S' := s₁.setTop (mkF m 65 #[.val (.int p1)] [(.int (1 : Int32))])) (fun t_ k_ => XS.goto X0.here hx rfl (pc0 := 61) (pc' := 65) rfl (hb hby d2_61) (by decide) (by decide) k_) ?_
                  obtain ⟨fs, hr, hrun, hended, hW, hsame⟩ := X0.leave (v := some (.int (1 : Int32))) (fun h => by rw [Bd.returns] at h; cases h)
                  refine ⟨_, _, retN X0 hx (t := .boolean) Bd.returns (by simp) (hb hby d2_65) hr, hrun, hended, _, _, rfl, ?_, ⟨_, rfl⟩, hW, hsame.mono (by decide) (by decide)⟩
                  show Q2 Z p1 h0 n0 _ s₁.heap _
                  rw [e0]
                  exact ⟨(congrArg (fun z => some (Value.int z)) (show (1 : Int32) = (own_ref p1) from by simp [own_ref, hc3, hc9, hc15, hc23, hc29, hc37, hc51, hc57])), N0, rfl⟩
            · refine own_st (S' := s₁.setTop (mkF m 40 #[.val (.int p1)] [])) (fun t_ k_ => XS.icmpNo X0.here hx rfl (hb hby d2_37) rfl (flt hc37).2.2.1 k_) ?_
              refine own_st (S' := s₁.setTop (mkF m 41 #[.val (.int p1)] [(.int p1)])) (fun t_ k_ => XS.iloadN X0.here hx rfl (hb hby d2_40) rfl k_) ?_
              refine own_st (S' := s₁.setTop (mkF m 43 #[.val (.int p1)] [(.int (65533 : Int32)), (.int p1)])) (fun t_ k_ => X0.ldcI hx hown (mvT hZ (hw _ (List.mem_of_getElem? (i := 3) rfl))) (g := (mkF m 41 #[.val (.int p1)] [(.int p1)])) rfl (hb hby d2_41) k_) ?_
              by_cases hc43 : (65533 : Int32) < p1
              · refine own_st (S' := s₁.setTop (mkF m 48 #[.val (.int p1)] [])) (fun t_ k_ => XS.icmpYes X0.here hx rfl (pc0 := 43) (pc' := 48) rfl (hb hby d2_43) rfl (tlt hc43).2.2.1 (by decide) (by decide) k_) ?_
                refine own_st (S' := s₁.setTop (mkF m 50 #[.val (.int p1)] [(.int (65536 : Int32))])) (fun t_ k_ => X0.ldcI hx hown (mvT hZ (hw _ (List.mem_of_getElem? (i := 4) rfl))) (g := (mkF m 48 #[.val (.int p1)] [])) rfl (hb hby d2_48) k_) ?_
                refine own_st (S' := s₁.setTop (mkF m 51 #[.val (.int p1)] [(.int p1), (.int (65536 : Int32))])) (fun t_ k_ => XS.iloadN X0.here hx rfl (hb hby d2_50) rfl k_) ?_
                by_cases hc51 : p1 < (65536 : Int32)
                · refine own_st (S' := s₁.setTop (mkF m 64 #[.val (.int p1)] [])) (fun t_ k_ => XS.icmpYes X0.here hx rfl (pc0 := 51) (pc' := 64) rfl (hb hby d2_51) rfl (tlt hc51).2.2.1 (by decide) (by decide) k_) ?_
                  refine own_st (S' := s₁.setTop (mkF m 65 #[.val (.int p1)] [(.int (0 : Int32))])) (fun t_ k_ => XS.iconst X0.here hx rfl (hb hby d2_64) k_) ?_
                  obtain ⟨fs, hr, hrun, hended, hW, hsame⟩ := X0.leave (v := some (.int (0 : Int32))) (fun h => by rw [Bd.returns] at h; cases h)
                  refine ⟨_, _, retN X0 hx (t := .boolean) Bd.returns (by simp) (hb hby d2_65) hr, hrun, hended, _, _, rfl, ?_, ⟨_, rfl⟩, hW, hsame.mono (by decide) (by decide)⟩
                  show Q2 Z p1 h0 n0 _ s₁.heap _
                  rw [e0]
                  exact ⟨(congrArg (fun z => some (Value.int z)) (show (0 : Int32) = (own_ref p1) from by simp [own_ref, hc3, hc9, hc15, hc23, hc29, hc37, hc43, hc51])), N0, rfl⟩
                · refine own_st (S' := s₁.setTop (mkF m 54 #[.val (.int p1)] [])) (fun t_ k_ => XS.icmpNo X0.here hx rfl (hb hby d2_51) rfl (flt hc51).2.2.1 k_) ?_
                  refine own_st (S' := s₁.setTop (mkF m 55 #[.val (.int p1)] [(.int p1)])) (fun t_ k_ => XS.iloadN X0.here hx rfl (hb hby d2_54) rfl k_) ?_
                  refine own_st (S' := s₁.setTop (mkF m 57 #[.val (.int p1)] [(.int (1114111 : Int32)), (.int p1)])) (fun t_ k_ => X0.ldcI hx hown (mvT hZ (hw _ (List.mem_of_getElem? (i := 5) rfl))) (g := (mkF m 55 #[.val (.int p1)] [(.int p1)])) rfl (hb hby d2_55) k_) ?_
                  by_cases hc57 : (1114111 : Int32) < p1
                  · refine own_st (S' := s₁.setTop (mkF m 64 #[.val (.int p1)] [])) (fun t_ k_ => XS.icmpYes X0.here hx rfl (pc0 := 57) (pc' := 64) rfl (hb hby d2_57) rfl (tlt hc57).2.2.1 (by decide) (by decide) k_) ?_
                    refine own_st (S' := s₁.setTop (mkF m 65 #[.val (.int p1)] [(.int (0 : Int32))])) (fun t_ k_ => XS.iconst X0.here hx rfl (hb hby d2_64) k_) ?_
                    obtain ⟨fs, hr, hrun, hended, hW, hsame⟩ := X0.leave (v := some (.int (0 : Int32))) (fun h => by rw [Bd.returns] at h; cases h)
                    refine ⟨_, _, retN X0 hx (t := .boolean) Bd.returns (by simp) (hb hby d2_65) hr, hrun, hended, _, _, rfl, ?_, ⟨_, rfl⟩, hW, hsame.mono (by decide) (by decide)⟩
                    show Q2 Z p1 h0 n0 _ s₁.heap _
                    rw [e0]
                    exact ⟨(congrArg (fun z => some (Value.int z)) (show (0 : Int32) = (own_ref p1) from by simp [own_ref, hc3, hc9, hc15, hc23, hc29, hc37, hc43, hc51, hc57])), N0, rfl⟩
                  · refine own_st (S' := s₁.setTop (mkF m 60 #[.val (.int p1)] [])) (fun t_ k_ => XS.icmpNo X0.here hx rfl (hb hby d2_57) rfl (flt hc57).2.2.1 k_) ?_
                    refine own_st (S' := s₁.setTop (mkF m 61 #[.val (.int p1)] [(.int (1 : Int32))])) (fun t_ k_ => XS.iconst X0.here hx rfl (hb hby d2_60) k_) ?_
                    refine own_st (S' := s₁.setTop (mkF m 65 #[.val (.int p1)] [(.int (1 : Int32))])) (fun t_ k_ => XS.goto X0.here hx rfl (pc0 := 61) (pc' := 65) rfl (hb hby d2_61) (by decide) (by decide) k_) ?_
                    obtain ⟨fs, hr, hrun, hended, hW, hsame⟩ := X0.leave (v := some (.int (1 : Int32))) (fun h => by rw [Bd.returns] at h; cases h)
                    refine ⟨_, _, retN X0 hx (t := .boolean) Bd.returns (by simp) (hb hby d2_65) hr, hrun, hended, _, _, rfl, ?_, ⟨_, rfl⟩, hW, hsame.mono (by decide) (by decide)⟩
                    show Q2 Z p1 h0 n0 _ s₁.heap _
                    rw [e0]
                    exact ⟨(congrArg (fun z => some (Value.int z)) (show (1 : Int32) = (own_ref p1) from by simp [own_ref, hc3, hc9, hc15, hc23, hc29, hc37, hc43, hc51, hc57])), N0, rfl⟩
              · refine own_st (S' := s₁.setTop (mkF m 46 #[.val (.int p1)] [])) (fun t_ k_ => XS.icmpNo X0.here hx rfl (hb hby d2_43) rfl (flt hc43).2.2.1 k_) ?_
                refine own_st (S' := s₁.setTop (mkF m 47 #[.val (.int p1)] [(.int (1 : Int32))])) (fun t_ k_ => XS.iconst X0.here hx rfl (hb hby d2_46) k_) ?_
                obtain ⟨fs, hr, hrun, hended, hW, hsame⟩ := X0.leave (v := some (.int (1 : Int32))) (fun h => by rw [Bd.returns] at h; cases h)
                refine ⟨_, _, retN X0 hx (t := .boolean) Bd.returns (by simp) (hb hby d2_47) hr, hrun, hended, _, _, rfl, ?_, ⟨_, rfl⟩, hW, hsame.mono (by decide) (by decide)⟩
                show Q2 Z p1 h0 n0 _ s₁.heap _
                rw [e0]
                exact ⟨(congrArg (fun z => some (Value.int z)) (show (1 : Int32) = (own_ref p1) from by simp [own_ref, hc3, hc9, hc15, hc23, hc29, hc37, hc43])), N0, rfl⟩
          · refine own_st (S' := s₁.setTop (mkF m 32 #[.val (.int p1)] [])) (fun t_ k_ => XS.icmpNo X0.here hx rfl (hb hby d2_29) rfl (flt hc29).2.2.1 k_) ?_
            refine own_st (S' := s₁.setTop (mkF m 33 #[.val (.int p1)] [(.int (1 : Int32))])) (fun t_ k_ => XS.iconst X0.here hx rfl (hb hby d2_32) k_) ?_
            obtain ⟨fs, hr, hrun, hended, hW, hsame⟩ := X0.leave (v := some (.int (1 : Int32))) (fun h => by rw [Bd.returns] at h; cases h)
            refine ⟨_, _, retN X0 hx (t := .boolean) Bd.returns (by simp) (hb hby d2_33) hr, hrun, hended, _, _, rfl, ?_, ⟨_, rfl⟩, hW, hsame.mono (by decide) (by decide)⟩
            show Q2 Z p1 h0 n0 _ s₁.heap _
            rw [e0]
            exact ⟨(congrArg (fun z => some (Value.int z)) (show (1 : Int32) = (own_ref p1) from by simp [own_ref, hc3, hc9, hc15, hc23, hc29])), N0, rfl⟩
theorem ef_0 (m : MethodId) (p0 : Int32) (p1 : Int32) (p2 : Int32) : entryFrame m #[(.int p0), (.int p1), (.int p2)] maxLocals = mkF m 0 #[.val (.int p0), .val (.int p1), .val (.int p2), .unset, .unset, .unset, .unset] [] := by first | (simp [entryFrame, mkF, argsToLocals, Value.category, maxLocals]; done) | rfl
theorem pd_0 : parseMethodDescriptor "(I)Z" = some ⟨[.int], some .boolean⟩ := by decide +kernel
def Q0 (Z : State) (p0 : Int32) (p1 : Int32) (p2 : Int32) (h0 : Heap) (n0 : Nat) (v : Option Value) (h : Heap) (L : List Loc) : Prop := v = some (.int (1 : Int32)) ∧ Fr n0 L
set_option maxRecDepth 65536 in
set_option maxHeartbeats 40000000 in
theorem rm0 (l : Launch) (Z : State) (a0 : Array Value) (hw : ∀ d ∈ tables_1, d.before a0 Z = true) (ws : List Jvm.Cond) (p0 : Int32) (p1 : Int32) (p2 : Int32) (h0 : Heap) (n0 : Nat) (Z0 : n0 ≤ h0.size)  :
    MetFree l x (head1 (Jvm.Cond.code x code maxLocals ret :: ws) room_1) (fun ar_ U => ar_ = #[(.int p0), (.int p1), (.int p2)] ∧ Z.Warmed39 U.vm ∧ U.heap = h0) (fun _ _ _ _ _ => True) (fun _ U o U' => ∃ v L, o = .returned v ∧ Q0 Z p0 p1 p2 h0 n0 v U'.heap L ∧ FrameEnd U o U' L room_1.cells room_1.slots) := by
  refine MetFree.of_bodySF (plainFor_of_name pn_1) hisR ?_
  intro p e s m args below meth c s₁ Bd hml0 hP hK
  obtain ⟨rfl, hZ, hh⟩ := hP
  have hx := Bd.exec
  have hby := Bd.bytes
  have hml : c.maxLocals = 7 := hml0
  have hown : s.vm.findClass "com/example/frisk/frisk/pattern/XmlCharactersIsCharPinLaw" = some m.cls := findClass_of_methodNamed Bd.named
  have hnm := (name_of_methodNamed Bd.named Bd.method).1
  have X0 : Stand p l e room_1 s m #[(.int p0), (.int p1), (.int p2)] below meth c s₁ [] 0 0 := Stand.of_body Bd
  have e0 : s₁.heap = h0 := by rw [← hh, Bd.state]; rfl
  have N0 := Fr.nil n0
  refine own_gl ?_
  refine own_st (S' := s₁.setTop (mkF m 0 #[.val (.int p0), .val (.int p1), .val (.int p2), .unset, .unset, .unset, .unset] [])) (fun t_ k_ => castTop (ef_0 m p0 p1 p2) k_) ?_
  refine own_st (S' := s₁.setTop (mkF m 2 #[.val (.int p0), .val (.int p1), .val (.int p2), .unset, .unset, .unset, .unset] [(.int (16 : Int32))])) (fun t_ k_ => XS.bipush X0.here hx rfl (hb hby at_0) k_) ?_
  obtain ⟨T1, h1, k1, X1, e1, E1, A1, st1⟩ := newP X0 hx hZ (hw _ (List.mem_of_getElem? (i := 0) rfl)) e0 (g := (mkF m 2 #[.val (.int p0), .val (.int p1), .val (.int p2), .unset, .unset, .unset, .unset] [(.int (16 : Int32))])) rfl (hb hby at_2) rfl (by decide) (cap := 16) (by decide) (by decide) (by decide) (by decide)
  obtain ⟨b1, gg1⟩ : ∃ z, z = h0.size := ⟨_, rfl⟩
  rw [← gg1] at A1 st1
  have g_b1 : n0 ≤ b1 := Nat.le_trans Z0 (Nat.le_of_eq gg1.symm)
  have Z1 : n0 ≤ h1.size := Nat.le_trans Z0 E1.1
  have V1 : Arv Z h1 b1 k1 .int (16 : Int32) [(.int (0 : Int32)), (.int (0 : Int32)), (.int (0 : Int32)), (.int (0 : Int32)), (.int (0 : Int32)), (.int (0 : Int32)), (.int (0 : Int32)), (.int (0 : Int32)), (.int (0 : Int32)), (.int (0 : Int32)), (.int (0 : Int32)), (.int (0 : Int32)), (.int (0 : Int32)), (.int (0 : Int32)), (.int (0 : Int32)), (.int (0 : Int32))] (.int (0 : Int32)) := (Arv.new A1 (by decide)).pad (pad_rep [] (.int (0 : Int32)) 16)
  refine own_st (S' := T1.setTop (mkF m 4 #[.val (.int p0), .val (.int p1), .val (.int p2), .unset, .unset, .unset, .unset] [(.ref b1)])) st1 ?_
  refine own_st (S' := T1.setTop (mkF m 5 #[.val (.int p0), .val (.int p1), .val (.int p2), .unset, .unset, .unset, .unset] [(.ref b1), (.ref b1)])) (fun t_ k_ => XS.dup X1.here hx rfl (hb hby at_4) rfl rfl k_) ?_
  refine own_st (S' := T1.setTop (mkF m 6 #[.val (.int p0), .val (.int p1), .val (.int p2), .unset, .unset, .unset, .unset] [(.int (0 : Int32)), (.ref b1), (.ref b1)])) (fun t_ k_ => XS.iconst X1.here hx rfl (hb hby at_5) k_) ?_
  refine own_st (S' := T1.setTop (mkF m 8 #[.val (.int p0), .val (.int p1), .val (.int p2), .unset, .unset, .unset, .unset] [(.int (9 : Int32)), (.int (0 : Int32)), (.ref b1), (.ref b1)])) (fun t_ k_ => XS.bipush X1.here hx rfl (hb hby at_6) k_) ?_
  obtain ⟨cl2, Ar2, q2, S2, M2, H2, G2⟩ := V1
  have hin2 : ¬ ((0 : Int32) < 0 ∨ cl2.slots.size ≤ ((0 : Int32)).toNatClampNeg) := inb_of S2 ⟨by decide, by decide⟩
  obtain ⟨T2, h2, X2, e2, W2, st2⟩ := stI X1 hx hZ e1 Ar2 (j := (0 : Int32)) hin2 (g := (mkF m 8 #[.val (.int p0), .val (.int p1), .val (.int p2), .unset, .unset, .unset, .unset] [(.int (9 : Int32)), (.int (0 : Int32)), (.ref b1), (.ref b1)])) rfl rfl (hb hby at_8)
  have Z2 : n0 ≤ h2.size := Nat.le_trans Z1 (Keep.of_wr W2).1
  have N2 := Fr.snoc X2 N0 g_b1
  have V2 : Arv Z h2 b1 k1 .int (16 : Int32) [(.int (9 : Int32)), (.int (0 : Int32)), (.int (0 : Int32)), (.int (0 : Int32)), (.int (0 : Int32)), (.int (0 : Int32)), (.int (0 : Int32)), (.int (0 : Int32)), (.int (0 : Int32)), (.int (0 : Int32)), (.int (0 : Int32)), (.int (0 : Int32)), (.int (0 : Int32)), (.int (0 : Int32)), (.int (0 : Int32)), (.int (0 : Int32))] (.int (0 : Int32)) := Arv.set Ar2 q2 S2 M2 H2 G2 rfl W2 0 rfl (Nat.le_of_ble_eq_true rfl)
  refine own_st (S' := T2.setTop (mkF m 9 #[.val (.int p0), .val (.int p1), .val (.int p2), .unset, .unset, .unset, .unset] [(.ref b1)])) st2 ?_
  refine own_st (S' := T2.setTop (mkF m 10 #[.val (.int p0), .val (.int p1), .val (.int p2), .unset, .unset, .unset, .unset] [(.ref b1), (.ref b1)])) (fun t_ k_ => XS.dup X2.here hx rfl (hb hby at_9) rfl rfl k_) ?_
  refine own_st (S' := T2.setTop (mkF m 11 #[.val (.int p0), .val (.int p1), .val (.int p2), .unset, .unset, .unset, .unset] [(.int (1 : Int32)), (.ref b1), (.ref b1)])) (fun t_ k_ => XS.iconst X2.here hx rfl (hb hby at_10) k_) ?_
  refine own_st (S' := T2.setTop (mkF m 13 #[.val (.int p0), .val (.int p1), .val (.int p2), .unset, .unset, .unset, .unset] [(.int (10 : Int32)), (.int (1 : Int32)), (.ref b1), (.ref b1)])) (fun t_ k_ => XS.bipush X2.here hx rfl (hb hby at_11) k_) ?_
  obtain ⟨cl3, Ar3, q3, S3, M3, H3, G3⟩ := V2
  have hin3 : ¬ ((1 : Int32) < 0 ∨ cl3.slots.size ≤ ((1 : Int32)).toNatClampNeg) := inb_of S3 ⟨by decide, by decide⟩
  obtain ⟨T3, h3, X3, e3, W3, st3⟩ := stI X2 hx hZ e2 Ar3 (j := (1 : Int32)) hin3 (g := (mkF m 13 #[.val (.int p0), .val (.int p1), .val (.int p2), .unset, .unset, .unset, .unset] [(.int (10 : Int32)), (.int (1 : Int32)), (.ref b1), (.ref b1)])) rfl rfl (hb hby at_13)
  have Z3 : n0 ≤ h3.size := Nat.le_trans Z2 (Keep.of_wr W3).1
  have N3 := Fr.snoc X3 N2 g_b1
  have V3 : Arv Z h3 b1 k1 .int (16 : Int32) [(.int (9 : Int32)), (.int (10 : Int32)), (.int (0 : Int32)), (.int (0 : Int32)), (.int (0 : Int32)), (.int (0 : Int32)), (.int (0 : Int32)), (.int (0 : Int32)), (.int (0 : Int32)), (.int (0 : Int32)), (.int (0 : Int32)), (.int (0 : Int32)), (.int (0 : Int32)), (.int (0 : Int32)), (.int (0 : Int32)), (.int (0 : Int32))] (.int (0 : Int32)) := Arv.set Ar3 q3 S3 M3 H3 G3 rfl W3 1 rfl (Nat.le_of_ble_eq_true rfl)
  refine own_st (S' := T3.setTop (mkF m 14 #[.val (.int p0), .val (.int p1), .val (.int p2), .unset, .unset, .unset, .unset] [(.ref b1)])) st3 ?_
  refine own_st (S' := T3.setTop (mkF m 15 #[.val (.int p0), .val (.int p1), .val (.int p2), .unset, .unset, .unset, .unset] [(.ref b1), (.ref b1)])) (fun t_ k_ => XS.dup X3.here hx rfl (hb hby at_14) rfl rfl k_) ?_
  refine own_st (S' := T3.setTop (mkF m 16 #[.val (.int p0), .val (.int p1), .val (.int p2), .unset, .unset, .unset, .unset] [(.int (2 : Int32)), (.ref b1), (.ref b1)])) (fun t_ k_ => XS.iconst X3.here hx rfl (hb hby at_15) k_) ?_
  refine own_st (S' := T3.setTop (mkF m 18 #[.val (.int p0), .val (.int p1), .val (.int p2), .unset, .unset, .unset, .unset] [(.int (13 : Int32)), (.int (2 : Int32)), (.ref b1), (.ref b1)])) (fun t_ k_ => XS.bipush X3.here hx rfl (hb hby at_16) k_) ?_
  obtain ⟨cl4, Ar4, q4, S4, M4, H4, G4⟩ := V3
  have hin4 : ¬ ((2 : Int32) < 0 ∨ cl4.slots.size ≤ ((2 : Int32)).toNatClampNeg) := inb_of S4 ⟨by decide, by decide⟩
  obtain ⟨T4, h4, X4, e4, W4, st4⟩ := stI X3 hx hZ e3 Ar4 (j := (2 : Int32)) hin4 (g := (mkF m 18 #[.val (.int p0), .val (.int p1), .val (.int p2), .unset, .unset, .unset, .unset] [(.int (13 : Int32)), (.int (2 : Int32)), (.ref b1), (.ref b1)])) rfl rfl (hb hby at_18)
  have Z4 : n0 ≤ h4.size := Nat.le_trans Z3 (Keep.of_wr W4).1
  have N4 := Fr.snoc X4 N3 g_b1
  have V4 : Arv Z h4 b1 k1 .int (16 : Int32) [(.int (9 : Int32)), (.int (10 : Int32)), (.int (13 : Int32)), (.int (0 : Int32)), (.int (0 : Int32)), (.int (0 : Int32)), (.int (0 : Int32)), (.int (0 : Int32)), (.int (0 : Int32)), (.int (0 : Int32)), (.int (0 : Int32)), (.int (0 : Int32)), (.int (0 : Int32)), (.int (0 : Int32)), (.int (0 : Int32)), (.int (0 : Int32))] (.int (0 : Int32)) := Arv.set Ar4 q4 S4 M4 H4 G4 rfl W4 2 rfl (Nat.le_of_ble_eq_true rfl)
  refine own_st (S' := T4.setTop (mkF m 19 #[.val (.int p0), .val (.int p1), .val (.int p2), .unset, .unset, .unset, .unset] [(.ref b1)])) st4 ?_
  refine own_st (S' := T4.setTop (mkF m 20 #[.val (.int p0), .val (.int p1), .val (.int p2), .unset, .unset, .unset, .unset] [(.ref b1), (.ref b1)])) (fun t_ k_ => XS.dup X4.here hx rfl (hb hby at_19) rfl rfl k_) ?_
  refine own_st (S' := T4.setTop (mkF m 21 #[.val (.int p0), .val (.int p1), .val (.int p2), .unset, .unset, .unset, .unset] [(.int (3 : Int32)), (.ref b1), (.ref b1)])) (fun t_ k_ => XS.iconst X4.here hx rfl (hb hby at_20) k_) ?_
  refine own_st (S' := T4.setTop (mkF m 23 #[.val (.int p0), .val (.int p1), .val (.int p2), .unset, .unset, .unset, .unset] [(.int (32 : Int32)), (.int (3 : Int32)), (.ref b1), (.ref b1)])) (fun t_ k_ => XS.bipush X4.here hx rfl (hb hby at_21) k_) ?_
  obtain ⟨cl5, Ar5, q5, S5, M5, H5, G5⟩ := V4
  have hin5 : ¬ ((3 : Int32) < 0 ∨ cl5.slots.size ≤ ((3 : Int32)).toNatClampNeg) := inb_of S5 ⟨by decide, by decide⟩
  obtain ⟨T5, h5, X5, e5, W5, st5⟩ := stI X4 hx hZ e4 Ar5 (j := (3 : Int32)) hin5 (g := (mkF m 23 #[.val (.int p0), .val (.int p1), .val (.int p2), .unset, .unset, .unset, .unset] [(.int (32 : Int32)), (.int (3 : Int32)), (.ref b1), (.ref b1)])) rfl rfl (hb hby at_23)
  have Z5 : n0 ≤ h5.size := Nat.le_trans Z4 (Keep.of_wr W5).1
  have N5 := Fr.snoc X5 N4 g_b1
  have V5 : Arv Z h5 b1 k1 .int (16 : Int32) [(.int (9 : Int32)), (.int (10 : Int32)), (.int (13 : Int32)), (.int (32 : Int32)), (.int (0 : Int32)), (.int (0 : Int32)), (.int (0 : Int32)), (.int (0 : Int32)), (.int (0 : Int32)), (.int (0 : Int32)), (.int (0 : Int32)), (.int (0 : Int32)), (.int (0 : Int32)), (.int (0 : Int32)), (.int (0 : Int32)), (.int (0 : Int32))] (.int (0 : Int32)) := Arv.set Ar5 q5 S5 M5 H5 G5 rfl W5 3 rfl (Nat.le_of_ble_eq_true rfl)
  refine own_st (S' := T5.setTop (mkF m 24 #[.val (.int p0), .val (.int p1), .val (.int p2), .unset, .unset, .unset, .unset] [(.ref b1)])) st5 ?_
  refine own_st (S' := T5.setTop (mkF m 25 #[.val (.int p0), .val (.int p1), .val (.int p2), .unset, .unset, .unset, .unset] [(.ref b1), (.ref b1)])) (fun t_ k_ => XS.dup X5.here hx rfl (hb hby at_24) rfl rfl k_) ?_
  refine own_st (S' := T5.setTop (mkF m 26 #[.val (.int p0), .val (.int p1), .val (.int p2), .unset, .unset, .unset, .unset] [(.int (4 : Int32)), (.ref b1), (.ref b1)])) (fun t_ k_ => XS.iconst X5.here hx rfl (hb hby at_25) k_) ?_
  refine own_st (S' := T5.setTop (mkF m 28 #[.val (.int p0), .val (.int p1), .val (.int p2), .unset, .unset, .unset, .unset] [(.int (55295 : Int32)), (.int (4 : Int32)), (.ref b1), (.ref b1)])) (fun t_ k_ => X5.ldcI hx hown (mvT hZ (hw _ (List.mem_of_getElem? (i := 1) rfl))) (g := (mkF m 26 #[.val (.int p0), .val (.int p1), .val (.int p2), .unset, .unset, .unset, .unset] [(.int (4 : Int32)), (.ref b1), (.ref b1)])) rfl (hb hby at_26) k_) ?_
  obtain ⟨cl6, Ar6, q6, S6, M6, H6, G6⟩ := V5
  have hin6 : ¬ ((4 : Int32) < 0 ∨ cl6.slots.size ≤ ((4 : Int32)).toNatClampNeg) := inb_of S6 ⟨by decide, by decide⟩
  obtain ⟨T6, h6, X6, e6, W6, st6⟩ := stI X5 hx hZ e5 Ar6 (j := (4 : Int32)) hin6 (g := (mkF m 28 #[.val (.int p0), .val (.int p1), .val (.int p2), .unset, .unset, .unset, .unset] [(.int (55295 : Int32)), (.int (4 : Int32)), (.ref b1), (.ref b1)])) rfl rfl (hb hby at_28)
  have Z6 : n0 ≤ h6.size := Nat.le_trans Z5 (Keep.of_wr W6).1
  have N6 := Fr.snoc X6 N5 g_b1
  have V6 : Arv Z h6 b1 k1 .int (16 : Int32) [(.int (9 : Int32)), (.int (10 : Int32)), (.int (13 : Int32)), (.int (32 : Int32)), (.int (55295 : Int32)), (.int (0 : Int32)), (.int (0 : Int32)), (.int (0 : Int32)), (.int (0 : Int32)), (.int (0 : Int32)), (.int (0 : Int32)), (.int (0 : Int32)), (.int (0 : Int32)), (.int (0 : Int32)), (.int (0 : Int32)), (.int (0 : Int32))] (.int (0 : Int32)) := Arv.set Ar6 q6 S6 M6 H6 G6 rfl W6 4 rfl (Nat.le_of_ble_eq_true rfl)
  refine own_st (S' := T6.setTop (mkF m 29 #[.val (.int p0), .val (.int p1), .val (.int p2), .unset, .unset, .unset, .unset] [(.ref b1)])) st6 ?_
  refine own_st (S' := T6.setTop (mkF m 30 #[.val (.int p0), .val (.int p1), .val (.int p2), .unset, .unset, .unset, .unset] [(.ref b1), (.ref b1)])) (fun t_ k_ => XS.dup X6.here hx rfl (hb hby at_29) rfl rfl k_) ?_
  refine own_st (S' := T6.setTop (mkF m 31 #[.val (.int p0), .val (.int p1), .val (.int p2), .unset, .unset, .unset, .unset] [(.int (5 : Int32)), (.ref b1), (.ref b1)])) (fun t_ k_ => XS.iconst X6.here hx rfl (hb hby at_30) k_) ?_
  refine own_st (S' := T6.setTop (mkF m 33 #[.val (.int p0), .val (.int p1), .val (.int p2), .unset, .unset, .unset, .unset] [(.int (57344 : Int32)), (.int (5 : Int32)), (.ref b1), (.ref b1)])) (fun t_ k_ => X6.ldcI hx hown (mvT hZ (hw _ (List.mem_of_getElem? (i := 2) rfl))) (g := (mkF m 31 #[.val (.int p0), .val (.int p1), .val (.int p2), .unset, .unset, .unset, .unset] [(.int (5 : Int32)), (.ref b1), (.ref b1)])) rfl (hb hby at_31) k_) ?_
  obtain ⟨cl7, Ar7, q7, S7, M7, H7, G7⟩ := V6
  have hin7 : ¬ ((5 : Int32) < 0 ∨ cl7.slots.size ≤ ((5 : Int32)).toNatClampNeg) := inb_of S7 ⟨by decide, by decide⟩
  obtain ⟨T7, h7, X7, e7, W7, st7⟩ := stI X6 hx hZ e6 Ar7 (j := (5 : Int32)) hin7 (g := (mkF m 33 #[.val (.int p0), .val (.int p1), .val (.int p2), .unset, .unset, .unset, .unset] [(.int (57344 : Int32)), (.int (5 : Int32)), (.ref b1), (.ref b1)])) rfl rfl (hb hby at_33)
  have Z7 : n0 ≤ h7.size := Nat.le_trans Z6 (Keep.of_wr W7).1
  have N7 := Fr.snoc X7 N6 g_b1
  have V7 : Arv Z h7 b1 k1 .int (16 : Int32) [(.int (9 : Int32)), (.int (10 : Int32)), (.int (13 : Int32)), (.int (32 : Int32)), (.int (55295 : Int32)), (.int (57344 : Int32)), (.int (0 : Int32)), (.int (0 : Int32)), (.int (0 : Int32)), (.int (0 : Int32)), (.int (0 : Int32)), (.int (0 : Int32)), (.int (0 : Int32)), (.int (0 : Int32)), (.int (0 : Int32)), (.int (0 : Int32))] (.int (0 : Int32)) := Arv.set Ar7 q7 S7 M7 H7 G7 rfl W7 5 rfl (Nat.le_of_ble_eq_true rfl)
  refine own_st (S' := T7.setTop (mkF m 34 #[.val (.int p0), .val (.int p1), .val (.int p2), .unset, .unset, .unset, .unset] [(.ref b1)])) st7 ?_
  refine own_st (S' := T7.setTop (mkF m 35 #[.val (.int p0), .val (.int p1), .val (.int p2), .unset, .unset, .unset, .unset] [(.ref b1), (.ref b1)])) (fun t_ k_ => XS.dup X7.here hx rfl (hb hby at_34) rfl rfl k_) ?_
  refine own_st (S' := T7.setTop (mkF m 37 #[.val (.int p0), .val (.int p1), .val (.int p2), .unset, .unset, .unset, .unset] [(.int (6 : Int32)), (.ref b1), (.ref b1)])) (fun t_ k_ => XS.bipush X7.here hx rfl (hb hby at_35) k_) ?_
  refine own_st (S' := T7.setTop (mkF m 39 #[.val (.int p0), .val (.int p1), .val (.int p2), .unset, .unset, .unset, .unset] [(.int (65533 : Int32)), (.int (6 : Int32)), (.ref b1), (.ref b1)])) (fun t_ k_ => X7.ldcI hx hown (mvT hZ (hw _ (List.mem_of_getElem? (i := 3) rfl))) (g := (mkF m 37 #[.val (.int p0), .val (.int p1), .val (.int p2), .unset, .unset, .unset, .unset] [(.int (6 : Int32)), (.ref b1), (.ref b1)])) rfl (hb hby at_37) k_) ?_
  obtain ⟨cl8, Ar8, q8, S8, M8, H8, G8⟩ := V7
  have hin8 : ¬ ((6 : Int32) < 0 ∨ cl8.slots.size ≤ ((6 : Int32)).toNatClampNeg) := inb_of S8 ⟨by decide, by decide⟩
  obtain ⟨T8, h8, X8, e8, W8, st8⟩ := stI X7 hx hZ e7 Ar8 (j := (6 : Int32)) hin8 (g := (mkF m 39 #[.val (.int p0), .val (.int p1), .val (.int p2), .unset, .unset, .unset, .unset] [(.int (65533 : Int32)), (.int (6 : Int32)), (.ref b1), (.ref b1)])) rfl rfl (hb hby at_39)
  have Z8 : n0 ≤ h8.size := Nat.le_trans Z7 (Keep.of_wr W8).1
  have N8 := Fr.snoc X8 N7 g_b1
  have V8 : Arv Z h8 b1 k1 .int (16 : Int32) [(.int (9 : Int32)), (.int (10 : Int32)), (.int (13 : Int32)), (.int (32 : Int32)), (.int (55295 : Int32)), (.int (57344 : Int32)), (.int (65533 : Int32)), (.int (0 : Int32)), (.int (0 : Int32)), (.int (0 : Int32)), (.int (0 : Int32)), (.int (0 : Int32)), (.int (0 : Int32)), (.int (0 : Int32)), (.int (0 : Int32)), (.int (0 : Int32))] (.int (0 : Int32)) := Arv.set Ar8 q8 S8 M8 H8 G8 rfl W8 6 rfl (Nat.le_of_ble_eq_true rfl)
  refine own_st (S' := T8.setTop (mkF m 40 #[.val (.int p0), .val (.int p1), .val (.int p2), .unset, .unset, .unset, .unset] [(.ref b1)])) st8 ?_
  refine own_st (S' := T8.setTop (mkF m 41 #[.val (.int p0), .val (.int p1), .val (.int p2), .unset, .unset, .unset, .unset] [(.ref b1), (.ref b1)])) (fun t_ k_ => XS.dup X8.here hx rfl (hb hby at_40) rfl rfl k_) ?_
  refine own_st (S' := T8.setTop (mkF m 43 #[.val (.int p0), .val (.int p1), .val (.int p2), .unset, .unset, .unset, .unset] [(.int (7 : Int32)), (.ref b1), (.ref b1)])) (fun t_ k_ => XS.bipush X8.here hx rfl (hb hby at_41) k_) ?_
  refine own_st (S' := T8.setTop (mkF m 45 #[.val (.int p0), .val (.int p1), .val (.int p2), .unset, .unset, .unset, .unset] [(.int (65536 : Int32)), (.int (7 : Int32)), (.ref b1), (.ref b1)])) (fun t_ k_ => X8.ldcI hx hown (mvT hZ (hw _ (List.mem_of_getElem? (i := 4) rfl))) (g := (mkF m 43 #[.val (.int p0), .val (.int p1), .val (.int p2), .unset, .unset, .unset, .unset] [(.int (7 : Int32)), (.ref b1), (.ref b1)])) rfl (hb hby at_43) k_) ?_
  obtain ⟨cl9, Ar9, q9, S9, M9, H9, G9⟩ := V8
  have hin9 : ¬ ((7 : Int32) < 0 ∨ cl9.slots.size ≤ ((7 : Int32)).toNatClampNeg) := inb_of S9 ⟨by decide, by decide⟩
  obtain ⟨T9, h9, X9, e9, W9, st9⟩ := stI X8 hx hZ e8 Ar9 (j := (7 : Int32)) hin9 (g := (mkF m 45 #[.val (.int p0), .val (.int p1), .val (.int p2), .unset, .unset, .unset, .unset] [(.int (65536 : Int32)), (.int (7 : Int32)), (.ref b1), (.ref b1)])) rfl rfl (hb hby at_45)
  have Z9 : n0 ≤ h9.size := Nat.le_trans Z8 (Keep.of_wr W9).1
  have N9 := Fr.snoc X9 N8 g_b1
  have V9 : Arv Z h9 b1 k1 .int (16 : Int32) [(.int (9 : Int32)), (.int (10 : Int32)), (.int (13 : Int32)), (.int (32 : Int32)), (.int (55295 : Int32)), (.int (57344 : Int32)), (.int (65533 : Int32)), (.int (65536 : Int32)), (.int (0 : Int32)), (.int (0 : Int32)), (.int (0 : Int32)), (.int (0 : Int32)), (.int (0 : Int32)), (.int (0 : Int32)), (.int (0 : Int32)), (.int (0 : Int32))] (.int (0 : Int32)) := Arv.set Ar9 q9 S9 M9 H9 G9 rfl W9 7 rfl (Nat.le_of_ble_eq_true rfl)
  refine own_st (S' := T9.setTop (mkF m 46 #[.val (.int p0), .val (.int p1), .val (.int p2), .unset, .unset, .unset, .unset] [(.ref b1)])) st9 ?_
  refine own_st (S' := T9.setTop (mkF m 47 #[.val (.int p0), .val (.int p1), .val (.int p2), .unset, .unset, .unset, .unset] [(.ref b1), (.ref b1)])) (fun t_ k_ => XS.dup X9.here hx rfl (hb hby at_46) rfl rfl k_) ?_
  refine own_st (S' := T9.setTop (mkF m 49 #[.val (.int p0), .val (.int p1), .val (.int p2), .unset, .unset, .unset, .unset] [(.int (8 : Int32)), (.ref b1), (.ref b1)])) (fun t_ k_ => XS.bipush X9.here hx rfl (hb hby at_47) k_) ?_
  refine own_st (S' := T9.setTop (mkF m 51 #[.val (.int p0), .val (.int p1), .val (.int p2), .unset, .unset, .unset, .unset] [(.int (1114111 : Int32)), (.int (8 : Int32)), (.ref b1), (.ref b1)])) (fun t_ k_ => X9.ldcI hx hown (mvT hZ (hw _ (List.mem_of_getElem? (i := 5) rfl))) (g := (mkF m 49 #[.val (.int p0), .val (.int p1), .val (.int p2), .unset, .unset, .unset, .unset] [(.int (8 : Int32)), (.ref b1), (.ref b1)])) rfl (hb hby at_49) k_) ?_
  obtain ⟨cl10, Ar10, q10, S10, M10, H10, G10⟩ := V9
  have hin10 : ¬ ((8 : Int32) < 0 ∨ cl10.slots.size ≤ ((8 : Int32)).toNatClampNeg) := inb_of S10 ⟨by decide, by decide⟩
  obtain ⟨T10, h10, X10, e10, W10, st10⟩ := stI X9 hx hZ e9 Ar10 (j := (8 : Int32)) hin10 (g := (mkF m 51 #[.val (.int p0), .val (.int p1), .val (.int p2), .unset, .unset, .unset, .unset] [(.int (1114111 : Int32)), (.int (8 : Int32)), (.ref b1), (.ref b1)])) rfl rfl (hb hby at_51)
  have Z10 : n0 ≤ h10.size := Nat.le_trans Z9 (Keep.of_wr W10).1
  have N10 := Fr.snoc X10 N9 g_b1
  have V10 : Arv Z h10 b1 k1 .int (16 : Int32) [(.int (9 : Int32)), (.int (10 : Int32)), (.int (13 : Int32)), (.int (32 : Int32)), (.int (55295 : Int32)), (.int (57344 : Int32)), (.int (65533 : Int32)), (.int (65536 : Int32)), (.int (1114111 : Int32)), (.int (0 : Int32)), (.int (0 : Int32)), (.int (0 : Int32)), (.int (0 : Int32)), (.int (0 : Int32)), (.int (0 : Int32)), (.int (0 : Int32))] (.int (0 : Int32)) := Arv.set Ar10 q10 S10 M10 H10 G10 rfl W10 8 rfl (Nat.le_of_ble_eq_true rfl)
  refine own_st (S' := T10.setTop (mkF m 52 #[.val (.int p0), .val (.int p1), .val (.int p2), .unset, .unset, .unset, .unset] [(.ref b1)])) st10 ?_
  refine own_st (S' := T10.setTop (mkF m 53 #[.val (.int p0), .val (.int p1), .val (.int p2), .unset, .unset, .unset, .unset] [(.ref b1), (.ref b1)])) (fun t_ k_ => XS.dup X10.here hx rfl (hb hby at_52) rfl rfl k_) ?_
  refine own_st (S' := T10.setTop (mkF m 55 #[.val (.int p0), .val (.int p1), .val (.int p2), .unset, .unset, .unset, .unset] [(.int (9 : Int32)), (.ref b1), (.ref b1)])) (fun t_ k_ => XS.bipush X10.here hx rfl (hb hby at_53) k_) ?_
  refine own_st (S' := T10.setTop (mkF m 56 #[.val (.int p0), .val (.int p1), .val (.int p2), .unset, .unset, .unset, .unset] [(.int (0 : Int32)), (.int (9 : Int32)), (.ref b1), (.ref b1)])) (fun t_ k_ => XS.iconst X10.here hx rfl (hb hby at_55) k_) ?_
  obtain ⟨cl11, Ar11, q11, S11, M11, H11, G11⟩ := V10
  have hin11 : ¬ ((9 : Int32) < 0 ∨ cl11.slots.size ≤ ((9 : Int32)).toNatClampNeg) := inb_of S11 ⟨by decide, by decide⟩
  obtain ⟨T11, h11, X11, e11, W11, st11⟩ := stI X10 hx hZ e10 Ar11 (j := (9 : Int32)) hin11 (g := (mkF m 56 #[.val (.int p0), .val (.int p1), .val (.int p2), .unset, .unset, .unset, .unset] [(.int (0 : Int32)), (.int (9 : Int32)), (.ref b1), (.ref b1)])) rfl rfl (hb hby at_56)
  have Z11 : n0 ≤ h11.size := Nat.le_trans Z10 (Keep.of_wr W11).1
  have N11 := Fr.snoc X11 N10 g_b1
  have V11 : Arv Z h11 b1 k1 .int (16 : Int32) [(.int (9 : Int32)), (.int (10 : Int32)), (.int (13 : Int32)), (.int (32 : Int32)), (.int (55295 : Int32)), (.int (57344 : Int32)), (.int (65533 : Int32)), (.int (65536 : Int32)), (.int (1114111 : Int32)), (.int (0 : Int32)), (.int (0 : Int32)), (.int (0 : Int32)), (.int (0 : Int32)), (.int (0 : Int32)), (.int (0 : Int32)), (.int (0 : Int32))] (.int (0 : Int32)) := Arv.set Ar11 q11 S11 M11 H11 G11 rfl W11 9 rfl (Nat.le_of_ble_eq_true rfl)
  refine own_st (S' := T11.setTop (mkF m 57 #[.val (.int p0), .val (.int p1), .val (.int p2), .unset, .unset, .unset, .unset] [(.ref b1)])) st11 ?_
  refine own_st (S' := T11.setTop (mkF m 58 #[.val (.int p0), .val (.int p1), .val (.int p2), .unset, .unset, .unset, .unset] [(.ref b1), (.ref b1)])) (fun t_ k_ => XS.dup X11.here hx rfl (hb hby at_57) rfl rfl k_) ?_
  refine own_st (S' := T11.setTop (mkF m 60 #[.val (.int p0), .val (.int p1), .val (.int p2), .unset, .unset, .unset, .unset] [(.int (10 : Int32)), (.ref b1), (.ref b1)])) (fun t_ k_ => XS.bipush X11.here hx rfl (hb hby at_58) k_) ?_
  refine own_st (S' := T11.setTop (mkF m 62 #[.val (.int p0), .val (.int p1), .val (.int p2), .unset, .unset, .unset, .unset] [(.int (-2147483648 : Int32)), (.int (10 : Int32)), (.ref b1), (.ref b1)])) (fun t_ k_ => X11.ldcI hx hown (mvT hZ (hw _ (List.mem_of_getElem? (i := 6) rfl))) (g := (mkF m 60 #[.val (.int p0), .val (.int p1), .val (.int p2), .unset, .unset, .unset, .unset] [(.int (10 : Int32)), (.ref b1), (.ref b1)])) rfl (hb hby at_60) k_) ?_
  obtain ⟨cl12, Ar12, q12, S12, M12, H12, G12⟩ := V11
  have hin12 : ¬ ((10 : Int32) < 0 ∨ cl12.slots.size ≤ ((10 : Int32)).toNatClampNeg) := inb_of S12 ⟨by decide, by decide⟩
  obtain ⟨T12, h12, X12, e12, W12, st12⟩ := stI X11 hx hZ e11 Ar12 (j := (10 : Int32)) hin12 (g := (mkF m 62 #[.val (.int p0), .val (.int p1), .val (.int p2), .unset, .unset, .unset, .unset] [(.int (-2147483648 : Int32)), (.int (10 : Int32)), (.ref b1), (.ref b1)])) rfl rfl (hb hby at_62)
  have Z12 : n0 ≤ h12.size := Nat.le_trans Z11 (Keep.of_wr W12).1
  have N12 := Fr.snoc X12 N11 g_b1
  have V12 : Arv Z h12 b1 k1 .int (16 : Int32) [(.int (9 : Int32)), (.int (10 : Int32)), (.int (13 : Int32)), (.int (32 : Int32)), (.int (55295 : Int32)), (.int (57344 : Int32)), (.int (65533 : Int32)), (.int (65536 : Int32)), (.int (1114111 : Int32)), (.int (0 : Int32)), (.int (-2147483648 : Int32)), (.int (0 : Int32)), (.int (0 : Int32)), (.int (0 : Int32)), (.int (0 : Int32)), (.int (0 : Int32))] (.int (0 : Int32)) := Arv.set Ar12 q12 S12 M12 H12 G12 rfl W12 10 rfl (Nat.le_of_ble_eq_true rfl)
  refine own_st (S' := T12.setTop (mkF m 63 #[.val (.int p0), .val (.int p1), .val (.int p2), .unset, .unset, .unset, .unset] [(.ref b1)])) st12 ?_
  refine own_st (S' := T12.setTop (mkF m 64 #[.val (.int p0), .val (.int p1), .val (.int p2), .unset, .unset, .unset, .unset] [(.ref b1), (.ref b1)])) (fun t_ k_ => XS.dup X12.here hx rfl (hb hby at_63) rfl rfl k_) ?_
  refine own_st (S' := T12.setTop (mkF m 66 #[.val (.int p0), .val (.int p1), .val (.int p2), .unset, .unset, .unset, .unset] [(.int (11 : Int32)), (.ref b1), (.ref b1)])) (fun t_ k_ => XS.bipush X12.here hx rfl (hb hby at_64) k_) ?_
  refine own_st (S' := T12.setTop (mkF m 68 #[.val (.int p0), .val (.int p1), .val (.int p2), .unset, .unset, .unset, .unset] [(.int (2147483647 : Int32)), (.int (11 : Int32)), (.ref b1), (.ref b1)])) (fun t_ k_ => X12.ldcI hx hown (mvT hZ (hw _ (List.mem_of_getElem? (i := 7) rfl))) (g := (mkF m 66 #[.val (.int p0), .val (.int p1), .val (.int p2), .unset, .unset, .unset, .unset] [(.int (11 : Int32)), (.ref b1), (.ref b1)])) rfl (hb hby at_66) k_) ?_
  obtain ⟨cl13, Ar13, q13, S13, M13, H13, G13⟩ := V12
  have hin13 : ¬ ((11 : Int32) < 0 ∨ cl13.slots.size ≤ ((11 : Int32)).toNatClampNeg) := inb_of S13 ⟨by decide, by decide⟩
  obtain ⟨T13, h13, X13, e13, W13, st13⟩ := stI X12 hx hZ e12 Ar13 (j := (11 : Int32)) hin13 (g := (mkF m 68 #[.val (.int p0), .val (.int p1), .val (.int p2), .unset, .unset, .unset, .unset] [(.int (2147483647 : Int32)), (.int (11 : Int32)), (.ref b1), (.ref b1)])) rfl rfl (hb hby at_68)
  have Z13 : n0 ≤ h13.size := Nat.le_trans Z12 (Keep.of_wr W13).1
  have N13 := Fr.snoc X13 N12 g_b1
  have V13 : Arv Z h13 b1 k1 .int (16 : Int32) [(.int (9 : Int32)), (.int (10 : Int32)), (.int (13 : Int32)), (.int (32 : Int32)), (.int (55295 : Int32)), (.int (57344 : Int32)), (.int (65533 : Int32)), (.int (65536 : Int32)), (.int (1114111 : Int32)), (.int (0 : Int32)), (.int (-2147483648 : Int32)), (.int (2147483647 : Int32)), (.int (0 : Int32)), (.int (0 : Int32)), (.int (0 : Int32)), (.int (0 : Int32))] (.int (0 : Int32)) := Arv.set Ar13 q13 S13 M13 H13 G13 rfl W13 11 rfl (Nat.le_of_ble_eq_true rfl)
  refine own_st (S' := T13.setTop (mkF m 69 #[.val (.int p0), .val (.int p1), .val (.int p2), .unset, .unset, .unset, .unset] [(.ref b1)])) st13 ?_
  refine own_st (S' := T13.setTop (mkF m 70 #[.val (.int p0), .val (.int p1), .val (.int p2), .unset, .unset, .unset, .unset] [(.ref b1), (.ref b1)])) (fun t_ k_ => XS.dup X13.here hx rfl (hb hby at_69) rfl rfl k_) ?_
  refine own_st (S' := T13.setTop (mkF m 72 #[.val (.int p0), .val (.int p1), .val (.int p2), .unset, .unset, .unset, .unset] [(.int (12 : Int32)), (.ref b1), (.ref b1)])) (fun t_ k_ => XS.bipush X13.here hx rfl (hb hby at_70) k_) ?_
  refine own_st (S' := T13.setTop (mkF m 74 #[.val (.int p0), .val (.int p1), .val (.int p2), .unset, .unset, .unset, .unset] [(.int (56320 : Int32)), (.int (12 : Int32)), (.ref b1), (.ref b1)])) (fun t_ k_ => X13.ldcI hx hown (mvT hZ (hw _ (List.mem_of_getElem? (i := 8) rfl))) (g := (mkF m 72 #[.val (.int p0), .val (.int p1), .val (.int p2), .unset, .unset, .unset, .unset] [(.int (12 : Int32)), (.ref b1), (.ref b1)])) rfl (hb hby at_72) k_) ?_
  obtain ⟨cl14, Ar14, q14, S14, M14, H14, G14⟩ := V13
  have hin14 : ¬ ((12 : Int32) < 0 ∨ cl14.slots.size ≤ ((12 : Int32)).toNatClampNeg) := inb_of S14 ⟨by decide, by decide⟩
  obtain ⟨T14, h14, X14, e14, W14, st14⟩ := stI X13 hx hZ e13 Ar14 (j := (12 : Int32)) hin14 (g := (mkF m 74 #[.val (.int p0), .val (.int p1), .val (.int p2), .unset, .unset, .unset, .unset] [(.int (56320 : Int32)), (.int (12 : Int32)), (.ref b1), (.ref b1)])) rfl rfl (hb hby at_74)
  have Z14 : n0 ≤ h14.size := Nat.le_trans Z13 (Keep.of_wr W14).1
  have N14 := Fr.snoc X14 N13 g_b1
  have V14 : Arv Z h14 b1 k1 .int (16 : Int32) [(.int (9 : Int32)), (.int (10 : Int32)), (.int (13 : Int32)), (.int (32 : Int32)), (.int (55295 : Int32)), (.int (57344 : Int32)), (.int (65533 : Int32)), (.int (65536 : Int32)), (.int (1114111 : Int32)), (.int (0 : Int32)), (.int (-2147483648 : Int32)), (.int (2147483647 : Int32)), (.int (56320 : Int32)), (.int (0 : Int32)), (.int (0 : Int32)), (.int (0 : Int32))] (.int (0 : Int32)) := Arv.set Ar14 q14 S14 M14 H14 G14 rfl W14 12 rfl (Nat.le_of_ble_eq_true rfl)
  refine own_st (S' := T14.setTop (mkF m 75 #[.val (.int p0), .val (.int p1), .val (.int p2), .unset, .unset, .unset, .unset] [(.ref b1)])) st14 ?_
  refine own_st (S' := T14.setTop (mkF m 76 #[.val (.int p0), .val (.int p1), .val (.int p2), .unset, .unset, .unset, .unset] [(.ref b1), (.ref b1)])) (fun t_ k_ => XS.dup X14.here hx rfl (hb hby at_75) rfl rfl k_) ?_
  refine own_st (S' := T14.setTop (mkF m 78 #[.val (.int p0), .val (.int p1), .val (.int p2), .unset, .unset, .unset, .unset] [(.int (13 : Int32)), (.ref b1), (.ref b1)])) (fun t_ k_ => XS.bipush X14.here hx rfl (hb hby at_76) k_) ?_
  refine own_st (S' := T14.setTop (mkF m 80 #[.val (.int p0), .val (.int p1), .val (.int p2), .unset, .unset, .unset, .unset] [(.int (65535 : Int32)), (.int (13 : Int32)), (.ref b1), (.ref b1)])) (fun t_ k_ => X14.ldcI hx hown (mvT hZ (hw _ (List.mem_of_getElem? (i := 9) rfl))) (g := (mkF m 78 #[.val (.int p0), .val (.int p1), .val (.int p2), .unset, .unset, .unset, .unset] [(.int (13 : Int32)), (.ref b1), (.ref b1)])) rfl (hb hby at_78) k_) ?_
  obtain ⟨cl15, Ar15, q15, S15, M15, H15, G15⟩ := V14
  have hin15 : ¬ ((13 : Int32) < 0 ∨ cl15.slots.size ≤ ((13 : Int32)).toNatClampNeg) := inb_of S15 ⟨by decide, by decide⟩
  obtain ⟨T15, h15, X15, e15, W15, st15⟩ := stI X14 hx hZ e14 Ar15 (j := (13 : Int32)) hin15 (g := (mkF m 80 #[.val (.int p0), .val (.int p1), .val (.int p2), .unset, .unset, .unset, .unset] [(.int (65535 : Int32)), (.int (13 : Int32)), (.ref b1), (.ref b1)])) rfl rfl (hb hby at_80)
  have Z15 : n0 ≤ h15.size := Nat.le_trans Z14 (Keep.of_wr W15).1
  have N15 := Fr.snoc X15 N14 g_b1
  have V15 : Arv Z h15 b1 k1 .int (16 : Int32) [(.int (9 : Int32)), (.int (10 : Int32)), (.int (13 : Int32)), (.int (32 : Int32)), (.int (55295 : Int32)), (.int (57344 : Int32)), (.int (65533 : Int32)), (.int (65536 : Int32)), (.int (1114111 : Int32)), (.int (0 : Int32)), (.int (-2147483648 : Int32)), (.int (2147483647 : Int32)), (.int (56320 : Int32)), (.int (65535 : Int32)), (.int (0 : Int32)), (.int (0 : Int32))] (.int (0 : Int32)) := Arv.set Ar15 q15 S15 M15 H15 G15 rfl W15 13 rfl (Nat.le_of_ble_eq_true rfl)
  refine own_st (S' := T15.setTop (mkF m 81 #[.val (.int p0), .val (.int p1), .val (.int p2), .unset, .unset, .unset, .unset] [(.ref b1)])) st15 ?_
  refine own_st (S' := T15.setTop (mkF m 82 #[.val (.int p0), .val (.int p1), .val (.int p2), .unset, .unset, .unset, .unset] [(.ref b1), (.ref b1)])) (fun t_ k_ => XS.dup X15.here hx rfl (hb hby at_81) rfl rfl k_) ?_
  refine own_st (S' := T15.setTop (mkF m 84 #[.val (.int p0), .val (.int p1), .val (.int p2), .unset, .unset, .unset, .unset] [(.int (14 : Int32)), (.ref b1), (.ref b1)])) (fun t_ k_ => XS.bipush X15.here hx rfl (hb hby at_82) k_) ?_
  refine own_st (S' := T15.setTop (mkF m 86 #[.val (.int p0), .val (.int p1), .val (.int p2), .unset, .unset, .unset, .unset] [(.int (31 : Int32)), (.int (14 : Int32)), (.ref b1), (.ref b1)])) (fun t_ k_ => XS.bipush X15.here hx rfl (hb hby at_84) k_) ?_
  obtain ⟨cl16, Ar16, q16, S16, M16, H16, G16⟩ := V15
  have hin16 : ¬ ((14 : Int32) < 0 ∨ cl16.slots.size ≤ ((14 : Int32)).toNatClampNeg) := inb_of S16 ⟨by decide, by decide⟩
  obtain ⟨T16, h16, X16, e16, W16, st16⟩ := stI X15 hx hZ e15 Ar16 (j := (14 : Int32)) hin16 (g := (mkF m 86 #[.val (.int p0), .val (.int p1), .val (.int p2), .unset, .unset, .unset, .unset] [(.int (31 : Int32)), (.int (14 : Int32)), (.ref b1), (.ref b1)])) rfl rfl (hb hby at_86)
  have Z16 : n0 ≤ h16.size := Nat.le_trans Z15 (Keep.of_wr W16).1
  have N16 := Fr.snoc X16 N15 g_b1
  have V16 : Arv Z h16 b1 k1 .int (16 : Int32) [(.int (9 : Int32)), (.int (10 : Int32)), (.int (13 : Int32)), (.int (32 : Int32)), (.int (55295 : Int32)), (.int (57344 : Int32)), (.int (65533 : Int32)), (.int (65536 : Int32)), (.int (1114111 : Int32)), (.int (0 : Int32)), (.int (-2147483648 : Int32)), (.int (2147483647 : Int32)), (.int (56320 : Int32)), (.int (65535 : Int32)), (.int (31 : Int32)), (.int (0 : Int32))] (.int (0 : Int32)) := Arv.set Ar16 q16 S16 M16 H16 G16 rfl W16 14 rfl (Nat.le_of_ble_eq_true rfl)
  refine own_st (S' := T16.setTop (mkF m 87 #[.val (.int p0), .val (.int p1), .val (.int p2), .unset, .unset, .unset, .unset] [(.ref b1)])) st16 ?_
  refine own_st (S' := T16.setTop (mkF m 88 #[.val (.int p0), .val (.int p1), .val (.int p2), .unset, .unset, .unset, .unset] [(.ref b1), (.ref b1)])) (fun t_ k_ => XS.dup X16.here hx rfl (hb hby at_87) rfl rfl k_) ?_
  refine own_st (S' := T16.setTop (mkF m 90 #[.val (.int p0), .val (.int p1), .val (.int p2), .unset, .unset, .unset, .unset] [(.int (15 : Int32)), (.ref b1), (.ref b1)])) (fun t_ k_ => XS.bipush X16.here hx rfl (hb hby at_88) k_) ?_
  refine own_st (S' := T16.setTop (mkF m 92 #[.val (.int p0), .val (.int p1), .val (.int p2), .unset, .unset, .unset, .unset] [(.int (8 : Int32)), (.int (15 : Int32)), (.ref b1), (.ref b1)])) (fun t_ k_ => XS.bipush X16.here hx rfl (hb hby at_90) k_) ?_
  obtain ⟨cl17, Ar17, q17, S17, M17, H17, G17⟩ := V16
  have hin17 : ¬ ((15 : Int32) < 0 ∨ cl17.slots.size ≤ ((15 : Int32)).toNatClampNeg) := inb_of S17 ⟨by decide, by decide⟩
  obtain ⟨T17, h17, X17, e17, W17, st17⟩ := stI X16 hx hZ e16 Ar17 (j := (15 : Int32)) hin17 (g := (mkF m 92 #[.val (.int p0), .val (.int p1), .val (.int p2), .unset, .unset, .unset, .unset] [(.int (8 : Int32)), (.int (15 : Int32)), (.ref b1), (.ref b1)])) rfl rfl (hb hby at_92)
  have Z17 : n0 ≤ h17.size := Nat.le_trans Z16 (Keep.of_wr W17).1
  have N17 := Fr.snoc X17 N16 g_b1
  have V17 : Arv Z h17 b1 k1 .int (16 : Int32) [(.int (9 : Int32)), (.int (10 : Int32)), (.int (13 : Int32)), (.int (32 : Int32)), (.int (55295 : Int32)), (.int (57344 : Int32)), (.int (65533 : Int32)), (.int (65536 : Int32)), (.int (1114111 : Int32)), (.int (0 : Int32)), (.int (-2147483648 : Int32)), (.int (2147483647 : Int32)), (.int (56320 : Int32)), (.int (65535 : Int32)), (.int (31 : Int32)), (.int (8 : Int32))] (.int (0 : Int32)) := Arv.set Ar17 q17 S17 M17 H17 G17 rfl W17 15 rfl (Nat.le_of_ble_eq_true rfl)
  refine own_st (S' := T17.setTop (mkF m 93 #[.val (.int p0), .val (.int p1), .val (.int p2), .unset, .unset, .unset, .unset] [(.ref b1)])) st17 ?_
  refine own_st (S' := T17.setTop (mkF m 94 #[.val (.int p0), .val (.int p1), .val (.int p2), .val (.ref b1), .unset, .unset, .unset] [])) (fun t_ k_ => XS.astoreN X17.here hx rfl (hb hby at_93) rfl rfl (l' := #[.val (.int p0), .val (.int p1), .val (.int p2), .val (.ref b1), .unset, .unset, .unset]) rfl k_) ?_
  refine own_st (S' := T17.setTop (mkF m 95 #[.val (.int p0), .val (.int p1), .val (.int p2), .val (.ref b1), .unset, .unset, .unset] [(.ref b1)])) (fun t_ k_ => XS.aloadN X17.here hx rfl (hb hby at_94) rfl rfl k_) ?_
  refine own_st (S' := T17.setTop (mkF m 96 #[.val (.int p0), .val (.int p1), .val (.int p2), .val (.ref b1), .unset, .unset, .unset] [(.int p1), (.ref b1)])) (fun t_ k_ => XS.iloadN X17.here hx rfl (hb hby at_95) rfl k_) ?_
  refine own_st (S' := T17.setTop (mkF m 98 #[.val (.int p0), .val (.int p1), .val (.int p2), .val (.ref b1), .unset, .unset, .unset] [(.int (15 : Int32)), (.int p1), (.ref b1)])) (fun t_ k_ => XS.bipush X17.here hx rfl (hb hby at_96) k_) ?_
  refine own_st (S' := T17.setTop (mkF m 99 #[.val (.int p0), .val (.int p1), .val (.int p2), .val (.ref b1), .unset, .unset, .unset] [(.int (p1 &&& (15 : Int32))), (.ref b1)])) (fun t_ k_ => XS.iand X17.here hx rfl (hb hby at_98) rfl k_) ?_
  obtain ⟨cl18, Ar18, q18, S18, M18, H18, G18⟩ := V17
  have hin18 : ¬ ((p1 &&& (15 : Int32)) < 0 ∨ cl18.slots.size ≤ ((p1 &&& (15 : Int32))).toNatClampNeg) := inb_of S18 (own_idx _)
  obtain ⟨near, hnear⟩ := own_allint (l := [(.int (9 : Int32)), (.int (10 : Int32)), (.int (13 : Int32)), (.int (32 : Int32)), (.int (55295 : Int32)), (.int (57344 : Int32)), (.int (65533 : Int32)), (.int (65536 : Int32)), (.int (1114111 : Int32)), (.int (0 : Int32)), (.int (-2147483648 : Int32)), (.int (2147483647 : Int32)), (.int (56320 : Int32)), (.int (65535 : Int32)), (.int (31 : Int32)), (.int (8 : Int32))]) (by intro v hv; simp only [List.mem_cons, List.not_mem_nil, or_false] at hv; rcases hv with rfl | rfl | rfl | rfl | rfl | rfl | rfl | rfl | rfl | rfl | rfl | rfl | rfl | rfl | rfl | rfl <;> exact ⟨_, rfl⟩) (((p1 &&& (15 : Int32))).toNatClampNeg)
  have hat18 : cl18.slots[((p1 &&& (15 : Int32))).toNatClampNeg]? = some (.int near) := H18.at hin18 hnear
  refine own_st (S' := T17.setTop (mkF m 100 #[.val (.int p0), .val (.int p1), .val (.int p2), .val (.ref b1), .unset, .unset, .unset] [(.int near)])) (fun t_ k_ => X17.iaload hx (j := (p1 &&& (15 : Int32))) (v := (.int near)) (by rw [e17]; exact Ar18.1) (State.isArrayOf_alike hZ.alike Ar18.2.1) Ar18.2.2 hin18 hat18 (g := (mkF m 99 #[.val (.int p0), .val (.int p1), .val (.int p2), .val (.ref b1), .unset, .unset, .unset] [(.int (p1 &&& (15 : Int32))), (.ref b1)])) rfl rfl (hb hby at_99) _ k_) ?_
  refine own_st (S' := T17.setTop (mkF m 101 #[.val (.int p0), .val (.int p1), .val (.int p2), .val (.ref b1), .unset, .unset, .unset] [(.int p2), (.int near)])) (fun t_ k_ => XS.iloadN X17.here hx rfl (hb hby at_100) rfl k_) ?_
  refine own_st (S' := T17.setTop (mkF m 102 #[.val (.int p0), .val (.int p1), .val (.int p2), .val (.ref b1), .unset, .unset, .unset] [(.int (3 : Int32)), (.int p2), (.int near)])) (fun t_ k_ => XS.iconst X17.here hx rfl (hb hby at_101) k_) ?_
  refine own_st (S' := T17.setTop (mkF m 103 #[.val (.int p0), .val (.int p1), .val (.int p2), .val (.ref b1), .unset, .unset, .unset] [(.int (p2 &&& (3 : Int32))), (.int near)])) (fun t_ k_ => XS.iand X17.here hx rfl (hb hby at_102) rfl k_) ?_
  refine own_st (S' := T17.setTop (mkF m 104 #[.val (.int p0), .val (.int p1), .val (.int p2), .val (.ref b1), .unset, .unset, .unset] [(.int (1 : Int32)), (.int (p2 &&& (3 : Int32))), (.int near)])) (fun t_ k_ => XS.iconst X17.here hx rfl (hb hby at_103) k_) ?_
  refine own_st (S' := T17.setTop (mkF m 105 #[.val (.int p0), .val (.int p1), .val (.int p2), .val (.ref b1), .unset, .unset, .unset] [(.int ((p2 &&& (3 : Int32)) - (1 : Int32))), (.int near)])) (fun t_ k_ => XS.isub X17.here hx rfl (hb hby at_104) rfl k_) ?_
  refine own_st (S' := T17.setTop (mkF m 106 #[.val (.int p0), .val (.int p1), .val (.int p2), .val (.ref b1), .unset, .unset, .unset] [(.int (near + ((p2 &&& (3 : Int32)) - (1 : Int32))))])) (fun t_ k_ => XS.iadd X17.here hx rfl (hb hby at_105) rfl k_) ?_
  obtain ⟨v19, hv19⟩ : ∃ z : Int32, z = (near + ((p2 &&& (3 : Int32)) - (1 : Int32))) := ⟨_, rfl⟩
  refine own_cast (S' := T17.setTop (mkF m 106 #[.val (.int p0), .val (.int p1), .val (.int p2), .val (.ref b1), .unset, .unset, .unset] [(.int v19)])) (by rw [hv19]) ?_
  refine own_st (S' := T17.setTop (mkF m 108 #[.val (.int p0), .val (.int p1), .val (.int p2), .val (.ref b1), .val (.int v19), .unset, .unset] [])) (fun t_ k_ => XS.istore X17.here hx rfl (hb hby at_106) rfl (l' := #[.val (.int p0), .val (.int p1), .val (.int p2), .val (.ref b1), .val (.int v19), .unset, .unset]) rfl k_) ?_
  refine own_st (S' := T17.setTop (mkF m 109 #[.val (.int p0), .val (.int p1), .val (.int p2), .val (.ref b1), .val (.int v19), .unset, .unset] [(.int p0)])) (fun t_ k_ => XS.iloadN X17.here hx rfl (hb hby at_108) rfl k_) ?_
  obtain ⟨_, _, ⟨T20, L20, k20, n20⟩, -, X20, ⟨Lc20, hQ20, l20, y20, z20⟩, st20⟩ := Jvm.LawKit.callS X17 hx (y := (⟨"com/example/frisk/frisk/pattern/XmlCharacters", "isChar", "(I)Z"⟩ : MethodName)) hown (mvT hZ (hw _ (List.mem_of_getElem? (i := 10) rfl))) (mvT hZ (hw _ (List.mem_of_getElem? (i := 11) rfl))) (mvT hZ (hw _ (List.mem_of_getElem? (i := 12) rfl))) (mvT hZ (hw _ (List.mem_of_getElem? (i := 13) rfl))) (by decide) (backOf (W := 0) (rm1 l Z a0 hw [] p0 h17 n0 Z17 ) hZ (hw _ (List.mem_of_getElem? (i := 13) rfl)) (hw _ (List.mem_of_getElem? (i := 12) rfl)) (by decide) (by decide)) (g := (mkF m 109 #[.val (.int p0), .val (.int p1), .val (.int p2), .val (.ref b1), .val (.int v19), .unset, .unset] [(.int p0)])) rfl (by rw [hml]; rfl) (argsL := [(.int p0)]) (rest := []) (lenOf pd_0 rfl) rfl (by show 2 * 0 + _ ≤ _; exact Nat.le_of_eq rfl) (hb hby at_109) (fun _ _ => ⟨rfl, e17, (by decide : 1 + 0 ≤ _), (by decide : 16 + 0 ≤ _)⟩)
  dsimp only [Pt.U, Pt.locs, Pt.cells, Pt.slots] at X20 l20 y20 z20 st20 hQ20
  subst l20 y20 z20
  obtain ⟨rfl, M20, q20⟩ := hQ20
  have N20 := Fr.app N17 M20
  refine own_st (S' := T20.setTop (mkF m 112 #[.val (.int p0), .val (.int p1), .val (.int p2), .val (.ref b1), .val (.int v19), .unset, .unset] [(.int (own_isc p0))])) st20 ?_
  refine own_st (S' := T20.setTop (mkF m 113 #[.val (.int p0), .val (.int p1), .val (.int p2), .val (.ref b1), .val (.int v19), .unset, .unset] [(.int p0), (.int (own_isc p0))])) (fun t_ k_ => XS.iloadN X20.here hx rfl (hb hby at_112) rfl k_) ?_
  obtain ⟨_, _, ⟨T21, L21, k21, n21⟩, -, X21, ⟨Lc21, hQ21, l21, y21, z21⟩, st21⟩ := Jvm.LawKit.callS X20 hx (y := (⟨"com/example/frisk/frisk/pattern/XmlCharactersIsCharPinLaw", "reference", "(I)Z"⟩ : MethodName)) hown (mvT hZ (hw _ (List.mem_of_getElem? (i := 14) rfl))) (mvT hZ (hw _ (List.mem_of_getElem? (i := 15) rfl))) (mvT hZ (hw _ (List.mem_of_getElem? (i := 16) rfl))) (mvT hZ (hw _ (List.mem_of_getElem? (i := 17) rfl))) (by decide) (backOf (W := 1) (rm2 l Z a0 hw [] p0 h17 n0 Z17 ) hZ (hw _ (List.mem_of_getElem? (i := 17) rfl)) (hw _ (List.mem_of_getElem? (i := 16) rfl)) (by decide) (by decide)) (g := (mkF m 113 #[.val (.int p0), .val (.int p1), .val (.int p2), .val (.ref b1), .val (.int v19), .unset, .unset] [(.int p0), (.int (own_isc p0))])) rfl (by rw [hml]; rfl) (argsL := [(.int p0)]) (rest := [(.int (own_isc p0))]) (lenOf pd_0 rfl) rfl (by show 2 * 0 + _ ≤ _; exact Nat.le_of_eq rfl) (hb hby at_113) (fun _ _ => ⟨rfl, q20, (by decide : 1 + 0 ≤ _), (by decide : 16 + 0 ≤ _)⟩)
  dsimp only [Pt.U, Pt.locs, Pt.cells, Pt.slots] at X21 l21 y21 z21 st21 hQ21
  subst l21 y21 z21
  obtain ⟨rfl, M21, q21⟩ := hQ21
  have N21 := Fr.app N20 M21
  refine own_st (S' := T21.setTop (mkF m 116 #[.val (.int p0), .val (.int p1), .val (.int p2), .val (.ref b1), .val (.int v19), .unset, .unset] [(.int (own_ref p0)), (.int (own_isc p0))])) st21 ?_
  by_cases hc116 : (own_isc p0) = (own_ref p0)
  · refine own_st (S' := T21.setTop (mkF m 119 #[.val (.int p0), .val (.int p1), .val (.int p2), .val (.ref b1), .val (.int v19), .unset, .unset] [])) (fun t_ k_ => XS.icmpNo X21.here hx rfl (hb hby at_116) rfl (teq hc116).2 k_) ?_
    refine own_st (S' := T21.setTop (mkF m 120 #[.val (.int p0), .val (.int p1), .val (.int p2), .val (.ref b1), .val (.int v19), .unset, .unset] [(.int (1 : Int32))])) (fun t_ k_ => XS.iconst X21.here hx rfl (hb hby at_119) k_) ?_
    refine own_st (S' := T21.setTop (mkF m 124 #[.val (.int p0), .val (.int p1), .val (.int p2), .val (.ref b1), .val (.int v19), .unset, .unset] [(.int (1 : Int32))])) (fun t_ k_ => XS.goto X21.here hx rfl (pc0 := 120) (pc' := 124) rfl (hb hby at_120) (by decide) (by decide) k_) ?_
    refine own_st (S' := T21.setTop (mkF m 126 #[.val (.int p0), .val (.int p1), .val (.int p2), .val (.ref b1), .val (.int v19), .val (.int (1 : Int32)), .unset] [])) (fun t_ k_ => XS.istore X21.here hx rfl (hb hby at_124) rfl (l' := #[.val (.int p0), .val (.int p1), .val (.int p2), .val (.ref b1), .val (.int v19), .val (.int (1 : Int32)), .unset]) rfl k_) ?_
    refine own_st (S' := T21.setTop (mkF m 128 #[.val (.int p0), .val (.int p1), .val (.int p2), .val (.ref b1), .val (.int v19), .val (.int (1 : Int32)), .unset] [(.int v19)])) (fun t_ k_ => XS.iload X21.here hx rfl (hb hby at_126) rfl k_) ?_
    obtain ⟨_, _, ⟨T22, L22, k22, n22⟩, -, X22, ⟨Lc22, hQ22, l22, y22, z22⟩, st22⟩ := Jvm.LawKit.callS X21 hx (y := (⟨"com/example/frisk/frisk/pattern/XmlCharacters", "isChar", "(I)Z"⟩ : MethodName)) hown (mvT hZ (hw _ (List.mem_of_getElem? (i := 10) rfl))) (mvT hZ (hw _ (List.mem_of_getElem? (i := 11) rfl))) (mvT hZ (hw _ (List.mem_of_getElem? (i := 12) rfl))) (mvT hZ (hw _ (List.mem_of_getElem? (i := 13) rfl))) (by decide) (backOf (W := 0) (rm1 l Z a0 hw [] v19 h17 n0 Z17 ) hZ (hw _ (List.mem_of_getElem? (i := 13) rfl)) (hw _ (List.mem_of_getElem? (i := 12) rfl)) (by decide) (by decide)) (g := (mkF m 128 #[.val (.int p0), .val (.int p1), .val (.int p2), .val (.ref b1), .val (.int v19), .val (.int (1 : Int32)), .unset] [(.int v19)])) rfl (by rw [hml]; rfl) (argsL := [(.int v19)]) (rest := []) (lenOf pd_0 rfl) rfl (by show 2 * 0 + _ ≤ _; exact Nat.le_of_eq rfl) (hb hby at_128) (fun _ _ => ⟨rfl, q21, (by decide : 1 + 0 ≤ _), (by decide : 16 + 0 ≤ _)⟩)
    dsimp only [Pt.U, Pt.locs, Pt.cells, Pt.slots] at X22 l22 y22 z22 st22 hQ22
    subst l22 y22 z22
    obtain ⟨rfl, M22, q22⟩ := hQ22
    have N22 := Fr.app N21 M22
    refine own_st (S' := T22.setTop (mkF m 131 #[.val (.int p0), .val (.int p1), .val (.int p2), .val (.ref b1), .val (.int v19), .val (.int (1 : Int32)), .unset] [(.int (own_isc v19))])) st22 ?_
    refine own_st (S' := T22.setTop (mkF m 133 #[.val (.int p0), .val (.int p1), .val (.int p2), .val (.ref b1), .val (.int v19), .val (.int (1 : Int32)), .unset] [(.int v19), (.int (own_isc v19))])) (fun t_ k_ => XS.iload X22.here hx rfl (hb hby at_131) rfl k_) ?_
    obtain ⟨_, _, ⟨T23, L23, k23, n23⟩, -, X23, ⟨Lc23, hQ23, l23, y23, z23⟩, st23⟩ := Jvm.LawKit.callS X22 hx (y := (⟨"com/example/frisk/frisk/pattern/XmlCharactersIsCharPinLaw", "reference", "(I)Z"⟩ : MethodName)) hown (mvT hZ (hw _ (List.mem_of_getElem? (i := 14) rfl))) (mvT hZ (hw _ (List.mem_of_getElem? (i := 15) rfl))) (mvT hZ (hw _ (List.mem_of_getElem? (i := 16) rfl))) (mvT hZ (hw _ (List.mem_of_getElem? (i := 17) rfl))) (by decide) (backOf (W := 1) (rm2 l Z a0 hw [] v19 h17 n0 Z17 ) hZ (hw _ (List.mem_of_getElem? (i := 17) rfl)) (hw _ (List.mem_of_getElem? (i := 16) rfl)) (by decide) (by decide)) (g := (mkF m 133 #[.val (.int p0), .val (.int p1), .val (.int p2), .val (.ref b1), .val (.int v19), .val (.int (1 : Int32)), .unset] [(.int v19), (.int (own_isc v19))])) rfl (by rw [hml]; rfl) (argsL := [(.int v19)]) (rest := [(.int (own_isc v19))]) (lenOf pd_0 rfl) rfl (by show 2 * 0 + _ ≤ _; exact Nat.le_of_eq rfl) (hb hby at_133) (fun _ _ => ⟨rfl, q22, (by decide : 1 + 0 ≤ _), (by decide : 16 + 0 ≤ _)⟩)
    dsimp only [Pt.U, Pt.locs, Pt.cells, Pt.slots] at X23 l23 y23 z23 st23 hQ23
    subst l23 y23 z23
    obtain ⟨rfl, M23, q23⟩ := hQ23
    have N23 := Fr.app N22 M23
    refine own_st (S' := T23.setTop (mkF m 136 #[.val (.int p0), .val (.int p1), .val (.int p2), .val (.ref b1), .val (.int v19), .val (.int (1 : Int32)), .unset] [(.int (own_ref v19)), (.int (own_isc v19))])) st23 ?_
    by_cases hc136 : (own_isc v19) = (own_ref v19)
    · refine own_st (S' := T23.setTop (mkF m 139 #[.val (.int p0), .val (.int p1), .val (.int p2), .val (.ref b1), .val (.int v19), .val (.int (1 : Int32)), .unset] [])) (fun t_ k_ => XS.icmpNo X23.here hx rfl (hb hby at_136) rfl (teq hc136).2 k_) ?_
      refine own_st (S' := T23.setTop (mkF m 140 #[.val (.int p0), .val (.int p1), .val (.int p2), .val (.ref b1), .val (.int v19), .val (.int (1 : Int32)), .unset] [(.int (1 : Int32))])) (fun t_ k_ => XS.iconst X23.here hx rfl (hb hby at_139) k_) ?_
      refine own_st (S' := T23.setTop (mkF m 144 #[.val (.int p0), .val (.int p1), .val (.int p2), .val (.ref b1), .val (.int v19), .val (.int (1 : Int32)), .unset] [(.int (1 : Int32))])) (fun t_ k_ => XS.goto X23.here hx rfl (pc0 := 140) (pc' := 144) rfl (hb hby at_140) (by decide) (by decide) k_) ?_
      refine own_st (S' := T23.setTop (mkF m 146 #[.val (.int p0), .val (.int p1), .val (.int p2), .val (.ref b1), .val (.int v19), .val (.int (1 : Int32)), .val (.int (1 : Int32))] [])) (fun t_ k_ => XS.istore X23.here hx rfl (hb hby at_144) rfl (l' := #[.val (.int p0), .val (.int p1), .val (.int p2), .val (.ref b1), .val (.int v19), .val (.int (1 : Int32)), .val (.int (1 : Int32))]) rfl k_) ?_
      refine own_st (S' := T23.setTop (mkF m 148 #[.val (.int p0), .val (.int p1), .val (.int p2), .val (.ref b1), .val (.int v19), .val (.int (1 : Int32)), .val (.int (1 : Int32))] [(.int (1 : Int32))])) (fun t_ k_ => XS.iload X23.here hx rfl (hb hby at_146) rfl k_) ?_
      refine own_st (S' := T23.setTop (mkF m 151 #[.val (.int p0), .val (.int p1), .val (.int p2), .val (.ref b1), .val (.int v19), .val (.int (1 : Int32)), .val (.int (1 : Int32))] [])) (fun t_ k_ => XS.ifNo X23.here hx rfl (hb hby at_148) rfl ((if0 _ _).trans (feq (by decide : ¬ ((1 : Int32) = (0 : Int32)))).1) k_) ?_
      refine own_st (S' := T23.setTop (mkF m 153 #[.val (.int p0), .val (.int p1), .val (.int p2), .val (.ref b1), .val (.int v19), .val (.int (1 : Int32)), .val (.int (1 : Int32))] [(.int (1 : Int32))])) (fun t_ k_ => XS.iload X23.here hx rfl (hb hby at_151) rfl k_) ?_
      refine own_st (S' := T23.setTop (mkF m 156 #[.val (.int p0), .val (.int p1), .val (.int p2), .val (.ref b1), .val (.int v19), .val (.int (1 : Int32)), .val (.int (1 : Int32))] [])) (fun t_ k_ => XS.ifNo X23.here hx rfl (hb hby at_153) rfl ((if0 _ _).trans (feq (by decide : ¬ ((1 : Int32) = (0 : Int32)))).1) k_) ?_
      refine own_st (S' := T23.setTop (mkF m 157 #[.val (.int p0), .val (.int p1), .val (.int p2), .val (.ref b1), .val (.int v19), .val (.int (1 : Int32)), .val (.int (1 : Int32))] [(.int (1 : Int32))])) (fun t_ k_ => XS.iconst X23.here hx rfl (hb hby at_156) k_) ?_
      refine own_st (S' := T23.setTop (mkF m 161 #[.val (.int p0), .val (.int p1), .val (.int p2), .val (.ref b1), .val (.int v19), .val (.int (1 : Int32)), .val (.int (1 : Int32))] [(.int (1 : Int32))])) (fun t_ k_ => XS.goto X23.here hx rfl (pc0 := 157) (pc' := 161) rfl (hb hby at_157) (by decide) (by decide) k_) ?_
      obtain ⟨fs, hr, hrun, hended, hW, hsame⟩ := X23.leave (v := some (.int (1 : Int32))) (fun h => by rw [Bd.returns] at h; cases h)
      refine ⟨_, _, retN X23 hx (t := .boolean) Bd.returns (by simp) (hb hby at_161) hr, hrun, hended, _, _, rfl, ?_, ⟨_, rfl⟩, hW, hsame.mono (by decide) (by decide)⟩
      show Q0 Z p0 p1 p2 h0 n0 _ T23.heap _
      rw [q23]
      exact ⟨rfl, N23⟩
    · exact absurd (own_same _) hc136
  · exact absurd (own_same _) hc116
set_option maxRecDepth 65536 in
set_option maxHeartbeats 40000000 in
theorem comes_1 {Post : Tables → Env → Array Value → State → Outcome → State → Prop} (hpost : ∀ tb e args s v u, (limb_1_1.after args s (.returned v) u = true ∧ limb_1_2.after args s (.returned v) u = true ∧ True) → FrameEnd s (.returned v) u (Jvm.fieldLocs frame_1_writes args s ++ Jvm.arrayLocs frame_1_arrays args s ++ Jvm.staticLocs frame_1_statics s) 16 128 → Post tb e args s (.returned v) u) :
    ArmFor flags0 classFile x code maxLocals ret World_1 tables_1 room_1 Calls_1 rest_1 Pre_1 Post := by
  intro l hfl _ _ p e ha hc hk s m args below hf hA hF happ hP
  obtain ⟨hcalls, hrest, hpre⟩ := hP
  obtain ⟨-, -, -, hnamed, -, -, -, hat⟩ := (Spec.applies_iff hf).mp happ
  obtain ⟨hg, hn⟩ := and_e (Cond.before_iff.mp (show (Jvm.Cond.and given_1 narrow_1).before args s = true from hpre))
  obtain ⟨hcount, ht0⟩ := and_e hg
  obtain ⟨ha0, ht1⟩ := and_e ht0
  obtain ⟨ha1, ht2⟩ := and_e ht1
  obtain ⟨w0, w1, w2, rfl⟩ : ∃ w0 w1 w2 : Value, args = #[w0, w1, w2] := by
    have hs : args.size = 3 := by simpa [Cond.value, given_1] using hcount
    obtain ⟨L⟩ := args
    match L, hs with
    | [w0, w1, w2], _ => exact ⟨w0, w1, w2, rfl⟩
  have hw := fun d (hd : d ∈ tables_1) => atoms_spec (ws := Jvm.Cond.code x code maxLocals ret :: tables_1) hat d (List.mem_cons_of_mem _ hd)
  have hfit : Fit s := fun {y c} hc i hi => by
    obtain ⟨ha, rfl⟩ := Array.getElem?_eq_some_iff.mp hc
    have q := List.all_eq_true.mp ((Array.all_eq_true_iff_forall_mem.mp hF) _ (Array.getElem_mem ha)) i (List.mem_range.mpr hi)
    simpa [Array.getElem?_eq_getElem hi] using q
  obtain ⟨i0, ei0⟩ := is_v ha0
  obtain rfl : w0 = (.int i0) := Option.some.inj ei0
  obtain ⟨i1, ei1⟩ := is_v ha1
  obtain rfl : w1 = (.int i1) := Option.some.inj ei1
  obtain ⟨i2, ei2⟩ := is_v ht2
  obtain rfl : w2 = (.int i2) := Option.some.inj ei2
  obtain ⟨n, o, h1, h2, h3, _, L, rfl, ⟨rfl, N⟩, hq⟩ := rm0 l s _ hw tables_1 i0 i1 i2 s.heap s.heap.size (Nat.le_refl _)  p e ha hc hk s m _ below hf ((Spec.applies_iff_loose hf).mp happ).1 ⟨rfl, State.Warmed39.refl s, rfl⟩ trivial
  refine ⟨n, _, h1, h2, h3, hpost _ _ _ _ _ _ ⟨Cond.after_iff.mpr rfl, Cond.after_iff.mpr (eq_i res_at (Term.int_eval (1)) rfl), trivial⟩ ⟨hq.1, hq.2.1, (hq.2.2.sift fun y hy => Or.inr (N y hy)).mono (by decide) (by decide)⟩⟩
theorem main_1_1 : Claimed_1_1 := comes_1 fun _ _ _ _ _ _ h hF => ⟨h.1, hF⟩
theorem main_1_2 : Claimed_1_2 := comes_1 fun _ _ _ _ _ _ h hF => ⟨h.2.1, hF⟩
end Jvm.Pilot.@@N@@
namespace Jvm.Pilot.@@N@@
open Jvm Jvm.ClassFile Sem Op Lib Jvm.Free Jvm.Stand Jvm.Pilot.@@N@@.Jvm.D
/-! MADE BY PROGRAM (witnessworld.py) out of the Statement's table words and the real class files: 9 classes; the members and pool entries that the words name. The judged class is class 1, her method 2. -/
namespace start1
open Jvm.ClassFile
def u (s : String) : CpInfo := .utf8 (stringToUtf16 s)
/-- a pool by its gaps: so many unusable entries, then the entry; so many at the end -/
def gap : Nat → List CpInfo → List CpInfo
  | 0, r => r
  | n + 1, r => .unusable :: gap n r
def poolList (es : List (Nat × CpInfo)) (last : Nat) : List CpInfo := es.foldr (fun e r => gap e.1 (e.2 :: r)) (gap last [])
def pool (es : List (Nat × CpInfo)) (last : Nat) : Array CpInfo := ⟨poolList es last⟩
def fileOf (pool : Array CpInfo) (this : Nat) (attrs : Array Attribute := #[]) (ms : Array MethodInfo := #[]) (fl : Nat := 33) (sup : Nat := 0) (ifs : Array Nat := #[]) (fds : Array FieldInfo := #[]) : ClassFile where
  minorVersion := 0
  majorVersion := 65
  constantPool := pool
  accessFlags := fl
  thisClass := this
  superClass := sup
  interfaces := ifs
  fields := fds
  methods := ms
  attributes := attrs
def plain (name : String) (sup : Option ClassId) : Class where
  name := name
  kind := .ordinary
  loader := none
  accessFlags := 33
  super := sup
  interfaces := #[]
  cf := none
  fields := #[]
  methods := #[]
  instanceTypes := #[]
  staticTypes := #[]
  resolved := #[]
  callSites := []
  init := .initialized
  statics := none
  mirror := none

def pool0 : Array CpInfo := pool [(5, u "<init>"), (0, u "()V"), (1, .class_ 10), (1, u "java/lang/Object")] 113

def k0m0 : Method := { name := "<init>", desc := "()V", sig := { parameters := [], returnType := none }, accessFlags := 1, code := none }
/-- java/lang/Object -/
def k0 : Class := { plain "java/lang/Object" none with
  accessFlags := 33
  interfaces := #[]
  cf := some (fileOf pool0 8 #[] #[{ accessFlags := 1, nameIndex := 5, descriptorIndex := 6, attributes := #[] }] 33 0 #[] #[])
  fields := #[]
  methods := #[k0m0]
  instanceTypes := #[]
  staticTypes := #[]
  resolved := Array.replicate 124 none
  statics := none }

def pool1 : Array CpInfo := pool [(2, .class_ 4), (1, u "java/lang/Object"), (0, u "<init>"), (0, u "()V"), (0, .integer 55295), (0, .integer 57344), (0, .integer 65533), (0, .integer 65536), (0, .integer 1114111), (2, .integer 2147483648), (0, .integer 2147483647), (0, .integer 56320), (0, .integer 65535), (0, .methodref 19 20), (0, .class_ 21), (0, .nameAndType 22 23), (0, u "com/example/frisk/frisk/pattern/XmlCharacters"), (0, u "isChar"), (0, u "(I)Z"), (0, .methodref 25 26), (0, .class_ 27), (0, .nameAndType 28 23), (0, u "com/example/frisk/frisk/pattern/XmlCharactersIsCharPinLaw"), (0, u "reference"), (3, u "law"), (0, u "(III)Z")] 4

def k1m0 : Method := { name := "<init>", desc := "()V", sig := { parameters := [], returnType := none }, accessFlags := 1, code := none }
def k1c1 : Code := { maxStack := 2, maxLocals := 1, code := method_2_code, exceptionTable := #[], attributes := #[] }
def k1m1 : Method := { name := "reference", desc := "(I)Z", sig := { parameters := [.int], returnType := some .boolean }, accessFlags := 10, code := some k1c1 }
def k1c2 : Code := { maxStack := 4, maxLocals := 7, code := code, exceptionTable := #[], attributes := #[] }
def k1m2 : Method := { name := "law", desc := "(III)Z", sig := { parameters := [.int, .int, .int], returnType := some .boolean }, accessFlags := 9, code := some k1c2 }
/-- com/example/frisk/frisk/pattern/XmlCharactersIsCharPinLaw -/
def k1 : Class := { plain "com/example/frisk/frisk/pattern/XmlCharactersIsCharPinLaw" (some 0) with
  accessFlags := 49
  interfaces := #[]
  cf := some (fileOf pool1 25 #[] #[{ accessFlags := 1, nameIndex := 5, descriptorIndex := 6, attributes := #[] }, { accessFlags := 10, nameIndex := 28, descriptorIndex := 23, attributes := #[] }, { accessFlags := 9, nameIndex := 32, descriptorIndex := 33, attributes := #[] }] 49 2 #[] #[])
  fields := #[]
  methods := #[k1m0, k1m1, k1m2]
  instanceTypes := #[]
  staticTypes := #[]
  resolved := Array.replicate 38 none
  statics := none }

def pool2 : Array CpInfo := pool [(2, .class_ 4), (1, u "java/lang/Object"), (0, u "<init>"), (0, u "()V"), (0, .integer 55295), (0, .integer 57344), (0, .integer 65533), (0, .integer 65536), (0, .integer 1114111), (18, .class_ 32), (1, u "com/example/frisk/frisk/pattern/XmlCharacters"), (0, u "isChar"), (0, u "(I)Z"), (5, u "NAME_START"), (0, u "Lcom/example/frisk/frisk/pattern/CharacterClass;"), (7, u "NAME"), (6, u "NAME_START_RANGES"), (0, u "[I"), (2, u "NAME_MORE_RANGES")] 21

def k2m0 : Method := { name := "<init>", desc := "()V", sig := { parameters := [], returnType := none }, accessFlags := 2, code := none }
def k2c1 : Code := { maxStack := 2, maxLocals := 1, code := prog_111_method_2_code, exceptionTable := #[], attributes := #[] }
def k2m1 : Method := { name := "isChar", desc := "(I)Z", sig := { parameters := [.int], returnType := some .boolean }, accessFlags := 9, code := some k2c1 }
/-- com/example/frisk/frisk/pattern/XmlCharacters -/
def k2 : Class := { plain "com/example/frisk/frisk/pattern/XmlCharacters" (some 0) with
  accessFlags := 49
  interfaces := #[]
  cf := some (fileOf pool2 30 #[] #[{ accessFlags := 2, nameIndex := 5, descriptorIndex := 6, attributes := #[] }, { accessFlags := 9, nameIndex := 33, descriptorIndex := 34, attributes := #[] }] 49 2 #[] #[{ accessFlags := 26, nameIndex := 56, descriptorIndex := 57, attributes := #[] }, { accessFlags := 26, nameIndex := 60, descriptorIndex := 57, attributes := #[] }, { accessFlags := 26, nameIndex := 40, descriptorIndex := 41, attributes := #[] }, { accessFlags := 26, nameIndex := 49, descriptorIndex := 41, attributes := #[] }])
  fields := #[{ name := "NAME_START_RANGES", type := (.array .int), accessFlags := 26, slot := 0, constantValue := 0 }, { name := "NAME_MORE_RANGES", type := (.array .int), accessFlags := 26, slot := 1, constantValue := 0 }, { name := "NAME_START", type := (.object "com/example/frisk/frisk/pattern/CharacterClass"), accessFlags := 26, slot := 2, constantValue := 0 }, { name := "NAME", type := (.object "com/example/frisk/frisk/pattern/CharacterClass"), accessFlags := 26, slot := 3, constantValue := 0 }]
  methods := #[k2m0, k2m1]
  instanceTypes := #[]
  staticTypes := #[(.array .int), (.array .int), (.object "com/example/frisk/frisk/pattern/CharacterClass"), (.object "com/example/frisk/frisk/pattern/CharacterClass")]
  resolved := Array.replicate 82 none
  statics := none }

def pool3 : Array CpInfo := pool [(1, u "java/lang/Cloneable"), (0, .class_ 1), (0, u "java/lang/Object"), (0, .class_ 3)] 3

/-- java/lang/Cloneable -/
def k3 : Class := { plain "java/lang/Cloneable" (some 0) with
  accessFlags := 1537
  interfaces := #[]
  cf := some (fileOf pool3 2 #[] #[] 1537 4 #[] #[])
  fields := #[]
  methods := #[]
  instanceTypes := #[]
  staticTypes := #[]
  resolved := Array.replicate 8 none
  statics := none }

def pool4 : Array CpInfo := pool [(1, u "java/io/Serializable"), (0, .class_ 1), (0, u "java/lang/Object"), (0, .class_ 3)] 3

/-- java/io/Serializable -/
def k4 : Class := { plain "java/io/Serializable" (some 0) with
  accessFlags := 1537
  interfaces := #[]
  cf := some (fileOf pool4 2 #[] #[] 1537 4 #[] #[])
  fields := #[]
  methods := #[]
  instanceTypes := #[]
  staticTypes := #[]
  resolved := Array.replicate 8 none
  statics := none }

/-- the primitive byte -/
def k5 : Class := { plain "byte" none with kind := .primitive 'B', accessFlags := 0x411 }
/-- [B -/
def k6 : Class := { plain "[B" (some 0) with kind := .array 5 .byte, interfaces := #[3, 4], accessFlags := 1041 }

/-- the primitive int -/
def k7 : Class := { plain "int" none with kind := .primitive 'I', accessFlags := 0x411 }
/-- [I -/
def k8 : Class := { plain "[I" (some 0) with kind := .array 7 .int, interfaces := #[3, 4], accessFlags := 1041 }

def heap : Heap := #[]
def classes : Array Class := #[k0, k1, k2, k3, k4, k5, k6, k7, k8]
def interned : List (Array UInt16 × Addr) := []
def slotsUsed : Nat := 0
def theMethod : MethodId := ⟨1, 2⟩
def args0 : Array Value := #[.int 5, .int 1, .int 2]
def aboutOver (below : List Frame) : State where
  vm := { classes := classes, interned := interned.toArray }
  heap := heap
  slotsUsed := slotsUsed
  threads := #[{ frames := .invoking theMethod args0 :: below }]
def below0 : List Frame := [.native { method := ⟨0, 0⟩, args := #[] }]
def about1 : State := aboutOver below0
def p0 : Program := .bare "" "" ""
def e0 : Env := launch0.env 0 0 0
theorem w_frames : about1.frames = Frame.invoking theMethod args0 :: below0 := rfl
set_option maxRecDepth 65536 in
theorem w_args : argsFit about1.vm theMethod args0 = true := by decide +kernel
set_option maxRecDepth 65536 in
theorem w_heap : heapFits about1 = true := by decide +kernel
set_option maxRecDepth 65536 in
theorem w_runnable : about1.curStatus? = some .runnable := by decide +kernel
set_option maxRecDepth 65536 in
theorem w_alone : about1.alone = true := by decide +kernel
set_option maxRecDepth 65536 in
theorem w_named : about1.methodNamed? x = some theMethod := by decide +kernel
set_option maxRecDepth 65536 in
theorem w_hears : about1.hears theMethod below0 = true := by decide +kernel
set_option maxRecDepth 65536 in
theorem w_ripe : about1.ripe theMethod args0 below0 = true := by decide +kernel
theorem w_running : about1.status = .running := rfl
set_option maxRecDepth 65536 in
theorem w_room : about1.hasRoom e0.platform room_1 = true :=
  launch0.hasRoom_least _ room_1 (by decide +kernel) (by decide +kernel) (by decide +kernel) (by decide +kernel) (by decide +kernel) (by decide +kernel)
theorem allAtoms_all (ts : List Jvm.Cond) (a : Array Jvm.Value) (st : Jvm.State) : (allAtoms ts).before a st = ts.all (fun c => c.before a st) := by
  induction ts with
  | nil => rfl
  | cons c t ih =>
    show (Jvm.Cond.and c (allAtoms t)).before a st = _
    rw [Jvm.Cond.before_and, ih, List.all_cons]
def words1 : List Jvm.Cond := Jvm.Cond.code x code maxLocals ret :: tables_1
/-- a 'code' word, met by the world's own term for the bytes: nothing is compared byte by byte -/
theorem code_word {y : MethodName} {bytes : ByteArray} {mx : Nat} {rt : Option FieldType} {a : Array Value} {s : State} {m : MethodId} {meth : Method} {c : Code} (h1 : s.methodNamed? y = some m) (h2 : s.vm.method? m = some meth) (h3 : meth.code = some c) (h4 : c.code = bytes)
    (h5 : (c.maxLocals == mx && c.exceptionTable.isEmpty && decide (c.maxStack ≤ mostOperands) && decide (meth.sig.returnType = rt) && !meth.locks && decide (parseMethodDescriptor y.desc = some meth.sig)) = true) : (Jvm.Cond.code y bytes mx rt).before a s = true := by
  simp only [Bool.and_eq_true, beq_iff_eq, Bool.not_eq_true', decide_eq_true_eq] at h5
  obtain ⟨⟨⟨⟨⟨g1, g2⟩, g3⟩, g4⟩, g5⟩, g6⟩ := h5
  simp [Cond.before, Cond.holds, Cond.value, h1, h2, h3, h4, g1, g2, g3, g4, g5, g6]
def isCode : Jvm.Cond → Bool
  | .code _ _ _ _ => true
  | _ => false
theorem all_split {L : List Jvm.Cond} {P : Jvm.Cond → Bool} (h1 : L.all (fun c => isCode c || P c) = true) (h2 : ∀ c ∈ L.filter isCode, P c = true) : L.all P = true := by
  refine List.all_eq_true.mpr fun c hc => ?_
  have h := List.all_eq_true.mp h1 c hc
  rcases Bool.eq_false_or_eq_true (isCode c) with hi | hi
  · exact h2 c (List.mem_filter.mpr ⟨hc, hi⟩)
  · simpa [hi] using h
set_option maxRecDepth 65536 in
theorem w_c0 : (Jvm.Cond.code x code maxLocals ret).before args0 about1 = true := code_word (m := ⟨1, 2⟩) (meth := k1m2) (c := k1c2) (by decide +kernel) rfl rfl rfl (by decide +kernel)
set_option maxRecDepth 65536 in
theorem w_c1 : (Jvm.Cond.code ({ cls := "com/example/frisk/frisk/pattern/XmlCharacters", name := "isChar", desc := "(I)Z" } : Jvm.MethodName) prog_111_method_2_code (1 : Nat) (Option.some Jvm.ClassFile.FieldType.boolean)).before args0 about1 = true := code_word (m := ⟨2, 1⟩) (meth := k2m1) (c := k2c1) (by decide +kernel) rfl rfl rfl (by decide +kernel)
set_option maxRecDepth 65536 in
theorem w_c2 : (Jvm.Cond.code ({ cls := "com/example/frisk/frisk/pattern/XmlCharactersIsCharPinLaw", name := "reference", desc := "(I)Z" } : Jvm.MethodName) method_2_code (1 : Nat) (Option.some Jvm.ClassFile.FieldType.boolean)).before args0 about1 = true := code_word (m := ⟨1, 1⟩) (meth := k1m1) (c := k1c1) (by decide +kernel) rfl rfl rfl (by decide +kernel)
def codes1 : List Jvm.Cond := [Jvm.Cond.code x code maxLocals ret, Jvm.Cond.code ({ cls := "com/example/frisk/frisk/pattern/XmlCharacters", name := "isChar", desc := "(I)Z" } : Jvm.MethodName) prog_111_method_2_code (1 : Nat) (Option.some Jvm.ClassFile.FieldType.boolean), Jvm.Cond.code ({ cls := "com/example/frisk/frisk/pattern/XmlCharactersIsCharPinLaw", name := "reference", desc := "(I)Z" } : Jvm.MethodName) method_2_code (1 : Nat) (Option.some Jvm.ClassFile.FieldType.boolean)]
set_option maxRecDepth 65536 in
theorem codes_eq : words1.filter isCode = codes1 := rfl
theorem w_codes : ∀ c ∈ words1.filter isCode, c.before args0 about1 = true := by
  rw [codes_eq]
  intro c hc
  simp only [codes1, List.mem_cons, List.not_mem_nil, or_false] at hc
  rcases hc with rfl | rfl | rfl
  · exact w_c0
  · exact w_c1
  · exact w_c2
set_option maxRecDepth 65536 in
theorem w_t1 : words1.all (fun c => isCode c || c.before args0 about1) = true := by decide +kernel
theorem w_tables : (allAtoms (Jvm.Cond.code x code maxLocals ret :: tables_1)).before args0 about1 = true := by
  rw [allAtoms_all]
  show words1.all (fun c => c.before args0 about1) = true
  refine all_split ?_ w_codes
  rw [w_t1]
set_option maxRecDepth 65536 in
theorem w_case : (Jvm.Cond.and given_1 narrow_1).before args0 about1 = true := by decide +kernel
theorem w_applies : (headSpec (Jvm.Cond.code x code maxLocals ret :: tables_1) room_1).applies x e0.platform about1 = true :=
  (Spec.applies_iff w_frames).mpr ⟨w_running, w_runnable, w_alone, w_named, w_hears, w_ripe, w_room, w_tables⟩
theorem atStart : AtStart classFile x code maxLocals ret World_1 tables_1 room_1 Calls_1 rest_1 Pre_1 launch0 p0 e0 about1 theMethod args0 below0 :=
  ⟨lists_1, trivial, launch0.admits_env _ _ _, launch0.least_env, fairChoices_fair.cas, fairChoices_fair.clock, w_frames, w_args, w_heap, w_applies, trivial, trivial, w_case⟩
end start1
theorem witness_1 : WitnessClaimed_1 := ⟨start1.p0, start1.e0, start1.about1, start1.theMethod, start1.args0, start1.below0, start1.atStart⟩
end Jvm.Pilot.@@N@@
