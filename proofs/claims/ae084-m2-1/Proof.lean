import JvmDerived
import JvmDerived.Pilot.@@N@@Statement
import JvmDerived.Pilot.@@N@@Code
set_option linter.unusedVariables false
set_option linter.unusedSimpArgs false
namespace Jvm.RoadKit
open Sem ClassFile Op Lib Jvm.Stand Jvm.Free Jvm.LawKit
section New
variable {p : Program} {l : Launch} {e : Env} {R : Room} {s : State} {m : MethodId} {args : Array Value} {below : List Frame} {meth : Method} {c : Code} {T : State} {locs : List Loc} {cells slots : Nat}
theorem retI (X : Stand p l e R s m args below meth c T locs cells slots) (hx : p.tables.exec = Jvm.exec) {pc : Nat} {Ls : Array Slot} {z : Int32} {rest : List Value} (hret : meth.sig.returnType = some .int) (hd : decode c.code pc = .ok (.ireturn, 1)) {fs : List Frame}
    (hl : ∀ (f : JFrame) (acts : List Action), f.method = m → f.locked = none → f.entered = [] → (doReturn e (T.setTop f) acts (some (.int z))).1 = T.setFrames fs) : Steps p.tables e below (T.setTop (mkF m pc Ls (.int z :: rest))) (T.setFrames fs) :=
  retOut X hx hret rfl (Or.inl ⟨rfl, Or.inl rfl, _, rfl⟩) hd hl
theorem own_retJ (X : Stand p l e R s m args below meth c T locs cells slots) (hx : p.tables.exec = Jvm.exec) {pc : Nat} {Ls : Array Slot} {z : Int64} {rest : List Value} (hret : meth.sig.returnType = some .long) (hd : decode c.code pc = .ok (.lreturn, 1)) {fs : List Frame}
    (hl : ∀ (f : JFrame) (acts : List Action), f.method = m → f.locked = none → f.entered = [] → (doReturn e (T.setTop f) acts (some (.long z))).1 = T.setFrames fs) : Steps p.tables e below (T.setTop (mkF m pc Ls (.long z :: rest))) (T.setFrames fs) :=
  retOut X hx hret rfl (Or.inr (Or.inl ⟨rfl, rfl, _, rfl⟩)) hd hl
theorem own_retD (X : Stand p l e R s m args below meth c T locs cells slots) (hx : p.tables.exec = Jvm.exec) {pc : Nat} {Ls : Array Slot} {z : UInt64} {rest : List Value} (hret : meth.sig.returnType = some .double) (hd : decode c.code pc = .ok (.dreturn, 1)) {fs : List Frame}
    (hl : ∀ (f : JFrame) (acts : List Action), f.method = m → f.locked = none → f.entered = [] → (doReturn e (T.setTop f) acts (some (.double z))).1 = T.setFrames fs) : Steps p.tables e below (T.setTop (mkF m pc Ls (.double z :: rest))) (T.setFrames fs) :=
  retOut X hx hret rfl (Or.inr (Or.inr (Or.inl ⟨rfl, rfl, _, rfl⟩))) hd hl
theorem own_retR (X : Stand p l e R s m args below meth c T locs cells slots) (hx : p.tables.exec = Jvm.exec) {pc : Nat} {Ls : Array Slot} {w : Value} {t : FieldType} {rest : List Value} (hret : meth.sig.returnType = some t) (ht : t.isReference = true) (hv : w.isRef = true) (hd : decode c.code pc = .ok (.areturn, 1)) {fs : List Frame}
    (hl : ∀ (f : JFrame) (acts : List Action), f.method = m → f.locked = none → f.entered = [] → (doReturn e (T.setTop f) acts (some w)).1 = T.setFrames fs) : Steps p.tables e below (T.setTop (mkF m pc Ls (w :: rest))) (T.setFrames fs) :=
  retOut X hx hret (by rcases ref_cases hv with rfl | ⟨a, rfl⟩ <;> cases t <;> first | rfl | cases ht) (Or.inr (Or.inr (Or.inr (Or.inr ⟨rfl, ht, hv⟩)))) hd hl
end New
section Own
variable {p : Program} {e : Env} {below : List Frame}
/-- the run from S ends as P says -/
def own_Gl (p : Program) (e : Env) (below : List Frame) (P : Outcome → State → Prop) (S : State) : Prop := ∃ s₂ o, Steps p.tables e below S s₂ ∧ s₂.status = .running ∧ Ended s₂ below o ∧ P o s₂
theorem own_gl {P : Outcome → State → Prop} {S : State} (h : own_Gl p e below P S) : ∃ s₂ o, Steps p.tables e below S s₂ ∧ s₂.status = .running ∧ Ended s₂ below o ∧ P o s₂ := h
theorem own_st {P : Outcome → State → Prop} {S S' : State} (h : ∀ t, Steps p.tables e below S' t → Steps p.tables e below S t) (k : own_Gl p e below P S') : own_Gl p e below P S := by
  obtain ⟨s₂, o, h1, h2⟩ := k
  exact ⟨s₂, o, h _ h1, h2⟩
theorem own_cast {P : Outcome → State → Prop} {S S' : State} (h : S' = S) (k : own_Gl p e below P S') : own_Gl p e below P S := h ▸ k
theorem own_join {P : Outcome → State → Prop} {S : State} {α : Type} {F : α → State} {H : α → Prop} (J : ∀ x, H x → own_Gl p e below P (F x)) (k : (∀ x, H x → own_Gl p e below P (F x)) → own_Gl p e below P S) : own_Gl p e below P S := k J
theorem own_selfsel {s : State} {args : Array Value} {y : MethodName} {n : Nat} (wi : (Cond.instantiable y.cls n).before args s = true) (wp : (Cond.privateMethod y).before args s = true) (hinst : (Cond.instanceMethod y).before args s = true) (hy : y.cls ≠ "java/lang/invoke/MethodHandle" ∧ y.cls ≠ "java/lang/invoke/VarHandle") : (Cond.selects y.cls y y).before args s = true := by
  obtain ⟨c, k, h1, h2, -, h3, -⟩ := Cond.instantiable_spec wi
  exact selects_self_of_private h1 h2 (by simp only [Bool.or_eq_false_iff] at h3; exact h3.1) (Cond.privateMethod_at wp) hinst hy
/-- a place of an array is written, whatever it holds -/
theorem own_arv_any {Z : State} {h h' : Heap} {a : Addr} {c : Cell} {k : ClassId} {ty : FieldType} {z j : Int32} {vs : List Value} {dv v : Value} (A : Arr Z h a c ty) (q1 : c.cls = k) (S : c.slots.size = z.toNatClampNeg) (q3 : ¬ z < 0) (H : Has c vs dv) (G : ∀ i, i < c.slots.size → fits ty (vs.getD i dv) = true) (hv : fits ty v = true) (W : Wr h h' a j.toNatClampNeg v) (hj : ¬ (j < 0 ∨ c.slots.size ≤ j.toNatClampNeg)) : ∃ vs', Arv Z h' a k ty z vs' dv := by
  have F : Arv Z h a k ty z (vs ++ List.replicate z.toNatClampNeg dv) dv := Arv.pad ⟨c, A, q1, S, q3, H, G⟩ (pad_rep vs dv _)
  obtain ⟨c', A', r1, r2, r3, r4, r5⟩ := F
  cases A.1.symm.trans A'.1
  exact ⟨_, Arv.set A' r1 r2 r3 r4 r5 hv W j.toNatClampNeg rfl (by
    have q := Nat.lt_of_not_le fun y => hj (Or.inr y)
    rw [S] at q
    simp only [List.length_append, List.length_replicate]
    omega)⟩
end Own
end Jvm.RoadKit

namespace Jvm.Pilot.@@N@@
open Jvm Jvm.ClassFile Sem Op Lib Jvm.Free Jvm.Stand Jvm.LawKit Jvm.RoadKit Bundle Jvm.Pilot.@@N@@.Jvm.D

/-- what pick and isXml11LineEnd compute -/
def own_pick (c s : Int32) : Int32 := if (s &&& 7) = 0 then 133 else if (s &&& 7) = 1 then 8232 else if (s &&& 7) = 2 then (if (c &&& 1) = 0 then 65669 else 73768) else if (s &&& 7) = 3 then (if (c &&& 1) = 0 then 8233 else 8231) else if (s &&& 7) = 4 then (if (c &&& 1) = 0 then 13 else 10) else if (s &&& 7) = 5 then (if (c &&& 1) = 0 then 132 else 134) else c
def own_end (c : Int32) : Int32 := if c = 133 then 1 else if c = 8232 then 1 else 0

theorem d1_0 : decode method_2_code 0 = .ok (.iload_n 1, 1) := by decide +kernel
theorem d1_1 : decode method_2_code 1 = .ok (.bipush 7, 2) := by decide +kernel
theorem d1_3 : decode method_2_code 3 = .ok (.iand, 1) := by decide +kernel
theorem d1_4 : decode method_2_code 4 = .ok (.istore_n 2, 1) := by decide +kernel
theorem d1_5 : decode method_2_code 5 = .ok (.iload_n 2, 1) := by decide +kernel
theorem d1_6 : decode method_2_code 6 = .ok (.ifCond .ne 7, 3) := by decide +kernel
theorem d1_9 : decode method_2_code 9 = .ok (.sipush 133, 3) := by decide +kernel
theorem d1_12 : decode method_2_code 12 = .ok (.ireturn, 1) := by decide +kernel
theorem d1_13 : decode method_2_code 13 = .ok (.iload_n 2, 1) := by decide +kernel
theorem d1_14 : decode method_2_code 14 = .ok (.iconst 1, 1) := by decide +kernel
theorem d1_15 : decode method_2_code 15 = .ok (.if_icmp .ne 7, 3) := by decide +kernel
theorem d1_18 : decode method_2_code 18 = .ok (.sipush 8232, 3) := by decide +kernel
theorem d1_21 : decode method_2_code 21 = .ok (.ireturn, 1) := by decide +kernel
theorem d1_22 : decode method_2_code 22 = .ok (.iload_n 2, 1) := by decide +kernel
theorem d1_23 : decode method_2_code 23 = .ok (.iconst 2, 1) := by decide +kernel
theorem d1_24 : decode method_2_code 24 = .ok (.if_icmp .ne 17, 3) := by decide +kernel
theorem d1_27 : decode method_2_code 27 = .ok (.iload_n 0, 1) := by decide +kernel
theorem d1_28 : decode method_2_code 28 = .ok (.iconst 1, 1) := by decide +kernel
theorem d1_29 : decode method_2_code 29 = .ok (.iand, 1) := by decide +kernel
theorem d1_30 : decode method_2_code 30 = .ok (.ifCond .ne 8, 3) := by decide +kernel
theorem d1_33 : decode method_2_code 33 = .ok (.ldc 7, 2) := by decide +kernel
theorem d1_35 : decode method_2_code 35 = .ok (.goto 5, 3) := by decide +kernel
theorem d1_38 : decode method_2_code 38 = .ok (.ldc 8, 2) := by decide +kernel
theorem d1_40 : decode method_2_code 40 = .ok (.ireturn, 1) := by decide +kernel
theorem d1_41 : decode method_2_code 41 = .ok (.iload_n 2, 1) := by decide +kernel
theorem d1_42 : decode method_2_code 42 = .ok (.iconst 3, 1) := by decide +kernel
theorem d1_43 : decode method_2_code 43 = .ok (.if_icmp .ne 19, 3) := by decide +kernel
theorem d1_46 : decode method_2_code 46 = .ok (.iload_n 0, 1) := by decide +kernel
theorem d1_47 : decode method_2_code 47 = .ok (.iconst 1, 1) := by decide +kernel
theorem d1_48 : decode method_2_code 48 = .ok (.iand, 1) := by decide +kernel
theorem d1_49 : decode method_2_code 49 = .ok (.ifCond .ne 9, 3) := by decide +kernel
theorem d1_52 : decode method_2_code 52 = .ok (.sipush 8233, 3) := by decide +kernel
theorem d1_55 : decode method_2_code 55 = .ok (.goto 6, 3) := by decide +kernel
theorem d1_58 : decode method_2_code 58 = .ok (.sipush 8231, 3) := by decide +kernel
theorem d1_61 : decode method_2_code 61 = .ok (.ireturn, 1) := by decide +kernel
theorem d1_62 : decode method_2_code 62 = .ok (.iload_n 2, 1) := by decide +kernel
theorem d1_63 : decode method_2_code 63 = .ok (.iconst 4, 1) := by decide +kernel
theorem d1_64 : decode method_2_code 64 = .ok (.if_icmp .ne 17, 3) := by decide +kernel
theorem d1_67 : decode method_2_code 67 = .ok (.iload_n 0, 1) := by decide +kernel
theorem d1_68 : decode method_2_code 68 = .ok (.iconst 1, 1) := by decide +kernel
theorem d1_69 : decode method_2_code 69 = .ok (.iand, 1) := by decide +kernel
theorem d1_70 : decode method_2_code 70 = .ok (.ifCond .ne 8, 3) := by decide +kernel
theorem d1_73 : decode method_2_code 73 = .ok (.bipush 13, 2) := by decide +kernel
theorem d1_75 : decode method_2_code 75 = .ok (.goto 5, 3) := by decide +kernel
theorem d1_78 : decode method_2_code 78 = .ok (.bipush 10, 2) := by decide +kernel
theorem d1_80 : decode method_2_code 80 = .ok (.ireturn, 1) := by decide +kernel
theorem d1_81 : decode method_2_code 81 = .ok (.iload_n 2, 1) := by decide +kernel
theorem d1_82 : decode method_2_code 82 = .ok (.iconst 5, 1) := by decide +kernel
theorem d1_83 : decode method_2_code 83 = .ok (.if_icmp .ne 19, 3) := by decide +kernel
theorem d1_86 : decode method_2_code 86 = .ok (.iload_n 0, 1) := by decide +kernel
theorem d1_87 : decode method_2_code 87 = .ok (.iconst 1, 1) := by decide +kernel
theorem d1_88 : decode method_2_code 88 = .ok (.iand, 1) := by decide +kernel
theorem d1_89 : decode method_2_code 89 = .ok (.ifCond .ne 9, 3) := by decide +kernel
theorem d1_92 : decode method_2_code 92 = .ok (.sipush 132, 3) := by decide +kernel
theorem d1_95 : decode method_2_code 95 = .ok (.goto 6, 3) := by decide +kernel
theorem d1_98 : decode method_2_code 98 = .ok (.sipush 134, 3) := by decide +kernel
theorem d1_101 : decode method_2_code 101 = .ok (.ireturn, 1) := by decide +kernel
theorem d1_102 : decode method_2_code 102 = .ok (.iload_n 0, 1) := by decide +kernel
theorem d1_103 : decode method_2_code 103 = .ok (.ireturn, 1) := by decide +kernel
theorem pn_0 : plainName "com/example/cognate/cognate/model/SourceTextIsXml11LineEndPinLaw" = true := by first | (simp [plainName, overriddenIn]; done) | decide +kernel
theorem ef_1 (m : MethodId) (p1 : Int32) (p2 : Int32) : entryFrame m #[(.int p1), (.int p2)] 3 = mkF m 0 #[.val (.int p1), .val (.int p2), .unset] [] := by first | (simp [entryFrame, mkF, argsToLocals, Value.category]; done) | rfl
def Q1 (Z : State) (p1 : Int32) (p2 : Int32) (h0 : Heap) (n0 : Nat) (v : Option Value) (h : Heap) (L : List Loc) : Prop := v = some (.int (own_pick p1 p2)) ∧ Fr n0 L ∧ h = h0
set_option maxRecDepth 65536 in
set_option maxHeartbeats 40000000 in
theorem rm1 (l : Launch) (Z : State) (a0 : Array Value) (hw : ∀ d ∈ tables_1, d.before a0 Z = true) (ws : List Jvm.Cond) (p1 : Int32) (p2 : Int32) (h0 : Heap) (n0 : Nat) (Z0 : n0 ≤ h0.size)  :
    MetFree l (⟨"com/example/cognate/cognate/model/SourceTextIsXml11LineEndPinLaw", "pick", "(II)I"⟩ : MethodName) (head1 (Jvm.Cond.code (⟨"com/example/cognate/cognate/model/SourceTextIsXml11LineEndPinLaw", "pick", "(II)I"⟩ : MethodName) method_2_code 3 (some .int) :: ws) ({ frames := 0, cells := 0, slots := 0, locals := 0 } : Room)) (fun ar_ U => ar_ = #[(.int p1), (.int p2)] ∧ Z.Warmed39 U.vm ∧ U.heap = h0) (fun _ _ _ _ _ => True) (fun _ U o U' => ∃ v L, o = .returned v ∧ Q1 Z p1 p2 h0 n0 v U'.heap L ∧ FrameEnd U o U' L ({ frames := 0, cells := 0, slots := 0, locals := 0 } : Room).cells ({ frames := 0, cells := 0, slots := 0, locals := 0 } : Room).slots) := by
  refine MetFree.of_bodySF (plainFor_of_name pn_0) hisR ?_
  intro p e s m args below meth c s₁ Bd hml0 hP hK
  obtain ⟨rfl, hZ, hh⟩ := hP
  have hx := Bd.exec
  have hby := Bd.bytes
  have hml : c.maxLocals = 3 := hml0
  have hown : s.vm.findClass "com/example/cognate/cognate/model/SourceTextIsXml11LineEndPinLaw" = some m.cls := findClass_of_methodNamed Bd.named
  have hnm := (name_of_methodNamed Bd.named Bd.method).1
  have X0 : Stand p l e ({ frames := 0, cells := 0, slots := 0, locals := 0 } : Room) s m #[(.int p1), (.int p2)] below meth c s₁ [] 0 0 := Stand.of_body Bd
  have e0 : s₁.heap = h0 := by rw [← hh, Bd.state]; rfl
  have N0 := Fr.nil n0
  refine own_gl ?_
  refine own_st (S' := s₁.setTop (mkF m 0 #[.val (.int p1), .val (.int p2), .unset] [])) (fun t_ k_ => castTop (ef_1 m p1 p2) k_) ?_
  refine own_st (S' := s₁.setTop (mkF m 1 #[.val (.int p1), .val (.int p2), .unset] [(.int p2)])) (fun t_ k_ => XS.iloadN X0.here hx rfl (hb hby d1_0) rfl k_) ?_
  refine own_st (S' := s₁.setTop (mkF m 3 #[.val (.int p1), .val (.int p2), .unset] [(.int (7 : Int32)), (.int p2)])) (fun t_ k_ => XS.bipush X0.here hx rfl (hb hby d1_1) k_) ?_
  refine own_st (S' := s₁.setTop (mkF m 4 #[.val (.int p1), .val (.int p2), .unset] [(.int (p2 &&& (7 : Int32)))])) (fun t_ k_ => XS.iand X0.here hx rfl (hb hby d1_3) rfl k_) ?_
  refine own_st (S' := s₁.setTop (mkF m 5 #[.val (.int p1), .val (.int p2), .val (.int (p2 &&& (7 : Int32)))] [])) (fun t_ k_ => XS.istoreN X0.here hx rfl (hb hby d1_4) rfl (l' := #[.val (.int p1), .val (.int p2), .val (.int (p2 &&& (7 : Int32)))]) rfl k_) ?_
  refine own_st (S' := s₁.setTop (mkF m 6 #[.val (.int p1), .val (.int p2), .val (.int (p2 &&& (7 : Int32)))] [(.int (p2 &&& (7 : Int32)))])) (fun t_ k_ => XS.iloadN X0.here hx rfl (hb hby d1_5) rfl k_) ?_
  by_cases hc6 : (p2 &&& (7 : Int32)) = (0 : Int32)
  · refine own_st (S' := s₁.setTop (mkF m 9 #[.val (.int p1), .val (.int p2), .val (.int (p2 &&& (7 : Int32)))] [])) (fun t_ k_ => XS.ifNo X0.here hx rfl (hb hby d1_6) rfl ((if0 _ _).trans (teq hc6).2) k_) ?_
    refine own_st (S' := s₁.setTop (mkF m 12 #[.val (.int p1), .val (.int p2), .val (.int (p2 &&& (7 : Int32)))] [(.int (133 : Int32))])) (fun t_ k_ => XS.sipush X0.here hx rfl (hb hby d1_9) k_) ?_
    obtain ⟨fs, hr, hrun, hended, hW, hsame⟩ := X0.leave (v := some (.int (133 : Int32))) (fun h => by rw [Bd.returns] at h; cases h)
    refine ⟨_, _, retI X0 hx Bd.returns (hb hby d1_12) hr, hrun, hended, _, _, rfl, ?_, ⟨_, rfl⟩, hW, hsame.mono (by decide) (by decide)⟩
    show Q1 Z p1 p2 h0 n0 _ s₁.heap _
    rw [e0]
    exact ⟨(congrArg (fun z => some (Value.int z)) (show (133 : Int32) = (own_pick p1 p2) from by simp [own_pick, hc6])), N0, rfl⟩
  · refine own_st (S' := s₁.setTop (mkF m 13 #[.val (.int p1), .val (.int p2), .val (.int (p2 &&& (7 : Int32)))] [])) (fun t_ k_ => XS.ifYes X0.here hx rfl (pc0 := 6) (pc' := 13) rfl (hb hby d1_6) rfl ((if0 _ _).trans (feq hc6).2) (by decide) (by decide) k_) ?_
    refine own_st (S' := s₁.setTop (mkF m 14 #[.val (.int p1), .val (.int p2), .val (.int (p2 &&& (7 : Int32)))] [(.int (p2 &&& (7 : Int32)))])) (fun t_ k_ => XS.iloadN X0.here hx rfl (hb hby d1_13) rfl k_) ?_
    refine own_st (S' := s₁.setTop (mkF m 15 #[.val (.int p1), .val (.int p2), .val (.int (p2 &&& (7 : Int32)))] [(.int (1 : Int32)), (.int (p2 &&& (7 : Int32)))])) (fun t_ k_ => XS.iconst X0.here hx rfl (hb hby d1_14) k_) ?_
    by_cases hc15 : (p2 &&& (7 : Int32)) = (1 : Int32)
    · refine own_st (S' := s₁.setTop (mkF m 18 #[.val (.int p1), .val (.int p2), .val (.int (p2 &&& (7 : Int32)))] [])) (fun t_ k_ => XS.icmpNo X0.here hx rfl (hb hby d1_15) rfl (teq hc15).2 k_) ?_
      refine own_st (S' := s₁.setTop (mkF m 21 #[.val (.int p1), .val (.int p2), .val (.int (p2 &&& (7 : Int32)))] [(.int (8232 : Int32))])) (fun t_ k_ => XS.sipush X0.here hx rfl (hb hby d1_18) k_) ?_
      obtain ⟨fs, hr, hrun, hended, hW, hsame⟩ := X0.leave (v := some (.int (8232 : Int32))) (fun h => by rw [Bd.returns] at h; cases h)
      refine ⟨_, _, retI X0 hx Bd.returns (hb hby d1_21) hr, hrun, hended, _, _, rfl, ?_, ⟨_, rfl⟩, hW, hsame.mono (by decide) (by decide)⟩
      show Q1 Z p1 p2 h0 n0 _ s₁.heap _
      rw [e0]
      exact ⟨(congrArg (fun z => some (Value.int z)) (show (8232 : Int32) = (own_pick p1 p2) from by simp [own_pick, hc6, hc15])), N0, rfl⟩
    · refine own_st (S' := s₁.setTop (mkF m 22 #[.val (.int p1), .val (.int p2), .val (.int (p2 &&& (7 : Int32)))] [])) (fun t_ k_ => XS.icmpYes X0.here hx rfl (pc0 := 15) (pc' := 22) rfl (hb hby d1_15) rfl (feq hc15).2 (by decide) (by decide) k_) ?_
      refine own_st (S' := s₁.setTop (mkF m 23 #[.val (.int p1), .val (.int p2), .val (.int (p2 &&& (7 : Int32)))] [(.int (p2 &&& (7 : Int32)))])) (fun t_ k_ => XS.iloadN X0.here hx rfl (hb hby d1_22) rfl k_) ?_
      refine own_st (S' := s₁.setTop (mkF m 24 #[.val (.int p1), .val (.int p2), .val (.int (p2 &&& (7 : Int32)))] [(.int (2 : Int32)), (.int (p2 &&& (7 : Int32)))])) (fun t_ k_ => XS.iconst X0.here hx rfl (hb hby d1_23) k_) ?_
      by_cases hc24 : (p2 &&& (7 : Int32)) = (2 : Int32)
      · refine own_st (S' := s₁.setTop (mkF m 27 #[.val (.int p1), .val (.int p2), .val (.int (p2 &&& (7 : Int32)))] [])) (fun t_ k_ => XS.icmpNo X0.here hx rfl (hb hby d1_24) rfl (teq hc24).2 k_) ?_
        refine own_st (S' := s₁.setTop (mkF m 28 #[.val (.int p1), .val (.int p2), .val (.int (p2 &&& (7 : Int32)))] [(.int p1)])) (fun t_ k_ => XS.iloadN X0.here hx rfl (hb hby d1_27) rfl k_) ?_
        refine own_st (S' := s₁.setTop (mkF m 29 #[.val (.int p1), .val (.int p2), .val (.int (p2 &&& (7 : Int32)))] [(.int (1 : Int32)), (.int p1)])) (fun t_ k_ => XS.iconst X0.here hx rfl (hb hby d1_28) k_) ?_
        refine own_st (S' := s₁.setTop (mkF m 30 #[.val (.int p1), .val (.int p2), .val (.int (p2 &&& (7 : Int32)))] [(.int (p1 &&& (1 : Int32)))])) (fun t_ k_ => XS.iand X0.here hx rfl (hb hby d1_29) rfl k_) ?_
        by_cases hc30 : (p1 &&& (1 : Int32)) = (0 : Int32)
        · refine own_st (S' := s₁.setTop (mkF m 33 #[.val (.int p1), .val (.int p2), .val (.int (p2 &&& (7 : Int32)))] [])) (fun t_ k_ => XS.ifNo X0.here hx rfl (hb hby d1_30) rfl ((if0 _ _).trans (teq hc30).2) k_) ?_
          refine own_st (S' := s₁.setTop (mkF m 35 #[.val (.int p1), .val (.int p2), .val (.int (p2 &&& (7 : Int32)))] [(.int (65669 : Int32))])) (fun t_ k_ => X0.ldcI hx hown (mvT hZ (hw _ (List.mem_of_getElem? (i := 9) rfl))) (g := (mkF m 33 #[.val (.int p1), .val (.int p2), .val (.int (p2 &&& (7 : Int32)))] [])) rfl (hb hby d1_33) k_) ?_
          refine own_st (S' := s₁.setTop (mkF m 40 #[.val (.int p1), .val (.int p2), .val (.int (p2 &&& (7 : Int32)))] [(.int (65669 : Int32))])) (fun t_ k_ => XS.goto X0.here hx rfl (pc0 := 35) (pc' := 40) rfl (hb hby d1_35) (by decide) (by decide) k_) ?_
          obtain ⟨fs, hr, hrun, hended, hW, hsame⟩ := X0.leave (v := some (.int (65669 : Int32))) (fun h => by rw [Bd.returns] at h; cases h)
          refine ⟨_, _, retI X0 hx Bd.returns (hb hby d1_40) hr, hrun, hended, _, _, rfl, ?_, ⟨_, rfl⟩, hW, hsame.mono (by decide) (by decide)⟩
          show Q1 Z p1 p2 h0 n0 _ s₁.heap _
          rw [e0]
          exact ⟨(congrArg (fun z => some (Value.int z)) (show (65669 : Int32) = (own_pick p1 p2) from by simp [own_pick, hc6, hc15, hc24, hc30])), N0, rfl⟩
        · refine own_st (S' := s₁.setTop (mkF m 38 #[.val (.int p1), .val (.int p2), .val (.int (p2 &&& (7 : Int32)))] [])) (fun t_ k_ => XS.ifYes X0.here hx rfl (pc0 := 30) (pc' := 38) rfl (hb hby d1_30) rfl ((if0 _ _).trans (feq hc30).2) (by decide) (by decide) k_) ?_
          refine own_st (S' := s₁.setTop (mkF m 40 #[.val (.int p1), .val (.int p2), .val (.int (p2 &&& (7 : Int32)))] [(.int (73768 : Int32))])) (fun t_ k_ => X0.ldcI hx hown (mvT hZ (hw _ (List.mem_of_getElem? (i := 8) rfl))) (g := (mkF m 38 #[.val (.int p1), .val (.int p2), .val (.int (p2 &&& (7 : Int32)))] [])) rfl (hb hby d1_38) k_) ?_
          obtain ⟨fs, hr, hrun, hended, hW, hsame⟩ := X0.leave (v := some (.int (73768 : Int32))) (fun h => by rw [Bd.returns] at h; cases h)
          refine ⟨_, _, retI X0 hx Bd.returns (hb hby d1_40) hr, hrun, hended, _, _, rfl, ?_, ⟨_, rfl⟩, hW, hsame.mono (by decide) (by decide)⟩
          show Q1 Z p1 p2 h0 n0 _ s₁.heap _
          rw [e0]
          exact ⟨(congrArg (fun z => some (Value.int z)) (show (73768 : Int32) = (own_pick p1 p2) from by simp [own_pick, hc6, hc15, hc24, hc30])), N0, rfl⟩
      · refine own_st (S' := s₁.setTop (mkF m 41 #[.val (.int p1), .val (.int p2), .val (.int (p2 &&& (7 : Int32)))] [])) (fun t_ k_ => XS.icmpYes X0.here hx rfl (pc0 := 24) (pc' := 41) rfl (hb hby d1_24) rfl (feq hc24).2 (by decide) (by decide) k_) ?_
        refine own_st (S' := s₁.setTop (mkF m 42 #[.val (.int p1), .val (.int p2), .val (.int (p2 &&& (7 : Int32)))] [(.int (p2 &&& (7 : Int32)))])) (fun t_ k_ => XS.iloadN X0.here hx rfl (hb hby d1_41) rfl k_) ?_
        refine own_st (S' := s₁.setTop (mkF m 43 #[.val (.int p1), .val (.int p2), .val (.int (p2 &&& (7 : Int32)))] [(.int (3 : Int32)), (.int (p2 &&& (7 : Int32)))])) (fun t_ k_ => XS.iconst X0.here hx rfl (hb hby d1_42) k_) ?_
        by_cases hc43 : (p2 &&& (7 : Int32)) = (3 : Int32)
        · refine own_st (S' := s₁.setTop (mkF m 46 #[.val (.int p1), .val (.int p2), .val (.int (p2 &&& (7 : Int32)))] [])) (fun t_ k_ => XS.icmpNo X0.here hx rfl (hb hby d1_43) rfl (teq hc43).2 k_) ?_
          refine own_st (S' := s₁.setTop (mkF m 47 #[.val (.int p1), .val (.int p2), .val (.int (p2 &&& (7 : Int32)))] [(.int p1)])) (fun t_ k_ => XS.iloadN X0.here hx rfl (hb hby d1_46) rfl k_) ?_
          refine own_st (S' := s₁.setTop (mkF m 48 #[.val (.int p1), .val (.int p2), .val (.int (p2 &&& (7 : Int32)))] [(.int (1 : Int32)), (.int p1)])) (fun t_ k_ => XS.iconst X0.here hx rfl (hb hby d1_47) k_) ?_
          refine own_st (S' := s₁.setTop (mkF m 49 #[.val (.int p1), .val (.int p2), .val (.int (p2 &&& (7 : Int32)))] [(.int (p1 &&& (1 : Int32)))])) (fun t_ k_ => XS.iand X0.here hx rfl (hb hby d1_48) rfl k_) ?_
          by_cases hc49 : (p1 &&& (1 : Int32)) = (0 : Int32)
          · refine own_st (S' := s₁.setTop (mkF m 52 #[.val (.int p1), .val (.int p2), .val (.int (p2 &&& (7 : Int32)))] [])) (fun t_ k_ => XS.ifNo X0.here hx rfl (hb hby d1_49) rfl ((if0 _ _).trans (teq hc49).2) k_) ?_
            refine own_st (S' := s₁.setTop (mkF m 55 #[.val (.int p1), .val (.int p2), .val (.int (p2 &&& (7 : Int32)))] [(.int (8233 : Int32))])) (fun t_ k_ => XS.sipush X0.here hx rfl (hb hby d1_52) k_) ?_
            refine own_st (S' := s₁.setTop (mkF m 61 #[.val (.int p1), .val (.int p2), .val (.int (p2 &&& (7 : Int32)))] [(.int (8233 : Int32))])) (fun t_ k_ => XS.goto X0.here hx rfl (pc0 := 55) (pc' := 61) rfl (hb hby d1_55) (by decide) (by decide) k_) ?_
            obtain ⟨fs, hr, hrun, hended, hW, hsame⟩ := X0.leave (v := some (.int (8233 : Int32))) (fun h => by rw [Bd.returns] at h; cases h)
            refine ⟨_, _, retI X0 hx Bd.returns (hb hby d1_61) hr, hrun, hended, _, _, rfl, ?_, ⟨_, rfl⟩, hW, hsame.mono (by decide) (by decide)⟩
            show Q1 Z p1 p2 h0 n0 _ s₁.heap _
            rw [e0]
            exact ⟨(congrArg (fun z => some (Value.int z)) (show (8233 : Int32) = (own_pick p1 p2) from by simp [own_pick, hc6, hc15, hc24, hc43, hc49])), N0, rfl⟩
          · refine own_st (S' := s₁.setTop (mkF m 58 #[.val (.int p1), .val (.int p2), .val (.int (p2 &&& (7 : Int32)))] [])) (fun t_ k_ => XS.ifYes X0.here hx rfl (pc0 := 49) (pc' := 58) rfl (hb hby d1_49) rfl ((if0 _ _).trans (feq hc49).2) (by decide) (by decide) k_) ?_
            refine own_st (S' := s₁.setTop (mkF m 61 #[.val (.int p1), .val (.int p2), .val (.int (p2 &&& (7 : Int32)))] [(.int (8231 : Int32))])) (fun t_ k_ => XS.sipush X0.here hx rfl (hb hby d1_58) k_) ?_
            obtain ⟨fs, hr, hrun, hended, hW, hsame⟩ := X0.leave (v := some (.int (8231 : Int32))) (fun h => by rw [Bd.returns] at h; cases h)
            refine ⟨_, _, retI X0 hx Bd.returns (hb hby d1_61) hr, hrun, hended, _, _, rfl, ?_, ⟨_, rfl⟩, hW, hsame.mono (by decide) (by decide)⟩
            show Q1 Z p1 p2 h0 n0 _ s₁.heap _
            rw [e0]
            exact ⟨(congrArg (fun z => some (Value.int z)) (show (8231 : Int32) = (own_pick p1 p2) from by simp [own_pick, hc6, hc15, hc24, hc43, hc49])), N0, rfl⟩
        · refine own_st (S' := s₁.setTop (mkF m 62 #[.val (.int p1), .val (.int p2), .val (.int (p2 &&& (7 : Int32)))] [])) (fun t_ k_ => XS.icmpYes X0.here hx rfl (pc0 := 43) (pc' := 62) rfl (hb hby d1_43) rfl (feq hc43).2 (by decide) (by decide) k_) ?_
          refine own_st (S' := s₁.setTop (mkF m 63 #[.val (.int p1), .val (.int p2), .val (.int (p2 &&& (7 : Int32)))] [(.int (p2 &&& (7 : Int32)))])) (fun t_ k_ => XS.iloadN X0.here hx rfl (hb hby d1_62) rfl k_) ?_
          refine own_st (S' := s₁.setTop (mkF m 64 #[.val (.int p1), .val (.int p2), .val (.int (p2 &&& (7 : Int32)))] [(.int (4 : Int32)), (.int (p2 &&& (7 : Int32)))])) (fun t_ k_ => XS.iconst X0.here hx rfl (hb hby d1_63) k_) ?_
          by_cases hc64 : (p2 &&& (7 : Int32)) = (4 : Int32)
          · refine own_st (S' := s₁.setTop (mkF m 67 #[.val (.int p1), .val (.int p2), .val (.int (p2 &&& (7 : Int32)))] [])) (fun t_ k_ => XS.icmpNo X0.here hx rfl (hb hby d1_64) rfl (teq hc64).2 k_) ?_
            refine own_st (S' := s₁.setTop (mkF m 68 #[.val (.int p1), .val (.int p2), .val (.int (p2 &&& (7 : Int32)))] [(.int p1)])) (fun t_ k_ => XS.iloadN X0.here hx rfl (hb hby d1_67) rfl k_) ?_
            refine own_st (S' := s₁.setTop (mkF m 69 #[.val (.int p1), .val (.int p2), .val (.int (p2 &&& (7 : Int32)))] [(.int (1 : Int32)), (.int p1)])) (fun t_ k_ => XS.iconst X0.here hx rfl (hb hby d1_68) k_) ?_
            refine own_st (S' := s₁.setTop (mkF m 70 #[.val (.int p1), .val (.int p2), .val (.int (p2 &&& (7 : Int32)))] [(.int (p1 &&& (1 : Int32)))])) (fun t_ k_ => XS.iand X0.here hx rfl (hb hby d1_69) rfl k_) ?_
            by_cases hc70 : (p1 &&& (1 : Int32)) = (0 : Int32)
            · refine own_st (S' := s₁.setTop (mkF m 73 #[.val (.int p1), .val (.int p2), .val (.int (p2 &&& (7 : Int32)))] [])) (fun t_ k_ => XS.ifNo X0.here hx rfl (hb hby d1_70) rfl ((if0 _ _).trans (teq hc70).2) k_) ?_
              refine own_st (S' := s₁.setTop (mkF m 75 #[.val (.int p1), .val (.int p2), .val (.int (p2 &&& (7 : Int32)))] [(.int (13 : Int32))])) (fun t_ k_ => XS.bipush X0.here hx rfl (hb hby d1_73) k_) ?_
              refine own_st (S' := s₁.setTop (mkF m 80 #[.val (.int p1), .val (.int p2), .val (.int (p2 &&& (7 : Int32)))] [(.int (13 : Int32))])) (fun t_ k_ => XS.goto X0.here hx rfl (pc0 := 75) (pc' := 80) rfl (hb hby d1_75) (by decide) (by decide) k_) ?_
              obtain ⟨fs, hr, hrun, hended, hW, hsame⟩ := X0.leave (v := some (.int (13 : Int32))) (fun h => by rw [Bd.returns] at h; cases h)
              refine ⟨_, _, retI X0 hx Bd.returns (hb hby d1_80) hr, hrun, hended, _, _, rfl, ?_, ⟨_, rfl⟩, hW, hsame.mono (by decide) (by decide)⟩
              show Q1 Z p1 p2 h0 n0 _ s₁.heap _
              rw [e0]
              exact ⟨(congrArg (fun z => some (Value.int z)) (show (13 : Int32) = (own_pick p1 p2) from by simp [own_pick, hc6, hc15, hc24, hc43, hc64, hc70])), N0, rfl⟩
            · refine own_st (S' := s₁.setTop (mkF m 78 #[.val (.int p1), .val (.int p2), .val (.int (p2 &&& (7 : Int32)))] [])) (fun t_ k_ => XS.ifYes X0.here hx rfl (pc0 := 70) (pc' := 78) rfl (hb hby d1_70) rfl ((if0 _ _).trans (feq hc70).2) (by decide) (by decide) k_) ?_
              refine own_st (S' := s₁.setTop (mkF m 80 #[.val (.int p1), .val (.int p2), .val (.int (p2 &&& (7 : Int32)))] [(.int (10 : Int32))])) (fun t_ k_ => XS.bipush X0.here hx rfl (hb hby d1_78) k_) ?_
              obtain ⟨fs, hr, hrun, hended, hW, hsame⟩ := X0.leave (v := some (.int (10 : Int32))) (fun h => by rw [Bd.returns] at h; cases h)
              refine ⟨_, _, retI X0 hx Bd.returns (hb hby d1_80) hr, hrun, hended, _, _, rfl, ?_, ⟨_, rfl⟩, hW, hsame.mono (by decide) (by decide)⟩
              show Q1 Z p1 p2 h0 n0 _ s₁.heap _
              rw [e0]
              exact ⟨(congrArg (fun z => some (Value.int z)) (show (10 : Int32) = (own_pick p1 p2) from by simp [own_pick, hc6, hc15, hc24, hc43, hc64, hc70])), N0, rfl⟩
          · refine own_st (S' := s₁.setTop (mkF m 81 #[.val (.int p1), .val (.int p2), .val (.int (p2 &&& (7 : Int32)))] [])) (fun t_ k_ => XS.icmpYes X0.here hx rfl (pc0 := 64) (pc' := 81) rfl (hb hby d1_64) rfl (feq hc64).2 (by decide) (by decide) k_) ?_
            refine own_st (S' := s₁.setTop (mkF m 82 #[.val (.int p1), .val (.int p2), .val (.int (p2 &&& (7 : Int32)))] [(.int (p2 &&& (7 : Int32)))])) (fun t_ k_ => XS.iloadN X0.here hx rfl (hb hby d1_81) rfl k_) ?_
            refine own_st (S' := s₁.setTop (mkF m 83 #[.val (.int p1), .val (.int p2), .val (.int (p2 &&& (7 : Int32)))] [(.int (5 : Int32)), (.int (p2 &&& (7 : Int32)))])) (fun t_ k_ => XS.iconst X0.here hx rfl (hb hby d1_82) k_) ?_
            by_cases hc83 : (p2 &&& (7 : Int32)) = (5 : Int32)
            · refine own_st (S' := s₁.setTop (mkF m 86 #[.val (.int p1), .val (.int p2), .val (.int (p2 &&& (7 : Int32)))] [])) (fun t_ k_ => XS.icmpNo X0.here hx rfl (hb hby d1_83) rfl (teq hc83).2 k_) ?_
              refine own_st (S' := s₁.setTop (mkF m 87 #[.val (.int p1), .val (.int p2), .val (.int (p2 &&& (7 : Int32)))] [(.int p1)])) (fun t_ k_ => XS.iloadN X0.here hx rfl (hb hby d1_86) rfl k_) ?_
              refine own_st (S' := s₁.setTop (mkF m 88 #[.val (.int p1), .val (.int p2), .val (.int (p2 &&& (7 : Int32)))] [(.int (1 : Int32)), (.int p1)])) (fun t_ k_ => XS.iconst X0.here hx rfl (hb hby d1_87) k_) ?_
              refine own_st (S' := s₁.setTop (mkF m 89 #[.val (.int p1), .val (.int p2), .val (.int (p2 &&& (7 : Int32)))] [(.int (p1 &&& (1 : Int32)))])) (fun t_ k_ => XS.iand X0.here hx rfl (hb hby d1_88) rfl k_) ?_
              by_cases hc89 : (p1 &&& (1 : Int32)) = (0 : Int32)
              · refine own_st (S' := s₁.setTop (mkF m 92 #[.val (.int p1), .val (.int p2), .val (.int (p2 &&& (7 : Int32)))] [])) (fun t_ k_ => XS.ifNo X0.here hx rfl (hb hby d1_89) rfl ((if0 _ _).trans (teq hc89).2) k_) ?_
                refine own_st (S' := s₁.setTop (mkF m 95 #[.val (.int p1), .val (.int p2), .val (.int (p2 &&& (7 : Int32)))] [(.int (132 : Int32))])) (fun t_ k_ => XS.sipush X0.here hx rfl (hb hby d1_92) k_) ?_
                refine own_st (S' := s₁.setTop (mkF m 101 #[.val (.int p1), .val (.int p2), .val (.int (p2 &&& (7 : Int32)))] [(.int (132 : Int32))])) (fun t_ k_ => XS.goto X0.here hx rfl (pc0 := 95) (pc' := 101) rfl (hb hby d1_95) (by decide) (by decide) k_) ?_
                obtain ⟨fs, hr, hrun, hended, hW, hsame⟩ := X0.leave (v := some (.int (132 : Int32))) (fun h => by rw [Bd.returns] at h; cases h)
                refine ⟨_, _, retI X0 hx Bd.returns (hb hby d1_101) hr, hrun, hended, _, _, rfl, ?_, ⟨_, rfl⟩, hW, hsame.mono (by decide) (by decide)⟩
                show Q1 Z p1 p2 h0 n0 _ s₁.heap _
                rw [e0]
                exact ⟨(congrArg (fun z => some (Value.int z)) (show (132 : Int32) = (own_pick p1 p2) from by simp [own_pick, hc6, hc15, hc24, hc43, hc64, hc83, hc89])), N0, rfl⟩
              · refine own_st (S' := s₁.setTop (mkF m 98 #[.val (.int p1), .val (.int p2), .val (.int (p2 &&& (7 : Int32)))] [])) (fun t_ k_ => XS.ifYes X0.here hx rfl (pc0 := 89) (pc' := 98) rfl (hb hby d1_89) rfl ((if0 _ _).trans (feq hc89).2) (by decide) (by decide) k_) ?_
                refine own_st (S' := s₁.setTop (mkF m 101 #[.val (.int p1), .val (.int p2), .val (.int (p2 &&& (7 : Int32)))] [(.int (134 : Int32))])) (fun t_ k_ => XS.sipush X0.here hx rfl (hb hby d1_98) k_) ?_
                obtain ⟨fs, hr, hrun, hended, hW, hsame⟩ := X0.leave (v := some (.int (134 : Int32))) (fun h => by rw [Bd.returns] at h; cases h)
                refine ⟨_, _, retI X0 hx Bd.returns (hb hby d1_101) hr, hrun, hended, _, _, rfl, ?_, ⟨_, rfl⟩, hW, hsame.mono (by decide) (by decide)⟩
                show Q1 Z p1 p2 h0 n0 _ s₁.heap _
                rw [e0]
                exact ⟨(congrArg (fun z => some (Value.int z)) (show (134 : Int32) = (own_pick p1 p2) from by simp [own_pick, hc6, hc15, hc24, hc43, hc64, hc83, hc89])), N0, rfl⟩
            · refine own_st (S' := s₁.setTop (mkF m 102 #[.val (.int p1), .val (.int p2), .val (.int (p2 &&& (7 : Int32)))] [])) (fun t_ k_ => XS.icmpYes X0.here hx rfl (pc0 := 83) (pc' := 102) rfl (hb hby d1_83) rfl (feq hc83).2 (by decide) (by decide) k_) ?_
              refine own_st (S' := s₁.setTop (mkF m 103 #[.val (.int p1), .val (.int p2), .val (.int (p2 &&& (7 : Int32)))] [(.int p1)])) (fun t_ k_ => XS.iloadN X0.here hx rfl (hb hby d1_102) rfl k_) ?_
              obtain ⟨fs, hr, hrun, hended, hW, hsame⟩ := X0.leave (v := some (.int p1)) (fun h => by rw [Bd.returns] at h; cases h)
              refine ⟨_, _, retI X0 hx Bd.returns (hb hby d1_103) hr, hrun, hended, _, _, rfl, ?_, ⟨_, rfl⟩, hW, hsame.mono (by decide) (by decide)⟩
              show Q1 Z p1 p2 h0 n0 _ s₁.heap _
              rw [e0]
              exact ⟨(congrArg (fun z => some (Value.int z)) (show p1 = (own_pick p1 p2) from by simp [own_pick, hc6, hc15, hc24, hc43, hc64, hc83])), N0, rfl⟩
theorem d2_0 : decode prog_62_method_14_code 0 = .ok (.iload_n 0, 1) := by decide +kernel
theorem d2_1 : decode prog_62_method_14_code 1 = .ok (.sipush 133, 3) := by decide +kernel
theorem d2_4 : decode prog_62_method_14_code 4 = .ok (.if_icmp .eq 10, 3) := by decide +kernel
theorem d2_7 : decode prog_62_method_14_code 7 = .ok (.iload_n 0, 1) := by decide +kernel
theorem d2_8 : decode prog_62_method_14_code 8 = .ok (.sipush 8232, 3) := by decide +kernel
theorem d2_11 : decode prog_62_method_14_code 11 = .ok (.if_icmp .ne 7, 3) := by decide +kernel
theorem d2_14 : decode prog_62_method_14_code 14 = .ok (.iconst 1, 1) := by decide +kernel
theorem d2_15 : decode prog_62_method_14_code 15 = .ok (.goto 4, 3) := by decide +kernel
theorem d2_18 : decode prog_62_method_14_code 18 = .ok (.iconst 0, 1) := by decide +kernel
theorem d2_19 : decode prog_62_method_14_code 19 = .ok (.ireturn, 1) := by decide +kernel
theorem pn_1 : plainName "com/example/cognate/cognate/model/SourceText" = true := by first | (simp [plainName, overriddenIn]; done) | decide +kernel
theorem ef_2 (m : MethodId) (p1 : Int32) : entryFrame m #[(.int p1)] 1 = mkF m 0 #[.val (.int p1)] [] := by first | (simp [entryFrame, mkF, argsToLocals, Value.category]; done) | rfl
def Q2 (Z : State) (p1 : Int32) (h0 : Heap) (n0 : Nat) (v : Option Value) (h : Heap) (L : List Loc) : Prop := v = some (.int (own_end p1)) ∧ Fr n0 L ∧ h = h0
set_option maxRecDepth 65536 in
set_option maxHeartbeats 40000000 in
theorem rm2 (l : Launch) (Z : State) (a0 : Array Value) (hw : ∀ d ∈ tables_1, d.before a0 Z = true) (ws : List Jvm.Cond) (p1 : Int32) (h0 : Heap) (n0 : Nat) (Z0 : n0 ≤ h0.size)  :
    MetFree l (⟨"com/example/cognate/cognate/model/SourceText", "isXml11LineEnd", "(I)Z"⟩ : MethodName) (head1 (Jvm.Cond.code (⟨"com/example/cognate/cognate/model/SourceText", "isXml11LineEnd", "(I)Z"⟩ : MethodName) prog_62_method_14_code 1 (some .boolean) :: ws) ({ frames := 0, cells := 0, slots := 0, locals := 0 } : Room)) (fun ar_ U => ar_ = #[(.int p1)] ∧ Z.Warmed39 U.vm ∧ U.heap = h0) (fun _ _ _ _ _ => True) (fun _ U o U' => ∃ v L, o = .returned v ∧ Q2 Z p1 h0 n0 v U'.heap L ∧ FrameEnd U o U' L ({ frames := 0, cells := 0, slots := 0, locals := 0 } : Room).cells ({ frames := 0, cells := 0, slots := 0, locals := 0 } : Room).slots) := by
  refine MetFree.of_bodySF (plainFor_of_name pn_1) hisR ?_
  intro p e s m args below meth c s₁ Bd hml0 hP hK
  obtain ⟨rfl, hZ, hh⟩ := hP
  have hx := Bd.exec
  have hby := Bd.bytes
  have hml : c.maxLocals = 1 := hml0
  have hown : s.vm.findClass "com/example/cognate/cognate/model/SourceText" = some m.cls := findClass_of_methodNamed Bd.named
  have hnm := (name_of_methodNamed Bd.named Bd.method).1
  have X0 : Stand p l e ({ frames := 0, cells := 0, slots := 0, locals := 0 } : Room) s m #[(.int p1)] below meth c s₁ [] 0 0 := Stand.of_body Bd
  have e0 : s₁.heap = h0 := by rw [← hh, Bd.state]; rfl
  have N0 := Fr.nil n0
  refine own_gl ?_
  refine own_st (S' := s₁.setTop (mkF m 0 #[.val (.int p1)] [])) (fun t_ k_ => castTop (ef_2 m p1) k_) ?_
  refine own_st (S' := s₁.setTop (mkF m 1 #[.val (.int p1)] [(.int p1)])) (fun t_ k_ => XS.iloadN X0.here hx rfl (hb hby d2_0) rfl k_) ?_
  refine own_st (S' := s₁.setTop (mkF m 4 #[.val (.int p1)] [(.int (133 : Int32)), (.int p1)])) (fun t_ k_ => XS.sipush X0.here hx rfl (hb hby d2_1) k_) ?_
  by_cases hc4 : p1 = (133 : Int32)
  · refine own_st (S' := s₁.setTop (mkF m 14 #[.val (.int p1)] [])) (fun t_ k_ => XS.icmpYes X0.here hx rfl (pc0 := 4) (pc' := 14) rfl (hb hby d2_4) rfl (teq hc4).1 (by decide) (by decide) k_) ?_
    refine own_st (S' := s₁.setTop (mkF m 15 #[.val (.int p1)] [(.int (1 : Int32))])) (fun t_ k_ => XS.iconst X0.here hx rfl (hb hby d2_14) k_) ?_
    refine own_st (S' := s₁.setTop (mkF m 19 #[.val (.int p1)] [(.int (1 : Int32))])) (fun t_ k_ => XS.goto X0.here hx rfl (pc0 := 15) (pc' := 19) rfl (hb hby d2_15) (by decide) (by decide) k_) ?_
    obtain ⟨fs, hr, hrun, hended, hW, hsame⟩ := X0.leave (v := some (.int (1 : Int32))) (fun h => by rw [Bd.returns] at h; cases h)
    refine ⟨_, _, retN X0 hx (t := .boolean) Bd.returns (by simp) (hb hby d2_19) hr, hrun, hended, _, _, rfl, ?_, ⟨_, rfl⟩, hW, hsame.mono (by decide) (by decide)⟩
    show Q2 Z p1 h0 n0 _ s₁.heap _
    rw [e0]
    exact ⟨(congrArg (fun z => some (Value.int z)) (show (1 : Int32) = (own_end p1) from by simp [own_end, hc4])), N0, rfl⟩
  · refine own_st (S' := s₁.setTop (mkF m 7 #[.val (.int p1)] [])) (fun t_ k_ => XS.icmpNo X0.here hx rfl (hb hby d2_4) rfl (feq hc4).1 k_) ?_
    refine own_st (S' := s₁.setTop (mkF m 8 #[.val (.int p1)] [(.int p1)])) (fun t_ k_ => XS.iloadN X0.here hx rfl (hb hby d2_7) rfl k_) ?_
    refine own_st (S' := s₁.setTop (mkF m 11 #[.val (.int p1)] [(.int (8232 : Int32)), (.int p1)])) (fun t_ k_ => XS.sipush X0.here hx rfl (hb hby d2_8) k_) ?_
    by_cases hc11 : p1 = (8232 : Int32)
    · refine own_st (S' := s₁.setTop (mkF m 14 #[.val (.int p1)] [])) (fun t_ k_ => XS.icmpNo X0.here hx rfl (hb hby d2_11) rfl (teq hc11).2 k_) ?_
      refine own_st (S' := s₁.setTop (mkF m 15 #[.val (.int p1)] [(.int (1 : Int32))])) (fun t_ k_ => XS.iconst X0.here hx rfl (hb hby d2_14) k_) ?_
      refine own_st (S' := s₁.setTop (mkF m 19 #[.val (.int p1)] [(.int (1 : Int32))])) (fun t_ k_ => XS.goto X0.here hx rfl (pc0 := 15) (pc' := 19) rfl (hb hby d2_15) (by decide) (by decide) k_) ?_
      obtain ⟨fs, hr, hrun, hended, hW, hsame⟩ := X0.leave (v := some (.int (1 : Int32))) (fun h => by rw [Bd.returns] at h; cases h)
      refine ⟨_, _, retN X0 hx (t := .boolean) Bd.returns (by simp) (hb hby d2_19) hr, hrun, hended, _, _, rfl, ?_, ⟨_, rfl⟩, hW, hsame.mono (by decide) (by decide)⟩
      show Q2 Z p1 h0 n0 _ s₁.heap _
      rw [e0]
      exact ⟨(congrArg (fun z => some (Value.int z)) (show (1 : Int32) = (own_end p1) from by simp [own_end, hc4, hc11])), N0, rfl⟩
    · refine own_st (S' := s₁.setTop (mkF m 18 #[.val (.int p1)] [])) (fun t_ k_ => XS.icmpYes X0.here hx rfl (pc0 := 11) (pc' := 18) rfl (hb hby d2_11) rfl (feq hc11).2 (by decide) (by decide) k_) ?_
      refine own_st (S' := s₁.setTop (mkF m 19 #[.val (.int p1)] [(.int (0 : Int32))])) (fun t_ k_ => XS.iconst X0.here hx rfl (hb hby d2_18) k_) ?_
      obtain ⟨fs, hr, hrun, hended, hW, hsame⟩ := X0.leave (v := some (.int (0 : Int32))) (fun h => by rw [Bd.returns] at h; cases h)
      refine ⟨_, _, retN X0 hx (t := .boolean) Bd.returns (by simp) (hb hby d2_19) hr, hrun, hended, _, _, rfl, ?_, ⟨_, rfl⟩, hW, hsame.mono (by decide) (by decide)⟩
      show Q2 Z p1 h0 n0 _ s₁.heap _
      rw [e0]
      exact ⟨(congrArg (fun z => some (Value.int z)) (show (0 : Int32) = (own_end p1) from by simp [own_end, hc4, hc11])), N0, rfl⟩
theorem ef_0 (m : MethodId) (p0 : Int32) (p1 : Int32) : entryFrame m #[(.int p0), (.int p1)] maxLocals = mkF m 0 #[.val (.int p0), .val (.int p1), .unset, .unset] [] := by first | (simp [entryFrame, mkF, argsToLocals, Value.category, maxLocals]; done) | rfl
theorem pd_0 : parseMethodDescriptor "(II)I" = some ⟨[.int, .int], some .int⟩ := by decide +kernel
theorem pd_1 : parseMethodDescriptor "(I)Z" = some ⟨[.int], some .boolean⟩ := by decide +kernel
def Q0 (Z : State) (p0 : Int32) (p1 : Int32) (h0 : Heap) (n0 : Nat) (v : Option Value) (h : Heap) (L : List Loc) : Prop := v = some (.int (1 : Int32)) ∧ Fr n0 L
set_option maxRecDepth 65536 in
set_option maxHeartbeats 40000000 in
theorem rm0 (l : Launch) (Z : State) (a0 : Array Value) (hw : ∀ d ∈ tables_1, d.before a0 Z = true) (ws : List Jvm.Cond) (p0 : Int32) (p1 : Int32) (h0 : Heap) (n0 : Nat) (Z0 : n0 ≤ h0.size)  :
    MetFree l x (head1 (Jvm.Cond.code x code maxLocals ret :: ws) room_1) (fun ar_ U => ar_ = #[(.int p0), (.int p1)] ∧ Z.Warmed39 U.vm ∧ U.heap = h0) (fun _ _ _ _ _ => True) (fun _ U o U' => ∃ v L, o = .returned v ∧ Q0 Z p0 p1 h0 n0 v U'.heap L ∧ FrameEnd U o U' L room_1.cells room_1.slots) := by
  refine MetFree.of_bodySF (plainFor_of_name pn_0) hisR ?_
  intro p e s m args below meth c s₁ Bd hml0 hP hK
  obtain ⟨rfl, hZ, hh⟩ := hP
  have hx := Bd.exec
  have hby := Bd.bytes
  have hml : c.maxLocals = 4 := hml0
  have hown : s.vm.findClass "com/example/cognate/cognate/model/SourceTextIsXml11LineEndPinLaw" = some m.cls := findClass_of_methodNamed Bd.named
  have hnm := (name_of_methodNamed Bd.named Bd.method).1
  have X0 : Stand p l e room_1 s m #[(.int p0), (.int p1)] below meth c s₁ [] 0 0 := Stand.of_body Bd
  have e0 : s₁.heap = h0 := by rw [← hh, Bd.state]; rfl
  have N0 := Fr.nil n0
  refine own_gl ?_
  refine own_st (S' := s₁.setTop (mkF m 0 #[.val (.int p0), .val (.int p1), .unset, .unset] [])) (fun t_ k_ => castTop (ef_0 m p0 p1) k_) ?_
  refine own_st (S' := s₁.setTop (mkF m 1 #[.val (.int p0), .val (.int p1), .unset, .unset] [(.int p0)])) (fun t_ k_ => XS.iloadN X0.here hx rfl (hb hby at_0) rfl k_) ?_
  refine own_st (S' := s₁.setTop (mkF m 2 #[.val (.int p0), .val (.int p1), .unset, .unset] [(.int p1), (.int p0)])) (fun t_ k_ => XS.iloadN X0.here hx rfl (hb hby at_1) rfl k_) ?_
  obtain ⟨_, _, ⟨T1, L1, k1, n1⟩, -, X1, ⟨Lc1, hQ1, l1, y1, z1⟩, st1⟩ := Jvm.LawKit.callS X0 hx (y := (⟨"com/example/cognate/cognate/model/SourceTextIsXml11LineEndPinLaw", "pick", "(II)I"⟩ : MethodName)) hown (mvT hZ (hw _ (List.mem_of_getElem? (i := 0) rfl))) (mvT hZ (hw _ (List.mem_of_getElem? (i := 1) rfl))) (mvT hZ (hw _ (List.mem_of_getElem? (i := 2) rfl))) (mvT hZ (hw _ (List.mem_of_getElem? (i := 3) rfl))) (by decide) (backOf (W := 0) (rm1 l Z a0 hw [] p0 p1 h0 n0 Z0 ) hZ (hw _ (List.mem_of_getElem? (i := 3) rfl)) (hw _ (List.mem_of_getElem? (i := 2) rfl)) (by decide) (by decide)) (g := (mkF m 2 #[.val (.int p0), .val (.int p1), .unset, .unset] [(.int p1), (.int p0)])) rfl (by rw [hml]; rfl) (argsL := [(.int p0), (.int p1)]) (rest := []) (lenOf pd_0 rfl) rfl (by show 2 * 0 + _ ≤ _; exact Nat.le_of_eq rfl) (hb hby at_2) (fun _ _ => ⟨rfl, e0, (by decide : 0 + 0 ≤ _), (by decide : 0 + 0 ≤ _)⟩)
  dsimp only [Pt.U, Pt.locs, Pt.cells, Pt.slots] at X1 l1 y1 z1 st1 hQ1
  subst l1 y1 z1
  obtain ⟨rfl, M1, q1⟩ := hQ1
  have N1 := Fr.app N0 M1
  refine own_st (S' := T1.setTop (mkF m 5 #[.val (.int p0), .val (.int p1), .unset, .unset] [(.int (own_pick p0 p1))])) st1 ?_
  obtain ⟨v2, hv2⟩ : ∃ z : Int32, z = (own_pick p0 p1) := ⟨_, rfl⟩
  refine own_cast (S' := T1.setTop (mkF m 5 #[.val (.int p0), .val (.int p1), .unset, .unset] [(.int v2)])) (by rw [hv2]) ?_
  refine own_st (S' := T1.setTop (mkF m 6 #[.val (.int p0), .val (.int p1), .val (.int v2), .unset] [])) (fun t_ k_ => XS.istoreN X1.here hx rfl (hb hby at_5) rfl (l' := #[.val (.int p0), .val (.int p1), .val (.int v2), .unset]) rfl k_) ?_
  refine own_st (S' := T1.setTop (mkF m 7 #[.val (.int p0), .val (.int p1), .val (.int v2), .unset] [(.int v2)])) (fun t_ k_ => XS.iloadN X1.here hx rfl (hb hby at_6) rfl k_) ?_
  refine own_st (S' := T1.setTop (mkF m 10 #[.val (.int p0), .val (.int p1), .val (.int v2), .unset] [(.int (133 : Int32)), (.int v2)])) (fun t_ k_ => XS.sipush X1.here hx rfl (hb hby at_7) k_) ?_
  by_cases hc10 : v2 = (133 : Int32)
  · refine own_st (S' := T1.setTop (mkF m 20 #[.val (.int p0), .val (.int p1), .val (.int v2), .unset] [])) (fun t_ k_ => XS.icmpYes X1.here hx rfl (pc0 := 10) (pc' := 20) rfl (hb hby at_10) rfl (teq hc10).1 (by decide) (by decide) k_) ?_
    refine own_st (S' := T1.setTop (mkF m 21 #[.val (.int p0), .val (.int p1), .val (.int v2), .unset] [(.int (1 : Int32))])) (fun t_ k_ => XS.iconst X1.here hx rfl (hb hby at_20) k_) ?_
    refine own_st (S' := T1.setTop (mkF m 25 #[.val (.int p0), .val (.int p1), .val (.int v2), .unset] [(.int (1 : Int32))])) (fun t_ k_ => XS.goto X1.here hx rfl (pc0 := 21) (pc' := 25) rfl (hb hby at_21) (by decide) (by decide) k_) ?_
    refine own_st (S' := T1.setTop (mkF m 26 #[.val (.int p0), .val (.int p1), .val (.int v2), .val (.int (1 : Int32))] [])) (fun t_ k_ => XS.istoreN X1.here hx rfl (hb hby at_25) rfl (l' := #[.val (.int p0), .val (.int p1), .val (.int v2), .val (.int (1 : Int32))]) rfl k_) ?_
    refine own_st (S' := T1.setTop (mkF m 27 #[.val (.int p0), .val (.int p1), .val (.int v2), .val (.int (1 : Int32))] [(.int v2)])) (fun t_ k_ => XS.iloadN X1.here hx rfl (hb hby at_26) rfl k_) ?_
    obtain ⟨_, _, ⟨T3, L3, k3, n3⟩, -, X3, ⟨Lc3, hQ3, l3, y3, z3⟩, st3⟩ := Jvm.LawKit.callS X1 hx (y := (⟨"com/example/cognate/cognate/model/SourceText", "isXml11LineEnd", "(I)Z"⟩ : MethodName)) hown (mvT hZ (hw _ (List.mem_of_getElem? (i := 4) rfl))) (mvT hZ (hw _ (List.mem_of_getElem? (i := 5) rfl))) (mvT hZ (hw _ (List.mem_of_getElem? (i := 6) rfl))) (mvT hZ (hw _ (List.mem_of_getElem? (i := 7) rfl))) (by decide) (backOf (W := 0) (rm2 l Z a0 hw [] v2 h0 n0 Z0 ) hZ (hw _ (List.mem_of_getElem? (i := 7) rfl)) (hw _ (List.mem_of_getElem? (i := 6) rfl)) (by decide) (by decide)) (g := (mkF m 27 #[.val (.int p0), .val (.int p1), .val (.int v2), .val (.int (1 : Int32))] [(.int v2)])) rfl (by rw [hml]; rfl) (argsL := [(.int v2)]) (rest := []) (lenOf pd_1 rfl) rfl (by show 2 * 0 + _ ≤ _; exact Nat.le_of_eq rfl) (hb hby at_27) (fun _ _ => ⟨rfl, q1, (by decide : 0 + 0 ≤ _), (by decide : 0 + 0 ≤ _)⟩)
    dsimp only [Pt.U, Pt.locs, Pt.cells, Pt.slots] at X3 l3 y3 z3 st3 hQ3
    subst l3 y3 z3
    obtain ⟨rfl, M3, q3⟩ := hQ3
    have N3 := Fr.app N1 M3
    refine own_st (S' := T3.setTop (mkF m 30 #[.val (.int p0), .val (.int p1), .val (.int v2), .val (.int (1 : Int32))] [(.int (own_end v2))])) st3 ?_
    refine own_st (S' := T3.setTop (mkF m 31 #[.val (.int p0), .val (.int p1), .val (.int v2), .val (.int (1 : Int32))] [(.int (1 : Int32)), (.int (own_end v2))])) (fun t_ k_ => XS.iloadN X3.here hx rfl (hb hby at_30) rfl k_) ?_
    by_cases hc31 : (own_end v2) = (1 : Int32)
    · refine own_st (S' := T3.setTop (mkF m 34 #[.val (.int p0), .val (.int p1), .val (.int v2), .val (.int (1 : Int32))] [])) (fun t_ k_ => XS.icmpNo X3.here hx rfl (hb hby at_31) rfl (teq hc31).2 k_) ?_
      refine own_st (S' := T3.setTop (mkF m 35 #[.val (.int p0), .val (.int p1), .val (.int v2), .val (.int (1 : Int32))] [(.int (1 : Int32))])) (fun t_ k_ => XS.iconst X3.here hx rfl (hb hby at_34) k_) ?_
      refine own_st (S' := T3.setTop (mkF m 39 #[.val (.int p0), .val (.int p1), .val (.int v2), .val (.int (1 : Int32))] [(.int (1 : Int32))])) (fun t_ k_ => XS.goto X3.here hx rfl (pc0 := 35) (pc' := 39) rfl (hb hby at_35) (by decide) (by decide) k_) ?_
      obtain ⟨fs, hr, hrun, hended, hW, hsame⟩ := X3.leave (v := some (.int (1 : Int32))) (fun h => by rw [Bd.returns] at h; cases h)
      refine ⟨_, _, retN X3 hx (t := .boolean) Bd.returns (by simp) (hb hby at_39) hr, hrun, hended, _, _, rfl, ?_, ⟨_, rfl⟩, hW, hsame.mono (by decide) (by decide)⟩
      show Q0 Z p0 p1 h0 n0 _ T3.heap _
      rw [q3]
      exact ⟨rfl, N3⟩
    · exact absurd (by simp [own_end, hc10]) hc31
  · refine own_st (S' := T1.setTop (mkF m 13 #[.val (.int p0), .val (.int p1), .val (.int v2), .unset] [])) (fun t_ k_ => XS.icmpNo X1.here hx rfl (hb hby at_10) rfl (feq hc10).1 k_) ?_
    refine own_st (S' := T1.setTop (mkF m 14 #[.val (.int p0), .val (.int p1), .val (.int v2), .unset] [(.int v2)])) (fun t_ k_ => XS.iloadN X1.here hx rfl (hb hby at_13) rfl k_) ?_
    refine own_st (S' := T1.setTop (mkF m 17 #[.val (.int p0), .val (.int p1), .val (.int v2), .unset] [(.int (8232 : Int32)), (.int v2)])) (fun t_ k_ => XS.sipush X1.here hx rfl (hb hby at_14) k_) ?_
    by_cases hc17 : v2 = (8232 : Int32)
    · refine own_st (S' := T1.setTop (mkF m 20 #[.val (.int p0), .val (.int p1), .val (.int v2), .unset] [])) (fun t_ k_ => XS.icmpNo X1.here hx rfl (hb hby at_17) rfl (teq hc17).2 k_) ?_
      refine own_st (S' := T1.setTop (mkF m 21 #[.val (.int p0), .val (.int p1), .val (.int v2), .unset] [(.int (1 : Int32))])) (fun t_ k_ => XS.iconst X1.here hx rfl (hb hby at_20) k_) ?_
      refine own_st (S' := T1.setTop (mkF m 25 #[.val (.int p0), .val (.int p1), .val (.int v2), .unset] [(.int (1 : Int32))])) (fun t_ k_ => XS.goto X1.here hx rfl (pc0 := 21) (pc' := 25) rfl (hb hby at_21) (by decide) (by decide) k_) ?_
      refine own_st (S' := T1.setTop (mkF m 26 #[.val (.int p0), .val (.int p1), .val (.int v2), .val (.int (1 : Int32))] [])) (fun t_ k_ => XS.istoreN X1.here hx rfl (hb hby at_25) rfl (l' := #[.val (.int p0), .val (.int p1), .val (.int v2), .val (.int (1 : Int32))]) rfl k_) ?_
      refine own_st (S' := T1.setTop (mkF m 27 #[.val (.int p0), .val (.int p1), .val (.int v2), .val (.int (1 : Int32))] [(.int v2)])) (fun t_ k_ => XS.iloadN X1.here hx rfl (hb hby at_26) rfl k_) ?_
      obtain ⟨_, _, ⟨T4, L4, k4, n4⟩, -, X4, ⟨Lc4, hQ4, l4, y4, z4⟩, st4⟩ := Jvm.LawKit.callS X1 hx (y := (⟨"com/example/cognate/cognate/model/SourceText", "isXml11LineEnd", "(I)Z"⟩ : MethodName)) hown (mvT hZ (hw _ (List.mem_of_getElem? (i := 4) rfl))) (mvT hZ (hw _ (List.mem_of_getElem? (i := 5) rfl))) (mvT hZ (hw _ (List.mem_of_getElem? (i := 6) rfl))) (mvT hZ (hw _ (List.mem_of_getElem? (i := 7) rfl))) (by decide) (backOf (W := 0) (rm2 l Z a0 hw [] v2 h0 n0 Z0 ) hZ (hw _ (List.mem_of_getElem? (i := 7) rfl)) (hw _ (List.mem_of_getElem? (i := 6) rfl)) (by decide) (by decide)) (g := (mkF m 27 #[.val (.int p0), .val (.int p1), .val (.int v2), .val (.int (1 : Int32))] [(.int v2)])) rfl (by rw [hml]; rfl) (argsL := [(.int v2)]) (rest := []) (lenOf pd_1 rfl) rfl (by show 2 * 0 + _ ≤ _; exact Nat.le_of_eq rfl) (hb hby at_27) (fun _ _ => ⟨rfl, q1, (by decide : 0 + 0 ≤ _), (by decide : 0 + 0 ≤ _)⟩)
      dsimp only [Pt.U, Pt.locs, Pt.cells, Pt.slots] at X4 l4 y4 z4 st4 hQ4
      subst l4 y4 z4
      obtain ⟨rfl, M4, q4⟩ := hQ4
      have N4 := Fr.app N1 M4
      refine own_st (S' := T4.setTop (mkF m 30 #[.val (.int p0), .val (.int p1), .val (.int v2), .val (.int (1 : Int32))] [(.int (own_end v2))])) st4 ?_
      refine own_st (S' := T4.setTop (mkF m 31 #[.val (.int p0), .val (.int p1), .val (.int v2), .val (.int (1 : Int32))] [(.int (1 : Int32)), (.int (own_end v2))])) (fun t_ k_ => XS.iloadN X4.here hx rfl (hb hby at_30) rfl k_) ?_
      by_cases hc31 : (own_end v2) = (1 : Int32)
      · refine own_st (S' := T4.setTop (mkF m 34 #[.val (.int p0), .val (.int p1), .val (.int v2), .val (.int (1 : Int32))] [])) (fun t_ k_ => XS.icmpNo X4.here hx rfl (hb hby at_31) rfl (teq hc31).2 k_) ?_
        refine own_st (S' := T4.setTop (mkF m 35 #[.val (.int p0), .val (.int p1), .val (.int v2), .val (.int (1 : Int32))] [(.int (1 : Int32))])) (fun t_ k_ => XS.iconst X4.here hx rfl (hb hby at_34) k_) ?_
        refine own_st (S' := T4.setTop (mkF m 39 #[.val (.int p0), .val (.int p1), .val (.int v2), .val (.int (1 : Int32))] [(.int (1 : Int32))])) (fun t_ k_ => XS.goto X4.here hx rfl (pc0 := 35) (pc' := 39) rfl (hb hby at_35) (by decide) (by decide) k_) ?_
        obtain ⟨fs, hr, hrun, hended, hW, hsame⟩ := X4.leave (v := some (.int (1 : Int32))) (fun h => by rw [Bd.returns] at h; cases h)
        refine ⟨_, _, retN X4 hx (t := .boolean) Bd.returns (by simp) (hb hby at_39) hr, hrun, hended, _, _, rfl, ?_, ⟨_, rfl⟩, hW, hsame.mono (by decide) (by decide)⟩
        show Q0 Z p0 p1 h0 n0 _ T4.heap _
        rw [q4]
        exact ⟨rfl, N4⟩
      · exact absurd (by simp [own_end, hc10, hc17]) hc31
    · refine own_st (S' := T1.setTop (mkF m 24 #[.val (.int p0), .val (.int p1), .val (.int v2), .unset] [])) (fun t_ k_ => XS.icmpYes X1.here hx rfl (pc0 := 17) (pc' := 24) rfl (hb hby at_17) rfl (feq hc17).2 (by decide) (by decide) k_) ?_
      refine own_st (S' := T1.setTop (mkF m 25 #[.val (.int p0), .val (.int p1), .val (.int v2), .unset] [(.int (0 : Int32))])) (fun t_ k_ => XS.iconst X1.here hx rfl (hb hby at_24) k_) ?_
      refine own_st (S' := T1.setTop (mkF m 26 #[.val (.int p0), .val (.int p1), .val (.int v2), .val (.int (0 : Int32))] [])) (fun t_ k_ => XS.istoreN X1.here hx rfl (hb hby at_25) rfl (l' := #[.val (.int p0), .val (.int p1), .val (.int v2), .val (.int (0 : Int32))]) rfl k_) ?_
      refine own_st (S' := T1.setTop (mkF m 27 #[.val (.int p0), .val (.int p1), .val (.int v2), .val (.int (0 : Int32))] [(.int v2)])) (fun t_ k_ => XS.iloadN X1.here hx rfl (hb hby at_26) rfl k_) ?_
      obtain ⟨_, _, ⟨T5, L5, k5, n5⟩, -, X5, ⟨Lc5, hQ5, l5, y5, z5⟩, st5⟩ := Jvm.LawKit.callS X1 hx (y := (⟨"com/example/cognate/cognate/model/SourceText", "isXml11LineEnd", "(I)Z"⟩ : MethodName)) hown (mvT hZ (hw _ (List.mem_of_getElem? (i := 4) rfl))) (mvT hZ (hw _ (List.mem_of_getElem? (i := 5) rfl))) (mvT hZ (hw _ (List.mem_of_getElem? (i := 6) rfl))) (mvT hZ (hw _ (List.mem_of_getElem? (i := 7) rfl))) (by decide) (backOf (W := 0) (rm2 l Z a0 hw [] v2 h0 n0 Z0 ) hZ (hw _ (List.mem_of_getElem? (i := 7) rfl)) (hw _ (List.mem_of_getElem? (i := 6) rfl)) (by decide) (by decide)) (g := (mkF m 27 #[.val (.int p0), .val (.int p1), .val (.int v2), .val (.int (0 : Int32))] [(.int v2)])) rfl (by rw [hml]; rfl) (argsL := [(.int v2)]) (rest := []) (lenOf pd_1 rfl) rfl (by show 2 * 0 + _ ≤ _; exact Nat.le_of_eq rfl) (hb hby at_27) (fun _ _ => ⟨rfl, q1, (by decide : 0 + 0 ≤ _), (by decide : 0 + 0 ≤ _)⟩)
      dsimp only [Pt.U, Pt.locs, Pt.cells, Pt.slots] at X5 l5 y5 z5 st5 hQ5
      subst l5 y5 z5
      obtain ⟨rfl, M5, q5⟩ := hQ5
      have N5 := Fr.app N1 M5
      refine own_st (S' := T5.setTop (mkF m 30 #[.val (.int p0), .val (.int p1), .val (.int v2), .val (.int (0 : Int32))] [(.int (own_end v2))])) st5 ?_
      refine own_st (S' := T5.setTop (mkF m 31 #[.val (.int p0), .val (.int p1), .val (.int v2), .val (.int (0 : Int32))] [(.int (0 : Int32)), (.int (own_end v2))])) (fun t_ k_ => XS.iloadN X5.here hx rfl (hb hby at_30) rfl k_) ?_
      by_cases hc31 : (own_end v2) = (0 : Int32)
      · refine own_st (S' := T5.setTop (mkF m 34 #[.val (.int p0), .val (.int p1), .val (.int v2), .val (.int (0 : Int32))] [])) (fun t_ k_ => XS.icmpNo X5.here hx rfl (hb hby at_31) rfl (teq hc31).2 k_) ?_
        refine own_st (S' := T5.setTop (mkF m 35 #[.val (.int p0), .val (.int p1), .val (.int v2), .val (.int (0 : Int32))] [(.int (1 : Int32))])) (fun t_ k_ => XS.iconst X5.here hx rfl (hb hby at_34) k_) ?_
        refine own_st (S' := T5.setTop (mkF m 39 #[.val (.int p0), .val (.int p1), .val (.int v2), .val (.int (0 : Int32))] [(.int (1 : Int32))])) (fun t_ k_ => XS.goto X5.here hx rfl (pc0 := 35) (pc' := 39) rfl (hb hby at_35) (by decide) (by decide) k_) ?_
        obtain ⟨fs, hr, hrun, hended, hW, hsame⟩ := X5.leave (v := some (.int (1 : Int32))) (fun h => by rw [Bd.returns] at h; cases h)
        refine ⟨_, _, retN X5 hx (t := .boolean) Bd.returns (by simp) (hb hby at_39) hr, hrun, hended, _, _, rfl, ?_, ⟨_, rfl⟩, hW, hsame.mono (by decide) (by decide)⟩
        show Q0 Z p0 p1 h0 n0 _ T5.heap _
        rw [q5]
        exact ⟨rfl, N5⟩
      · exact absurd (by simp [own_end, hc10, hc17]) hc31
set_option maxRecDepth 65536 in
set_option maxHeartbeats 40000000 in
theorem comes_1 {Post : Tables → Env → Array Value → State → Outcome → State → Prop} (hpost : ∀ tb e args s v u, (limb_1_1.after args s (.returned v) u = true ∧ limb_1_2.after args s (.returned v) u = true ∧ True) → FrameEnd s (.returned v) u (Jvm.fieldLocs frame_1_writes args s ++ Jvm.arrayLocs frame_1_arrays args s ++ Jvm.staticLocs frame_1_statics s) 0 0 → Post tb e args s (.returned v) u) :
    ArmFor flags0 classFile x code maxLocals ret World_1 tables_1 room_1 Calls_1 rest_1 Pre_1 Post := by
  intro l hfl _ _ p e ha hc hk s m args below hf hA hF happ hP
  obtain ⟨hcalls, hrest, hpre⟩ := hP
  obtain ⟨-, -, -, hnamed, -, -, -, hat⟩ := (Spec.applies_iff hf).mp happ
  obtain ⟨hg, hn⟩ := and_e (Cond.before_iff.mp (show (Jvm.Cond.and given_1 narrow_1).before args s = true from hpre))
  obtain ⟨hcount, ht0⟩ := and_e hg
  obtain ⟨ha0, ht1⟩ := and_e ht0
  obtain ⟨w0, w1, rfl⟩ : ∃ w0 w1 : Value, args = #[w0, w1] := by
    have hs : args.size = 2 := by simpa [Cond.value, given_1] using hcount
    obtain ⟨L⟩ := args
    match L, hs with
    | [w0, w1], _ => exact ⟨w0, w1, rfl⟩
  have hw := fun d (hd : d ∈ tables_1) => atoms_spec (ws := Jvm.Cond.code x code maxLocals ret :: tables_1) hat d (List.mem_cons_of_mem _ hd)
  have hfit : Fit s := fun {y c} hc i hi => by
    obtain ⟨ha, rfl⟩ := Array.getElem?_eq_some_iff.mp hc
    have q := List.all_eq_true.mp ((Array.all_eq_true_iff_forall_mem.mp hF) _ (Array.getElem_mem ha)) i (List.mem_range.mpr hi)
    simpa [Array.getElem?_eq_getElem hi] using q
  obtain ⟨i0, ei0⟩ := is_v ha0
  obtain rfl : w0 = (.int i0) := Option.some.inj ei0
  obtain ⟨i1, ei1⟩ := is_v ht1
  obtain rfl : w1 = (.int i1) := Option.some.inj ei1
  obtain ⟨n, o, h1, h2, h3, _, L, rfl, ⟨rfl, N⟩, hq⟩ := rm0 l s _ hw tables_1 i0 i1 s.heap s.heap.size (Nat.le_refl _)  p e ha hc hk s m _ below hf ((Spec.applies_iff_loose hf).mp happ).1 ⟨rfl, State.Warmed39.refl s, rfl⟩ trivial
  refine ⟨n, _, h1, h2, h3, hpost _ _ _ _ _ _ ⟨Cond.after_iff.mpr rfl, Cond.after_iff.mpr (eq_i res_at (Term.int_eval (1)) rfl), trivial⟩ ⟨hq.1, hq.2.1, (hq.2.2.sift fun y hy => Or.inr (N y hy)).mono (by decide) (by decide)⟩⟩
theorem main_1_1 : Claimed_1_1 := comes_1 fun _ _ _ _ _ _ h hF => ⟨h.1, hF⟩
theorem main_1_2 : Claimed_1_2 := comes_1 fun _ _ _ _ _ _ h hF => ⟨h.2.1, hF⟩
end Jvm.Pilot.@@N@@
namespace Jvm.Pilot.@@N@@
open Jvm Jvm.ClassFile Sem Op Lib Jvm.Free Jvm.Stand Jvm.Pilot.@@N@@.Jvm.D
/-! MADE BY PROGRAM (witnessworld.py) out of the Statement's table words and the real class files: 9 classes; the members and pool entries that the words name. The judged class is class 1, her method 2. -/
namespace start1
open Jvm.ClassFile
def u (s : String) : CpInfo := .utf8 (stringToUtf16 s)
/-- a pool by its gaps: so many unusable entries, then the entry; so many at the end -/
def gap : Nat → List CpInfo → List CpInfo
  | 0, r => r
  | n + 1, r => .unusable :: gap n r
def poolList (es : List (Nat × CpInfo)) (last : Nat) : List CpInfo := es.foldr (fun e r => gap e.1 (e.2 :: r)) (gap last [])
def pool (es : List (Nat × CpInfo)) (last : Nat) : Array CpInfo := ⟨poolList es last⟩
def fileOf (pool : Array CpInfo) (this : Nat) (attrs : Array Attribute := #[]) (ms : Array MethodInfo := #[]) (fl : Nat := 33) (sup : Nat := 0) (ifs : Array Nat := #[]) (fds : Array FieldInfo := #[]) : ClassFile where
  minorVersion := 0
  majorVersion := 65
  constantPool := pool
  accessFlags := fl
  thisClass := this
  superClass := sup
  interfaces := ifs
  fields := fds
  methods := ms
  attributes := attrs
def plain (name : String) (sup : Option ClassId) : Class where
  name := name
  kind := .ordinary
  loader := none
  accessFlags := 33
  super := sup
  interfaces := #[]
  cf := none
  fields := #[]
  methods := #[]
  instanceTypes := #[]
  staticTypes := #[]
  resolved := #[]
  callSites := []
  init := .initialized
  statics := none
  mirror := none

def pool0 : Array CpInfo := pool [(5, u "<init>"), (0, u "()V"), (1, .class_ 10), (1, u "java/lang/Object")] 113

def k0m0 : Method := { name := "<init>", desc := "()V", sig := { parameters := [], returnType := none }, accessFlags := 1, code := none }
/-- java/lang/Object -/
def k0 : Class := { plain "java/lang/Object" none with
  accessFlags := 33
  interfaces := #[]
  cf := some (fileOf pool0 8 #[] #[{ accessFlags := 1, nameIndex := 5, descriptorIndex := 6, attributes := #[] }] 33 0 #[] #[])
  fields := #[]
  methods := #[k0m0]
  instanceTypes := #[]
  staticTypes := #[]
  resolved := Array.replicate 124 none
  statics := none }

def pool1 : Array CpInfo := pool [(2, .class_ 4), (1, u "java/lang/Object"), (0, u "<init>"), (0, u "()V"), (0, .integer 65669), (0, .integer 73768), (0, .methodref 10 11), (0, .class_ 12), (0, .nameAndType 13 14), (0, u "com/example/cognate/cognate/model/SourceTextIsXml11LineEndPinLaw"), (0, u "pick"), (0, u "(II)I"), (0, .methodref 16 17), (0, .class_ 18), (0, .nameAndType 19 20), (0, u "com/example/cognate/cognate/model/SourceText"), (0, u "isXml11LineEnd"), (0, u "(I)Z"), (3, u "law"), (0, u "(II)Z")] 2

def k1m0 : Method := { name := "<init>", desc := "()V", sig := { parameters := [], returnType := none }, accessFlags := 2, code := none }
def k1c1 : Code := { maxStack := 2, maxLocals := 3, code := method_2_code, exceptionTable := #[], attributes := #[] }
def k1m1 : Method := { name := "pick", desc := "(II)I", sig := { parameters := [.int, .int], returnType := some .int }, accessFlags := 10, code := some k1c1 }
def k1c2 : Code := { maxStack := 2, maxLocals := 4, code := code, exceptionTable := #[], attributes := #[] }
def k1m2 : Method := { name := "law", desc := "(II)Z", sig := { parameters := [.int, .int], returnType := some .boolean }, accessFlags := 9, code := some k1c2 }
/-- com/example/cognate/cognate/model/SourceTextIsXml11LineEndPinLaw -/
def k1 : Class := { plain "com/example/cognate/cognate/model/SourceTextIsXml11LineEndPinLaw" (some 0) with
  accessFlags := 49
  interfaces := #[]
  cf := some (fileOf pool1 10 #[] #[{ accessFlags := 2, nameIndex := 5, descriptorIndex := 6, attributes := #[] }, { accessFlags := 10, nameIndex := 13, descriptorIndex := 14, attributes := #[] }, { accessFlags := 9, nameIndex := 24, descriptorIndex := 25, attributes := #[] }] 49 2 #[] #[])
  fields := #[]
  methods := #[k1m0, k1m1, k1m2]
  instanceTypes := #[]
  staticTypes := #[]
  resolved := Array.replicate 28 none
  statics := none }

def pool2 : Array CpInfo := pool [(2, .class_ 4), (1, u "java/lang/Object"), (3, .class_ 10), (1, u "com/example/cognate/cognate/model/SourceText"), (0, u "text"), (0, u "Ljava/lang/String;"), (6, u "parsed"), (2, u "lineStarts"), (3, u "[I"), (2, u "charset"), (0, u "Ljava/nio/charset/Charset;"), (2, u "byteOrderMark"), (0, u "Z"), (102, u "SIGNATURES"), (0, u "Ljava/util/List;"), (15, .class_ 155), (0, u "com/example/cognate/cognate/model/SourceText$Signature"), (17, u "DECLARATION"), (0, u "Ljava/util/regex/Pattern;"), (64, u "XML_1_1"), (36, u "NEL"), (0, u "C"), (2, u "LINE_SEPARATOR"), (18, u "(I)Z"), (2, u "isXml11LineEnd")] 24

def k2c0 : Code := { maxStack := 2, maxLocals := 1, code := prog_62_method_14_code, exceptionTable := #[], attributes := #[] }
def k2m0 : Method := { name := "isXml11LineEnd", desc := "(I)Z", sig := { parameters := [.int], returnType := some .boolean }, accessFlags := 8, code := some k2c0 }
/-- com/example/cognate/cognate/model/SourceText -/
def k2 : Class := { plain "com/example/cognate/cognate/model/SourceText" (some 0) with
  accessFlags := 48
  interfaces := #[]
  cf := some (fileOf pool2 8 #[.nestMembers #[154]] #[{ accessFlags := 8, nameIndex := 302, descriptorIndex := 299, attributes := #[] }] 48 2 #[] #[{ accessFlags := 26, nameIndex := 137, descriptorIndex := 138, attributes := #[] }, { accessFlags := 26, nameIndex := 173, descriptorIndex := 174, attributes := #[] }, { accessFlags := 26, nameIndex := 239, descriptorIndex := 174, attributes := #[] }, { accessFlags := 26, nameIndex := 276, descriptorIndex := 277, attributes := #[] }, { accessFlags := 26, nameIndex := 280, descriptorIndex := 277, attributes := #[] }, { accessFlags := 18, nameIndex := 11, descriptorIndex := 12, attributes := #[] }, { accessFlags := 18, nameIndex := 19, descriptorIndex := 12, attributes := #[] }, { accessFlags := 18, nameIndex := 22, descriptorIndex := 26, attributes := #[] }, { accessFlags := 18, nameIndex := 29, descriptorIndex := 30, attributes := #[] }, { accessFlags := 18, nameIndex := 33, descriptorIndex := 34, attributes := #[] }])
  fields := #[{ name := "SIGNATURES", type := (.object "java/util/List"), accessFlags := 26, slot := 0, constantValue := 0 }, { name := "DECLARATION", type := (.object "java/util/regex/Pattern"), accessFlags := 26, slot := 1, constantValue := 0 }, { name := "XML_1_1", type := (.object "java/util/regex/Pattern"), accessFlags := 26, slot := 2, constantValue := 0 }, { name := "NEL", type := .char, accessFlags := 26, slot := 3, constantValue := 0 }, { name := "LINE_SEPARATOR", type := .char, accessFlags := 26, slot := 4, constantValue := 0 }, { name := "text", type := (.object "java/lang/String"), accessFlags := 18, slot := 0, constantValue := 0 }, { name := "parsed", type := (.object "java/lang/String"), accessFlags := 18, slot := 1, constantValue := 0 }, { name := "lineStarts", type := (.array .int), accessFlags := 18, slot := 2, constantValue := 0 }, { name := "charset", type := (.object "java/nio/charset/Charset"), accessFlags := 18, slot := 3, constantValue := 0 }, { name := "byteOrderMark", type := .boolean, accessFlags := 18, slot := 4, constantValue := 0 }]
  methods := #[k2m0]
  instanceTypes := #[(.object "java/lang/String"), (.object "java/lang/String"), (.array .int), (.object "java/nio/charset/Charset"), .boolean]
  staticTypes := #[(.object "java/util/List"), (.object "java/util/regex/Pattern"), (.object "java/util/regex/Pattern"), .char, .char]
  resolved := Array.replicate 327 none
  statics := none }

def pool3 : Array CpInfo := pool [(1, u "java/lang/Cloneable"), (0, .class_ 1), (0, u "java/lang/Object"), (0, .class_ 3)] 3

/-- java/lang/Cloneable -/
def k3 : Class := { plain "java/lang/Cloneable" (some 0) with
  accessFlags := 1537
  interfaces := #[]
  cf := some (fileOf pool3 2 #[] #[] 1537 4 #[] #[])
  fields := #[]
  methods := #[]
  instanceTypes := #[]
  staticTypes := #[]
  resolved := Array.replicate 8 none
  statics := none }

def pool4 : Array CpInfo := pool [(1, u "java/io/Serializable"), (0, .class_ 1), (0, u "java/lang/Object"), (0, .class_ 3)] 3

/-- java/io/Serializable -/
def k4 : Class := { plain "java/io/Serializable" (some 0) with
  accessFlags := 1537
  interfaces := #[]
  cf := some (fileOf pool4 2 #[] #[] 1537 4 #[] #[])
  fields := #[]
  methods := #[]
  instanceTypes := #[]
  staticTypes := #[]
  resolved := Array.replicate 8 none
  statics := none }

/-- the primitive byte -/
def k5 : Class := { plain "byte" none with kind := .primitive 'B', accessFlags := 0x411 }
/-- [B -/
def k6 : Class := { plain "[B" (some 0) with kind := .array 5 .byte, interfaces := #[3, 4], accessFlags := 1041 }

/-- the primitive int -/
def k7 : Class := { plain "int" none with kind := .primitive 'I', accessFlags := 0x411 }
/-- [I -/
def k8 : Class := { plain "[I" (some 0) with kind := .array 7 .int, interfaces := #[3, 4], accessFlags := 1041 }

def heap : Heap := #[]
def classes : Array Class := #[k0, k1, k2, k3, k4, k5, k6, k7, k8]
def interned : List (Array UInt16 × Addr) := []
def slotsUsed : Nat := 0
def theMethod : MethodId := ⟨1, 2⟩
def args0 : Array Value := #[.int 5, .int 1]
def aboutOver (below : List Frame) : State where
  vm := { classes := classes, interned := interned.toArray }
  heap := heap
  slotsUsed := slotsUsed
  threads := #[{ frames := .invoking theMethod args0 :: below }]
def below0 : List Frame := [.native { method := ⟨0, 0⟩, args := #[] }]
def about1 : State := aboutOver below0
def p0 : Program := .bare "" "" ""
def e0 : Env := launch0.env 0 0 0
theorem w_frames : about1.frames = Frame.invoking theMethod args0 :: below0 := rfl
set_option maxRecDepth 65536 in
theorem w_args : argsFit about1.vm theMethod args0 = true := by decide +kernel
set_option maxRecDepth 65536 in
theorem w_heap : heapFits about1 = true := by decide +kernel
set_option maxRecDepth 65536 in
theorem w_runnable : about1.curStatus? = some .runnable := by decide +kernel
set_option maxRecDepth 65536 in
theorem w_alone : about1.alone = true := by decide +kernel
set_option maxRecDepth 65536 in
theorem w_named : about1.methodNamed? x = some theMethod := by decide +kernel
set_option maxRecDepth 65536 in
theorem w_hears : about1.hears theMethod below0 = true := by decide +kernel
set_option maxRecDepth 65536 in
theorem w_ripe : about1.ripe theMethod args0 below0 = true := by decide +kernel
theorem w_running : about1.status = .running := rfl
set_option maxRecDepth 65536 in
theorem w_room : about1.hasRoom e0.platform room_1 = true :=
  launch0.hasRoom_least _ room_1 (by decide +kernel) (by decide +kernel) (by decide +kernel) (by decide +kernel) (by decide +kernel) (by decide +kernel)
theorem allAtoms_all (ts : List Jvm.Cond) (a : Array Jvm.Value) (st : Jvm.State) : (allAtoms ts).before a st = ts.all (fun c => c.before a st) := by
  induction ts with
  | nil => rfl
  | cons c t ih =>
    show (Jvm.Cond.and c (allAtoms t)).before a st = _
    rw [Jvm.Cond.before_and, ih, List.all_cons]
def words1 : List Jvm.Cond := Jvm.Cond.code x code maxLocals ret :: tables_1
/-- a 'code' word, met by the world's own term for the bytes: nothing is compared byte by byte -/
theorem code_word {y : MethodName} {bytes : ByteArray} {mx : Nat} {rt : Option FieldType} {a : Array Value} {s : State} {m : MethodId} {meth : Method} {c : Code} (h1 : s.methodNamed? y = some m) (h2 : s.vm.method? m = some meth) (h3 : meth.code = some c) (h4 : c.code = bytes)
    (h5 : (c.maxLocals == mx && c.exceptionTable.isEmpty && decide (c.maxStack ≤ mostOperands) && decide (meth.sig.returnType = rt) && !meth.locks && decide (parseMethodDescriptor y.desc = some meth.sig)) = true) : (Jvm.Cond.code y bytes mx rt).before a s = true := by
  simp only [Bool.and_eq_true, beq_iff_eq, Bool.not_eq_true', decide_eq_true_eq] at h5
  obtain ⟨⟨⟨⟨⟨g1, g2⟩, g3⟩, g4⟩, g5⟩, g6⟩ := h5
  simp [Cond.before, Cond.holds, Cond.value, h1, h2, h3, h4, g1, g2, g3, g4, g5, g6]
def isCode : Jvm.Cond → Bool
  | .code _ _ _ _ => true
  | _ => false
theorem all_split {L : List Jvm.Cond} {P : Jvm.Cond → Bool} (h1 : L.all (fun c => isCode c || P c) = true) (h2 : ∀ c ∈ L.filter isCode, P c = true) : L.all P = true := by
  refine List.all_eq_true.mpr fun c hc => ?_
  have h := List.all_eq_true.mp h1 c hc
  rcases Bool.eq_false_or_eq_true (isCode c) with hi | hi
  · exact h2 c (List.mem_filter.mpr ⟨hc, hi⟩)
  · simpa [hi] using h
set_option maxRecDepth 65536 in
theorem w_c0 : (Jvm.Cond.code x code maxLocals ret).before args0 about1 = true := code_word (m := ⟨1, 2⟩) (meth := k1m2) (c := k1c2) (by decide +kernel) rfl rfl rfl (by decide +kernel)
set_option maxRecDepth 65536 in
theorem w_c1 : (Jvm.Cond.code ({ cls := "com/example/cognate/cognate/model/SourceTextIsXml11LineEndPinLaw", name := "pick", desc := "(II)I" } : Jvm.MethodName) method_2_code (3 : Nat) (Option.some Jvm.ClassFile.FieldType.int)).before args0 about1 = true := code_word (m := ⟨1, 1⟩) (meth := k1m1) (c := k1c1) (by decide +kernel) rfl rfl rfl (by decide +kernel)
set_option maxRecDepth 65536 in
theorem w_c2 : (Jvm.Cond.code ({ cls := "com/example/cognate/cognate/model/SourceText", name := "isXml11LineEnd", desc := "(I)Z" } : Jvm.MethodName) prog_62_method_14_code (1 : Nat) (Option.some Jvm.ClassFile.FieldType.boolean)).before args0 about1 = true := code_word (m := ⟨2, 0⟩) (meth := k2m0) (c := k2c0) (by decide +kernel) rfl rfl rfl (by decide +kernel)
def codes1 : List Jvm.Cond := [Jvm.Cond.code x code maxLocals ret, Jvm.Cond.code ({ cls := "com/example/cognate/cognate/model/SourceTextIsXml11LineEndPinLaw", name := "pick", desc := "(II)I" } : Jvm.MethodName) method_2_code (3 : Nat) (Option.some Jvm.ClassFile.FieldType.int), Jvm.Cond.code ({ cls := "com/example/cognate/cognate/model/SourceText", name := "isXml11LineEnd", desc := "(I)Z" } : Jvm.MethodName) prog_62_method_14_code (1 : Nat) (Option.some Jvm.ClassFile.FieldType.boolean)]
set_option maxRecDepth 65536 in
theorem codes_eq : words1.filter isCode = codes1 := rfl
theorem w_codes : ∀ c ∈ words1.filter isCode, c.before args0 about1 = true := by
  rw [codes_eq]
  intro c hc
  simp only [codes1, List.mem_cons, List.not_mem_nil, or_false] at hc
  rcases hc with rfl | rfl | rfl
  · exact w_c0
  · exact w_c1
  · exact w_c2
set_option maxRecDepth 65536 in
theorem w_t1 : words1.all (fun c => isCode c || c.before args0 about1) = true := by decide +kernel
theorem w_tables : (allAtoms (Jvm.Cond.code x code maxLocals ret :: tables_1)).before args0 about1 = true := by
  rw [allAtoms_all]
  show words1.all (fun c => c.before args0 about1) = true
  refine all_split ?_ w_codes
  rw [w_t1]
set_option maxRecDepth 65536 in
theorem w_case : (Jvm.Cond.and given_1 narrow_1).before args0 about1 = true := by decide +kernel
theorem w_applies : (headSpec (Jvm.Cond.code x code maxLocals ret :: tables_1) room_1).applies x e0.platform about1 = true :=
  (Spec.applies_iff w_frames).mpr ⟨w_running, w_runnable, w_alone, w_named, w_hears, w_ripe, w_room, w_tables⟩
theorem atStart : AtStart classFile x code maxLocals ret World_1 tables_1 room_1 Calls_1 rest_1 Pre_1 launch0 p0 e0 about1 theMethod args0 below0 :=
  ⟨lists_1, trivial, launch0.admits_env _ _ _, launch0.least_env, fairChoices_fair.cas, fairChoices_fair.clock, w_frames, w_args, w_heap, w_applies, trivial, trivial, w_case⟩
end start1
theorem witness_1 : WitnessClaimed_1 := ⟨start1.p0, start1.e0, start1.about1, start1.theMethod, start1.args0, start1.below0, start1.atStart⟩
end Jvm.Pilot.@@N@@
