import JvmDerived
import JvmDerived.Pilot.@@N@@Statement
import JvmDerived.Pilot.@@N@@Code
set_option linter.unusedVariables false
set_option linter.unusedSimpArgs false
namespace Jvm.RoadKit
open Sem ClassFile Op Lib Jvm.Stand Jvm.Free Jvm.LawKit
section New
variable {p : Program} {l : Launch} {e : Env} {R : Room} {s : State} {m : MethodId} {args : Array Value} {below : List Frame} {meth : Method} {c : Code} {T : State} {locs : List Loc} {cells slots : Nat}
theorem retI (X : Stand p l e R s m args below meth c T locs cells slots) (hx : p.tables.exec = Jvm.exec) {pc : Nat} {Ls : Array Slot} {z : Int32} {rest : List Value} (hret : meth.sig.returnType = some .int) (hd : decode c.code pc = .ok (.ireturn, 1)) {fs : List Frame}
    (hl : ∀ (f : JFrame) (acts : List Action), f.method = m → f.locked = none → f.entered = [] → (doReturn e (T.setTop f) acts (some (.int z))).1 = T.setFrames fs) : Steps p.tables e below (T.setTop (mkF m pc Ls (.int z :: rest))) (T.setFrames fs) :=
  retOut X hx hret rfl (Or.inl ⟨rfl, Or.inl rfl, _, rfl⟩) hd hl
theorem own_retJ (X : Stand p l e R s m args below meth c T locs cells slots) (hx : p.tables.exec = Jvm.exec) {pc : Nat} {Ls : Array Slot} {z : Int64} {rest : List Value} (hret : meth.sig.returnType = some .long) (hd : decode c.code pc = .ok (.lreturn, 1)) {fs : List Frame}
    (hl : ∀ (f : JFrame) (acts : List Action), f.method = m → f.locked = none → f.entered = [] → (doReturn e (T.setTop f) acts (some (.long z))).1 = T.setFrames fs) : Steps p.tables e below (T.setTop (mkF m pc Ls (.long z :: rest))) (T.setFrames fs) :=
  retOut X hx hret rfl (Or.inr (Or.inl ⟨rfl, rfl, _, rfl⟩)) hd hl
theorem own_retD (X : Stand p l e R s m args below meth c T locs cells slots) (hx : p.tables.exec = Jvm.exec) {pc : Nat} {Ls : Array Slot} {z : UInt64} {rest : List Value} (hret : meth.sig.returnType = some .double) (hd : decode c.code pc = .ok (.dreturn, 1)) {fs : List Frame}
    (hl : ∀ (f : JFrame) (acts : List Action), f.method = m → f.locked = none → f.entered = [] → (doReturn e (T.setTop f) acts (some (.double z))).1 = T.setFrames fs) : Steps p.tables e below (T.setTop (mkF m pc Ls (.double z :: rest))) (T.setFrames fs) :=
  retOut X hx hret rfl (Or.inr (Or.inr (Or.inl ⟨rfl, rfl, _, rfl⟩))) hd hl
theorem own_retR (X : Stand p l e R s m args below meth c T locs cells slots) (hx : p.tables.exec = Jvm.exec) {pc : Nat} {Ls : Array Slot} {w : Value} {t : FieldType} {rest : List Value} (hret : meth.sig.returnType = some t) (ht : t.isReference = true) (hv : w.isRef = true) (hd : decode c.code pc = .ok (.areturn, 1)) {fs : List Frame}
    (hl : ∀ (f : JFrame) (acts : List Action), f.method = m → f.locked = none → f.entered = [] → (doReturn e (T.setTop f) acts (some w)).1 = T.setFrames fs) : Steps p.tables e below (T.setTop (mkF m pc Ls (w :: rest))) (T.setFrames fs) :=
  retOut X hx hret (by rcases ref_cases hv with rfl | ⟨a, rfl⟩ <;> cases t <;> first | rfl | cases ht) (Or.inr (Or.inr (Or.inr (Or.inr ⟨rfl, ht, hv⟩)))) hd hl
end New
section Own
variable {p : Program} {e : Env} {below : List Frame}
/-- the run from S ends as P says -/
def own_Gl (p : Program) (e : Env) (below : List Frame) (P : Outcome → State → Prop) (S : State) : Prop := ∃ s₂ o, Steps p.tables e below S s₂ ∧ s₂.status = .running ∧ Ended s₂ below o ∧ P o s₂
theorem own_gl {P : Outcome → State → Prop} {S : State} (h : own_Gl p e below P S) : ∃ s₂ o, Steps p.tables e below S s₂ ∧ s₂.status = .running ∧ Ended s₂ below o ∧ P o s₂ := h
theorem own_st {P : Outcome → State → Prop} {S S' : State} (h : ∀ t, Steps p.tables e below S' t → Steps p.tables e below S t) (k : own_Gl p e below P S') : own_Gl p e below P S := by
  obtain ⟨s₂, o, h1, h2⟩ := k
  exact ⟨s₂, o, h _ h1, h2⟩
theorem own_cast {P : Outcome → State → Prop} {S S' : State} (h : S' = S) (k : own_Gl p e below P S') : own_Gl p e below P S := h ▸ k
theorem own_join {P : Outcome → State → Prop} {S : State} {α : Type} {F : α → State} {H : α → Prop} (J : ∀ x, H x → own_Gl p e below P (F x)) (k : (∀ x, H x → own_Gl p e below P (F x)) → own_Gl p e below P S) : own_Gl p e below P S := k J
theorem own_selfsel {s : State} {args : Array Value} {y : MethodName} {n : Nat} (wi : (Cond.instantiable y.cls n).before args s = true) (wp : (Cond.privateMethod y).before args s = true) (hinst : (Cond.instanceMethod y).before args s = true) (hy : y.cls ≠ "java/lang/invoke/MethodHandle" ∧ y.cls ≠ "java/lang/invoke/VarHandle") : (Cond.selects y.cls y y).before args s = true := by
  obtain ⟨c, k, h1, h2, -, h3, -⟩ := Cond.instantiable_spec wi
  exact selects_self_of_private h1 h2 (by simp only [Bool.or_eq_false_iff] at h3; exact h3.1) (Cond.privateMethod_at wp) hinst hy
/-- a place of an array is written, whatever it holds -/
theorem own_arv_any {Z : State} {h h' : Heap} {a : Addr} {c : Cell} {k : ClassId} {ty : FieldType} {z j : Int32} {vs : List Value} {dv v : Value} (A : Arr Z h a c ty) (q1 : c.cls = k) (S : c.slots.size = z.toNatClampNeg) (q3 : ¬ z < 0) (H : Has c vs dv) (G : ∀ i, i < c.slots.size → fits ty (vs.getD i dv) = true) (hv : fits ty v = true) (W : Wr h h' a j.toNatClampNeg v) (hj : ¬ (j < 0 ∨ c.slots.size ≤ j.toNatClampNeg)) : ∃ vs', Arv Z h' a k ty z vs' dv := by
  have F : Arv Z h a k ty z (vs ++ List.replicate z.toNatClampNeg dv) dv := Arv.pad ⟨c, A, q1, S, q3, H, G⟩ (pad_rep vs dv _)
  obtain ⟨c', A', r1, r2, r3, r4, r5⟩ := F
  cases A.1.symm.trans A'.1
  exact ⟨_, Arv.set A' r1 r2 r3 r4 r5 hv W j.toNatClampNeg rfl (by
    have q := Nat.lt_of_not_le fun y => hj (Or.inr y)
    rw [S] at q
    simp only [List.length_append, List.length_replicate]
    omega)⟩
end Own
end Jvm.RoadKit

namespace Jvm.Pilot.@@N@@
open Jvm Jvm.ClassFile Sem Op Lib Jvm.Free Jvm.Stand Jvm.LawKit Jvm.RoadKit Bundle Jvm.Pilot.@@N@@.Jvm.D

theorem own_wS {Z : State} {a0 : Array Value} (hw : ∀ d ∈ tables_1, d.before a0 Z = true) : ∀ a ∈ Bundle.stringAtoms, a.before a0 Z = true := fun d hd => by
  simp only [Bundle.stringAtoms, List.mem_cons, List.not_mem_nil, or_false] at hd
  rcases hd with rfl | rfl | rfl | rfl | rfl | rfl | rfl
  · exact (hw _ (List.mem_of_getElem? (i := 5) rfl))
  · exact (hw _ (List.mem_of_getElem? (i := 6) rfl))
  · exact (hw _ (List.mem_of_getElem? (i := 0) rfl))
  · exact (hw _ (List.mem_of_getElem? (i := 7) rfl))
  · exact (hw _ (List.mem_of_getElem? (i := 8) rfl))
  · exact (hw _ (List.mem_of_getElem? (i := 9) rfl))
  · exact (hw _ (List.mem_of_getElem? (i := 10) rfl))

/-- what low8 computes -/
def own_low8 (x : Int32) : Int32 := ((x % 256) + 256) % 256
theorem own_low (x : Int32) : nar .byte (x.toInt8.toInt32) &&& (255 : Int32) = own_low8 x := by
  have e : nar .byte (x.toInt8.toInt32) = (x.toInt8.toInt32).toInt8.toInt32 := rfl
  rw [e]
  have a := c_i2b x
  have b := c_i2b (x.toInt8.toInt32)
  have c := c_mask ((x.toInt8.toInt32).toInt8.toInt32) 255 8 (by decide) (by decide)
  have d := c_irem x 256 256 (by decide)
  have d0 := c_iadd (x % 256) 256
  have d1 := rng32 (x % 256 + 256)
  have d2 := c_irem (x % 256 + 256) 256 256 (by decide)
  have z : (256 : Int32).toInt = 256 := by decide
  have r := rng32 x
  apply Int32.toInt_inj.mp
  rw [c]
  unfold own_low8
  rcases Int.lt_or_le x.toInt 0 with h | h
  · have q := d.2 h
    have q2 := d2.1 (by omega)
    rw [q2]
    omega
  · have q := d.1 h
    have q2 := d2.1 (by omega)
    rw [q2]
    omega

theorem d1_0 : decode prog_48_method_1_code 0 = .ok (.aload_n 0, 1) := by decide +kernel
theorem d1_1 : decode prog_48_method_1_code 1 = .ok (.invokespecial 1, 3) := by decide +kernel
theorem d1_4 : decode prog_48_method_1_code 4 = .ok (.aload_n 0, 1) := by decide +kernel
theorem d1_5 : decode prog_48_method_1_code 5 = .ok (.aload_n 1, 1) := by decide +kernel
theorem d1_6 : decode prog_48_method_1_code 6 = .ok (.putfield 7, 3) := by decide +kernel
theorem d1_9 : decode prog_48_method_1_code 9 = .ok (.aload_n 0, 1) := by decide +kernel
theorem d1_10 : decode prog_48_method_1_code 10 = .ok (.aload_n 2, 1) := by decide +kernel
theorem d1_11 : decode prog_48_method_1_code 11 = .ok (.putfield 13, 3) := by decide +kernel
theorem d1_14 : decode prog_48_method_1_code 14 = .ok (.return_, 1) := by decide +kernel
theorem pn_0 : plainName "com/example/hailport/hailport/wire/ByteReader" = true := by first | (simp [plainName, overriddenIn]; done) | decide +kernel
theorem ef_1 (m : MethodId) (a : Addr) (b : Addr) (d : Addr) : entryFrame m #[(.ref a), (.ref b), (.ref d)] 3 = mkF m 0 #[.val (.ref a), .val (.ref b), .val (.ref d)] [] := by first | (simp [entryFrame, mkF, argsToLocals, Value.category]; done) | rfl
def Q1 (Z : State) (a : Addr) (b : Addr) (d : Addr) (h0 : Heap) (n0 : Nat) (v : Option Value) (h : Heap) (L : List Loc) : Prop := v = none ∧ Fr n0 L ∧ Keep h0 h [a] ∧ Exa Z h a "com/example/hailport/hailport/wire/ByteReader" ∧ Fld Z h a "com/example/hailport/hailport/wire/ByteReader" "bytes" "[B" (.ref b) ∧ Fld Z h a "com/example/hailport/hailport/wire/ByteReader" "position" "I" (.int (0 : Int32))
set_option maxRecDepth 65536 in
set_option maxHeartbeats 40000000 in
theorem rm1 (l : Launch) (Z : State) (a0 : Array Value) (hw : ∀ d ∈ tables_1, d.before a0 Z = true) (ws : List Jvm.Cond) (a : Addr) (b : Addr) (d : Addr) (h0 : Heap) (n0 : Nat) (Z0 : n0 ≤ h0.size) (P0 : Exa Z h0 a "com/example/hailport/hailport/wire/ByteReader") (P1 : Fld Z h0 a "com/example/hailport/hailport/wire/ByteReader" "bytes" "[B" .null) (P2 : Fld Z h0 a "com/example/hailport/hailport/wire/ByteReader" "description" "Ljava/lang/String;" .null) (P3 : Fld Z h0 a "com/example/hailport/hailport/wire/ByteReader" "position" "I" (.int (0 : Int32))) (g_a : n0 ≤ a) :
    MetFree l (⟨"com/example/hailport/hailport/wire/ByteReader", "<init>", "([BLjava/lang/String;)V"⟩ : MethodName) (head1 (Jvm.Cond.code (⟨"com/example/hailport/hailport/wire/ByteReader", "<init>", "([BLjava/lang/String;)V"⟩ : MethodName) prog_48_method_1_code 3 none :: ws) ({ frames := 1, cells := 0, slots := 0, locals := 12 } : Room)) (fun ar_ U => ar_ = #[(.ref a), (.ref b), (.ref d)] ∧ Z.Warmed39 U.vm ∧ U.heap = h0) (fun _ _ _ _ _ => True) (fun _ U o U' => ∃ v L, o = .returned v ∧ Q1 Z a b d h0 n0 v U'.heap L ∧ FrameEnd U o U' L ({ frames := 1, cells := 0, slots := 0, locals := 12 } : Room).cells ({ frames := 1, cells := 0, slots := 0, locals := 12 } : Room).slots) := by
  refine MetFree.of_bodySF (plainFor_of_name pn_0) hisR ?_
  intro p e s m args below meth c s₁ Bd hml0 hP hK
  obtain ⟨rfl, hZ, hh⟩ := hP
  have hx := Bd.exec
  have hby := Bd.bytes
  have hml : c.maxLocals = 3 := hml0
  have hown : s.vm.findClass "com/example/hailport/hailport/wire/ByteReader" = some m.cls := findClass_of_methodNamed Bd.named
  have hnm := (name_of_methodNamed Bd.named Bd.method).1
  have X0 : Stand p l e ({ frames := 1, cells := 0, slots := 0, locals := 12 } : Room) s m #[(.ref a), (.ref b), (.ref d)] below meth c s₁ [] 0 0 := Stand.of_body Bd
  have e0 : s₁.heap = h0 := by rw [← hh, Bd.state]; rfl
  have N0 := Fr.nil n0
  refine own_gl ?_
  refine own_st (S' := s₁.setTop (mkF m 0 #[.val (.ref a), .val (.ref b), .val (.ref d)] [])) (fun t_ k_ => castTop (ef_1 m a b d) k_) ?_
  refine own_st (S' := s₁.setTop (mkF m 1 #[.val (.ref a), .val (.ref b), .val (.ref d)] [(.ref a)])) (fun t_ k_ => XS.aloadN X0.here hx rfl (hb hby d1_0) rfl rfl k_) ?_
  obtain ⟨T_1, X_1, e_1, st_1⟩ := initO X0 hx hZ hown (hw _ (List.mem_of_getElem? (i := 14) rfl)) (hw _ (List.mem_of_getElem? (i := 15) rfl)) (hw _ (List.mem_of_getElem? (i := 16) rfl)) e0 (g := (mkF m 1 #[.val (.ref a), .val (.ref b), .val (.ref d)] [(.ref a)])) rfl (by rw [hml]; rfl) rfl (hb hby d1_1) (by decide) (W := 0) (by show 2 * 0 + _ ≤ _; exact Nat.le_of_eq rfl) (by decide)
  refine own_st (S' := T_1.setTop (mkF m 4 #[.val (.ref a), .val (.ref b), .val (.ref d)] [])) st_1 ?_
  refine own_st (S' := T_1.setTop (mkF m 5 #[.val (.ref a), .val (.ref b), .val (.ref d)] [(.ref a)])) (fun t_ k_ => XS.aloadN X_1.here hx rfl (hb hby d1_4) rfl rfl k_) ?_
  refine own_st (S' := T_1.setTop (mkF m 6 #[.val (.ref a), .val (.ref b), .val (.ref d)] [(.ref b), (.ref a)])) (fun t_ k_ => XS.aloadN X_1.here hx rfl (hb hby d1_5) rfl rfl k_) ?_
  obtain ⟨T_2, h_2, X_2, e_2, W_2, st_2⟩ := putF X_1 hx hZ hown (host := "") (Or.inl (hw _ (List.mem_of_getElem? (i := 17) rfl))) Via.refl e_1 P1 P0 (Or.inr ⟨(hw _ (List.mem_of_getElem? (i := 18) rfl)), rfl, hnm⟩) (hw _ (List.mem_of_getElem? (i := 2) rfl)) (ty := (.array .byte)) (by decide) rfl rfl (g := (mkF m 6 #[.val (.ref a), .val (.ref b), .val (.ref d)] [(.ref b), (.ref a)])) rfl rfl (hb hby d1_6)
  have Z_2 : n0 ≤ h_2.size := Nat.le_trans Z0 (Keep.of_wr W_2).1
  have N_2 := Fr.snoc X_2 N0 g_a
  have K_2 : Keep h0 h_2 [a] := (Keep.refl h0 [a]).wr W_2 (Or.inl (List.mem_of_getElem? (i := 0) rfl))
  have f_2 : Fld Z h_2 a "com/example/hailport/hailport/wire/ByteReader" "bytes" "[B" (.ref b) := Fld.same W_2 P1
  refine own_st (S' := T_2.setTop (mkF m 9 #[.val (.ref a), .val (.ref b), .val (.ref d)] [])) st_2 ?_
  refine own_st (S' := T_2.setTop (mkF m 10 #[.val (.ref a), .val (.ref b), .val (.ref d)] [(.ref a)])) (fun t_ k_ => XS.aloadN X_2.here hx rfl (hb hby d1_9) rfl rfl k_) ?_
  refine own_st (S' := T_2.setTop (mkF m 11 #[.val (.ref a), .val (.ref b), .val (.ref d)] [(.ref d), (.ref a)])) (fun t_ k_ => XS.aloadN X_2.here hx rfl (hb hby d1_10) rfl rfl k_) ?_
  have f_3 : Fld Z h_2 a "com/example/hailport/hailport/wire/ByteReader" "description" "Ljava/lang/String;" .null := (Fld.other W_2 P2 (Or.inr (slot_ne (Or.inr (hw _ (List.mem_of_getElem? (i := 20) rfl))) (Or.inr (hw _ (List.mem_of_getElem? (i := 18) rfl))) (by decide) (t := (.object "java/lang/String")) (t' := (.array .byte)) (by decide) (by decide))))
  have f_4 : Exa Z h_2 a "com/example/hailport/hailport/wire/ByteReader" := (Exa.wr W_2 P0)
  obtain ⟨T_5, h_5, X_5, e_5, W_5, st_5⟩ := putF X_2 hx hZ hown (host := "") (Or.inl (hw _ (List.mem_of_getElem? (i := 19) rfl))) Via.refl e_2 f_3 f_4 (Or.inr ⟨(hw _ (List.mem_of_getElem? (i := 20) rfl)), rfl, hnm⟩) (hw _ (List.mem_of_getElem? (i := 2) rfl)) (ty := (.object "java/lang/String")) (by decide) rfl rfl (g := (mkF m 11 #[.val (.ref a), .val (.ref b), .val (.ref d)] [(.ref d), (.ref a)])) rfl rfl (hb hby d1_11)
  have Z_5 : n0 ≤ h_5.size := Nat.le_trans Z_2 (Keep.of_wr W_5).1
  have N_5 := Fr.snoc X_5 N_2 g_a
  have K_5 : Keep h0 h_5 [a] := K_2.wr W_5 (Or.inl (List.mem_of_getElem? (i := 0) rfl))
  have f_5 : Fld Z h_5 a "com/example/hailport/hailport/wire/ByteReader" "description" "Ljava/lang/String;" (.ref d) := Fld.same W_5 f_3
  refine own_st (S' := T_5.setTop (mkF m 14 #[.val (.ref a), .val (.ref b), .val (.ref d)] [])) st_5 ?_
  obtain ⟨fs, hr, hrun, hended, hW, hsame⟩ := X_5.leave (v := none) (fun _ => rfl)
  have f_6 : Exa Z h_5 a "com/example/hailport/hailport/wire/ByteReader" := (Exa.wr W_5 f_4)
  have f_7 : Fld Z h_5 a "com/example/hailport/hailport/wire/ByteReader" "bytes" "[B" (.ref b) := (Fld.other W_5 f_2 (Or.inr (slot_ne (Or.inr (hw _ (List.mem_of_getElem? (i := 18) rfl))) (Or.inr (hw _ (List.mem_of_getElem? (i := 20) rfl))) (by decide) (t := (.array .byte)) (t' := (.object "java/lang/String")) (by decide) (by decide))))
  have f_8 : Fld Z h_5 a "com/example/hailport/hailport/wire/ByteReader" "position" "I" (.int (0 : Int32)) := (Fld.other W_5 (Fld.other W_2 P3 (Or.inr (slot_ne (Or.inl (hw _ (List.mem_of_getElem? (i := 37) rfl))) (Or.inr (hw _ (List.mem_of_getElem? (i := 18) rfl))) (by decide) (t := .int) (t' := (.array .byte)) (by decide) (by decide)))) (Or.inr (slot_ne (Or.inl (hw _ (List.mem_of_getElem? (i := 37) rfl))) (Or.inr (hw _ (List.mem_of_getElem? (i := 20) rfl))) (by decide) (t := .int) (t' := (.object "java/lang/String")) (by decide) (by decide))))
  refine ⟨_, _, X_5.returnOut hx Bd.returns (hb hby d1_14) hr, hrun, hended, _, _, rfl, ?_, ⟨_, rfl⟩, hW, hsame.mono (by decide) (by decide)⟩
  show Q1 Z a b d h0 n0 _ T_5.heap _
  rw [e_5]
  exact ⟨rfl, N_5, K_5, f_6, f_7, f_8⟩
theorem d2_0 : decode prog_48_method_7_code 0 = .ok (.aload_n 0, 1) := by decide +kernel
theorem d2_1 : decode prog_48_method_7_code 1 = .ok (.getfield 7, 3) := by decide +kernel
theorem d2_4 : decode prog_48_method_7_code 4 = .ok (.arraylength, 1) := by decide +kernel
theorem d2_5 : decode prog_48_method_7_code 5 = .ok (.aload_n 0, 1) := by decide +kernel
theorem d2_6 : decode prog_48_method_7_code 6 = .ok (.getfield 21, 3) := by decide +kernel
theorem d2_9 : decode prog_48_method_7_code 9 = .ok (.isub, 1) := by decide +kernel
theorem d2_10 : decode prog_48_method_7_code 10 = .ok (.ireturn, 1) := by decide +kernel
theorem ef_2 (m : MethodId) (a : Addr) : entryFrame m #[(.ref a)] 1 = mkF m 0 #[.val (.ref a)] [] := by first | (simp [entryFrame, mkF, argsToLocals, Value.category]; done) | rfl
def Q2 (Z : State) (a : Addr) (b : Addr) (k : ClassId) (x0 : Int32) (x1 : Int32) (x2 : Int32) (ps : Int32) (h0 : Heap) (n0 : Nat) (v : Option Value) (h : Heap) (L : List Loc) : Prop := v = some (.int ((3 : Int32) - ps)) ∧ Fr n0 L ∧ h = h0
set_option maxRecDepth 65536 in
set_option maxHeartbeats 40000000 in
theorem rm2 (l : Launch) (Z : State) (a0 : Array Value) (hw : ∀ d ∈ tables_1, d.before a0 Z = true) (ws : List Jvm.Cond) (a : Addr) (b : Addr) (k : ClassId) (x0 : Int32) (x1 : Int32) (x2 : Int32) (ps : Int32) (h0 : Heap) (n0 : Nat) (Z0 : n0 ≤ h0.size) (P0 : Fld Z h0 a "com/example/hailport/hailport/wire/ByteReader" "bytes" "[B" (.ref b)) (P1 : Arv Z h0 b k .byte (3 : Int32) [(.int x0), (.int x1), (.int x2)] (.int (0 : Int32))) (P2 : Fld Z h0 a "com/example/hailport/hailport/wire/ByteReader" "position" "I" (.int ps)) :
    MetFree l (⟨"com/example/hailport/hailport/wire/ByteReader", "remaining", "()I"⟩ : MethodName) (head1 (Jvm.Cond.code (⟨"com/example/hailport/hailport/wire/ByteReader", "remaining", "()I"⟩ : MethodName) prog_48_method_7_code 1 (some .int) :: ws) ({ frames := 0, cells := 0, slots := 0, locals := 0 } : Room)) (fun ar_ U => ar_ = #[(.ref a)] ∧ Z.Warmed39 U.vm ∧ U.heap = h0) (fun _ _ _ _ _ => True) (fun _ U o U' => ∃ v L, o = .returned v ∧ Q2 Z a b k x0 x1 x2 ps h0 n0 v U'.heap L ∧ FrameEnd U o U' L ({ frames := 0, cells := 0, slots := 0, locals := 0 } : Room).cells ({ frames := 0, cells := 0, slots := 0, locals := 0 } : Room).slots) := by
  refine MetFree.of_bodySF (plainFor_of_name pn_0) hisR ?_
  intro p e s m args below meth c s₁ Bd hml0 hP hK
  obtain ⟨rfl, hZ, hh⟩ := hP
  have hx := Bd.exec
  have hby := Bd.bytes
  have hml : c.maxLocals = 1 := hml0
  have hown : s.vm.findClass "com/example/hailport/hailport/wire/ByteReader" = some m.cls := findClass_of_methodNamed Bd.named
  have hnm := (name_of_methodNamed Bd.named Bd.method).1
  have X0 : Stand p l e ({ frames := 0, cells := 0, slots := 0, locals := 0 } : Room) s m #[(.ref a)] below meth c s₁ [] 0 0 := Stand.of_body Bd
  have e0 : s₁.heap = h0 := by rw [← hh, Bd.state]; rfl
  have N0 := Fr.nil n0
  refine own_gl ?_
  refine own_st (S' := s₁.setTop (mkF m 0 #[.val (.ref a)] [])) (fun t_ k_ => castTop (ef_2 m a) k_) ?_
  refine own_st (S' := s₁.setTop (mkF m 1 #[.val (.ref a)] [(.ref a)])) (fun t_ k_ => XS.aloadN X0.here hx rfl (hb hby d2_0) rfl rfl k_) ?_
  obtain ⟨T_1, X_1, e_1, st_1⟩ := getF X0 hx hZ hown (host := "") (Or.inl (hw _ (List.mem_of_getElem? (i := 17) rfl))) Via.refl e0 P0 (g := (mkF m 1 #[.val (.ref a)] [(.ref a)])) rfl rfl (hb hby d2_1)
  refine own_st (S' := T_1.setTop (mkF m 4 #[.val (.ref a)] [(.ref b)])) st_1 ?_
  obtain ⟨cl_2, Ar_2, q_2, S_2, M_2, H_2, G_2⟩ := P1
  refine own_st (S' := T_1.setTop (mkF m 5 #[.val (.ref a)] [(.int (3 : Int32))])) (fun t_ k_ => X_1.arraylength hx (by rw [e_1]; exact Ar_2.1) (State.isArrayOf_alike hZ.alike Ar_2.2.1) (g := (mkF m 4 #[.val (.ref a)] [(.ref b)])) rfl rfl (hb hby d2_4) _ (by rw [len_of S_2 M_2]; exact k_)) ?_
  refine own_st (S' := T_1.setTop (mkF m 6 #[.val (.ref a)] [(.ref a), (.int (3 : Int32))])) (fun t_ k_ => XS.aloadN X_1.here hx rfl (hb hby d2_5) rfl rfl k_) ?_
  obtain ⟨T_3, X_3, e_3, st_3⟩ := getF X_1 hx hZ hown (host := "") (Or.inl (hw _ (List.mem_of_getElem? (i := 36) rfl))) Via.refl e_1 P2 (g := (mkF m 6 #[.val (.ref a)] [(.ref a), (.int (3 : Int32))])) rfl rfl (hb hby d2_6)
  refine own_st (S' := T_3.setTop (mkF m 9 #[.val (.ref a)] [(.int ps), (.int (3 : Int32))])) st_3 ?_
  refine own_st (S' := T_3.setTop (mkF m 10 #[.val (.ref a)] [(.int ((3 : Int32) - ps))])) (fun t_ k_ => XS.isub X_3.here hx rfl (hb hby d2_9) rfl k_) ?_
  obtain ⟨fs, hr, hrun, hended, hW, hsame⟩ := X_3.leave (v := some (.int ((3 : Int32) - ps))) (fun h => by rw [Bd.returns] at h; cases h)
  refine ⟨_, _, retI X_3 hx Bd.returns (hb hby d2_10) hr, hrun, hended, _, _, rfl, ?_, ⟨_, rfl⟩, hW, hsame.mono (by decide) (by decide)⟩
  show Q2 Z a b k x0 x1 x2 ps h0 n0 _ T_3.heap _
  rw [e_3]
  exact ⟨rfl, N0, rfl⟩
theorem d3_0 : decode prog_48_method_11_code 0 = .ok (.aload_n 0, 1) := by decide +kernel
theorem d3_1 : decode prog_48_method_11_code 1 = .ok (.invokevirtual 59, 3) := by decide +kernel
theorem d3_4 : decode prog_48_method_11_code 4 = .ok (.iload_n 1, 1) := by decide +kernel
theorem d3_5 : decode prog_48_method_11_code 5 = .ok (.if_icmp .ge 9, 3) := by decide +kernel
theorem d3_14 : decode prog_48_method_11_code 14 = .ok (.return_, 1) := by decide +kernel
theorem ef_3 (m : MethodId) (a : Addr) (n : Int32) (d : Addr) : entryFrame m #[(.ref a), (.int n), (.ref d)] 3 = mkF m 0 #[.val (.ref a), .val (.int n), .val (.ref d)] [] := by first | (simp [entryFrame, mkF, argsToLocals, Value.category]; done) | rfl
theorem pd_0 : parseMethodDescriptor "()I" = some ⟨[], some .int⟩ := by decide +kernel
def Q3 (Z : State) (a : Addr) (n : Int32) (d : Addr) (b : Addr) (k : ClassId) (x0 : Int32) (x1 : Int32) (x2 : Int32) (ps : Int32) (h0 : Heap) (n0 : Nat) (v : Option Value) (h : Heap) (L : List Loc) : Prop := v = none ∧ Fr n0 L ∧ h = h0
set_option maxRecDepth 65536 in
set_option maxHeartbeats 40000000 in
theorem rm3 (l : Launch) (Z : State) (a0 : Array Value) (hw : ∀ d ∈ tables_1, d.before a0 Z = true) (ws : List Jvm.Cond) (a : Addr) (n : Int32) (d : Addr) (b : Addr) (k : ClassId) (x0 : Int32) (x1 : Int32) (x2 : Int32) (ps : Int32) (h0 : Heap) (n0 : Nat) (Z0 : n0 ≤ h0.size) (P0 : Exa Z h0 a "com/example/hailport/hailport/wire/ByteReader") (P1 : Fld Z h0 a "com/example/hailport/hailport/wire/ByteReader" "bytes" "[B" (.ref b)) (P2 : Arv Z h0 b k .byte (3 : Int32) [(.int x0), (.int x1), (.int x2)] (.int (0 : Int32))) (P3 : Fld Z h0 a "com/example/hailport/hailport/wire/ByteReader" "position" "I" (.int ps)) (hr : ¬ (((3 : Int32) - ps) < n)) :
    MetFree l (⟨"com/example/hailport/hailport/wire/ByteReader", "require", "(ILjava/lang/String;)V"⟩ : MethodName) (head1 (Jvm.Cond.code (⟨"com/example/hailport/hailport/wire/ByteReader", "require", "(ILjava/lang/String;)V"⟩ : MethodName) prog_48_method_11_code 3 none :: ws) ({ frames := 1, cells := 0, slots := 0, locals := 12 } : Room)) (fun ar_ U => ar_ = #[(.ref a), (.int n), (.ref d)] ∧ Z.Warmed39 U.vm ∧ U.heap = h0) (fun _ _ _ _ _ => True) (fun _ U o U' => ∃ v L, o = .returned v ∧ Q3 Z a n d b k x0 x1 x2 ps h0 n0 v U'.heap L ∧ FrameEnd U o U' L ({ frames := 1, cells := 0, slots := 0, locals := 12 } : Room).cells ({ frames := 1, cells := 0, slots := 0, locals := 12 } : Room).slots) := by
  refine MetFree.of_bodySF (plainFor_of_name pn_0) hisR ?_
  intro p e s m args below meth c s₁ Bd hml0 hP hK
  obtain ⟨rfl, hZ, hh⟩ := hP
  have hx := Bd.exec
  have hby := Bd.bytes
  have hml : c.maxLocals = 3 := hml0
  have hown : s.vm.findClass "com/example/hailport/hailport/wire/ByteReader" = some m.cls := findClass_of_methodNamed Bd.named
  have hnm := (name_of_methodNamed Bd.named Bd.method).1
  have X0 : Stand p l e ({ frames := 1, cells := 0, slots := 0, locals := 12 } : Room) s m #[(.ref a), (.int n), (.ref d)] below meth c s₁ [] 0 0 := Stand.of_body Bd
  have e0 : s₁.heap = h0 := by rw [← hh, Bd.state]; rfl
  have N0 := Fr.nil n0
  refine own_gl ?_
  refine own_st (S' := s₁.setTop (mkF m 0 #[.val (.ref a), .val (.int n), .val (.ref d)] [])) (fun t_ k_ => castTop (ef_3 m a n d) k_) ?_
  refine own_st (S' := s₁.setTop (mkF m 1 #[.val (.ref a), .val (.int n), .val (.ref d)] [(.ref a)])) (fun t_ k_ => XS.aloadN X0.here hx rfl (hb hby d3_0) rfl rfl k_) ?_
  obtain ⟨cq_1, kq_1, q_1a, q_1b, q_1c⟩ := isOf hZ e0 P0
  obtain ⟨_, _, ⟨T_1, L_1, k_1, n_1⟩, -, X_1, ⟨Lc_1, hQ_1, l_1, y_1, z_1⟩, st_1⟩ := X0.virtualBack hx (y := (⟨"com/example/hailport/hailport/wire/ByteReader", "remaining", "()I"⟩ : MethodName)) (z := (⟨"com/example/hailport/hailport/wire/ByteReader", "remaining", "()I"⟩ : MethodName)) hown (mvT hZ (hw _ (List.mem_of_getElem? (i := 31) rfl))) (mvT hZ (hw _ (List.mem_of_getElem? (i := 32) rfl))) (notFace_of_selects (args := #[]) (mvT hZ (hw _ (List.mem_of_getElem? (i := 34) rfl)))) (mvT hZ (hw _ (List.mem_of_getElem? (i := 34) rfl))) (mvT hZ (hw _ (List.mem_of_getElem? (i := 33) rfl))) (by decide) (backOf (W := 0) (rm2 l Z a0 hw [] a b k x0 x1 x2 ps h0 n0 Z0 P1 P2 P3) hZ (hw _ (List.mem_of_getElem? (i := 35) rfl)) (hw _ (List.mem_of_getElem? (i := 3) rfl)) (by decide) (by decide)) q_1a q_1c (g := (mkF m 1 #[.val (.ref a), .val (.int n), .val (.ref d)] [(.ref a)])) rfl (by rw [hml]; rfl) (Steps.refl _) (argsL := []) (rest := []) (lenOf pd_0 rfl) rfl (by show 2 * 0 + _ ≤ _; exact Nat.le_of_eq rfl) (hb hby d3_1) (fun _ _ => ⟨rfl, e0, (by decide : 0 + 0 ≤ _), (by decide : 0 + 0 ≤ _)⟩)
  dsimp only [Pt.U, Pt.locs, Pt.cells, Pt.slots] at X_1 l_1 y_1 z_1 st_1 hQ_1
  subst l_1 y_1 z_1
  obtain ⟨rfl, M_1, q_1⟩ := hQ_1
  have N_1 := Fr.app N0 M_1
  refine own_st (S' := T_1.setTop (mkF m 4 #[.val (.ref a), .val (.int n), .val (.ref d)] [(.int ((3 : Int32) - ps))])) (fun t_ k_ => st_1.trans k_) ?_
  refine own_st (S' := T_1.setTop (mkF m 5 #[.val (.ref a), .val (.int n), .val (.ref d)] [(.int n), (.int ((3 : Int32) - ps))])) (fun t_ k_ => XS.iloadN X_1.here hx rfl (hb hby d3_4) rfl k_) ?_
  refine own_st (S' := T_1.setTop (mkF m 14 #[.val (.ref a), .val (.int n), .val (.ref d)] [])) (fun t_ k_ => XS.icmpYes X_1.here hx rfl (pc0 := 5) (pc' := 14) rfl (hb hby d3_5) rfl (flt hr).2.1 (by decide) (by decide) k_) ?_
  obtain ⟨fs, hr, hrun, hended, hW, hsame⟩ := X_1.leave (v := none) (fun _ => rfl)
  refine ⟨_, _, X_1.returnOut hx Bd.returns (hb hby d3_14) hr, hrun, hended, _, _, rfl, ?_, ⟨_, rfl⟩, hW, hsame.mono (by decide) (by decide)⟩
  show Q3 Z a n d b k x0 x1 x2 ps h0 n0 _ T_1.heap _
  rw [q_1]
  exact ⟨rfl, N_1, rfl⟩
theorem d4_0 : decode prog_48_method_2_code 0 = .ok (.aload_n 0, 1) := by decide +kernel
theorem d4_1 : decode prog_48_method_2_code 1 = .ok (.iconst 1, 1) := by decide +kernel
theorem d4_2 : decode prog_48_method_2_code 2 = .ok (.aload_n 1, 1) := by decide +kernel
theorem d4_3 : decode prog_48_method_2_code 3 = .ok (.invokevirtual 17, 3) := by decide +kernel
theorem d4_6 : decode prog_48_method_2_code 6 = .ok (.aload_n 0, 1) := by decide +kernel
theorem d4_7 : decode prog_48_method_2_code 7 = .ok (.getfield 7, 3) := by decide +kernel
theorem d4_10 : decode prog_48_method_2_code 10 = .ok (.aload_n 0, 1) := by decide +kernel
theorem d4_11 : decode prog_48_method_2_code 11 = .ok (.getfield 21, 3) := by decide +kernel
theorem d4_14 : decode prog_48_method_2_code 14 = .ok (.baload, 1) := by decide +kernel
theorem d4_15 : decode prog_48_method_2_code 15 = .ok (.sipush 255, 3) := by decide +kernel
theorem d4_18 : decode prog_48_method_2_code 18 = .ok (.iand, 1) := by decide +kernel
theorem d4_19 : decode prog_48_method_2_code 19 = .ok (.istore_n 2, 1) := by decide +kernel
theorem d4_20 : decode prog_48_method_2_code 20 = .ok (.aload_n 0, 1) := by decide +kernel
theorem d4_21 : decode prog_48_method_2_code 21 = .ok (.dup, 1) := by decide +kernel
theorem d4_22 : decode prog_48_method_2_code 22 = .ok (.getfield 21, 3) := by decide +kernel
theorem d4_25 : decode prog_48_method_2_code 25 = .ok (.iconst 1, 1) := by decide +kernel
theorem d4_26 : decode prog_48_method_2_code 26 = .ok (.iadd, 1) := by decide +kernel
theorem d4_27 : decode prog_48_method_2_code 27 = .ok (.putfield 21, 3) := by decide +kernel
theorem d4_30 : decode prog_48_method_2_code 30 = .ok (.iload_n 2, 1) := by decide +kernel
theorem d4_31 : decode prog_48_method_2_code 31 = .ok (.ireturn, 1) := by decide +kernel
theorem ef_4a (m : MethodId) (a : Addr) (d : Addr) : entryFrame m #[(.ref a), (.ref d)] 3 = mkF m 0 #[.val (.ref a), .val (.ref d), .unset] [] := by first | (simp [entryFrame, mkF, argsToLocals, Value.category]; done) | rfl
theorem pd_1 : parseMethodDescriptor "(ILjava/lang/String;)V" = some ⟨[.int, (.object "java/lang/String")], none⟩ := by decide +kernel
def Q4a (Z : State) (a : Addr) (d : Addr) (b : Addr) (k : ClassId) (x0 : Int32) (x1 : Int32) (x2 : Int32) (h0 : Heap) (n0 : Nat) (v : Option Value) (h : Heap) (L : List Loc) : Prop := v = some (.int (x0 &&& (255 : Int32))) ∧ Fr n0 L ∧ Keep h0 h [a] ∧ Exa Z h a "com/example/hailport/hailport/wire/ByteReader" ∧ Fld Z h a "com/example/hailport/hailport/wire/ByteReader" "bytes" "[B" (.ref b) ∧ Fld Z h a "com/example/hailport/hailport/wire/ByteReader" "position" "I" (.int (1 : Int32))
set_option maxRecDepth 65536 in
set_option maxHeartbeats 40000000 in
theorem rm4a (l : Launch) (Z : State) (a0 : Array Value) (hw : ∀ d ∈ tables_1, d.before a0 Z = true) (ws : List Jvm.Cond) (a : Addr) (d : Addr) (b : Addr) (k : ClassId) (x0 : Int32) (x1 : Int32) (x2 : Int32) (h0 : Heap) (n0 : Nat) (Z0 : n0 ≤ h0.size) (P0 : Exa Z h0 a "com/example/hailport/hailport/wire/ByteReader") (P1 : Fld Z h0 a "com/example/hailport/hailport/wire/ByteReader" "bytes" "[B" (.ref b)) (P2 : Arv Z h0 b k .byte (3 : Int32) [(.int x0), (.int x1), (.int x2)] (.int (0 : Int32))) (P3 : Fld Z h0 a "com/example/hailport/hailport/wire/ByteReader" "position" "I" (.int (0 : Int32))) (g_a : n0 ≤ a) (ne_a_b : a ≠ b) :
    MetFree l (⟨"com/example/hailport/hailport/wire/ByteReader", "readUnsignedByte", "(Ljava/lang/String;)I"⟩ : MethodName) (head1 (Jvm.Cond.code (⟨"com/example/hailport/hailport/wire/ByteReader", "readUnsignedByte", "(Ljava/lang/String;)I"⟩ : MethodName) prog_48_method_2_code 3 (some .int) :: ws) ({ frames := 2, cells := 0, slots := 0, locals := 26 } : Room)) (fun ar_ U => ar_ = #[(.ref a), (.ref d)] ∧ Z.Warmed39 U.vm ∧ U.heap = h0) (fun _ _ _ _ _ => True) (fun _ U o U' => ∃ v L, o = .returned v ∧ Q4a Z a d b k x0 x1 x2 h0 n0 v U'.heap L ∧ FrameEnd U o U' L ({ frames := 2, cells := 0, slots := 0, locals := 26 } : Room).cells ({ frames := 2, cells := 0, slots := 0, locals := 26 } : Room).slots) := by
  refine MetFree.of_bodySF (plainFor_of_name pn_0) hisR ?_
  intro p e s m args below meth c s₁ Bd hml0 hP hK
  obtain ⟨rfl, hZ, hh⟩ := hP
  have hx := Bd.exec
  have hby := Bd.bytes
  have hml : c.maxLocals = 3 := hml0
  have hown : s.vm.findClass "com/example/hailport/hailport/wire/ByteReader" = some m.cls := findClass_of_methodNamed Bd.named
  have hnm := (name_of_methodNamed Bd.named Bd.method).1
  have X0 : Stand p l e ({ frames := 2, cells := 0, slots := 0, locals := 26 } : Room) s m #[(.ref a), (.ref d)] below meth c s₁ [] 0 0 := Stand.of_body Bd
  have e0 : s₁.heap = h0 := by rw [← hh, Bd.state]; rfl
  have N0 := Fr.nil n0
  refine own_gl ?_
  refine own_st (S' := s₁.setTop (mkF m 0 #[.val (.ref a), .val (.ref d), .unset] [])) (fun t_ k_ => castTop (ef_4a m a d) k_) ?_
  refine own_st (S' := s₁.setTop (mkF m 1 #[.val (.ref a), .val (.ref d), .unset] [(.ref a)])) (fun t_ k_ => XS.aloadN X0.here hx rfl (hb hby d4_0) rfl rfl k_) ?_
  refine own_st (S' := s₁.setTop (mkF m 2 #[.val (.ref a), .val (.ref d), .unset] [(.int (1 : Int32)), (.ref a)])) (fun t_ k_ => XS.iconst X0.here hx rfl (hb hby d4_1) k_) ?_
  refine own_st (S' := s₁.setTop (mkF m 3 #[.val (.ref a), .val (.ref d), .unset] [(.ref d), (.int (1 : Int32)), (.ref a)])) (fun t_ k_ => XS.aloadN X0.here hx rfl (hb hby d4_2) rfl rfl k_) ?_
  obtain ⟨cq_1, qa_1, qb_1⟩ := P0.cell
  obtain ⟨_, _, ⟨T_1, L_1, k_1, n_1⟩, -, X_1, ⟨Lc_1, hQ_1, l_1, y_1, z_1⟩, st_1⟩ := X0.privateBack hx (y := (⟨"com/example/hailport/hailport/wire/ByteReader", "require", "(ILjava/lang/String;)V"⟩ : MethodName)) hown (mvT hZ (hw _ (List.mem_of_getElem? (i := 27) rfl))) (mvT hZ (hw _ (List.mem_of_getElem? (i := 28) rfl))) (own_selfsel (y := (⟨"com/example/hailport/hailport/wire/ByteReader", "require", "(ILjava/lang/String;)V"⟩ : MethodName)) (mvT hZ (hw _ (List.mem_of_getElem? (i := 2) rfl))) (mvP hZ (hw _ (List.mem_of_getElem? (i := 29) rfl))) (mvT hZ (hw _ (List.mem_of_getElem? (i := 28) rfl))) (by decide)) (Cond.privateMethod_at (mvP hZ (hw _ (List.mem_of_getElem? (i := 29) rfl)) (args := #[]))) (mvT hZ (hw _ (List.mem_of_getElem? (i := 30) rfl))) (by decide) (backOf (W := 0) (rm3 l Z a0 hw [] a (1 : Int32) d b k x0 x1 x2 (0 : Int32) h0 n0 Z0 P0 P1 P2 P3 (by decide)) hZ (hw _ (List.mem_of_getElem? (i := 30) rfl)) (hw _ (List.mem_of_getElem? (i := 3) rfl)) (by decide) (by decide)) (g := (mkF m 3 #[.val (.ref a), .val (.ref d), .unset] [(.ref d), (.int (1 : Int32)), (.ref a)])) rfl (by rw [hml]; rfl) (Steps.refl _) (a := a) (by rw [e0]; exact qa_1) qb_1 (argsL := [(.int (1 : Int32)), (.ref d)]) (rest := []) (lenOf pd_1 rfl) rfl (by show 2 * 0 + _ ≤ _; exact Nat.le_of_eq rfl) (hb hby d4_3) (fun _ _ => ⟨rfl, e0, (by decide : 0 + 0 ≤ _), (by decide : 0 + 0 ≤ _)⟩)
  dsimp only [Pt.U, Pt.locs, Pt.cells, Pt.slots] at X_1 l_1 y_1 z_1 st_1 hQ_1
  subst l_1 y_1 z_1
  obtain ⟨rfl, M_1, q_1⟩ := hQ_1
  have N_1 := Fr.app N0 M_1
  refine own_st (S' := T_1.setTop (mkF m 6 #[.val (.ref a), .val (.ref d), .unset] [])) (fun t_ k_ => st_1.trans k_) ?_
  refine own_st (S' := T_1.setTop (mkF m 7 #[.val (.ref a), .val (.ref d), .unset] [(.ref a)])) (fun t_ k_ => XS.aloadN X_1.here hx rfl (hb hby d4_6) rfl rfl k_) ?_
  obtain ⟨T_2, X_2, e_2, st_2⟩ := getF X_1 hx hZ hown (host := "") (Or.inl (hw _ (List.mem_of_getElem? (i := 17) rfl))) Via.refl q_1 P1 (g := (mkF m 7 #[.val (.ref a), .val (.ref d), .unset] [(.ref a)])) rfl rfl (hb hby d4_7)
  refine own_st (S' := T_2.setTop (mkF m 10 #[.val (.ref a), .val (.ref d), .unset] [(.ref b)])) st_2 ?_
  refine own_st (S' := T_2.setTop (mkF m 11 #[.val (.ref a), .val (.ref d), .unset] [(.ref a), (.ref b)])) (fun t_ k_ => XS.aloadN X_2.here hx rfl (hb hby d4_10) rfl rfl k_) ?_
  obtain ⟨T_3, X_3, e_3, st_3⟩ := getF X_2 hx hZ hown (host := "") (Or.inl (hw _ (List.mem_of_getElem? (i := 36) rfl))) Via.refl e_2 P3 (g := (mkF m 11 #[.val (.ref a), .val (.ref d), .unset] [(.ref a), (.ref b)])) rfl rfl (hb hby d4_11)
  refine own_st (S' := T_3.setTop (mkF m 14 #[.val (.ref a), .val (.ref d), .unset] [(.int (0 : Int32)), (.ref b)])) st_3 ?_
  obtain ⟨cl_4, Ar_4, q_4, S_4, M_4, H_4, G_4⟩ := P2
  have hin_4 : ¬ ((0 : Int32) < 0 ∨ cl_4.slots.size ≤ ((0 : Int32)).toNatClampNeg) := inb_of S_4 ⟨by decide, by decide⟩
  have hat_4 : cl_4.slots[((0 : Int32)).toNatClampNeg]? = some (.int x0) := H_4.at hin_4 rfl
  refine own_st (S' := T_3.setTop (mkF m 15 #[.val (.ref a), .val (.ref d), .unset] [(.int x0)])) (fun t_ k_ => X_3.baloadBytes hx (j := (0 : Int32)) (v := (.int x0)) (by rw [e_3]; exact Ar_4.1) (State.isArrayOf_alike hZ.alike Ar_4.2.1) Ar_4.2.2 hin_4 hat_4 (g := (mkF m 14 #[.val (.ref a), .val (.ref d), .unset] [(.int (0 : Int32)), (.ref b)])) rfl rfl (hb hby d4_14) _ k_) ?_
  refine own_st (S' := T_3.setTop (mkF m 18 #[.val (.ref a), .val (.ref d), .unset] [(.int (255 : Int32)), (.int x0)])) (fun t_ k_ => XS.sipush X_3.here hx rfl (hb hby d4_15) k_) ?_
  refine own_st (S' := T_3.setTop (mkF m 19 #[.val (.ref a), .val (.ref d), .unset] [(.int (x0 &&& (255 : Int32)))])) (fun t_ k_ => XS.iand X_3.here hx rfl (hb hby d4_18) rfl k_) ?_
  refine own_st (S' := T_3.setTop (mkF m 20 #[.val (.ref a), .val (.ref d), .val (.int (x0 &&& (255 : Int32)))] [])) (fun t_ k_ => XS.istoreN X_3.here hx rfl (hb hby d4_19) rfl (l' := #[.val (.ref a), .val (.ref d), .val (.int (x0 &&& (255 : Int32)))]) rfl k_) ?_
  refine own_st (S' := T_3.setTop (mkF m 21 #[.val (.ref a), .val (.ref d), .val (.int (x0 &&& (255 : Int32)))] [(.ref a)])) (fun t_ k_ => XS.aloadN X_3.here hx rfl (hb hby d4_20) rfl rfl k_) ?_
  refine own_st (S' := T_3.setTop (mkF m 22 #[.val (.ref a), .val (.ref d), .val (.int (x0 &&& (255 : Int32)))] [(.ref a), (.ref a)])) (fun t_ k_ => XS.dup X_3.here hx rfl (hb hby d4_21) rfl rfl k_) ?_
  obtain ⟨T_5, X_5, e_5, st_5⟩ := getF X_3 hx hZ hown (host := "") (Or.inl (hw _ (List.mem_of_getElem? (i := 36) rfl))) Via.refl e_3 P3 (g := (mkF m 22 #[.val (.ref a), .val (.ref d), .val (.int (x0 &&& (255 : Int32)))] [(.ref a), (.ref a)])) rfl rfl (hb hby d4_22)
  refine own_st (S' := T_5.setTop (mkF m 25 #[.val (.ref a), .val (.ref d), .val (.int (x0 &&& (255 : Int32)))] [(.int (0 : Int32)), (.ref a)])) st_5 ?_
  refine own_st (S' := T_5.setTop (mkF m 26 #[.val (.ref a), .val (.ref d), .val (.int (x0 &&& (255 : Int32)))] [(.int (1 : Int32)), (.int (0 : Int32)), (.ref a)])) (fun t_ k_ => XS.iconst X_5.here hx rfl (hb hby d4_25) k_) ?_
  refine own_st (S' := T_5.setTop (mkF m 27 #[.val (.ref a), .val (.ref d), .val (.int (x0 &&& (255 : Int32)))] [(.int ((0 : Int32) + (1 : Int32))), (.ref a)])) (fun t_ k_ => XS.iadd X_5.here hx rfl (hb hby d4_26) rfl k_) ?_
  obtain ⟨T_6, h_6, X_6, e_6, W_6, st_6⟩ := putF X_5 hx hZ hown (host := "") (Or.inl (hw _ (List.mem_of_getElem? (i := 36) rfl))) Via.refl e_5 P3 P0 (Or.inl (hw _ (List.mem_of_getElem? (i := 37) rfl))) (hw _ (List.mem_of_getElem? (i := 2) rfl)) (ty := .int) (by decide) rfl rfl (g := (mkF m 27 #[.val (.ref a), .val (.ref d), .val (.int (x0 &&& (255 : Int32)))] [(.int ((0 : Int32) + (1 : Int32))), (.ref a)])) rfl rfl (hb hby d4_27)
  have Z_6 : n0 ≤ h_6.size := Nat.le_trans Z0 (Keep.of_wr W_6).1
  have N_6 := Fr.snoc X_6 N_1 g_a
  have K_6 : Keep h0 h_6 [a] := (Keep.refl h0 [a]).wr W_6 (Or.inl (List.mem_of_getElem? (i := 0) rfl))
  have f_6 : Fld Z h_6 a "com/example/hailport/hailport/wire/ByteReader" "position" "I" (.int ((0 : Int32) + (1 : Int32))) := Fld.same W_6 P3
  refine own_st (S' := T_6.setTop (mkF m 30 #[.val (.ref a), .val (.ref d), .val (.int (x0 &&& (255 : Int32)))] [])) st_6 ?_
  refine own_st (S' := T_6.setTop (mkF m 31 #[.val (.ref a), .val (.ref d), .val (.int (x0 &&& (255 : Int32)))] [(.int (x0 &&& (255 : Int32)))])) (fun t_ k_ => XS.iloadN X_6.here hx rfl (hb hby d4_30) rfl k_) ?_
  obtain ⟨fs, hr, hrun, hended, hW, hsame⟩ := X_6.leave (v := some (.int (x0 &&& (255 : Int32)))) (fun h => by rw [Bd.returns] at h; cases h)
  have f_7 : Exa Z h_6 a "com/example/hailport/hailport/wire/ByteReader" := (Exa.wr W_6 P0)
  have f_8 : Fld Z h_6 a "com/example/hailport/hailport/wire/ByteReader" "bytes" "[B" (.ref b) := (Fld.other W_6 P1 (Or.inr (slot_ne (Or.inr (hw _ (List.mem_of_getElem? (i := 18) rfl))) (Or.inl (hw _ (List.mem_of_getElem? (i := 37) rfl))) (by decide) (t := (.array .byte)) (t' := .int) (by decide) (by decide))))
  refine ⟨_, _, retI X_6 hx Bd.returns (hb hby d4_31) hr, hrun, hended, _, _, rfl, ?_, ⟨_, rfl⟩, hW, hsame.mono (by decide) (by decide)⟩
  show Q4a Z a d b k x0 x1 x2 h0 n0 _ T_6.heap _
  rw [e_6]
  exact ⟨rfl, N_6, K_6, f_7, f_8, ((show ((0 : Int32) + (1 : Int32)) = (1 : Int32) from by decide) ▸ f_6)⟩
theorem ef_4b (m : MethodId) (a : Addr) (d : Addr) : entryFrame m #[(.ref a), (.ref d)] 3 = mkF m 0 #[.val (.ref a), .val (.ref d), .unset] [] := by first | (simp [entryFrame, mkF, argsToLocals, Value.category]; done) | rfl
def Q4b (Z : State) (a : Addr) (d : Addr) (b : Addr) (k : ClassId) (x0 : Int32) (x1 : Int32) (x2 : Int32) (h0 : Heap) (n0 : Nat) (v : Option Value) (h : Heap) (L : List Loc) : Prop := v = some (.int (x1 &&& (255 : Int32))) ∧ Fr n0 L ∧ Keep h0 h [a] ∧ Exa Z h a "com/example/hailport/hailport/wire/ByteReader" ∧ Fld Z h a "com/example/hailport/hailport/wire/ByteReader" "bytes" "[B" (.ref b) ∧ Fld Z h a "com/example/hailport/hailport/wire/ByteReader" "position" "I" (.int (2 : Int32))
set_option maxRecDepth 65536 in
set_option maxHeartbeats 40000000 in
theorem rm4b (l : Launch) (Z : State) (a0 : Array Value) (hw : ∀ d ∈ tables_1, d.before a0 Z = true) (ws : List Jvm.Cond) (a : Addr) (d : Addr) (b : Addr) (k : ClassId) (x0 : Int32) (x1 : Int32) (x2 : Int32) (h0 : Heap) (n0 : Nat) (Z0 : n0 ≤ h0.size) (P0 : Exa Z h0 a "com/example/hailport/hailport/wire/ByteReader") (P1 : Fld Z h0 a "com/example/hailport/hailport/wire/ByteReader" "bytes" "[B" (.ref b)) (P2 : Arv Z h0 b k .byte (3 : Int32) [(.int x0), (.int x1), (.int x2)] (.int (0 : Int32))) (P3 : Fld Z h0 a "com/example/hailport/hailport/wire/ByteReader" "position" "I" (.int (1 : Int32))) (g_a : n0 ≤ a) (ne_a_b : a ≠ b) :
    MetFree l (⟨"com/example/hailport/hailport/wire/ByteReader", "readUnsignedByte", "(Ljava/lang/String;)I"⟩ : MethodName) (head1 (Jvm.Cond.code (⟨"com/example/hailport/hailport/wire/ByteReader", "readUnsignedByte", "(Ljava/lang/String;)I"⟩ : MethodName) prog_48_method_2_code 3 (some .int) :: ws) ({ frames := 2, cells := 0, slots := 0, locals := 26 } : Room)) (fun ar_ U => ar_ = #[(.ref a), (.ref d)] ∧ Z.Warmed39 U.vm ∧ U.heap = h0) (fun _ _ _ _ _ => True) (fun _ U o U' => ∃ v L, o = .returned v ∧ Q4b Z a d b k x0 x1 x2 h0 n0 v U'.heap L ∧ FrameEnd U o U' L ({ frames := 2, cells := 0, slots := 0, locals := 26 } : Room).cells ({ frames := 2, cells := 0, slots := 0, locals := 26 } : Room).slots) := by
  refine MetFree.of_bodySF (plainFor_of_name pn_0) hisR ?_
  intro p e s m args below meth c s₁ Bd hml0 hP hK
  obtain ⟨rfl, hZ, hh⟩ := hP
  have hx := Bd.exec
  have hby := Bd.bytes
  have hml : c.maxLocals = 3 := hml0
  have hown : s.vm.findClass "com/example/hailport/hailport/wire/ByteReader" = some m.cls := findClass_of_methodNamed Bd.named
  have hnm := (name_of_methodNamed Bd.named Bd.method).1
  have X0 : Stand p l e ({ frames := 2, cells := 0, slots := 0, locals := 26 } : Room) s m #[(.ref a), (.ref d)] below meth c s₁ [] 0 0 := Stand.of_body Bd
  have e0 : s₁.heap = h0 := by rw [← hh, Bd.state]; rfl
  have N0 := Fr.nil n0
  refine own_gl ?_
  refine own_st (S' := s₁.setTop (mkF m 0 #[.val (.ref a), .val (.ref d), .unset] [])) (fun t_ k_ => castTop (ef_4b m a d) k_) ?_
  refine own_st (S' := s₁.setTop (mkF m 1 #[.val (.ref a), .val (.ref d), .unset] [(.ref a)])) (fun t_ k_ => XS.aloadN X0.here hx rfl (hb hby d4_0) rfl rfl k_) ?_
  refine own_st (S' := s₁.setTop (mkF m 2 #[.val (.ref a), .val (.ref d), .unset] [(.int (1 : Int32)), (.ref a)])) (fun t_ k_ => XS.iconst X0.here hx rfl (hb hby d4_1) k_) ?_
  refine own_st (S' := s₁.setTop (mkF m 3 #[.val (.ref a), .val (.ref d), .unset] [(.ref d), (.int (1 : Int32)), (.ref a)])) (fun t_ k_ => XS.aloadN X0.here hx rfl (hb hby d4_2) rfl rfl k_) ?_
  obtain ⟨cq_1, qa_1, qb_1⟩ := P0.cell
  obtain ⟨_, _, ⟨T_1, L_1, k_1, n_1⟩, -, X_1, ⟨Lc_1, hQ_1, l_1, y_1, z_1⟩, st_1⟩ := X0.privateBack hx (y := (⟨"com/example/hailport/hailport/wire/ByteReader", "require", "(ILjava/lang/String;)V"⟩ : MethodName)) hown (mvT hZ (hw _ (List.mem_of_getElem? (i := 27) rfl))) (mvT hZ (hw _ (List.mem_of_getElem? (i := 28) rfl))) (own_selfsel (y := (⟨"com/example/hailport/hailport/wire/ByteReader", "require", "(ILjava/lang/String;)V"⟩ : MethodName)) (mvT hZ (hw _ (List.mem_of_getElem? (i := 2) rfl))) (mvP hZ (hw _ (List.mem_of_getElem? (i := 29) rfl))) (mvT hZ (hw _ (List.mem_of_getElem? (i := 28) rfl))) (by decide)) (Cond.privateMethod_at (mvP hZ (hw _ (List.mem_of_getElem? (i := 29) rfl)) (args := #[]))) (mvT hZ (hw _ (List.mem_of_getElem? (i := 30) rfl))) (by decide) (backOf (W := 0) (rm3 l Z a0 hw [] a (1 : Int32) d b k x0 x1 x2 (1 : Int32) h0 n0 Z0 P0 P1 P2 P3 (by decide)) hZ (hw _ (List.mem_of_getElem? (i := 30) rfl)) (hw _ (List.mem_of_getElem? (i := 3) rfl)) (by decide) (by decide)) (g := (mkF m 3 #[.val (.ref a), .val (.ref d), .unset] [(.ref d), (.int (1 : Int32)), (.ref a)])) rfl (by rw [hml]; rfl) (Steps.refl _) (a := a) (by rw [e0]; exact qa_1) qb_1 (argsL := [(.int (1 : Int32)), (.ref d)]) (rest := []) (lenOf pd_1 rfl) rfl (by show 2 * 0 + _ ≤ _; exact Nat.le_of_eq rfl) (hb hby d4_3) (fun _ _ => ⟨rfl, e0, (by decide : 0 + 0 ≤ _), (by decide : 0 + 0 ≤ _)⟩)
  dsimp only [Pt.U, Pt.locs, Pt.cells, Pt.slots] at X_1 l_1 y_1 z_1 st_1 hQ_1
  subst l_1 y_1 z_1
  obtain ⟨rfl, M_1, q_1⟩ := hQ_1
  have N_1 := Fr.app N0 M_1
  refine own_st (S' := T_1.setTop (mkF m 6 #[.val (.ref a), .val (.ref d), .unset] [])) (fun t_ k_ => st_1.trans k_) ?_
  refine own_st (S' := T_1.setTop (mkF m 7 #[.val (.ref a), .val (.ref d), .unset] [(.ref a)])) (fun t_ k_ => XS.aloadN X_1.here hx rfl (hb hby d4_6) rfl rfl k_) ?_
  obtain ⟨T_2, X_2, e_2, st_2⟩ := getF X_1 hx hZ hown (host := "") (Or.inl (hw _ (List.mem_of_getElem? (i := 17) rfl))) Via.refl q_1 P1 (g := (mkF m 7 #[.val (.ref a), .val (.ref d), .unset] [(.ref a)])) rfl rfl (hb hby d4_7)
  refine own_st (S' := T_2.setTop (mkF m 10 #[.val (.ref a), .val (.ref d), .unset] [(.ref b)])) st_2 ?_
  refine own_st (S' := T_2.setTop (mkF m 11 #[.val (.ref a), .val (.ref d), .unset] [(.ref a), (.ref b)])) (fun t_ k_ => XS.aloadN X_2.here hx rfl (hb hby d4_10) rfl rfl k_) ?_
  obtain ⟨T_3, X_3, e_3, st_3⟩ := getF X_2 hx hZ hown (host := "") (Or.inl (hw _ (List.mem_of_getElem? (i := 36) rfl))) Via.refl e_2 P3 (g := (mkF m 11 #[.val (.ref a), .val (.ref d), .unset] [(.ref a), (.ref b)])) rfl rfl (hb hby d4_11)
  refine own_st (S' := T_3.setTop (mkF m 14 #[.val (.ref a), .val (.ref d), .unset] [(.int (1 : Int32)), (.ref b)])) st_3 ?_
  obtain ⟨cl_4, Ar_4, q_4, S_4, M_4, H_4, G_4⟩ := P2
  have hin_4 : ¬ ((1 : Int32) < 0 ∨ cl_4.slots.size ≤ ((1 : Int32)).toNatClampNeg) := inb_of S_4 ⟨by decide, by decide⟩
  have hat_4 : cl_4.slots[((1 : Int32)).toNatClampNeg]? = some (.int x1) := H_4.at hin_4 rfl
  refine own_st (S' := T_3.setTop (mkF m 15 #[.val (.ref a), .val (.ref d), .unset] [(.int x1)])) (fun t_ k_ => X_3.baloadBytes hx (j := (1 : Int32)) (v := (.int x1)) (by rw [e_3]; exact Ar_4.1) (State.isArrayOf_alike hZ.alike Ar_4.2.1) Ar_4.2.2 hin_4 hat_4 (g := (mkF m 14 #[.val (.ref a), .val (.ref d), .unset] [(.int (1 : Int32)), (.ref b)])) rfl rfl (hb hby d4_14) _ k_) ?_
  refine own_st (S' := T_3.setTop (mkF m 18 #[.val (.ref a), .val (.ref d), .unset] [(.int (255 : Int32)), (.int x1)])) (fun t_ k_ => XS.sipush X_3.here hx rfl (hb hby d4_15) k_) ?_
  refine own_st (S' := T_3.setTop (mkF m 19 #[.val (.ref a), .val (.ref d), .unset] [(.int (x1 &&& (255 : Int32)))])) (fun t_ k_ => XS.iand X_3.here hx rfl (hb hby d4_18) rfl k_) ?_
  refine own_st (S' := T_3.setTop (mkF m 20 #[.val (.ref a), .val (.ref d), .val (.int (x1 &&& (255 : Int32)))] [])) (fun t_ k_ => XS.istoreN X_3.here hx rfl (hb hby d4_19) rfl (l' := #[.val (.ref a), .val (.ref d), .val (.int (x1 &&& (255 : Int32)))]) rfl k_) ?_
  refine own_st (S' := T_3.setTop (mkF m 21 #[.val (.ref a), .val (.ref d), .val (.int (x1 &&& (255 : Int32)))] [(.ref a)])) (fun t_ k_ => XS.aloadN X_3.here hx rfl (hb hby d4_20) rfl rfl k_) ?_
  refine own_st (S' := T_3.setTop (mkF m 22 #[.val (.ref a), .val (.ref d), .val (.int (x1 &&& (255 : Int32)))] [(.ref a), (.ref a)])) (fun t_ k_ => XS.dup X_3.here hx rfl (hb hby d4_21) rfl rfl k_) ?_
  obtain ⟨T_5, X_5, e_5, st_5⟩ := getF X_3 hx hZ hown (host := "") (Or.inl (hw _ (List.mem_of_getElem? (i := 36) rfl))) Via.refl e_3 P3 (g := (mkF m 22 #[.val (.ref a), .val (.ref d), .val (.int (x1 &&& (255 : Int32)))] [(.ref a), (.ref a)])) rfl rfl (hb hby d4_22)
  refine own_st (S' := T_5.setTop (mkF m 25 #[.val (.ref a), .val (.ref d), .val (.int (x1 &&& (255 : Int32)))] [(.int (1 : Int32)), (.ref a)])) st_5 ?_
  refine own_st (S' := T_5.setTop (mkF m 26 #[.val (.ref a), .val (.ref d), .val (.int (x1 &&& (255 : Int32)))] [(.int (1 : Int32)), (.int (1 : Int32)), (.ref a)])) (fun t_ k_ => XS.iconst X_5.here hx rfl (hb hby d4_25) k_) ?_
  refine own_st (S' := T_5.setTop (mkF m 27 #[.val (.ref a), .val (.ref d), .val (.int (x1 &&& (255 : Int32)))] [(.int ((1 : Int32) + (1 : Int32))), (.ref a)])) (fun t_ k_ => XS.iadd X_5.here hx rfl (hb hby d4_26) rfl k_) ?_
  obtain ⟨T_6, h_6, X_6, e_6, W_6, st_6⟩ := putF X_5 hx hZ hown (host := "") (Or.inl (hw _ (List.mem_of_getElem? (i := 36) rfl))) Via.refl e_5 P3 P0 (Or.inl (hw _ (List.mem_of_getElem? (i := 37) rfl))) (hw _ (List.mem_of_getElem? (i := 2) rfl)) (ty := .int) (by decide) rfl rfl (g := (mkF m 27 #[.val (.ref a), .val (.ref d), .val (.int (x1 &&& (255 : Int32)))] [(.int ((1 : Int32) + (1 : Int32))), (.ref a)])) rfl rfl (hb hby d4_27)
  have Z_6 : n0 ≤ h_6.size := Nat.le_trans Z0 (Keep.of_wr W_6).1
  have N_6 := Fr.snoc X_6 N_1 g_a
  have K_6 : Keep h0 h_6 [a] := (Keep.refl h0 [a]).wr W_6 (Or.inl (List.mem_of_getElem? (i := 0) rfl))
  have f_6 : Fld Z h_6 a "com/example/hailport/hailport/wire/ByteReader" "position" "I" (.int ((1 : Int32) + (1 : Int32))) := Fld.same W_6 P3
  refine own_st (S' := T_6.setTop (mkF m 30 #[.val (.ref a), .val (.ref d), .val (.int (x1 &&& (255 : Int32)))] [])) st_6 ?_
  refine own_st (S' := T_6.setTop (mkF m 31 #[.val (.ref a), .val (.ref d), .val (.int (x1 &&& (255 : Int32)))] [(.int (x1 &&& (255 : Int32)))])) (fun t_ k_ => XS.iloadN X_6.here hx rfl (hb hby d4_30) rfl k_) ?_
  obtain ⟨fs, hr, hrun, hended, hW, hsame⟩ := X_6.leave (v := some (.int (x1 &&& (255 : Int32)))) (fun h => by rw [Bd.returns] at h; cases h)
  have f_7 : Exa Z h_6 a "com/example/hailport/hailport/wire/ByteReader" := (Exa.wr W_6 P0)
  have f_8 : Fld Z h_6 a "com/example/hailport/hailport/wire/ByteReader" "bytes" "[B" (.ref b) := (Fld.other W_6 P1 (Or.inr (slot_ne (Or.inr (hw _ (List.mem_of_getElem? (i := 18) rfl))) (Or.inl (hw _ (List.mem_of_getElem? (i := 37) rfl))) (by decide) (t := (.array .byte)) (t' := .int) (by decide) (by decide))))
  refine ⟨_, _, retI X_6 hx Bd.returns (hb hby d4_31) hr, hrun, hended, _, _, rfl, ?_, ⟨_, rfl⟩, hW, hsame.mono (by decide) (by decide)⟩
  show Q4b Z a d b k x0 x1 x2 h0 n0 _ T_6.heap _
  rw [e_6]
  exact ⟨rfl, N_6, K_6, f_7, f_8, ((show ((1 : Int32) + (1 : Int32)) = (2 : Int32) from by decide) ▸ f_6)⟩
theorem ef_4c (m : MethodId) (a : Addr) (d : Addr) : entryFrame m #[(.ref a), (.ref d)] 3 = mkF m 0 #[.val (.ref a), .val (.ref d), .unset] [] := by first | (simp [entryFrame, mkF, argsToLocals, Value.category]; done) | rfl
def Q4c (Z : State) (a : Addr) (d : Addr) (b : Addr) (k : ClassId) (x0 : Int32) (x1 : Int32) (x2 : Int32) (h0 : Heap) (n0 : Nat) (v : Option Value) (h : Heap) (L : List Loc) : Prop := v = some (.int (x2 &&& (255 : Int32))) ∧ Fr n0 L ∧ Keep h0 h [a] ∧ Exa Z h a "com/example/hailport/hailport/wire/ByteReader" ∧ Fld Z h a "com/example/hailport/hailport/wire/ByteReader" "bytes" "[B" (.ref b) ∧ Fld Z h a "com/example/hailport/hailport/wire/ByteReader" "position" "I" (.int (3 : Int32))
set_option maxRecDepth 65536 in
set_option maxHeartbeats 40000000 in
theorem rm4c (l : Launch) (Z : State) (a0 : Array Value) (hw : ∀ d ∈ tables_1, d.before a0 Z = true) (ws : List Jvm.Cond) (a : Addr) (d : Addr) (b : Addr) (k : ClassId) (x0 : Int32) (x1 : Int32) (x2 : Int32) (h0 : Heap) (n0 : Nat) (Z0 : n0 ≤ h0.size) (P0 : Exa Z h0 a "com/example/hailport/hailport/wire/ByteReader") (P1 : Fld Z h0 a "com/example/hailport/hailport/wire/ByteReader" "bytes" "[B" (.ref b)) (P2 : Arv Z h0 b k .byte (3 : Int32) [(.int x0), (.int x1), (.int x2)] (.int (0 : Int32))) (P3 : Fld Z h0 a "com/example/hailport/hailport/wire/ByteReader" "position" "I" (.int (2 : Int32))) (g_a : n0 ≤ a) (ne_a_b : a ≠ b) :
    MetFree l (⟨"com/example/hailport/hailport/wire/ByteReader", "readUnsignedByte", "(Ljava/lang/String;)I"⟩ : MethodName) (head1 (Jvm.Cond.code (⟨"com/example/hailport/hailport/wire/ByteReader", "readUnsignedByte", "(Ljava/lang/String;)I"⟩ : MethodName) prog_48_method_2_code 3 (some .int) :: ws) ({ frames := 2, cells := 0, slots := 0, locals := 26 } : Room)) (fun ar_ U => ar_ = #[(.ref a), (.ref d)] ∧ Z.Warmed39 U.vm ∧ U.heap = h0) (fun _ _ _ _ _ => True) (fun _ U o U' => ∃ v L, o = .returned v ∧ Q4c Z a d b k x0 x1 x2 h0 n0 v U'.heap L ∧ FrameEnd U o U' L ({ frames := 2, cells := 0, slots := 0, locals := 26 } : Room).cells ({ frames := 2, cells := 0, slots := 0, locals := 26 } : Room).slots) := by
  refine MetFree.of_bodySF (plainFor_of_name pn_0) hisR ?_
  intro p e s m args below meth c s₁ Bd hml0 hP hK
  obtain ⟨rfl, hZ, hh⟩ := hP
  have hx := Bd.exec
  have hby := Bd.bytes
  have hml : c.maxLocals = 3 := hml0
  have hown : s.vm.findClass "com/example/hailport/hailport/wire/ByteReader" = some m.cls := findClass_of_methodNamed Bd.named
  have hnm := (name_of_methodNamed Bd.named Bd.method).1
  have X0 : Stand p l e ({ frames := 2, cells := 0, slots := 0, locals := 26 } : Room) s m #[(.ref a), (.ref d)] below meth c s₁ [] 0 0 := Stand.of_body Bd
  have e0 : s₁.heap = h0 := by rw [← hh, Bd.state]; rfl
  have N0 := Fr.nil n0
  refine own_gl ?_
  refine own_st (S' := s₁.setTop (mkF m 0 #[.val (.ref a), .val (.ref d), .unset] [])) (fun t_ k_ => castTop (ef_4c m a d) k_) ?_
  refine own_st (S' := s₁.setTop (mkF m 1 #[.val (.ref a), .val (.ref d), .unset] [(.ref a)])) (fun t_ k_ => XS.aloadN X0.here hx rfl (hb hby d4_0) rfl rfl k_) ?_
  refine own_st (S' := s₁.setTop (mkF m 2 #[.val (.ref a), .val (.ref d), .unset] [(.int (1 : Int32)), (.ref a)])) (fun t_ k_ => XS.iconst X0.here hx rfl (hb hby d4_1) k_) ?_
  refine own_st (S' := s₁.setTop (mkF m 3 #[.val (.ref a), .val (.ref d), .unset] [(.ref d), (.int (1 : Int32)), (.ref a)])) (fun t_ k_ => XS.aloadN X0.here hx rfl (hb hby d4_2) rfl rfl k_) ?_
  obtain ⟨cq_1, qa_1, qb_1⟩ := P0.cell
  obtain ⟨_, _, ⟨T_1, L_1, k_1, n_1⟩, -, X_1, ⟨Lc_1, hQ_1, l_1, y_1, z_1⟩, st_1⟩ := X0.privateBack hx (y := (⟨"com/example/hailport/hailport/wire/ByteReader", "require", "(ILjava/lang/String;)V"⟩ : MethodName)) hown (mvT hZ (hw _ (List.mem_of_getElem? (i := 27) rfl))) (mvT hZ (hw _ (List.mem_of_getElem? (i := 28) rfl))) (own_selfsel (y := (⟨"com/example/hailport/hailport/wire/ByteReader", "require", "(ILjava/lang/String;)V"⟩ : MethodName)) (mvT hZ (hw _ (List.mem_of_getElem? (i := 2) rfl))) (mvP hZ (hw _ (List.mem_of_getElem? (i := 29) rfl))) (mvT hZ (hw _ (List.mem_of_getElem? (i := 28) rfl))) (by decide)) (Cond.privateMethod_at (mvP hZ (hw _ (List.mem_of_getElem? (i := 29) rfl)) (args := #[]))) (mvT hZ (hw _ (List.mem_of_getElem? (i := 30) rfl))) (by decide) (backOf (W := 0) (rm3 l Z a0 hw [] a (1 : Int32) d b k x0 x1 x2 (2 : Int32) h0 n0 Z0 P0 P1 P2 P3 (by decide)) hZ (hw _ (List.mem_of_getElem? (i := 30) rfl)) (hw _ (List.mem_of_getElem? (i := 3) rfl)) (by decide) (by decide)) (g := (mkF m 3 #[.val (.ref a), .val (.ref d), .unset] [(.ref d), (.int (1 : Int32)), (.ref a)])) rfl (by rw [hml]; rfl) (Steps.refl _) (a := a) (by rw [e0]; exact qa_1) qb_1 (argsL := [(.int (1 : Int32)), (.ref d)]) (rest := []) (lenOf pd_1 rfl) rfl (by show 2 * 0 + _ ≤ _; exact Nat.le_of_eq rfl) (hb hby d4_3) (fun _ _ => ⟨rfl, e0, (by decide : 0 + 0 ≤ _), (by decide : 0 + 0 ≤ _)⟩)
  dsimp only [Pt.U, Pt.locs, Pt.cells, Pt.slots] at X_1 l_1 y_1 z_1 st_1 hQ_1
  subst l_1 y_1 z_1
  obtain ⟨rfl, M_1, q_1⟩ := hQ_1
  have N_1 := Fr.app N0 M_1
  refine own_st (S' := T_1.setTop (mkF m 6 #[.val (.ref a), .val (.ref d), .unset] [])) (fun t_ k_ => st_1.trans k_) ?_
  refine own_st (S' := T_1.setTop (mkF m 7 #[.val (.ref a), .val (.ref d), .unset] [(.ref a)])) (fun t_ k_ => XS.aloadN X_1.here hx rfl (hb hby d4_6) rfl rfl k_) ?_
  obtain ⟨T_2, X_2, e_2, st_2⟩ := getF X_1 hx hZ hown (host := "") (Or.inl (hw _ (List.mem_of_getElem? (i := 17) rfl))) Via.refl q_1 P1 (g := (mkF m 7 #[.val (.ref a), .val (.ref d), .unset] [(.ref a)])) rfl rfl (hb hby d4_7)
  refine own_st (S' := T_2.setTop (mkF m 10 #[.val (.ref a), .val (.ref d), .unset] [(.ref b)])) st_2 ?_
  refine own_st (S' := T_2.setTop (mkF m 11 #[.val (.ref a), .val (.ref d), .unset] [(.ref a), (.ref b)])) (fun t_ k_ => XS.aloadN X_2.here hx rfl (hb hby d4_10) rfl rfl k_) ?_
  obtain ⟨T_3, X_3, e_3, st_3⟩ := getF X_2 hx hZ hown (host := "") (Or.inl (hw _ (List.mem_of_getElem? (i := 36) rfl))) Via.refl e_2 P3 (g := (mkF m 11 #[.val (.ref a), .val (.ref d), .unset] [(.ref a), (.ref b)])) rfl rfl (hb hby d4_11)
  refine own_st (S' := T_3.setTop (mkF m 14 #[.val (.ref a), .val (.ref d), .unset] [(.int (2 : Int32)), (.ref b)])) st_3 ?_
  obtain ⟨cl_4, Ar_4, q_4, S_4, M_4, H_4, G_4⟩ := P2
  have hin_4 : ¬ ((2 : Int32) < 0 ∨ cl_4.slots.size ≤ ((2 : Int32)).toNatClampNeg) := inb_of S_4 ⟨by decide, by decide⟩
  have hat_4 : cl_4.slots[((2 : Int32)).toNatClampNeg]? = some (.int x2) := H_4.at hin_4 rfl
  refine own_st (S' := T_3.setTop (mkF m 15 #[.val (.ref a), .val (.ref d), .unset] [(.int x2)])) (fun t_ k_ => X_3.baloadBytes hx (j := (2 : Int32)) (v := (.int x2)) (by rw [e_3]; exact Ar_4.1) (State.isArrayOf_alike hZ.alike Ar_4.2.1) Ar_4.2.2 hin_4 hat_4 (g := (mkF m 14 #[.val (.ref a), .val (.ref d), .unset] [(.int (2 : Int32)), (.ref b)])) rfl rfl (hb hby d4_14) _ k_) ?_
  refine own_st (S' := T_3.setTop (mkF m 18 #[.val (.ref a), .val (.ref d), .unset] [(.int (255 : Int32)), (.int x2)])) (fun t_ k_ => XS.sipush X_3.here hx rfl (hb hby d4_15) k_) ?_
  refine own_st (S' := T_3.setTop (mkF m 19 #[.val (.ref a), .val (.ref d), .unset] [(.int (x2 &&& (255 : Int32)))])) (fun t_ k_ => XS.iand X_3.here hx rfl (hb hby d4_18) rfl k_) ?_
  refine own_st (S' := T_3.setTop (mkF m 20 #[.val (.ref a), .val (.ref d), .val (.int (x2 &&& (255 : Int32)))] [])) (fun t_ k_ => XS.istoreN X_3.here hx rfl (hb hby d4_19) rfl (l' := #[.val (.ref a), .val (.ref d), .val (.int (x2 &&& (255 : Int32)))]) rfl k_) ?_
  refine own_st (S' := T_3.setTop (mkF m 21 #[.val (.ref a), .val (.ref d), .val (.int (x2 &&& (255 : Int32)))] [(.ref a)])) (fun t_ k_ => XS.aloadN X_3.here hx rfl (hb hby d4_20) rfl rfl k_) ?_
  refine own_st (S' := T_3.setTop (mkF m 22 #[.val (.ref a), .val (.ref d), .val (.int (x2 &&& (255 : Int32)))] [(.ref a), (.ref a)])) (fun t_ k_ => XS.dup X_3.here hx rfl (hb hby d4_21) rfl rfl k_) ?_
  obtain ⟨T_5, X_5, e_5, st_5⟩ := getF X_3 hx hZ hown (host := "") (Or.inl (hw _ (List.mem_of_getElem? (i := 36) rfl))) Via.refl e_3 P3 (g := (mkF m 22 #[.val (.ref a), .val (.ref d), .val (.int (x2 &&& (255 : Int32)))] [(.ref a), (.ref a)])) rfl rfl (hb hby d4_22)
  refine own_st (S' := T_5.setTop (mkF m 25 #[.val (.ref a), .val (.ref d), .val (.int (x2 &&& (255 : Int32)))] [(.int (2 : Int32)), (.ref a)])) st_5 ?_
  refine own_st (S' := T_5.setTop (mkF m 26 #[.val (.ref a), .val (.ref d), .val (.int (x2 &&& (255 : Int32)))] [(.int (1 : Int32)), (.int (2 : Int32)), (.ref a)])) (fun t_ k_ => XS.iconst X_5.here hx rfl (hb hby d4_25) k_) ?_
  refine own_st (S' := T_5.setTop (mkF m 27 #[.val (.ref a), .val (.ref d), .val (.int (x2 &&& (255 : Int32)))] [(.int ((2 : Int32) + (1 : Int32))), (.ref a)])) (fun t_ k_ => XS.iadd X_5.here hx rfl (hb hby d4_26) rfl k_) ?_
  obtain ⟨T_6, h_6, X_6, e_6, W_6, st_6⟩ := putF X_5 hx hZ hown (host := "") (Or.inl (hw _ (List.mem_of_getElem? (i := 36) rfl))) Via.refl e_5 P3 P0 (Or.inl (hw _ (List.mem_of_getElem? (i := 37) rfl))) (hw _ (List.mem_of_getElem? (i := 2) rfl)) (ty := .int) (by decide) rfl rfl (g := (mkF m 27 #[.val (.ref a), .val (.ref d), .val (.int (x2 &&& (255 : Int32)))] [(.int ((2 : Int32) + (1 : Int32))), (.ref a)])) rfl rfl (hb hby d4_27)
  have Z_6 : n0 ≤ h_6.size := Nat.le_trans Z0 (Keep.of_wr W_6).1
  have N_6 := Fr.snoc X_6 N_1 g_a
  have K_6 : Keep h0 h_6 [a] := (Keep.refl h0 [a]).wr W_6 (Or.inl (List.mem_of_getElem? (i := 0) rfl))
  have f_6 : Fld Z h_6 a "com/example/hailport/hailport/wire/ByteReader" "position" "I" (.int ((2 : Int32) + (1 : Int32))) := Fld.same W_6 P3
  refine own_st (S' := T_6.setTop (mkF m 30 #[.val (.ref a), .val (.ref d), .val (.int (x2 &&& (255 : Int32)))] [])) st_6 ?_
  refine own_st (S' := T_6.setTop (mkF m 31 #[.val (.ref a), .val (.ref d), .val (.int (x2 &&& (255 : Int32)))] [(.int (x2 &&& (255 : Int32)))])) (fun t_ k_ => XS.iloadN X_6.here hx rfl (hb hby d4_30) rfl k_) ?_
  obtain ⟨fs, hr, hrun, hended, hW, hsame⟩ := X_6.leave (v := some (.int (x2 &&& (255 : Int32)))) (fun h => by rw [Bd.returns] at h; cases h)
  have f_7 : Exa Z h_6 a "com/example/hailport/hailport/wire/ByteReader" := (Exa.wr W_6 P0)
  have f_8 : Fld Z h_6 a "com/example/hailport/hailport/wire/ByteReader" "bytes" "[B" (.ref b) := (Fld.other W_6 P1 (Or.inr (slot_ne (Or.inr (hw _ (List.mem_of_getElem? (i := 18) rfl))) (Or.inl (hw _ (List.mem_of_getElem? (i := 37) rfl))) (by decide) (t := (.array .byte)) (t' := .int) (by decide) (by decide))))
  refine ⟨_, _, retI X_6 hx Bd.returns (hb hby d4_31) hr, hrun, hended, _, _, rfl, ?_, ⟨_, rfl⟩, hW, hsame.mono (by decide) (by decide)⟩
  show Q4c Z a d b k x0 x1 x2 h0 n0 _ T_6.heap _
  rw [e_6]
  exact ⟨rfl, N_6, K_6, f_7, f_8, ((show ((2 : Int32) + (1 : Int32)) = (3 : Int32) from by decide) ▸ f_6)⟩
theorem d5_0 : decode method_3_code 0 = .ok (.iload_n 0, 1) := by decide +kernel
theorem d5_1 : decode method_3_code 1 = .ok (.sipush 256, 3) := by decide +kernel
theorem d5_4 : decode method_3_code 4 = .ok (.irem, 1) := by decide +kernel
theorem d5_5 : decode method_3_code 5 = .ok (.sipush 256, 3) := by decide +kernel
theorem d5_8 : decode method_3_code 8 = .ok (.iadd, 1) := by decide +kernel
theorem d5_9 : decode method_3_code 9 = .ok (.sipush 256, 3) := by decide +kernel
theorem d5_12 : decode method_3_code 12 = .ok (.irem, 1) := by decide +kernel
theorem d5_13 : decode method_3_code 13 = .ok (.ireturn, 1) := by decide +kernel
theorem pn_1 : plainName "com/example/hailport/hailport/wire/ByteReaderReadUnsignedBytePinLaw" = true := by first | (simp [plainName, overriddenIn]; done) | decide +kernel
theorem ef_5 (m : MethodId) (x : Int32) : entryFrame m #[(.int x)] 1 = mkF m 0 #[.val (.int x)] [] := by first | (simp [entryFrame, mkF, argsToLocals, Value.category]; done) | rfl
def Q5 (Z : State) (x : Int32) (h0 : Heap) (n0 : Nat) (v : Option Value) (h : Heap) (L : List Loc) : Prop := v = some (.int (own_low8 x)) ∧ Fr n0 L ∧ h = h0
set_option maxRecDepth 65536 in
set_option maxHeartbeats 40000000 in
theorem rm5 (l : Launch) (Z : State) (a0 : Array Value) (hw : ∀ d ∈ tables_1, d.before a0 Z = true) (ws : List Jvm.Cond) (x : Int32) (h0 : Heap) (n0 : Nat) (Z0 : n0 ≤ h0.size)  :
    MetFree l (⟨"com/example/hailport/hailport/wire/ByteReaderReadUnsignedBytePinLaw", "low8", "(I)I"⟩ : MethodName) (head1 (Jvm.Cond.code (⟨"com/example/hailport/hailport/wire/ByteReaderReadUnsignedBytePinLaw", "low8", "(I)I"⟩ : MethodName) method_3_code 1 (some .int) :: ws) ({ frames := 0, cells := 0, slots := 0, locals := 0 } : Room)) (fun ar_ U => ar_ = #[(.int x)] ∧ Z.Warmed39 U.vm ∧ U.heap = h0) (fun _ _ _ _ _ => True) (fun _ U o U' => ∃ v L, o = .returned v ∧ Q5 Z x h0 n0 v U'.heap L ∧ FrameEnd U o U' L ({ frames := 0, cells := 0, slots := 0, locals := 0 } : Room).cells ({ frames := 0, cells := 0, slots := 0, locals := 0 } : Room).slots) := by
  refine MetFree.of_bodySF (plainFor_of_name pn_1) hisR ?_
  intro p e s m args below meth c s₁ Bd hml0 hP hK
  obtain ⟨rfl, hZ, hh⟩ := hP
  have hx := Bd.exec
  have hby := Bd.bytes
  have hml : c.maxLocals = 1 := hml0
  have hown : s.vm.findClass "com/example/hailport/hailport/wire/ByteReaderReadUnsignedBytePinLaw" = some m.cls := findClass_of_methodNamed Bd.named
  have hnm := (name_of_methodNamed Bd.named Bd.method).1
  have X0 : Stand p l e ({ frames := 0, cells := 0, slots := 0, locals := 0 } : Room) s m #[(.int x)] below meth c s₁ [] 0 0 := Stand.of_body Bd
  have e0 : s₁.heap = h0 := by rw [← hh, Bd.state]; rfl
  have N0 := Fr.nil n0
  refine own_gl ?_
  refine own_st (S' := s₁.setTop (mkF m 0 #[.val (.int x)] [])) (fun t_ k_ => castTop (ef_5 m x) k_) ?_
  refine own_st (S' := s₁.setTop (mkF m 1 #[.val (.int x)] [(.int x)])) (fun t_ k_ => XS.iloadN X0.here hx rfl (hb hby d5_0) rfl k_) ?_
  refine own_st (S' := s₁.setTop (mkF m 4 #[.val (.int x)] [(.int (256 : Int32)), (.int x)])) (fun t_ k_ => XS.sipush X0.here hx rfl (hb hby d5_1) k_) ?_
  refine own_st (S' := s₁.setTop (mkF m 5 #[.val (.int x)] [(.int (x % (256 : Int32)))])) (fun t_ k_ => iremM (g := (mkF m 4 #[.val (.int x)] [(.int (256 : Int32)), (.int x)])) X0 hx rfl (hb hby d5_4) rfl (by decide) k_) ?_
  refine own_st (S' := s₁.setTop (mkF m 8 #[.val (.int x)] [(.int (256 : Int32)), (.int (x % (256 : Int32)))])) (fun t_ k_ => XS.sipush X0.here hx rfl (hb hby d5_5) k_) ?_
  refine own_st (S' := s₁.setTop (mkF m 9 #[.val (.int x)] [(.int ((x % (256 : Int32)) + (256 : Int32)))])) (fun t_ k_ => XS.iadd X0.here hx rfl (hb hby d5_8) rfl k_) ?_
  refine own_st (S' := s₁.setTop (mkF m 12 #[.val (.int x)] [(.int (256 : Int32)), (.int ((x % (256 : Int32)) + (256 : Int32)))])) (fun t_ k_ => XS.sipush X0.here hx rfl (hb hby d5_9) k_) ?_
  refine own_st (S' := s₁.setTop (mkF m 13 #[.val (.int x)] [(.int (((x % (256 : Int32)) + (256 : Int32)) % (256 : Int32)))])) (fun t_ k_ => iremM (g := (mkF m 12 #[.val (.int x)] [(.int (256 : Int32)), (.int ((x % (256 : Int32)) + (256 : Int32)))])) X0 hx rfl (hb hby d5_12) rfl (by decide) k_) ?_
  obtain ⟨fs, hr, hrun, hended, hW, hsame⟩ := X0.leave (v := some (.int (((x % (256 : Int32)) + (256 : Int32)) % (256 : Int32)))) (fun h => by rw [Bd.returns] at h; cases h)
  refine ⟨_, _, retI X0 hx Bd.returns (hb hby d5_13) hr, hrun, hended, _, _, rfl, ?_, ⟨_, rfl⟩, hW, hsame.mono (by decide) (by decide)⟩
  show Q5 Z x h0 n0 _ s₁.heap _
  rw [e0]
  exact ⟨(congrArg (fun z => some (Value.int z)) (show (((x % (256 : Int32)) + (256 : Int32)) % (256 : Int32)) = (own_low8 x) from by rfl)), N0, rfl⟩
theorem ef_0 (m : MethodId) (p0 : Int32) (p1 : Int32) (p2 : Int32) : entryFrame m #[(.int p0), (.int p1), (.int p2)] maxLocals = mkF m 0 #[.val (.int p0), .val (.int p1), .val (.int p2), .unset, .unset, .unset, .unset, .unset, .unset, .unset, .unset] [] := by first | (simp [entryFrame, mkF, argsToLocals, Value.category, maxLocals]; done) | rfl
theorem pd_2 : parseMethodDescriptor "([BLjava/lang/String;)V" = some ⟨[(.array .byte), (.object "java/lang/String")], none⟩ := by decide +kernel
theorem pd_3 : parseMethodDescriptor "(Ljava/lang/String;)I" = some ⟨[(.object "java/lang/String")], some .int⟩ := by decide +kernel
theorem pd_4 : parseMethodDescriptor "(I)I" = some ⟨[.int], some .int⟩ := by decide +kernel
def Q0 (Z : State) (p0 : Int32) (p1 : Int32) (p2 : Int32) (h0 : Heap) (n0 : Nat) (v : Option Value) (h : Heap) (L : List Loc) : Prop := v = some (.int (1 : Int32)) ∧ Fr n0 L
set_option maxRecDepth 65536 in
set_option maxHeartbeats 40000000 in
theorem rm0 (l : Launch) (Z : State) (a0 : Array Value) (hw : ∀ d ∈ tables_1, d.before a0 Z = true) (ws : List Jvm.Cond) (p0 : Int32) (p1 : Int32) (p2 : Int32) (h0 : Heap) (n0 : Nat) (Z0 : n0 ≤ h0.size)  :
    MetFree l x (head1 (Jvm.Cond.code x code maxLocals ret :: ws) room_1) (fun ar_ U => ar_ = #[(.int p0), (.int p1), (.int p2)] ∧ Z.Warmed39 U.vm ∧ U.heap = h0) (fun _ _ _ _ _ => True) (fun _ U o U' => ∃ v L, o = .returned v ∧ Q0 Z p0 p1 p2 h0 n0 v U'.heap L ∧ ReturnedEndW U o U' L room_1.cells room_1.slots) := by
  refine MetFree.of_bodySF (plainFor_of_name pn_1) hisR ?_
  intro p e s m args below meth c s₁ Bd hml0 hP hK
  obtain ⟨rfl, hZ, hh⟩ := hP
  have hx := Bd.exec
  have hby := Bd.bytes
  have hml : c.maxLocals = 11 := hml0
  have hown : s.vm.findClass "com/example/hailport/hailport/wire/ByteReaderReadUnsignedBytePinLaw" = some m.cls := findClass_of_methodNamed Bd.named
  have hnm := (name_of_methodNamed Bd.named Bd.method).1
  have X0 : Stand p l e room_1 s m #[(.int p0), (.int p1), (.int p2)] below meth c s₁ [] 0 0 := Stand.of_body Bd
  have e0 : s₁.heap = h0 := by rw [← hh, Bd.state]; rfl
  have N0 := Fr.nil n0
  have wS := own_wS hw
  refine own_gl ?_
  refine own_st (S' := s₁.setTop (mkF m 0 #[.val (.int p0), .val (.int p1), .val (.int p2), .unset, .unset, .unset, .unset, .unset, .unset, .unset, .unset] [])) (fun t_ k_ => castTop (ef_0 m p0 p1 p2) k_) ?_
  refine own_st (S' := s₁.setTop (mkF m 1 #[.val (.int p0), .val (.int p1), .val (.int p2), .unset, .unset, .unset, .unset, .unset, .unset, .unset, .unset] [(.int (3 : Int32))])) (fun t_ k_ => XS.iconst X0.here hx rfl (hb hby at_0) k_) ?_
  obtain ⟨T_1, h_1, k_1, X_1, e_1, E_1, A_1, st_1⟩ := newP X0 hx hZ (hw _ (List.mem_of_getElem? (i := 0) rfl)) e0 (g := (mkF m 1 #[.val (.int p0), .val (.int p1), .val (.int p2), .unset, .unset, .unset, .unset, .unset, .unset, .unset, .unset] [(.int (3 : Int32))])) rfl (hb hby at_1) rfl (by decide) (cap := 3) (by decide) (by decide) (by decide) (by decide)
  obtain ⟨b_1, gg_1⟩ : ∃ z, z = h0.size := ⟨_, rfl⟩
  rw [← gg_1] at A_1 st_1
  have g_b_1 : n0 ≤ b_1 := Nat.le_trans Z0 (Nat.le_of_eq gg_1.symm)
  have Z_1 : n0 ≤ h_1.size := Nat.le_trans Z0 E_1.1
  have V_1 : Arv Z h_1 b_1 k_1 .byte (3 : Int32) [(.int (0 : Int32)), (.int (0 : Int32)), (.int (0 : Int32))] (.int (0 : Int32)) := (Arv.new A_1 (by decide)).pad (pad_rep [] (.int (0 : Int32)) 3)
  refine own_st (S' := T_1.setTop (mkF m 3 #[.val (.int p0), .val (.int p1), .val (.int p2), .unset, .unset, .unset, .unset, .unset, .unset, .unset, .unset] [(.ref b_1)])) st_1 ?_
  refine own_st (S' := T_1.setTop (mkF m 4 #[.val (.int p0), .val (.int p1), .val (.int p2), .unset, .unset, .unset, .unset, .unset, .unset, .unset, .unset] [(.ref b_1), (.ref b_1)])) (fun t_ k_ => XS.dup X_1.here hx rfl (hb hby at_3) rfl rfl k_) ?_
  refine own_st (S' := T_1.setTop (mkF m 5 #[.val (.int p0), .val (.int p1), .val (.int p2), .unset, .unset, .unset, .unset, .unset, .unset, .unset, .unset] [(.int (0 : Int32)), (.ref b_1), (.ref b_1)])) (fun t_ k_ => XS.iconst X_1.here hx rfl (hb hby at_4) k_) ?_
  refine own_st (S' := T_1.setTop (mkF m 6 #[.val (.int p0), .val (.int p1), .val (.int p2), .unset, .unset, .unset, .unset, .unset, .unset, .unset, .unset] [(.int p0), (.int (0 : Int32)), (.ref b_1), (.ref b_1)])) (fun t_ k_ => XS.iloadN X_1.here hx rfl (hb hby at_5) rfl k_) ?_
  refine own_st (S' := T_1.setTop (mkF m 7 #[.val (.int p0), .val (.int p1), .val (.int p2), .unset, .unset, .unset, .unset, .unset, .unset, .unset, .unset] [(.int (p0.toInt8.toInt32)), (.int (0 : Int32)), (.ref b_1), (.ref b_1)])) (fun t_ k_ => XS.i2b X_1.here hx rfl (hb hby at_6) rfl k_) ?_
  obtain ⟨cl_2, Ar_2, q_2, S_2, M_2, H_2, G_2⟩ := V_1
  have hin_2 : ¬ ((0 : Int32) < 0 ∨ cl_2.slots.size ≤ ((0 : Int32)).toNatClampNeg) := inb_of S_2 ⟨by decide, by decide⟩
  obtain ⟨T_2, h_2, X_2, e_2, W_2, st_2⟩ := stB X_1 hx hZ e_1 Ar_2 (j := (0 : Int32)) hin_2 (g := (mkF m 7 #[.val (.int p0), .val (.int p1), .val (.int p2), .unset, .unset, .unset, .unset, .unset, .unset, .unset, .unset] [(.int (p0.toInt8.toInt32)), (.int (0 : Int32)), (.ref b_1), (.ref b_1)])) rfl rfl (hb hby at_7)
  have Z_2 : n0 ≤ h_2.size := Nat.le_trans Z_1 (Keep.of_wr W_2).1
  have N_2 := Fr.snoc X_2 N0 g_b_1
  have V_2 : Arv Z h_2 b_1 k_1 .byte (3 : Int32) [(.int (nar .byte (p0.toInt8.toInt32))), (.int (0 : Int32)), (.int (0 : Int32))] (.int (0 : Int32)) := Arv.set Ar_2 q_2 S_2 M_2 H_2 G_2 (fits_nar_byte _) W_2 0 rfl (Nat.le_of_ble_eq_true rfl)
  refine own_st (S' := T_2.setTop (mkF m 8 #[.val (.int p0), .val (.int p1), .val (.int p2), .unset, .unset, .unset, .unset, .unset, .unset, .unset, .unset] [(.ref b_1)])) st_2 ?_
  refine own_st (S' := T_2.setTop (mkF m 9 #[.val (.int p0), .val (.int p1), .val (.int p2), .unset, .unset, .unset, .unset, .unset, .unset, .unset, .unset] [(.ref b_1), (.ref b_1)])) (fun t_ k_ => XS.dup X_2.here hx rfl (hb hby at_8) rfl rfl k_) ?_
  refine own_st (S' := T_2.setTop (mkF m 10 #[.val (.int p0), .val (.int p1), .val (.int p2), .unset, .unset, .unset, .unset, .unset, .unset, .unset, .unset] [(.int (1 : Int32)), (.ref b_1), (.ref b_1)])) (fun t_ k_ => XS.iconst X_2.here hx rfl (hb hby at_9) k_) ?_
  refine own_st (S' := T_2.setTop (mkF m 11 #[.val (.int p0), .val (.int p1), .val (.int p2), .unset, .unset, .unset, .unset, .unset, .unset, .unset, .unset] [(.int p1), (.int (1 : Int32)), (.ref b_1), (.ref b_1)])) (fun t_ k_ => XS.iloadN X_2.here hx rfl (hb hby at_10) rfl k_) ?_
  refine own_st (S' := T_2.setTop (mkF m 12 #[.val (.int p0), .val (.int p1), .val (.int p2), .unset, .unset, .unset, .unset, .unset, .unset, .unset, .unset] [(.int (p1.toInt8.toInt32)), (.int (1 : Int32)), (.ref b_1), (.ref b_1)])) (fun t_ k_ => XS.i2b X_2.here hx rfl (hb hby at_11) rfl k_) ?_
  obtain ⟨cl_3, Ar_3, q_3, S_3, M_3, H_3, G_3⟩ := V_2
  have hin_3 : ¬ ((1 : Int32) < 0 ∨ cl_3.slots.size ≤ ((1 : Int32)).toNatClampNeg) := inb_of S_3 ⟨by decide, by decide⟩
  obtain ⟨T_3, h_3, X_3, e_3, W_3, st_3⟩ := stB X_2 hx hZ e_2 Ar_3 (j := (1 : Int32)) hin_3 (g := (mkF m 12 #[.val (.int p0), .val (.int p1), .val (.int p2), .unset, .unset, .unset, .unset, .unset, .unset, .unset, .unset] [(.int (p1.toInt8.toInt32)), (.int (1 : Int32)), (.ref b_1), (.ref b_1)])) rfl rfl (hb hby at_12)
  have Z_3 : n0 ≤ h_3.size := Nat.le_trans Z_2 (Keep.of_wr W_3).1
  have N_3 := Fr.snoc X_3 N_2 g_b_1
  have V_3 : Arv Z h_3 b_1 k_1 .byte (3 : Int32) [(.int (nar .byte (p0.toInt8.toInt32))), (.int (nar .byte (p1.toInt8.toInt32))), (.int (0 : Int32))] (.int (0 : Int32)) := Arv.set Ar_3 q_3 S_3 M_3 H_3 G_3 (fits_nar_byte _) W_3 1 rfl (Nat.le_of_ble_eq_true rfl)
  refine own_st (S' := T_3.setTop (mkF m 13 #[.val (.int p0), .val (.int p1), .val (.int p2), .unset, .unset, .unset, .unset, .unset, .unset, .unset, .unset] [(.ref b_1)])) st_3 ?_
  refine own_st (S' := T_3.setTop (mkF m 14 #[.val (.int p0), .val (.int p1), .val (.int p2), .unset, .unset, .unset, .unset, .unset, .unset, .unset, .unset] [(.ref b_1), (.ref b_1)])) (fun t_ k_ => XS.dup X_3.here hx rfl (hb hby at_13) rfl rfl k_) ?_
  refine own_st (S' := T_3.setTop (mkF m 15 #[.val (.int p0), .val (.int p1), .val (.int p2), .unset, .unset, .unset, .unset, .unset, .unset, .unset, .unset] [(.int (2 : Int32)), (.ref b_1), (.ref b_1)])) (fun t_ k_ => XS.iconst X_3.here hx rfl (hb hby at_14) k_) ?_
  refine own_st (S' := T_3.setTop (mkF m 16 #[.val (.int p0), .val (.int p1), .val (.int p2), .unset, .unset, .unset, .unset, .unset, .unset, .unset, .unset] [(.int p2), (.int (2 : Int32)), (.ref b_1), (.ref b_1)])) (fun t_ k_ => XS.iloadN X_3.here hx rfl (hb hby at_15) rfl k_) ?_
  refine own_st (S' := T_3.setTop (mkF m 17 #[.val (.int p0), .val (.int p1), .val (.int p2), .unset, .unset, .unset, .unset, .unset, .unset, .unset, .unset] [(.int (p2.toInt8.toInt32)), (.int (2 : Int32)), (.ref b_1), (.ref b_1)])) (fun t_ k_ => XS.i2b X_3.here hx rfl (hb hby at_16) rfl k_) ?_
  obtain ⟨cl_4, Ar_4, q_4, S_4, M_4, H_4, G_4⟩ := V_3
  have hin_4 : ¬ ((2 : Int32) < 0 ∨ cl_4.slots.size ≤ ((2 : Int32)).toNatClampNeg) := inb_of S_4 ⟨by decide, by decide⟩
  obtain ⟨T_4, h_4, X_4, e_4, W_4, st_4⟩ := stB X_3 hx hZ e_3 Ar_4 (j := (2 : Int32)) hin_4 (g := (mkF m 17 #[.val (.int p0), .val (.int p1), .val (.int p2), .unset, .unset, .unset, .unset, .unset, .unset, .unset, .unset] [(.int (p2.toInt8.toInt32)), (.int (2 : Int32)), (.ref b_1), (.ref b_1)])) rfl rfl (hb hby at_17)
  have Z_4 : n0 ≤ h_4.size := Nat.le_trans Z_3 (Keep.of_wr W_4).1
  have N_4 := Fr.snoc X_4 N_3 g_b_1
  have V_4 : Arv Z h_4 b_1 k_1 .byte (3 : Int32) [(.int (nar .byte (p0.toInt8.toInt32))), (.int (nar .byte (p1.toInt8.toInt32))), (.int (nar .byte (p2.toInt8.toInt32)))] (.int (0 : Int32)) := Arv.set Ar_4 q_4 S_4 M_4 H_4 G_4 (fits_nar_byte _) W_4 2 rfl (Nat.le_of_ble_eq_true rfl)
  refine own_st (S' := T_4.setTop (mkF m 18 #[.val (.int p0), .val (.int p1), .val (.int p2), .unset, .unset, .unset, .unset, .unset, .unset, .unset, .unset] [(.ref b_1)])) st_4 ?_
  refine own_st (S' := T_4.setTop (mkF m 19 #[.val (.int p0), .val (.int p1), .val (.int p2), .val (.ref b_1), .unset, .unset, .unset, .unset, .unset, .unset, .unset] [])) (fun t_ k_ => XS.astoreN X_4.here hx rfl (hb hby at_18) rfl rfl (l' := #[.val (.int p0), .val (.int p1), .val (.int p2), .val (.ref b_1), .unset, .unset, .unset, .unset, .unset, .unset, .unset]) rfl k_) ?_
  obtain ⟨T_5, h_5, X_5, e_5, E_5, A_5, D_5, -, st_5⟩ := newO X_4 hx hZ hown (hw _ (List.mem_of_getElem? (i := 1) rfl)) (hw _ (List.mem_of_getElem? (i := 2) rfl)) (hw _ (List.mem_of_getElem? (i := 3) rfl)) e_4 (g := (mkF m 19 #[.val (.int p0), .val (.int p1), .val (.int p2), .val (.ref b_1), .unset, .unset, .unset, .unset, .unset, .unset, .unset] [])) rfl (hb hby at_19) (by decide) (by decide)
  obtain ⟨b_5, gg_5⟩ : ∃ z, z = h_4.size := ⟨_, rfl⟩
  rw [← gg_5] at A_5 D_5 st_5
  have ne_b_1_b_5 : b_1 ≠ b_5 := Nat.ne_of_lt (Nat.lt_of_lt_of_le V_4.lt (Nat.le_of_eq gg_5.symm))
  have g_b_5 : n0 ≤ b_5 := Nat.le_trans Z_4 (Nat.le_of_eq gg_5.symm)
  have Z_5 : n0 ≤ h_5.size := Nat.le_trans Z_4 E_5.1
  have F_5_bytes : Fld Z h_5 b_5 "com/example/hailport/hailport/wire/ByteReader" "bytes" "[B" .null := D_5 (Or.inr (hw _ (List.mem_of_getElem? (i := 18) rfl))) (ty := (.array .byte)) (by decide)
  have F_5_description : Fld Z h_5 b_5 "com/example/hailport/hailport/wire/ByteReader" "description" "Ljava/lang/String;" .null := D_5 (Or.inr (hw _ (List.mem_of_getElem? (i := 20) rfl))) (ty := (.object "java/lang/String")) (by decide)
  have F_5_position : Fld Z h_5 b_5 "com/example/hailport/hailport/wire/ByteReader" "position" "I" (.int (0 : Int32)) := D_5 (Or.inl (hw _ (List.mem_of_getElem? (i := 37) rfl))) (ty := .int) (by decide)
  refine own_st (S' := T_5.setTop (mkF m 22 #[.val (.int p0), .val (.int p1), .val (.int p2), .val (.ref b_1), .unset, .unset, .unset, .unset, .unset, .unset, .unset] [(.ref b_5)])) st_5 ?_
  refine own_st (S' := T_5.setTop (mkF m 23 #[.val (.int p0), .val (.int p1), .val (.int p2), .val (.ref b_1), .unset, .unset, .unset, .unset, .unset, .unset, .unset] [(.ref b_5), (.ref b_5)])) (fun t_ k_ => XS.dup X_5.here hx rfl (hb hby at_22) rfl rfl k_) ?_
  refine own_st (S' := T_5.setTop (mkF m 24 #[.val (.int p0), .val (.int p1), .val (.int p2), .val (.ref b_1), .unset, .unset, .unset, .unset, .unset, .unset, .unset] [(.ref b_1), (.ref b_5), (.ref b_5)])) (fun t_ k_ => XS.aloadN X_5.here hx rfl (hb hby at_23) rfl rfl k_) ?_
  obtain ⟨b_6, T_6, h_6, k_6, X_6, e_6, E_6, hS_6, hk_6, hZ_6, ho_6, st_6⟩ := ldcS (s := s) (vm0 := s.vm) X_5 hx hZ hown (hw _ (List.mem_of_getElem? (i := 4) rfl)) wS e_5 (k0 := 0) (State.WarmedH.since (State.WarmedH.refl s) 0) (Nat.zero_le _) (g := (mkF m 24 #[.val (.int p0), .val (.int p1), .val (.int p2), .val (.ref b_1), .unset, .unset, .unset, .unset, .unset, .unset, .unset] [(.ref b_1), (.ref b_5), (.ref b_5)])) rfl (hb hby at_24) (n := 4) (by decide) (by decide) (by decide) (by decide)
  have Z_6 : n0 ≤ h_6.size := Nat.le_trans Z_5 E_6.1
  refine own_st (S' := T_6.setTop (mkF m 26 #[.val (.int p0), .val (.int p1), .val (.int p2), .val (.ref b_1), .unset, .unset, .unset, .unset, .unset, .unset, .unset] [(.ref b_6), (.ref b_1), (.ref b_5), (.ref b_5)])) st_6 ?_
  have f_7 : Exa Z h_6 b_5 "com/example/hailport/hailport/wire/ByteReader" := (Exa.ext E_6 A_5)
  have f_8 : Fld Z h_6 b_5 "com/example/hailport/hailport/wire/ByteReader" "bytes" "[B" .null := (Fld.ext E_6 F_5_bytes)
  have f_9 : Fld Z h_6 b_5 "com/example/hailport/hailport/wire/ByteReader" "description" "Ljava/lang/String;" .null := (Fld.ext E_6 F_5_description)
  have f_10 : Fld Z h_6 b_5 "com/example/hailport/hailport/wire/ByteReader" "position" "I" (.int (0 : Int32)) := (Fld.ext E_6 F_5_position)
  obtain ⟨_, _, ⟨T_11, L_11, k_11, n_11⟩, -, X_11, ⟨Lc_11, hQ_11, l_11, y_11, z_11⟩, st_11⟩ := X_6.specialBack hx (y := (⟨"com/example/hailport/hailport/wire/ByteReader", "<init>", "([BLjava/lang/String;)V"⟩ : MethodName)) rfl ho_6 (mvT hZ_6 (hw _ (List.mem_of_getElem? (i := 11) rfl))) (mvT hZ_6 (hw _ (List.mem_of_getElem? (i := 12) rfl))) (mvT hZ_6 (hw _ (List.mem_of_getElem? (i := 13) rfl))) (by decide) (backOf (W := 1) (rm1 l Z a0 hw [] b_5 b_1 b_6 h_6 n0 Z_6 f_7 f_8 f_9 f_10 g_b_5) hZ_6 (hw _ (List.mem_of_getElem? (i := 13) rfl)) (hw _ (List.mem_of_getElem? (i := 3) rfl)) (by decide) (by decide)) (g := (mkF m 26 #[.val (.int p0), .val (.int p1), .val (.int p2), .val (.ref b_1), .unset, .unset, .unset, .unset, .unset, .unset, .unset] [(.ref b_6), (.ref b_1), (.ref b_5), (.ref b_5)])) rfl (by rw [hml]; rfl) (Steps.refl _) (a := b_5) (argsL := [(.ref b_1), (.ref b_6)]) (rest := [(.ref b_5)]) (lenOf pd_2 rfl) rfl (by show 2 * 0 + _ ≤ _; exact Nat.le_of_eq rfl) (hb hby at_26) (fun _ _ => ⟨rfl, e_6, (by decide : 4 + 0 ≤ _), (by decide : 14 + 0 ≤ _)⟩)
  dsimp only [Pt.U, Pt.locs, Pt.cells, Pt.slots] at X_11 l_11 y_11 z_11 st_11 hQ_11
  subst l_11 y_11 z_11
  obtain ⟨rfl, M_11, K_11c, c_11_0, c_11_1, c_11_2⟩ := hQ_11
  have N_11 := Fr.app N_4 M_11
  have Z_11 : n0 ≤ T_11.heap.size := Nat.le_trans Z_6 K_11c.1
  have hs_11 : k_6 ≤ T_11.heap.size := Nat.le_trans hk_6 K_11c.1
  refine own_st (S' := T_11.setTop (mkF m 29 #[.val (.int p0), .val (.int p1), .val (.int p2), .val (.ref b_1), .unset, .unset, .unset, .unset, .unset, .unset, .unset] [(.ref b_5)])) (fun t_ k_ => st_11.trans k_) ?_
  refine own_st (S' := T_11.setTop (mkF m 31 #[.val (.int p0), .val (.int p1), .val (.int p2), .val (.ref b_1), .val (.ref b_5), .unset, .unset, .unset, .unset, .unset, .unset] [])) (fun t_ k_ => XS.astore X_11.here hx rfl (hb hby at_29) rfl rfl (l' := #[.val (.int p0), .val (.int p1), .val (.int p2), .val (.ref b_1), .val (.ref b_5), .unset, .unset, .unset, .unset, .unset, .unset]) rfl k_) ?_
  refine own_st (S' := T_11.setTop (mkF m 33 #[.val (.int p0), .val (.int p1), .val (.int p2), .val (.ref b_1), .val (.ref b_5), .unset, .unset, .unset, .unset, .unset, .unset] [(.ref b_5)])) (fun t_ k_ => XS.aload X_11.here hx rfl (hb hby at_31) rfl rfl k_) ?_
  obtain ⟨b_12, T_12, h_12, k_12, X_12, e_12, E_12, hS_12, hk_12, hZ_12, ho_12, st_12⟩ := ldcS (s := s) (vm0 := T_6.vm) X_11 hx hZ_6 ho_6 (hw _ (List.mem_of_getElem? (i := 21) rfl)) wS rfl (k0 := k_6) hS_6 hs_11 (g := (mkF m 33 #[.val (.int p0), .val (.int p1), .val (.int p2), .val (.ref b_1), .val (.ref b_5), .unset, .unset, .unset, .unset, .unset, .unset] [(.ref b_5)])) rfl (hb hby at_33) (n := 4) (by decide) (by decide) (by decide) (by decide)
  have Z_12 : n0 ≤ h_12.size := Nat.le_trans Z_11 E_12.1
  refine own_st (S' := T_12.setTop (mkF m 35 #[.val (.int p0), .val (.int p1), .val (.int p2), .val (.ref b_1), .val (.ref b_5), .unset, .unset, .unset, .unset, .unset, .unset] [(.ref b_12), (.ref b_5)])) st_12 ?_
  have f_13 : Exa Z h_12 b_5 "com/example/hailport/hailport/wire/ByteReader" := (Exa.ext E_12 c_11_0)
  have f_14 : Fld Z h_12 b_5 "com/example/hailport/hailport/wire/ByteReader" "bytes" "[B" (.ref b_1) := (Fld.ext E_12 c_11_1)
  have f_15 : Arv Z h_12 b_1 k_1 .byte (3 : Int32) [(.int (nar .byte (p0.toInt8.toInt32))), (.int (nar .byte (p1.toInt8.toInt32))), (.int (nar .byte (p2.toInt8.toInt32)))] (.int (0 : Int32)) := ((((V_4.ext E_5).ext E_6).keep K_11c (ninS ne_b_1_b_5 nin0)).ext E_12)
  have f_16 : Fld Z h_12 b_5 "com/example/hailport/hailport/wire/ByteReader" "position" "I" (.int (0 : Int32)) := (Fld.ext E_12 c_11_2)
  obtain ⟨cq_17, kq_17, q_17a, q_17b, q_17c⟩ := isOf hZ_12 e_12 f_13
  obtain ⟨_, _, ⟨T_17, L_17, k_17, n_17⟩, -, X_17, ⟨Lc_17, hQ_17, l_17, y_17, z_17⟩, st_17⟩ := X_12.virtualBack hx (y := (⟨"com/example/hailport/hailport/wire/ByteReader", "readUnsignedByte", "(Ljava/lang/String;)I"⟩ : MethodName)) (z := (⟨"com/example/hailport/hailport/wire/ByteReader", "readUnsignedByte", "(Ljava/lang/String;)I"⟩ : MethodName)) ho_12 (mvT hZ_12 (hw _ (List.mem_of_getElem? (i := 22) rfl))) (mvT hZ_12 (hw _ (List.mem_of_getElem? (i := 23) rfl))) (notFace_of_selects (args := #[]) (mvT hZ_12 (hw _ (List.mem_of_getElem? (i := 25) rfl)))) (mvT hZ_12 (hw _ (List.mem_of_getElem? (i := 25) rfl))) (mvT hZ_12 (hw _ (List.mem_of_getElem? (i := 24) rfl))) (by decide) (backOf (W := 0) (rm4a l Z a0 hw [] b_5 b_12 b_1 k_1 (nar .byte (p0.toInt8.toInt32)) (nar .byte (p1.toInt8.toInt32)) (nar .byte (p2.toInt8.toInt32)) h_12 n0 Z_12 f_13 f_14 f_15 f_16 g_b_5 (Ne.symm ne_b_1_b_5)) hZ_12 (hw _ (List.mem_of_getElem? (i := 26) rfl)) (hw _ (List.mem_of_getElem? (i := 3) rfl)) (by decide) (by decide)) q_17a q_17c (g := (mkF m 35 #[.val (.int p0), .val (.int p1), .val (.int p2), .val (.ref b_1), .val (.ref b_5), .unset, .unset, .unset, .unset, .unset, .unset] [(.ref b_12), (.ref b_5)])) rfl (by rw [hml]; rfl) (Steps.refl _) (argsL := [(.ref b_12)]) (rest := []) (lenOf pd_3 rfl) rfl (by show 2 * 0 + _ ≤ _; exact Nat.le_of_eq rfl) (hb hby at_35) (fun _ _ => ⟨rfl, e_12, (by decide : 6 + 0 ≤ _), (by decide : 22 + 0 ≤ _)⟩)
  dsimp only [Pt.U, Pt.locs, Pt.cells, Pt.slots] at X_17 l_17 y_17 z_17 st_17 hQ_17
  subst l_17 y_17 z_17
  obtain ⟨rfl, M_17, K_17c, c_17_0, c_17_1, c_17_2⟩ := hQ_17
  have N_17 := Fr.app N_11 M_17
  have Z_17 : n0 ≤ T_17.heap.size := Nat.le_trans Z_12 K_17c.1
  have hs_17 : k_12 ≤ T_17.heap.size := Nat.le_trans hk_12 K_17c.1
  refine own_st (S' := T_17.setTop (mkF m 38 #[.val (.int p0), .val (.int p1), .val (.int p2), .val (.ref b_1), .val (.ref b_5), .unset, .unset, .unset, .unset, .unset, .unset] [(.int ((nar .byte (p0.toInt8.toInt32)) &&& (255 : Int32)))])) (fun t_ k_ => st_17.trans k_) ?_
  refine own_st (S' := T_17.setTop (mkF m 40 #[.val (.int p0), .val (.int p1), .val (.int p2), .val (.ref b_1), .val (.ref b_5), .val (.int ((nar .byte (p0.toInt8.toInt32)) &&& (255 : Int32))), .unset, .unset, .unset, .unset, .unset] [])) (fun t_ k_ => XS.istore X_17.here hx rfl (hb hby at_38) rfl (l' := #[.val (.int p0), .val (.int p1), .val (.int p2), .val (.ref b_1), .val (.ref b_5), .val (.int ((nar .byte (p0.toInt8.toInt32)) &&& (255 : Int32))), .unset, .unset, .unset, .unset, .unset]) rfl k_) ?_
  refine own_st (S' := T_17.setTop (mkF m 42 #[.val (.int p0), .val (.int p1), .val (.int p2), .val (.ref b_1), .val (.ref b_5), .val (.int ((nar .byte (p0.toInt8.toInt32)) &&& (255 : Int32))), .unset, .unset, .unset, .unset, .unset] [(.ref b_5)])) (fun t_ k_ => XS.aload X_17.here hx rfl (hb hby at_40) rfl rfl k_) ?_
  have f_18 : Arv Z T_17.heap b_1 k_1 .byte (3 : Int32) [(.int (nar .byte (p0.toInt8.toInt32))), (.int (nar .byte (p1.toInt8.toInt32))), (.int (nar .byte (p2.toInt8.toInt32)))] (.int (0 : Int32)) := (f_15.keep K_17c (ninS ne_b_1_b_5 nin0))
  obtain ⟨cq_19, kq_19, q_19a, q_19b, q_19c⟩ := isOf hZ_12 rfl c_17_0
  obtain ⟨_, _, ⟨T_19, L_19, k_19, n_19⟩, -, X_19, ⟨Lc_19, hQ_19, l_19, y_19, z_19⟩, st_19⟩ := X_17.virtualBack hx (y := (⟨"com/example/hailport/hailport/wire/ByteReader", "remaining", "()I"⟩ : MethodName)) (z := (⟨"com/example/hailport/hailport/wire/ByteReader", "remaining", "()I"⟩ : MethodName)) ho_12 (mvT hZ_12 (hw _ (List.mem_of_getElem? (i := 38) rfl))) (mvT hZ_12 (hw _ (List.mem_of_getElem? (i := 32) rfl))) (notFace_of_selects (args := #[]) (mvT hZ_12 (hw _ (List.mem_of_getElem? (i := 34) rfl)))) (mvT hZ_12 (hw _ (List.mem_of_getElem? (i := 34) rfl))) (mvT hZ_12 (hw _ (List.mem_of_getElem? (i := 33) rfl))) (by decide) (backOf (W := 0) (rm2 l Z a0 hw [] b_5 b_1 k_1 (nar .byte (p0.toInt8.toInt32)) (nar .byte (p1.toInt8.toInt32)) (nar .byte (p2.toInt8.toInt32)) (1 : Int32) T_17.heap n0 Z_17 c_17_1 f_18 c_17_2) hZ_12 (hw _ (List.mem_of_getElem? (i := 35) rfl)) (hw _ (List.mem_of_getElem? (i := 3) rfl)) (by decide) (by decide)) q_19a q_19c (g := (mkF m 42 #[.val (.int p0), .val (.int p1), .val (.int p2), .val (.ref b_1), .val (.ref b_5), .val (.int ((nar .byte (p0.toInt8.toInt32)) &&& (255 : Int32))), .unset, .unset, .unset, .unset, .unset] [(.ref b_5)])) rfl (by rw [hml]; rfl) (Steps.refl _) (argsL := []) (rest := []) (lenOf pd_0 rfl) rfl (by show 2 * 0 + _ ≤ _; exact Nat.le_of_eq rfl) (hb hby at_42) (fun _ _ => ⟨rfl, rfl, (by decide : 6 + 0 ≤ _), (by decide : 22 + 0 ≤ _)⟩)
  dsimp only [Pt.U, Pt.locs, Pt.cells, Pt.slots] at X_19 l_19 y_19 z_19 st_19 hQ_19
  subst l_19 y_19 z_19
  obtain ⟨rfl, M_19, q_19⟩ := hQ_19
  have N_19 := Fr.app N_17 M_19
  refine own_st (S' := T_19.setTop (mkF m 45 #[.val (.int p0), .val (.int p1), .val (.int p2), .val (.ref b_1), .val (.ref b_5), .val (.int ((nar .byte (p0.toInt8.toInt32)) &&& (255 : Int32))), .unset, .unset, .unset, .unset, .unset] [(.int ((3 : Int32) - (1 : Int32)))])) (fun t_ k_ => st_19.trans k_) ?_
  refine own_st (S' := T_19.setTop (mkF m 47 #[.val (.int p0), .val (.int p1), .val (.int p2), .val (.ref b_1), .val (.ref b_5), .val (.int ((nar .byte (p0.toInt8.toInt32)) &&& (255 : Int32))), .val (.int ((3 : Int32) - (1 : Int32))), .unset, .unset, .unset, .unset] [])) (fun t_ k_ => XS.istore X_19.here hx rfl (hb hby at_45) rfl (l' := #[.val (.int p0), .val (.int p1), .val (.int p2), .val (.ref b_1), .val (.ref b_5), .val (.int ((nar .byte (p0.toInt8.toInt32)) &&& (255 : Int32))), .val (.int ((3 : Int32) - (1 : Int32))), .unset, .unset, .unset, .unset]) rfl k_) ?_
  refine own_st (S' := T_19.setTop (mkF m 49 #[.val (.int p0), .val (.int p1), .val (.int p2), .val (.ref b_1), .val (.ref b_5), .val (.int ((nar .byte (p0.toInt8.toInt32)) &&& (255 : Int32))), .val (.int ((3 : Int32) - (1 : Int32))), .unset, .unset, .unset, .unset] [(.ref b_5)])) (fun t_ k_ => XS.aload X_19.here hx rfl (hb hby at_47) rfl rfl k_) ?_
  obtain ⟨b_20, T_20, h_20, k_20, X_20, e_20, E_20, hS_20, hk_20, hZ_20, ho_20, st_20⟩ := ldcS (s := s) (vm0 := T_12.vm) X_19 hx hZ_12 ho_12 (hw _ (List.mem_of_getElem? (i := 21) rfl)) wS q_19 (k0 := k_12) hS_12 hs_17 (g := (mkF m 49 #[.val (.int p0), .val (.int p1), .val (.int p2), .val (.ref b_1), .val (.ref b_5), .val (.int ((nar .byte (p0.toInt8.toInt32)) &&& (255 : Int32))), .val (.int ((3 : Int32) - (1 : Int32))), .unset, .unset, .unset, .unset] [(.ref b_5)])) rfl (hb hby at_49) (n := 4) (by decide) (by decide) (by decide) (by decide)
  have Z_20 : n0 ≤ h_20.size := Nat.le_trans Z_17 E_20.1
  refine own_st (S' := T_20.setTop (mkF m 51 #[.val (.int p0), .val (.int p1), .val (.int p2), .val (.ref b_1), .val (.ref b_5), .val (.int ((nar .byte (p0.toInt8.toInt32)) &&& (255 : Int32))), .val (.int ((3 : Int32) - (1 : Int32))), .unset, .unset, .unset, .unset] [(.ref b_20), (.ref b_5)])) st_20 ?_
  have f_21 : Exa Z h_20 b_5 "com/example/hailport/hailport/wire/ByteReader" := (Exa.ext E_20 c_17_0)
  have f_22 : Fld Z h_20 b_5 "com/example/hailport/hailport/wire/ByteReader" "bytes" "[B" (.ref b_1) := (Fld.ext E_20 c_17_1)
  have f_23 : Arv Z h_20 b_1 k_1 .byte (3 : Int32) [(.int (nar .byte (p0.toInt8.toInt32))), (.int (nar .byte (p1.toInt8.toInt32))), (.int (nar .byte (p2.toInt8.toInt32)))] (.int (0 : Int32)) := (f_18.ext E_20)
  have f_24 : Fld Z h_20 b_5 "com/example/hailport/hailport/wire/ByteReader" "position" "I" (.int (1 : Int32)) := (Fld.ext E_20 c_17_2)
  obtain ⟨cq_25, kq_25, q_25a, q_25b, q_25c⟩ := isOf hZ_20 e_20 f_21
  obtain ⟨_, _, ⟨T_25, L_25, k_25, n_25⟩, -, X_25, ⟨Lc_25, hQ_25, l_25, y_25, z_25⟩, st_25⟩ := X_20.virtualBack hx (y := (⟨"com/example/hailport/hailport/wire/ByteReader", "readUnsignedByte", "(Ljava/lang/String;)I"⟩ : MethodName)) (z := (⟨"com/example/hailport/hailport/wire/ByteReader", "readUnsignedByte", "(Ljava/lang/String;)I"⟩ : MethodName)) ho_20 (mvT hZ_20 (hw _ (List.mem_of_getElem? (i := 22) rfl))) (mvT hZ_20 (hw _ (List.mem_of_getElem? (i := 23) rfl))) (notFace_of_selects (args := #[]) (mvT hZ_20 (hw _ (List.mem_of_getElem? (i := 25) rfl)))) (mvT hZ_20 (hw _ (List.mem_of_getElem? (i := 25) rfl))) (mvT hZ_20 (hw _ (List.mem_of_getElem? (i := 24) rfl))) (by decide) (backOf (W := 0) (rm4b l Z a0 hw [] b_5 b_20 b_1 k_1 (nar .byte (p0.toInt8.toInt32)) (nar .byte (p1.toInt8.toInt32)) (nar .byte (p2.toInt8.toInt32)) h_20 n0 Z_20 f_21 f_22 f_23 f_24 g_b_5 (Ne.symm ne_b_1_b_5)) hZ_20 (hw _ (List.mem_of_getElem? (i := 26) rfl)) (hw _ (List.mem_of_getElem? (i := 3) rfl)) (by decide) (by decide)) q_25a q_25c (g := (mkF m 51 #[.val (.int p0), .val (.int p1), .val (.int p2), .val (.ref b_1), .val (.ref b_5), .val (.int ((nar .byte (p0.toInt8.toInt32)) &&& (255 : Int32))), .val (.int ((3 : Int32) - (1 : Int32))), .unset, .unset, .unset, .unset] [(.ref b_20), (.ref b_5)])) rfl (by rw [hml]; rfl) (Steps.refl _) (argsL := [(.ref b_20)]) (rest := []) (lenOf pd_3 rfl) rfl (by show 2 * 0 + _ ≤ _; exact Nat.le_of_eq rfl) (hb hby at_51) (fun _ _ => ⟨rfl, e_20, (by decide : 8 + 0 ≤ _), (by decide : 30 + 0 ≤ _)⟩)
  dsimp only [Pt.U, Pt.locs, Pt.cells, Pt.slots] at X_25 l_25 y_25 z_25 st_25 hQ_25
  subst l_25 y_25 z_25
  obtain ⟨rfl, M_25, K_25c, c_25_0, c_25_1, c_25_2⟩ := hQ_25
  have N_25 := Fr.app N_19 M_25
  have Z_25 : n0 ≤ T_25.heap.size := Nat.le_trans Z_20 K_25c.1
  have hs_25 : k_20 ≤ T_25.heap.size := Nat.le_trans hk_20 K_25c.1
  refine own_st (S' := T_25.setTop (mkF m 54 #[.val (.int p0), .val (.int p1), .val (.int p2), .val (.ref b_1), .val (.ref b_5), .val (.int ((nar .byte (p0.toInt8.toInt32)) &&& (255 : Int32))), .val (.int ((3 : Int32) - (1 : Int32))), .unset, .unset, .unset, .unset] [(.int ((nar .byte (p1.toInt8.toInt32)) &&& (255 : Int32)))])) (fun t_ k_ => st_25.trans k_) ?_
  refine own_st (S' := T_25.setTop (mkF m 56 #[.val (.int p0), .val (.int p1), .val (.int p2), .val (.ref b_1), .val (.ref b_5), .val (.int ((nar .byte (p0.toInt8.toInt32)) &&& (255 : Int32))), .val (.int ((3 : Int32) - (1 : Int32))), .val (.int ((nar .byte (p1.toInt8.toInt32)) &&& (255 : Int32))), .unset, .unset, .unset] [])) (fun t_ k_ => XS.istore X_25.here hx rfl (hb hby at_54) rfl (l' := #[.val (.int p0), .val (.int p1), .val (.int p2), .val (.ref b_1), .val (.ref b_5), .val (.int ((nar .byte (p0.toInt8.toInt32)) &&& (255 : Int32))), .val (.int ((3 : Int32) - (1 : Int32))), .val (.int ((nar .byte (p1.toInt8.toInt32)) &&& (255 : Int32))), .unset, .unset, .unset]) rfl k_) ?_
  refine own_st (S' := T_25.setTop (mkF m 58 #[.val (.int p0), .val (.int p1), .val (.int p2), .val (.ref b_1), .val (.ref b_5), .val (.int ((nar .byte (p0.toInt8.toInt32)) &&& (255 : Int32))), .val (.int ((3 : Int32) - (1 : Int32))), .val (.int ((nar .byte (p1.toInt8.toInt32)) &&& (255 : Int32))), .unset, .unset, .unset] [(.ref b_5)])) (fun t_ k_ => XS.aload X_25.here hx rfl (hb hby at_56) rfl rfl k_) ?_
  have f_26 : Arv Z T_25.heap b_1 k_1 .byte (3 : Int32) [(.int (nar .byte (p0.toInt8.toInt32))), (.int (nar .byte (p1.toInt8.toInt32))), (.int (nar .byte (p2.toInt8.toInt32)))] (.int (0 : Int32)) := (f_23.keep K_25c (ninS ne_b_1_b_5 nin0))
  obtain ⟨cq_27, kq_27, q_27a, q_27b, q_27c⟩ := isOf hZ_20 rfl c_25_0
  obtain ⟨_, _, ⟨T_27, L_27, k_27, n_27⟩, -, X_27, ⟨Lc_27, hQ_27, l_27, y_27, z_27⟩, st_27⟩ := X_25.virtualBack hx (y := (⟨"com/example/hailport/hailport/wire/ByteReader", "remaining", "()I"⟩ : MethodName)) (z := (⟨"com/example/hailport/hailport/wire/ByteReader", "remaining", "()I"⟩ : MethodName)) ho_20 (mvT hZ_20 (hw _ (List.mem_of_getElem? (i := 38) rfl))) (mvT hZ_20 (hw _ (List.mem_of_getElem? (i := 32) rfl))) (notFace_of_selects (args := #[]) (mvT hZ_20 (hw _ (List.mem_of_getElem? (i := 34) rfl)))) (mvT hZ_20 (hw _ (List.mem_of_getElem? (i := 34) rfl))) (mvT hZ_20 (hw _ (List.mem_of_getElem? (i := 33) rfl))) (by decide) (backOf (W := 0) (rm2 l Z a0 hw [] b_5 b_1 k_1 (nar .byte (p0.toInt8.toInt32)) (nar .byte (p1.toInt8.toInt32)) (nar .byte (p2.toInt8.toInt32)) (2 : Int32) T_25.heap n0 Z_25 c_25_1 f_26 c_25_2) hZ_20 (hw _ (List.mem_of_getElem? (i := 35) rfl)) (hw _ (List.mem_of_getElem? (i := 3) rfl)) (by decide) (by decide)) q_27a q_27c (g := (mkF m 58 #[.val (.int p0), .val (.int p1), .val (.int p2), .val (.ref b_1), .val (.ref b_5), .val (.int ((nar .byte (p0.toInt8.toInt32)) &&& (255 : Int32))), .val (.int ((3 : Int32) - (1 : Int32))), .val (.int ((nar .byte (p1.toInt8.toInt32)) &&& (255 : Int32))), .unset, .unset, .unset] [(.ref b_5)])) rfl (by rw [hml]; rfl) (Steps.refl _) (argsL := []) (rest := []) (lenOf pd_0 rfl) rfl (by show 2 * 0 + _ ≤ _; exact Nat.le_of_eq rfl) (hb hby at_58) (fun _ _ => ⟨rfl, rfl, (by decide : 8 + 0 ≤ _), (by decide : 30 + 0 ≤ _)⟩)
  dsimp only [Pt.U, Pt.locs, Pt.cells, Pt.slots] at X_27 l_27 y_27 z_27 st_27 hQ_27
  subst l_27 y_27 z_27
  obtain ⟨rfl, M_27, q_27⟩ := hQ_27
  have N_27 := Fr.app N_25 M_27
  refine own_st (S' := T_27.setTop (mkF m 61 #[.val (.int p0), .val (.int p1), .val (.int p2), .val (.ref b_1), .val (.ref b_5), .val (.int ((nar .byte (p0.toInt8.toInt32)) &&& (255 : Int32))), .val (.int ((3 : Int32) - (1 : Int32))), .val (.int ((nar .byte (p1.toInt8.toInt32)) &&& (255 : Int32))), .unset, .unset, .unset] [(.int ((3 : Int32) - (2 : Int32)))])) (fun t_ k_ => st_27.trans k_) ?_
  refine own_st (S' := T_27.setTop (mkF m 63 #[.val (.int p0), .val (.int p1), .val (.int p2), .val (.ref b_1), .val (.ref b_5), .val (.int ((nar .byte (p0.toInt8.toInt32)) &&& (255 : Int32))), .val (.int ((3 : Int32) - (1 : Int32))), .val (.int ((nar .byte (p1.toInt8.toInt32)) &&& (255 : Int32))), .val (.int ((3 : Int32) - (2 : Int32))), .unset, .unset] [])) (fun t_ k_ => XS.istore X_27.here hx rfl (hb hby at_61) rfl (l' := #[.val (.int p0), .val (.int p1), .val (.int p2), .val (.ref b_1), .val (.ref b_5), .val (.int ((nar .byte (p0.toInt8.toInt32)) &&& (255 : Int32))), .val (.int ((3 : Int32) - (1 : Int32))), .val (.int ((nar .byte (p1.toInt8.toInt32)) &&& (255 : Int32))), .val (.int ((3 : Int32) - (2 : Int32))), .unset, .unset]) rfl k_) ?_
  refine own_st (S' := T_27.setTop (mkF m 65 #[.val (.int p0), .val (.int p1), .val (.int p2), .val (.ref b_1), .val (.ref b_5), .val (.int ((nar .byte (p0.toInt8.toInt32)) &&& (255 : Int32))), .val (.int ((3 : Int32) - (1 : Int32))), .val (.int ((nar .byte (p1.toInt8.toInt32)) &&& (255 : Int32))), .val (.int ((3 : Int32) - (2 : Int32))), .unset, .unset] [(.ref b_5)])) (fun t_ k_ => XS.aload X_27.here hx rfl (hb hby at_63) rfl rfl k_) ?_
  obtain ⟨b_28, T_28, h_28, k_28, X_28, e_28, E_28, hS_28, hk_28, hZ_28, ho_28, st_28⟩ := ldcS (s := s) (vm0 := T_20.vm) X_27 hx hZ_20 ho_20 (hw _ (List.mem_of_getElem? (i := 21) rfl)) wS q_27 (k0 := k_20) hS_20 hs_25 (g := (mkF m 65 #[.val (.int p0), .val (.int p1), .val (.int p2), .val (.ref b_1), .val (.ref b_5), .val (.int ((nar .byte (p0.toInt8.toInt32)) &&& (255 : Int32))), .val (.int ((3 : Int32) - (1 : Int32))), .val (.int ((nar .byte (p1.toInt8.toInt32)) &&& (255 : Int32))), .val (.int ((3 : Int32) - (2 : Int32))), .unset, .unset] [(.ref b_5)])) rfl (hb hby at_65) (n := 4) (by decide) (by decide) (by decide) (by decide)
  have Z_28 : n0 ≤ h_28.size := Nat.le_trans Z_25 E_28.1
  refine own_st (S' := T_28.setTop (mkF m 67 #[.val (.int p0), .val (.int p1), .val (.int p2), .val (.ref b_1), .val (.ref b_5), .val (.int ((nar .byte (p0.toInt8.toInt32)) &&& (255 : Int32))), .val (.int ((3 : Int32) - (1 : Int32))), .val (.int ((nar .byte (p1.toInt8.toInt32)) &&& (255 : Int32))), .val (.int ((3 : Int32) - (2 : Int32))), .unset, .unset] [(.ref b_28), (.ref b_5)])) st_28 ?_
  have f_29 : Exa Z h_28 b_5 "com/example/hailport/hailport/wire/ByteReader" := (Exa.ext E_28 c_25_0)
  have f_30 : Fld Z h_28 b_5 "com/example/hailport/hailport/wire/ByteReader" "bytes" "[B" (.ref b_1) := (Fld.ext E_28 c_25_1)
  have f_31 : Arv Z h_28 b_1 k_1 .byte (3 : Int32) [(.int (nar .byte (p0.toInt8.toInt32))), (.int (nar .byte (p1.toInt8.toInt32))), (.int (nar .byte (p2.toInt8.toInt32)))] (.int (0 : Int32)) := (f_26.ext E_28)
  have f_32 : Fld Z h_28 b_5 "com/example/hailport/hailport/wire/ByteReader" "position" "I" (.int (2 : Int32)) := (Fld.ext E_28 c_25_2)
  obtain ⟨cq_33, kq_33, q_33a, q_33b, q_33c⟩ := isOf hZ_28 e_28 f_29
  obtain ⟨_, _, ⟨T_33, L_33, k_33, n_33⟩, -, X_33, ⟨Lc_33, hQ_33, l_33, y_33, z_33⟩, st_33⟩ := X_28.virtualBack hx (y := (⟨"com/example/hailport/hailport/wire/ByteReader", "readUnsignedByte", "(Ljava/lang/String;)I"⟩ : MethodName)) (z := (⟨"com/example/hailport/hailport/wire/ByteReader", "readUnsignedByte", "(Ljava/lang/String;)I"⟩ : MethodName)) ho_28 (mvT hZ_28 (hw _ (List.mem_of_getElem? (i := 22) rfl))) (mvT hZ_28 (hw _ (List.mem_of_getElem? (i := 23) rfl))) (notFace_of_selects (args := #[]) (mvT hZ_28 (hw _ (List.mem_of_getElem? (i := 25) rfl)))) (mvT hZ_28 (hw _ (List.mem_of_getElem? (i := 25) rfl))) (mvT hZ_28 (hw _ (List.mem_of_getElem? (i := 24) rfl))) (by decide) (backOf (W := 0) (rm4c l Z a0 hw [] b_5 b_28 b_1 k_1 (nar .byte (p0.toInt8.toInt32)) (nar .byte (p1.toInt8.toInt32)) (nar .byte (p2.toInt8.toInt32)) h_28 n0 Z_28 f_29 f_30 f_31 f_32 g_b_5 (Ne.symm ne_b_1_b_5)) hZ_28 (hw _ (List.mem_of_getElem? (i := 26) rfl)) (hw _ (List.mem_of_getElem? (i := 3) rfl)) (by decide) (by decide)) q_33a q_33c (g := (mkF m 67 #[.val (.int p0), .val (.int p1), .val (.int p2), .val (.ref b_1), .val (.ref b_5), .val (.int ((nar .byte (p0.toInt8.toInt32)) &&& (255 : Int32))), .val (.int ((3 : Int32) - (1 : Int32))), .val (.int ((nar .byte (p1.toInt8.toInt32)) &&& (255 : Int32))), .val (.int ((3 : Int32) - (2 : Int32))), .unset, .unset] [(.ref b_28), (.ref b_5)])) rfl (by rw [hml]; rfl) (Steps.refl _) (argsL := [(.ref b_28)]) (rest := []) (lenOf pd_3 rfl) rfl (by show 2 * 0 + _ ≤ _; exact Nat.le_of_eq rfl) (hb hby at_67) (fun _ _ => ⟨rfl, e_28, (by decide : 10 + 0 ≤ _), (by decide : 38 + 0 ≤ _)⟩)
  dsimp only [Pt.U, Pt.locs, Pt.cells, Pt.slots] at X_33 l_33 y_33 z_33 st_33 hQ_33
  subst l_33 y_33 z_33
  obtain ⟨rfl, M_33, K_33c, c_33_0, c_33_1, c_33_2⟩ := hQ_33
  have N_33 := Fr.app N_27 M_33
  have Z_33 : n0 ≤ T_33.heap.size := Nat.le_trans Z_28 K_33c.1
  have hs_33 : k_28 ≤ T_33.heap.size := Nat.le_trans hk_28 K_33c.1
  refine own_st (S' := T_33.setTop (mkF m 70 #[.val (.int p0), .val (.int p1), .val (.int p2), .val (.ref b_1), .val (.ref b_5), .val (.int ((nar .byte (p0.toInt8.toInt32)) &&& (255 : Int32))), .val (.int ((3 : Int32) - (1 : Int32))), .val (.int ((nar .byte (p1.toInt8.toInt32)) &&& (255 : Int32))), .val (.int ((3 : Int32) - (2 : Int32))), .unset, .unset] [(.int ((nar .byte (p2.toInt8.toInt32)) &&& (255 : Int32)))])) (fun t_ k_ => st_33.trans k_) ?_
  refine own_st (S' := T_33.setTop (mkF m 72 #[.val (.int p0), .val (.int p1), .val (.int p2), .val (.ref b_1), .val (.ref b_5), .val (.int ((nar .byte (p0.toInt8.toInt32)) &&& (255 : Int32))), .val (.int ((3 : Int32) - (1 : Int32))), .val (.int ((nar .byte (p1.toInt8.toInt32)) &&& (255 : Int32))), .val (.int ((3 : Int32) - (2 : Int32))), .val (.int ((nar .byte (p2.toInt8.toInt32)) &&& (255 : Int32))), .unset] [])) (fun t_ k_ => XS.istore X_33.here hx rfl (hb hby at_70) rfl (l' := #[.val (.int p0), .val (.int p1), .val (.int p2), .val (.ref b_1), .val (.ref b_5), .val (.int ((nar .byte (p0.toInt8.toInt32)) &&& (255 : Int32))), .val (.int ((3 : Int32) - (1 : Int32))), .val (.int ((nar .byte (p1.toInt8.toInt32)) &&& (255 : Int32))), .val (.int ((3 : Int32) - (2 : Int32))), .val (.int ((nar .byte (p2.toInt8.toInt32)) &&& (255 : Int32))), .unset]) rfl k_) ?_
  refine own_st (S' := T_33.setTop (mkF m 74 #[.val (.int p0), .val (.int p1), .val (.int p2), .val (.ref b_1), .val (.ref b_5), .val (.int ((nar .byte (p0.toInt8.toInt32)) &&& (255 : Int32))), .val (.int ((3 : Int32) - (1 : Int32))), .val (.int ((nar .byte (p1.toInt8.toInt32)) &&& (255 : Int32))), .val (.int ((3 : Int32) - (2 : Int32))), .val (.int ((nar .byte (p2.toInt8.toInt32)) &&& (255 : Int32))), .unset] [(.ref b_5)])) (fun t_ k_ => XS.aload X_33.here hx rfl (hb hby at_72) rfl rfl k_) ?_
  have f_34 : Arv Z T_33.heap b_1 k_1 .byte (3 : Int32) [(.int (nar .byte (p0.toInt8.toInt32))), (.int (nar .byte (p1.toInt8.toInt32))), (.int (nar .byte (p2.toInt8.toInt32)))] (.int (0 : Int32)) := (f_31.keep K_33c (ninS ne_b_1_b_5 nin0))
  obtain ⟨cq_35, kq_35, q_35a, q_35b, q_35c⟩ := isOf hZ_28 rfl c_33_0
  obtain ⟨_, _, ⟨T_35, L_35, k_35, n_35⟩, -, X_35, ⟨Lc_35, hQ_35, l_35, y_35, z_35⟩, st_35⟩ := X_33.virtualBack hx (y := (⟨"com/example/hailport/hailport/wire/ByteReader", "remaining", "()I"⟩ : MethodName)) (z := (⟨"com/example/hailport/hailport/wire/ByteReader", "remaining", "()I"⟩ : MethodName)) ho_28 (mvT hZ_28 (hw _ (List.mem_of_getElem? (i := 38) rfl))) (mvT hZ_28 (hw _ (List.mem_of_getElem? (i := 32) rfl))) (notFace_of_selects (args := #[]) (mvT hZ_28 (hw _ (List.mem_of_getElem? (i := 34) rfl)))) (mvT hZ_28 (hw _ (List.mem_of_getElem? (i := 34) rfl))) (mvT hZ_28 (hw _ (List.mem_of_getElem? (i := 33) rfl))) (by decide) (backOf (W := 0) (rm2 l Z a0 hw [] b_5 b_1 k_1 (nar .byte (p0.toInt8.toInt32)) (nar .byte (p1.toInt8.toInt32)) (nar .byte (p2.toInt8.toInt32)) (3 : Int32) T_33.heap n0 Z_33 c_33_1 f_34 c_33_2) hZ_28 (hw _ (List.mem_of_getElem? (i := 35) rfl)) (hw _ (List.mem_of_getElem? (i := 3) rfl)) (by decide) (by decide)) q_35a q_35c (g := (mkF m 74 #[.val (.int p0), .val (.int p1), .val (.int p2), .val (.ref b_1), .val (.ref b_5), .val (.int ((nar .byte (p0.toInt8.toInt32)) &&& (255 : Int32))), .val (.int ((3 : Int32) - (1 : Int32))), .val (.int ((nar .byte (p1.toInt8.toInt32)) &&& (255 : Int32))), .val (.int ((3 : Int32) - (2 : Int32))), .val (.int ((nar .byte (p2.toInt8.toInt32)) &&& (255 : Int32))), .unset] [(.ref b_5)])) rfl (by rw [hml]; rfl) (Steps.refl _) (argsL := []) (rest := []) (lenOf pd_0 rfl) rfl (by show 2 * 0 + _ ≤ _; exact Nat.le_of_eq rfl) (hb hby at_74) (fun _ _ => ⟨rfl, rfl, (by decide : 10 + 0 ≤ _), (by decide : 38 + 0 ≤ _)⟩)
  dsimp only [Pt.U, Pt.locs, Pt.cells, Pt.slots] at X_35 l_35 y_35 z_35 st_35 hQ_35
  subst l_35 y_35 z_35
  obtain ⟨rfl, M_35, q_35⟩ := hQ_35
  have N_35 := Fr.app N_33 M_35
  refine own_st (S' := T_35.setTop (mkF m 77 #[.val (.int p0), .val (.int p1), .val (.int p2), .val (.ref b_1), .val (.ref b_5), .val (.int ((nar .byte (p0.toInt8.toInt32)) &&& (255 : Int32))), .val (.int ((3 : Int32) - (1 : Int32))), .val (.int ((nar .byte (p1.toInt8.toInt32)) &&& (255 : Int32))), .val (.int ((3 : Int32) - (2 : Int32))), .val (.int ((nar .byte (p2.toInt8.toInt32)) &&& (255 : Int32))), .unset] [(.int ((3 : Int32) - (3 : Int32)))])) (fun t_ k_ => st_35.trans k_) ?_
  refine own_st (S' := T_35.setTop (mkF m 79 #[.val (.int p0), .val (.int p1), .val (.int p2), .val (.ref b_1), .val (.ref b_5), .val (.int ((nar .byte (p0.toInt8.toInt32)) &&& (255 : Int32))), .val (.int ((3 : Int32) - (1 : Int32))), .val (.int ((nar .byte (p1.toInt8.toInt32)) &&& (255 : Int32))), .val (.int ((3 : Int32) - (2 : Int32))), .val (.int ((nar .byte (p2.toInt8.toInt32)) &&& (255 : Int32))), .val (.int ((3 : Int32) - (3 : Int32)))] [])) (fun t_ k_ => XS.istore X_35.here hx rfl (hb hby at_77) rfl (l' := #[.val (.int p0), .val (.int p1), .val (.int p2), .val (.ref b_1), .val (.ref b_5), .val (.int ((nar .byte (p0.toInt8.toInt32)) &&& (255 : Int32))), .val (.int ((3 : Int32) - (1 : Int32))), .val (.int ((nar .byte (p1.toInt8.toInt32)) &&& (255 : Int32))), .val (.int ((3 : Int32) - (2 : Int32))), .val (.int ((nar .byte (p2.toInt8.toInt32)) &&& (255 : Int32))), .val (.int ((3 : Int32) - (3 : Int32)))]) rfl k_) ?_
  refine own_st (S' := T_35.setTop (mkF m 81 #[.val (.int p0), .val (.int p1), .val (.int p2), .val (.ref b_1), .val (.ref b_5), .val (.int ((nar .byte (p0.toInt8.toInt32)) &&& (255 : Int32))), .val (.int ((3 : Int32) - (1 : Int32))), .val (.int ((nar .byte (p1.toInt8.toInt32)) &&& (255 : Int32))), .val (.int ((3 : Int32) - (2 : Int32))), .val (.int ((nar .byte (p2.toInt8.toInt32)) &&& (255 : Int32))), .val (.int ((3 : Int32) - (3 : Int32)))] [(.int ((nar .byte (p0.toInt8.toInt32)) &&& (255 : Int32)))])) (fun t_ k_ => XS.iload X_35.here hx rfl (hb hby at_79) rfl k_) ?_
  refine own_st (S' := T_35.setTop (mkF m 82 #[.val (.int p0), .val (.int p1), .val (.int p2), .val (.ref b_1), .val (.ref b_5), .val (.int ((nar .byte (p0.toInt8.toInt32)) &&& (255 : Int32))), .val (.int ((3 : Int32) - (1 : Int32))), .val (.int ((nar .byte (p1.toInt8.toInt32)) &&& (255 : Int32))), .val (.int ((3 : Int32) - (2 : Int32))), .val (.int ((nar .byte (p2.toInt8.toInt32)) &&& (255 : Int32))), .val (.int ((3 : Int32) - (3 : Int32)))] [(.int p0), (.int ((nar .byte (p0.toInt8.toInt32)) &&& (255 : Int32)))])) (fun t_ k_ => XS.iloadN X_35.here hx rfl (hb hby at_81) rfl k_) ?_
  obtain ⟨_, _, ⟨T_36, L_36, k_36, n_36⟩, -, X_36, ⟨Lc_36, hQ_36, l_36, y_36, z_36⟩, st_36⟩ := Jvm.LawKit.callS X_35 hx (y := (⟨"com/example/hailport/hailport/wire/ByteReaderReadUnsignedBytePinLaw", "low8", "(I)I"⟩ : MethodName)) ho_28 (mvT hZ_28 (hw _ (List.mem_of_getElem? (i := 39) rfl))) (mvT hZ_28 (hw _ (List.mem_of_getElem? (i := 40) rfl))) (mvT hZ_28 (hw _ (List.mem_of_getElem? (i := 41) rfl))) (mvT hZ_28 (hw _ (List.mem_of_getElem? (i := 42) rfl))) (by decide) (backOf (W := 1) (rm5 l Z a0 hw [] p0 T_33.heap n0 Z_33 ) hZ_28 (hw _ (List.mem_of_getElem? (i := 42) rfl)) (hw _ (List.mem_of_getElem? (i := 41) rfl)) (by decide) (by decide)) (g := (mkF m 82 #[.val (.int p0), .val (.int p1), .val (.int p2), .val (.ref b_1), .val (.ref b_5), .val (.int ((nar .byte (p0.toInt8.toInt32)) &&& (255 : Int32))), .val (.int ((3 : Int32) - (1 : Int32))), .val (.int ((nar .byte (p1.toInt8.toInt32)) &&& (255 : Int32))), .val (.int ((3 : Int32) - (2 : Int32))), .val (.int ((nar .byte (p2.toInt8.toInt32)) &&& (255 : Int32))), .val (.int ((3 : Int32) - (3 : Int32)))] [(.int p0), (.int ((nar .byte (p0.toInt8.toInt32)) &&& (255 : Int32)))])) rfl (by rw [hml]; rfl) (argsL := [(.int p0)]) (rest := [(.int ((nar .byte (p0.toInt8.toInt32)) &&& (255 : Int32)))]) (lenOf pd_4 rfl) rfl (by show 2 * 0 + _ ≤ _; exact Nat.le_of_eq rfl) (hb hby at_82) (fun _ _ => ⟨rfl, q_35, (by decide : 10 + 0 ≤ _), (by decide : 38 + 0 ≤ _)⟩)
  dsimp only [Pt.U, Pt.locs, Pt.cells, Pt.slots] at X_36 l_36 y_36 z_36 st_36 hQ_36
  subst l_36 y_36 z_36
  obtain ⟨rfl, M_36, q_36⟩ := hQ_36
  have N_36 := Fr.app N_35 M_36
  refine own_st (S' := T_36.setTop (mkF m 85 #[.val (.int p0), .val (.int p1), .val (.int p2), .val (.ref b_1), .val (.ref b_5), .val (.int ((nar .byte (p0.toInt8.toInt32)) &&& (255 : Int32))), .val (.int ((3 : Int32) - (1 : Int32))), .val (.int ((nar .byte (p1.toInt8.toInt32)) &&& (255 : Int32))), .val (.int ((3 : Int32) - (2 : Int32))), .val (.int ((nar .byte (p2.toInt8.toInt32)) &&& (255 : Int32))), .val (.int ((3 : Int32) - (3 : Int32)))] [(.int (own_low8 p0)), (.int ((nar .byte (p0.toInt8.toInt32)) &&& (255 : Int32)))])) st_36 ?_
  by_cases hc85 : ((nar .byte (p0.toInt8.toInt32)) &&& (255 : Int32)) = (own_low8 p0)
  · refine own_st (S' := T_36.setTop (mkF m 88 #[.val (.int p0), .val (.int p1), .val (.int p2), .val (.ref b_1), .val (.ref b_5), .val (.int ((nar .byte (p0.toInt8.toInt32)) &&& (255 : Int32))), .val (.int ((3 : Int32) - (1 : Int32))), .val (.int ((nar .byte (p1.toInt8.toInt32)) &&& (255 : Int32))), .val (.int ((3 : Int32) - (2 : Int32))), .val (.int ((nar .byte (p2.toInt8.toInt32)) &&& (255 : Int32))), .val (.int ((3 : Int32) - (3 : Int32)))] [])) (fun t_ k_ => XS.icmpNo X_36.here hx rfl (hb hby at_85) rfl (teq hc85).2 k_) ?_
    refine own_st (S' := T_36.setTop (mkF m 90 #[.val (.int p0), .val (.int p1), .val (.int p2), .val (.ref b_1), .val (.ref b_5), .val (.int ((nar .byte (p0.toInt8.toInt32)) &&& (255 : Int32))), .val (.int ((3 : Int32) - (1 : Int32))), .val (.int ((nar .byte (p1.toInt8.toInt32)) &&& (255 : Int32))), .val (.int ((3 : Int32) - (2 : Int32))), .val (.int ((nar .byte (p2.toInt8.toInt32)) &&& (255 : Int32))), .val (.int ((3 : Int32) - (3 : Int32)))] [(.int ((3 : Int32) - (1 : Int32)))])) (fun t_ k_ => XS.iload X_36.here hx rfl (hb hby at_88) rfl k_) ?_
    refine own_st (S' := T_36.setTop (mkF m 91 #[.val (.int p0), .val (.int p1), .val (.int p2), .val (.ref b_1), .val (.ref b_5), .val (.int ((nar .byte (p0.toInt8.toInt32)) &&& (255 : Int32))), .val (.int ((3 : Int32) - (1 : Int32))), .val (.int ((nar .byte (p1.toInt8.toInt32)) &&& (255 : Int32))), .val (.int ((3 : Int32) - (2 : Int32))), .val (.int ((nar .byte (p2.toInt8.toInt32)) &&& (255 : Int32))), .val (.int ((3 : Int32) - (3 : Int32)))] [(.int (2 : Int32)), (.int ((3 : Int32) - (1 : Int32)))])) (fun t_ k_ => XS.iconst X_36.here hx rfl (hb hby at_90) k_) ?_
    refine own_st (S' := T_36.setTop (mkF m 94 #[.val (.int p0), .val (.int p1), .val (.int p2), .val (.ref b_1), .val (.ref b_5), .val (.int ((nar .byte (p0.toInt8.toInt32)) &&& (255 : Int32))), .val (.int ((3 : Int32) - (1 : Int32))), .val (.int ((nar .byte (p1.toInt8.toInt32)) &&& (255 : Int32))), .val (.int ((3 : Int32) - (2 : Int32))), .val (.int ((nar .byte (p2.toInt8.toInt32)) &&& (255 : Int32))), .val (.int ((3 : Int32) - (3 : Int32)))] [])) (fun t_ k_ => XS.icmpNo X_36.here hx rfl (hb hby at_91) rfl (teq (by decide : ((3 : Int32) - (1 : Int32)) = (2 : Int32))).2 k_) ?_
    refine own_st (S' := T_36.setTop (mkF m 96 #[.val (.int p0), .val (.int p1), .val (.int p2), .val (.ref b_1), .val (.ref b_5), .val (.int ((nar .byte (p0.toInt8.toInt32)) &&& (255 : Int32))), .val (.int ((3 : Int32) - (1 : Int32))), .val (.int ((nar .byte (p1.toInt8.toInt32)) &&& (255 : Int32))), .val (.int ((3 : Int32) - (2 : Int32))), .val (.int ((nar .byte (p2.toInt8.toInt32)) &&& (255 : Int32))), .val (.int ((3 : Int32) - (3 : Int32)))] [(.int ((nar .byte (p1.toInt8.toInt32)) &&& (255 : Int32)))])) (fun t_ k_ => XS.iload X_36.here hx rfl (hb hby at_94) rfl k_) ?_
    refine own_st (S' := T_36.setTop (mkF m 97 #[.val (.int p0), .val (.int p1), .val (.int p2), .val (.ref b_1), .val (.ref b_5), .val (.int ((nar .byte (p0.toInt8.toInt32)) &&& (255 : Int32))), .val (.int ((3 : Int32) - (1 : Int32))), .val (.int ((nar .byte (p1.toInt8.toInt32)) &&& (255 : Int32))), .val (.int ((3 : Int32) - (2 : Int32))), .val (.int ((nar .byte (p2.toInt8.toInt32)) &&& (255 : Int32))), .val (.int ((3 : Int32) - (3 : Int32)))] [(.int p1), (.int ((nar .byte (p1.toInt8.toInt32)) &&& (255 : Int32)))])) (fun t_ k_ => XS.iloadN X_36.here hx rfl (hb hby at_96) rfl k_) ?_
    obtain ⟨_, _, ⟨T_37, L_37, k_37, n_37⟩, -, X_37, ⟨Lc_37, hQ_37, l_37, y_37, z_37⟩, st_37⟩ := Jvm.LawKit.callS X_36 hx (y := (⟨"com/example/hailport/hailport/wire/ByteReaderReadUnsignedBytePinLaw", "low8", "(I)I"⟩ : MethodName)) ho_28 (mvT hZ_28 (hw _ (List.mem_of_getElem? (i := 39) rfl))) (mvT hZ_28 (hw _ (List.mem_of_getElem? (i := 40) rfl))) (mvT hZ_28 (hw _ (List.mem_of_getElem? (i := 41) rfl))) (mvT hZ_28 (hw _ (List.mem_of_getElem? (i := 42) rfl))) (by decide) (backOf (W := 1) (rm5 l Z a0 hw [] p1 T_33.heap n0 Z_33 ) hZ_28 (hw _ (List.mem_of_getElem? (i := 42) rfl)) (hw _ (List.mem_of_getElem? (i := 41) rfl)) (by decide) (by decide)) (g := (mkF m 97 #[.val (.int p0), .val (.int p1), .val (.int p2), .val (.ref b_1), .val (.ref b_5), .val (.int ((nar .byte (p0.toInt8.toInt32)) &&& (255 : Int32))), .val (.int ((3 : Int32) - (1 : Int32))), .val (.int ((nar .byte (p1.toInt8.toInt32)) &&& (255 : Int32))), .val (.int ((3 : Int32) - (2 : Int32))), .val (.int ((nar .byte (p2.toInt8.toInt32)) &&& (255 : Int32))), .val (.int ((3 : Int32) - (3 : Int32)))] [(.int p1), (.int ((nar .byte (p1.toInt8.toInt32)) &&& (255 : Int32)))])) rfl (by rw [hml]; rfl) (argsL := [(.int p1)]) (rest := [(.int ((nar .byte (p1.toInt8.toInt32)) &&& (255 : Int32)))]) (lenOf pd_4 rfl) rfl (by show 2 * 0 + _ ≤ _; exact Nat.le_of_eq rfl) (hb hby at_97) (fun _ _ => ⟨rfl, q_36, (by decide : 10 + 0 ≤ _), (by decide : 38 + 0 ≤ _)⟩)
    dsimp only [Pt.U, Pt.locs, Pt.cells, Pt.slots] at X_37 l_37 y_37 z_37 st_37 hQ_37
    subst l_37 y_37 z_37
    obtain ⟨rfl, M_37, q_37⟩ := hQ_37
    have N_37 := Fr.app N_36 M_37
    refine own_st (S' := T_37.setTop (mkF m 100 #[.val (.int p0), .val (.int p1), .val (.int p2), .val (.ref b_1), .val (.ref b_5), .val (.int ((nar .byte (p0.toInt8.toInt32)) &&& (255 : Int32))), .val (.int ((3 : Int32) - (1 : Int32))), .val (.int ((nar .byte (p1.toInt8.toInt32)) &&& (255 : Int32))), .val (.int ((3 : Int32) - (2 : Int32))), .val (.int ((nar .byte (p2.toInt8.toInt32)) &&& (255 : Int32))), .val (.int ((3 : Int32) - (3 : Int32)))] [(.int (own_low8 p1)), (.int ((nar .byte (p1.toInt8.toInt32)) &&& (255 : Int32)))])) st_37 ?_
    by_cases hc100 : ((nar .byte (p1.toInt8.toInt32)) &&& (255 : Int32)) = (own_low8 p1)
    · refine own_st (S' := T_37.setTop (mkF m 103 #[.val (.int p0), .val (.int p1), .val (.int p2), .val (.ref b_1), .val (.ref b_5), .val (.int ((nar .byte (p0.toInt8.toInt32)) &&& (255 : Int32))), .val (.int ((3 : Int32) - (1 : Int32))), .val (.int ((nar .byte (p1.toInt8.toInt32)) &&& (255 : Int32))), .val (.int ((3 : Int32) - (2 : Int32))), .val (.int ((nar .byte (p2.toInt8.toInt32)) &&& (255 : Int32))), .val (.int ((3 : Int32) - (3 : Int32)))] [])) (fun t_ k_ => XS.icmpNo X_37.here hx rfl (hb hby at_100) rfl (teq hc100).2 k_) ?_
      refine own_st (S' := T_37.setTop (mkF m 105 #[.val (.int p0), .val (.int p1), .val (.int p2), .val (.ref b_1), .val (.ref b_5), .val (.int ((nar .byte (p0.toInt8.toInt32)) &&& (255 : Int32))), .val (.int ((3 : Int32) - (1 : Int32))), .val (.int ((nar .byte (p1.toInt8.toInt32)) &&& (255 : Int32))), .val (.int ((3 : Int32) - (2 : Int32))), .val (.int ((nar .byte (p2.toInt8.toInt32)) &&& (255 : Int32))), .val (.int ((3 : Int32) - (3 : Int32)))] [(.int ((3 : Int32) - (2 : Int32)))])) (fun t_ k_ => XS.iload X_37.here hx rfl (hb hby at_103) rfl k_) ?_
      refine own_st (S' := T_37.setTop (mkF m 106 #[.val (.int p0), .val (.int p1), .val (.int p2), .val (.ref b_1), .val (.ref b_5), .val (.int ((nar .byte (p0.toInt8.toInt32)) &&& (255 : Int32))), .val (.int ((3 : Int32) - (1 : Int32))), .val (.int ((nar .byte (p1.toInt8.toInt32)) &&& (255 : Int32))), .val (.int ((3 : Int32) - (2 : Int32))), .val (.int ((nar .byte (p2.toInt8.toInt32)) &&& (255 : Int32))), .val (.int ((3 : Int32) - (3 : Int32)))] [(.int (1 : Int32)), (.int ((3 : Int32) - (2 : Int32)))])) (fun t_ k_ => XS.iconst X_37.here hx rfl (hb hby at_105) k_) ?_
      refine own_st (S' := T_37.setTop (mkF m 109 #[.val (.int p0), .val (.int p1), .val (.int p2), .val (.ref b_1), .val (.ref b_5), .val (.int ((nar .byte (p0.toInt8.toInt32)) &&& (255 : Int32))), .val (.int ((3 : Int32) - (1 : Int32))), .val (.int ((nar .byte (p1.toInt8.toInt32)) &&& (255 : Int32))), .val (.int ((3 : Int32) - (2 : Int32))), .val (.int ((nar .byte (p2.toInt8.toInt32)) &&& (255 : Int32))), .val (.int ((3 : Int32) - (3 : Int32)))] [])) (fun t_ k_ => XS.icmpNo X_37.here hx rfl (hb hby at_106) rfl (teq (by decide : ((3 : Int32) - (2 : Int32)) = (1 : Int32))).2 k_) ?_
      refine own_st (S' := T_37.setTop (mkF m 111 #[.val (.int p0), .val (.int p1), .val (.int p2), .val (.ref b_1), .val (.ref b_5), .val (.int ((nar .byte (p0.toInt8.toInt32)) &&& (255 : Int32))), .val (.int ((3 : Int32) - (1 : Int32))), .val (.int ((nar .byte (p1.toInt8.toInt32)) &&& (255 : Int32))), .val (.int ((3 : Int32) - (2 : Int32))), .val (.int ((nar .byte (p2.toInt8.toInt32)) &&& (255 : Int32))), .val (.int ((3 : Int32) - (3 : Int32)))] [(.int ((nar .byte (p2.toInt8.toInt32)) &&& (255 : Int32)))])) (fun t_ k_ => XS.iload X_37.here hx rfl (hb hby at_109) rfl k_) ?_
      refine own_st (S' := T_37.setTop (mkF m 112 #[.val (.int p0), .val (.int p1), .val (.int p2), .val (.ref b_1), .val (.ref b_5), .val (.int ((nar .byte (p0.toInt8.toInt32)) &&& (255 : Int32))), .val (.int ((3 : Int32) - (1 : Int32))), .val (.int ((nar .byte (p1.toInt8.toInt32)) &&& (255 : Int32))), .val (.int ((3 : Int32) - (2 : Int32))), .val (.int ((nar .byte (p2.toInt8.toInt32)) &&& (255 : Int32))), .val (.int ((3 : Int32) - (3 : Int32)))] [(.int p2), (.int ((nar .byte (p2.toInt8.toInt32)) &&& (255 : Int32)))])) (fun t_ k_ => XS.iloadN X_37.here hx rfl (hb hby at_111) rfl k_) ?_
      obtain ⟨_, _, ⟨T_38, L_38, k_38, n_38⟩, -, X_38, ⟨Lc_38, hQ_38, l_38, y_38, z_38⟩, st_38⟩ := Jvm.LawKit.callS X_37 hx (y := (⟨"com/example/hailport/hailport/wire/ByteReaderReadUnsignedBytePinLaw", "low8", "(I)I"⟩ : MethodName)) ho_28 (mvT hZ_28 (hw _ (List.mem_of_getElem? (i := 39) rfl))) (mvT hZ_28 (hw _ (List.mem_of_getElem? (i := 40) rfl))) (mvT hZ_28 (hw _ (List.mem_of_getElem? (i := 41) rfl))) (mvT hZ_28 (hw _ (List.mem_of_getElem? (i := 42) rfl))) (by decide) (backOf (W := 1) (rm5 l Z a0 hw [] p2 T_33.heap n0 Z_33 ) hZ_28 (hw _ (List.mem_of_getElem? (i := 42) rfl)) (hw _ (List.mem_of_getElem? (i := 41) rfl)) (by decide) (by decide)) (g := (mkF m 112 #[.val (.int p0), .val (.int p1), .val (.int p2), .val (.ref b_1), .val (.ref b_5), .val (.int ((nar .byte (p0.toInt8.toInt32)) &&& (255 : Int32))), .val (.int ((3 : Int32) - (1 : Int32))), .val (.int ((nar .byte (p1.toInt8.toInt32)) &&& (255 : Int32))), .val (.int ((3 : Int32) - (2 : Int32))), .val (.int ((nar .byte (p2.toInt8.toInt32)) &&& (255 : Int32))), .val (.int ((3 : Int32) - (3 : Int32)))] [(.int p2), (.int ((nar .byte (p2.toInt8.toInt32)) &&& (255 : Int32)))])) rfl (by rw [hml]; rfl) (argsL := [(.int p2)]) (rest := [(.int ((nar .byte (p2.toInt8.toInt32)) &&& (255 : Int32)))]) (lenOf pd_4 rfl) rfl (by show 2 * 0 + _ ≤ _; exact Nat.le_of_eq rfl) (hb hby at_112) (fun _ _ => ⟨rfl, q_37, (by decide : 10 + 0 ≤ _), (by decide : 38 + 0 ≤ _)⟩)
      dsimp only [Pt.U, Pt.locs, Pt.cells, Pt.slots] at X_38 l_38 y_38 z_38 st_38 hQ_38
      subst l_38 y_38 z_38
      obtain ⟨rfl, M_38, q_38⟩ := hQ_38
      have N_38 := Fr.app N_37 M_38
      refine own_st (S' := T_38.setTop (mkF m 115 #[.val (.int p0), .val (.int p1), .val (.int p2), .val (.ref b_1), .val (.ref b_5), .val (.int ((nar .byte (p0.toInt8.toInt32)) &&& (255 : Int32))), .val (.int ((3 : Int32) - (1 : Int32))), .val (.int ((nar .byte (p1.toInt8.toInt32)) &&& (255 : Int32))), .val (.int ((3 : Int32) - (2 : Int32))), .val (.int ((nar .byte (p2.toInt8.toInt32)) &&& (255 : Int32))), .val (.int ((3 : Int32) - (3 : Int32)))] [(.int (own_low8 p2)), (.int ((nar .byte (p2.toInt8.toInt32)) &&& (255 : Int32)))])) st_38 ?_
      by_cases hc115 : ((nar .byte (p2.toInt8.toInt32)) &&& (255 : Int32)) = (own_low8 p2)
      · refine own_st (S' := T_38.setTop (mkF m 118 #[.val (.int p0), .val (.int p1), .val (.int p2), .val (.ref b_1), .val (.ref b_5), .val (.int ((nar .byte (p0.toInt8.toInt32)) &&& (255 : Int32))), .val (.int ((3 : Int32) - (1 : Int32))), .val (.int ((nar .byte (p1.toInt8.toInt32)) &&& (255 : Int32))), .val (.int ((3 : Int32) - (2 : Int32))), .val (.int ((nar .byte (p2.toInt8.toInt32)) &&& (255 : Int32))), .val (.int ((3 : Int32) - (3 : Int32)))] [])) (fun t_ k_ => XS.icmpNo X_38.here hx rfl (hb hby at_115) rfl (teq hc115).2 k_) ?_
        refine own_st (S' := T_38.setTop (mkF m 120 #[.val (.int p0), .val (.int p1), .val (.int p2), .val (.ref b_1), .val (.ref b_5), .val (.int ((nar .byte (p0.toInt8.toInt32)) &&& (255 : Int32))), .val (.int ((3 : Int32) - (1 : Int32))), .val (.int ((nar .byte (p1.toInt8.toInt32)) &&& (255 : Int32))), .val (.int ((3 : Int32) - (2 : Int32))), .val (.int ((nar .byte (p2.toInt8.toInt32)) &&& (255 : Int32))), .val (.int ((3 : Int32) - (3 : Int32)))] [(.int ((3 : Int32) - (3 : Int32)))])) (fun t_ k_ => XS.iload X_38.here hx rfl (hb hby at_118) rfl k_) ?_
        refine own_st (S' := T_38.setTop (mkF m 123 #[.val (.int p0), .val (.int p1), .val (.int p2), .val (.ref b_1), .val (.ref b_5), .val (.int ((nar .byte (p0.toInt8.toInt32)) &&& (255 : Int32))), .val (.int ((3 : Int32) - (1 : Int32))), .val (.int ((nar .byte (p1.toInt8.toInt32)) &&& (255 : Int32))), .val (.int ((3 : Int32) - (2 : Int32))), .val (.int ((nar .byte (p2.toInt8.toInt32)) &&& (255 : Int32))), .val (.int ((3 : Int32) - (3 : Int32)))] [])) (fun t_ k_ => XS.ifNo X_38.here hx rfl (hb hby at_120) rfl ((if0 _ _).trans (teq (by decide : ((3 : Int32) - (3 : Int32)) = (0 : Int32))).2) k_) ?_
        refine own_st (S' := T_38.setTop (mkF m 124 #[.val (.int p0), .val (.int p1), .val (.int p2), .val (.ref b_1), .val (.ref b_5), .val (.int ((nar .byte (p0.toInt8.toInt32)) &&& (255 : Int32))), .val (.int ((3 : Int32) - (1 : Int32))), .val (.int ((nar .byte (p1.toInt8.toInt32)) &&& (255 : Int32))), .val (.int ((3 : Int32) - (2 : Int32))), .val (.int ((nar .byte (p2.toInt8.toInt32)) &&& (255 : Int32))), .val (.int ((3 : Int32) - (3 : Int32)))] [(.int (1 : Int32))])) (fun t_ k_ => XS.iconst X_38.here hx rfl (hb hby at_123) k_) ?_
        refine own_st (S' := T_38.setTop (mkF m 128 #[.val (.int p0), .val (.int p1), .val (.int p2), .val (.ref b_1), .val (.ref b_5), .val (.int ((nar .byte (p0.toInt8.toInt32)) &&& (255 : Int32))), .val (.int ((3 : Int32) - (1 : Int32))), .val (.int ((nar .byte (p1.toInt8.toInt32)) &&& (255 : Int32))), .val (.int ((3 : Int32) - (2 : Int32))), .val (.int ((nar .byte (p2.toInt8.toInt32)) &&& (255 : Int32))), .val (.int ((3 : Int32) - (3 : Int32)))] [(.int (1 : Int32))])) (fun t_ k_ => XS.goto X_38.here hx rfl (pc0 := 124) (pc' := 128) rfl (hb hby at_124) (by decide) (by decide) k_) ?_
        obtain ⟨fs, hr, hrun, hended, hRW⟩ := Stand.leaveW (s := s) (vm₁ := T_28.vm) X_38 (n := k_28) hS_28 (by rw [q_38]; exact hs_33) (v := some (.int (1 : Int32))) (fun h => by rw [Bd.returns] at h; cases h)
        refine ⟨_, _, retN X_38 hx (t := .boolean) Bd.returns (by simp) (hb hby at_128) hr, hrun, hended, _, _, rfl, ?_, ⟨_, rfl⟩, hRW.2.1, hRW.2.2.1, hRW.2.2.2.mono (by decide) (by decide)⟩
        show Q0 Z p0 p1 p2 h0 n0 _ T_38.heap _
        rw [q_38]
        exact ⟨rfl, N_38⟩
      · exact absurd (own_low _) hc115
    · exact absurd (own_low _) hc100
  · exact absurd (own_low _) hc85
set_option maxRecDepth 65536 in
set_option maxHeartbeats 40000000 in
theorem comes_1 {Post : Tables → Env → Array Value → State → Outcome → State → Prop} (hpost : ∀ tb e args s v u, (limb_1_1.after args s (.returned v) u = true ∧ limb_1_2.after args s (.returned v) u = true ∧ True) → ReturnedEndW s (.returned v) u (Jvm.fieldLocs frame_1_writes args s ++ Jvm.arrayLocs frame_1_arrays args s ++ Jvm.staticLocs frame_1_statics s) 16 2176 → Post tb e args s (.returned v) u) :
    ArmFor flags0 classFile x code maxLocals ret World_1 tables_1 room_1 Calls_1 rest_1 Pre_1 Post := by
  intro l hfl _ _ p e ha hc hk s m args below hf hA hF happ hP
  obtain ⟨hcalls, hrest, hpre⟩ := hP
  obtain ⟨-, -, -, hnamed, -, -, -, hat⟩ := (Spec.applies_iff hf).mp happ
  obtain ⟨hg, hn⟩ := and_e (Cond.before_iff.mp (show (Jvm.Cond.and given_1 narrow_1).before args s = true from hpre))
  obtain ⟨hcount, ht0⟩ := and_e hg
  obtain ⟨ha0, ht1⟩ := and_e ht0
  obtain ⟨ha1, ht2⟩ := and_e ht1
  obtain ⟨w0, w1, w2, rfl⟩ : ∃ w0 w1 w2 : Value, args = #[w0, w1, w2] := by
    have hs : args.size = 3 := by simpa [Cond.value, given_1] using hcount
    obtain ⟨L⟩ := args
    match L, hs with
    | [w0, w1, w2], _ => exact ⟨w0, w1, w2, rfl⟩
  have hw := fun d (hd : d ∈ tables_1) => atoms_spec (ws := Jvm.Cond.code x code maxLocals ret :: tables_1) hat d (List.mem_cons_of_mem _ hd)
  have hfit : Fit s := fun {y c} hc i hi => by
    obtain ⟨ha, rfl⟩ := Array.getElem?_eq_some_iff.mp hc
    have q := List.all_eq_true.mp ((Array.all_eq_true_iff_forall_mem.mp hF) _ (Array.getElem_mem ha)) i (List.mem_range.mpr hi)
    simpa [Array.getElem?_eq_getElem hi] using q
  obtain ⟨i0, ei0⟩ := is_v ha0
  obtain rfl : w0 = (.int i0) := Option.some.inj ei0
  obtain ⟨i1, ei1⟩ := is_v ha1
  obtain rfl : w1 = (.int i1) := Option.some.inj ei1
  obtain ⟨i2, ei2⟩ := is_v ht2
  obtain rfl : w2 = (.int i2) := Option.some.inj ei2
  obtain ⟨n, o, h1, h2, h3, _, L, rfl, ⟨rfl, N⟩, hq⟩ := rm0 l s _ hw tables_1 i0 i1 i2 s.heap s.heap.size (Nat.le_refl _)  p e ha hc hk s m _ below hf ((Spec.applies_iff_loose hf).mp happ).1 ⟨rfl, State.Warmed39.refl s, rfl⟩ trivial
  refine ⟨n, _, h1, h2, h3, hpost _ _ _ _ _ _ ⟨Cond.after_iff.mpr rfl, Cond.after_iff.mpr (eq_i res_at (Term.int_eval (1)) rfl), trivial⟩ ⟨hq.1, hq.2.1, hq.2.2.1, (hq.2.2.2.sift fun y hy => Or.inr (N y hy)).mono (by decide) (by decide)⟩⟩
theorem main_1_1 : Claimed_1_1 := comes_1 fun _ _ _ _ _ _ h hF => ⟨h.1, hF⟩
theorem main_1_2 : Claimed_1_2 := comes_1 fun _ _ _ _ _ _ h hF => ⟨h.2.1, hF⟩
end Jvm.Pilot.@@N@@
namespace Jvm.Pilot.@@N@@
open Jvm Jvm.ClassFile Sem Op Lib Jvm.Free Jvm.Stand Jvm.Pilot.@@N@@.Jvm.D
/-! MADE BY PROGRAM (witnessworld.py) out of the Statement's table words and the real class files: 14 classes; the members and pool entries that the words name. The judged class is class 1, her method 1. -/
namespace start1
open Jvm.ClassFile
def u (s : String) : CpInfo := .utf8 (stringToUtf16 s)
/-- a pool by its gaps: so many unusable entries, then the entry; so many at the end -/
def gap : Nat → List CpInfo → List CpInfo
  | 0, r => r
  | n + 1, r => .unusable :: gap n r
def poolList (es : List (Nat × CpInfo)) (last : Nat) : List CpInfo := es.foldr (fun e r => gap e.1 (e.2 :: r)) (gap last [])
def pool (es : List (Nat × CpInfo)) (last : Nat) : Array CpInfo := ⟨poolList es last⟩
def fileOf (pool : Array CpInfo) (this : Nat) (attrs : Array Attribute := #[]) (ms : Array MethodInfo := #[]) (fl : Nat := 33) (sup : Nat := 0) (ifs : Array Nat := #[]) (fds : Array FieldInfo := #[]) : ClassFile where
  minorVersion := 0
  majorVersion := 65
  constantPool := pool
  accessFlags := fl
  thisClass := this
  superClass := sup
  interfaces := ifs
  fields := fds
  methods := ms
  attributes := attrs
def plain (name : String) (sup : Option ClassId) : Class where
  name := name
  kind := .ordinary
  loader := none
  accessFlags := 33
  super := sup
  interfaces := #[]
  cf := none
  fields := #[]
  methods := #[]
  instanceTypes := #[]
  staticTypes := #[]
  resolved := #[]
  callSites := []
  init := .initialized
  statics := none
  mirror := none

def pool0 : Array CpInfo := pool [(5, u "<init>"), (0, u "()V"), (1, .class_ 10), (1, u "java/lang/Object")] 113

def k0c0 : Code := { maxStack := 0, maxLocals := 1, code := object_method_1_code, exceptionTable := #[], attributes := #[] }
def k0m0 : Method := { name := "<init>", desc := "()V", sig := { parameters := [], returnType := none }, accessFlags := 1, code := some k0c0 }
/-- java/lang/Object -/
def k0 : Class := { plain "java/lang/Object" none with
  accessFlags := 33
  interfaces := #[]
  cf := some (fileOf pool0 8 #[] #[{ accessFlags := 1, nameIndex := 5, descriptorIndex := 6, attributes := #[] }] 33 0 #[] #[])
  fields := #[]
  methods := #[k0m0]
  instanceTypes := #[]
  staticTypes := #[]
  resolved := Array.replicate 124 none
  statics := none }

def pool1 : Array CpInfo := pool [(2, .class_ 4), (1, u "java/lang/Object"), (0, u "<init>"), (0, u "()V"), (0, .class_ 8), (0, u "com/example/hailport/hailport/wire/ByteReader"), (0, .string 10), (0, u "m"), (0, .methodref 7 12), (0, .nameAndType 5 13), (0, u "([BLjava/lang/String;)V"), (0, .string 15), (0, u "f"), (0, .methodref 7 17), (0, .nameAndType 18 19), (0, u "readUnsignedByte"), (0, u "(Ljava/lang/String;)I"), (0, .methodref 7 21), (0, .nameAndType 22 23), (0, u "remaining"), (0, u "()I"), (0, .methodref 25 26), (0, .class_ 27), (0, .nameAndType 28 29), (0, u "com/example/hailport/hailport/wire/ByteReaderReadUnsignedBytePinLaw"), (0, u "low8"), (0, u "(I)I"), (2, u "law"), (0, u "(III)Z")] 8

def k1m0 : Method := { name := "<init>", desc := "()V", sig := { parameters := [], returnType := none }, accessFlags := 1, code := none }
def k1c1 : Code := { maxStack := 4, maxLocals := 11, code := code, exceptionTable := #[], attributes := #[] }
def k1m1 : Method := { name := "law", desc := "(III)Z", sig := { parameters := [.int, .int, .int], returnType := some .boolean }, accessFlags := 9, code := some k1c1 }
def k1c2 : Code := { maxStack := 2, maxLocals := 1, code := method_3_code, exceptionTable := #[], attributes := #[] }
def k1m2 : Method := { name := "low8", desc := "(I)I", sig := { parameters := [.int], returnType := some .int }, accessFlags := 10, code := some k1c2 }
/-- com/example/hailport/hailport/wire/ByteReaderReadUnsignedBytePinLaw -/
def k1 : Class := { plain "com/example/hailport/hailport/wire/ByteReaderReadUnsignedBytePinLaw" (some 0) with
  accessFlags := 49
  interfaces := #[]
  cf := some (fileOf pool1 25 #[] #[{ accessFlags := 1, nameIndex := 5, descriptorIndex := 6, attributes := #[] }, { accessFlags := 9, nameIndex := 32, descriptorIndex := 33, attributes := #[] }, { accessFlags := 10, nameIndex := 28, descriptorIndex := 29, attributes := #[] }] 49 2 #[] #[])
  fields := #[]
  methods := #[k1m0, k1m1, k1m2]
  instanceTypes := #[]
  staticTypes := #[]
  resolved := Array.replicate 42 none
  statics := none }

def pool2 : Array CpInfo := pool [(1, .methodref 2 3), (0, .class_ 4), (0, .nameAndType 5 6), (0, u "java/lang/Object"), (0, u "<init>"), (0, u "()V"), (0, .fieldref 8 9), (0, .class_ 10), (0, .nameAndType 11 12), (0, u "com/example/hailport/hailport/wire/ByteReader"), (0, u "bytes"), (0, u "[B"), (0, .fieldref 8 14), (0, .nameAndType 15 16), (0, u "description"), (0, u "Ljava/lang/String;"), (0, .methodref 8 18), (0, .nameAndType 19 20), (0, u "require"), (0, u "(ILjava/lang/String;)V"), (0, .fieldref 8 22), (0, .nameAndType 23 24), (0, u "position"), (0, u "I"), (34, .methodref 8 60), (0, .nameAndType 61 62), (0, u "remaining"), (0, u "()I"), (6, u "([BLjava/lang/String;)V"), (2, u "readUnsignedByte"), (0, u "(Ljava/lang/String;)I")] 29

def k2c0 : Code := { maxStack := 2, maxLocals := 3, code := prog_48_method_1_code, exceptionTable := #[], attributes := #[] }
def k2m0 : Method := { name := "<init>", desc := "([BLjava/lang/String;)V", sig := { parameters := [(.array .byte), (.object "java/lang/String")], returnType := none }, accessFlags := 1, code := some k2c0 }
def k2c1 : Code := { maxStack := 3, maxLocals := 3, code := prog_48_method_2_code, exceptionTable := #[], attributes := #[] }
def k2m1 : Method := { name := "readUnsignedByte", desc := "(Ljava/lang/String;)I", sig := { parameters := [(.object "java/lang/String")], returnType := some .int }, accessFlags := 1, code := some k2c1 }
def k2c2 : Code := { maxStack := 2, maxLocals := 1, code := prog_48_method_7_code, exceptionTable := #[], attributes := #[] }
def k2m2 : Method := { name := "remaining", desc := "()I", sig := { parameters := [], returnType := some .int }, accessFlags := 1, code := some k2c2 }
def k2c3 : Code := { maxStack := 2, maxLocals := 3, code := prog_48_method_11_code, exceptionTable := #[], attributes := #[] }
def k2m3 : Method := { name := "require", desc := "(ILjava/lang/String;)V", sig := { parameters := [.int, (.object "java/lang/String")], returnType := none }, accessFlags := 2, code := some k2c3 }
/-- com/example/hailport/hailport/wire/ByteReader -/
def k2 : Class := { plain "com/example/hailport/hailport/wire/ByteReader" (some 0) with
  accessFlags := 49
  interfaces := #[]
  cf := some (fileOf pool2 8 #[] #[{ accessFlags := 1, nameIndex := 5, descriptorIndex := 69, attributes := #[] }, { accessFlags := 1, nameIndex := 72, descriptorIndex := 73, attributes := #[] }, { accessFlags := 1, nameIndex := 61, descriptorIndex := 62, attributes := #[] }, { accessFlags := 2, nameIndex := 19, descriptorIndex := 20, attributes := #[] }] 49 2 #[] #[{ accessFlags := 18, nameIndex := 11, descriptorIndex := 12, attributes := #[] }, { accessFlags := 18, nameIndex := 15, descriptorIndex := 16, attributes := #[] }, { accessFlags := 2, nameIndex := 23, descriptorIndex := 24, attributes := #[] }])
  fields := #[{ name := "bytes", type := (.array .byte), accessFlags := 18, slot := 0, constantValue := 0 }, { name := "description", type := (.object "java/lang/String"), accessFlags := 18, slot := 1, constantValue := 0 }, { name := "position", type := .int, accessFlags := 2, slot := 2, constantValue := 0 }]
  methods := #[k2m0, k2m1, k2m2, k2m3]
  instanceTypes := #[(.array .byte), (.object "java/lang/String"), .int]
  staticTypes := #[]
  resolved := Array.replicate 103 none
  statics := none }

def pool3 : Array CpInfo := pool [(1, .class_ 2), (0, u "java/io/Serializable"), (0, .class_ 4), (0, u "java/lang/Object")] 2

/-- java/io/Serializable -/
def k3 : Class := { plain "java/io/Serializable" (some 0) with
  accessFlags := 1537
  interfaces := #[]
  cf := some (fileOf pool3 1 #[] #[] 1537 3 #[] #[])
  fields := #[]
  methods := #[]
  instanceTypes := #[]
  staticTypes := #[]
  resolved := Array.replicate 7 none
  statics := none }

def pool4 : Array CpInfo := pool [(1, .class_ 2), (0, u "java/lang/Comparable"), (0, .class_ 4), (0, u "java/lang/Object")] 7

/-- java/lang/Comparable -/
def k4 : Class := { plain "java/lang/Comparable" (some 0) with
  accessFlags := 1537
  interfaces := #[]
  cf := some (fileOf pool4 1 #[] #[] 1537 3 #[] #[])
  fields := #[]
  methods := #[]
  instanceTypes := #[]
  staticTypes := #[]
  resolved := Array.replicate 12 none
  statics := none }

def pool5 : Array CpInfo := pool [(2, .class_ 4), (1, u "java/lang/CharSequence"), (42, .class_ 48), (0, u "java/lang/CharSequence$1CodePointIterator"), (10, .class_ 60), (0, u "java/lang/CharSequence$1CharIterator"), (5, .class_ 67), (0, u "java/lang/Object")] 63

/-- java/lang/CharSequence -/
def k5 : Class := { plain "java/lang/CharSequence" (some 0) with
  accessFlags := 1537
  interfaces := #[]
  cf := some (fileOf pool5 2 #[.nestMembers #[47, 59]] #[] 1537 66 #[] #[])
  fields := #[]
  methods := #[]
  instanceTypes := #[]
  staticTypes := #[]
  resolved := Array.replicate 131 none
  statics := none }

def pool6 : Array CpInfo := pool [(1, .class_ 2), (0, u "java/lang/constant/Constable"), (0, .class_ 4), (0, u "java/lang/Object")] 6

/-- java/lang/constant/Constable -/
def k6 : Class := { plain "java/lang/constant/Constable" (some 0) with
  accessFlags := 1537
  interfaces := #[]
  cf := some (fileOf pool6 1 #[] #[] 1537 3 #[] #[])
  fields := #[]
  methods := #[]
  instanceTypes := #[]
  staticTypes := #[]
  resolved := Array.replicate 11 none
  statics := none }

def pool7 : Array CpInfo := pool [(1, .class_ 2), (0, u "java/lang/constant/ConstantDesc"), (0, .class_ 4), (0, u "java/lang/Object")] 32

/-- java/lang/constant/ConstantDesc -/
def k7 : Class := { plain "java/lang/constant/ConstantDesc" (some 0) with
  accessFlags := 1537
  interfaces := #[]
  cf := some (fileOf pool7 1 #[] #[] 1537 3 #[] #[])
  fields := #[]
  methods := #[]
  instanceTypes := #[]
  staticTypes := #[]
  resolved := Array.replicate 37 none
  statics := none }

def pool8 : Array CpInfo := pool [(2, .class_ 4), (1, u "java/lang/Object"), (0, u "<init>"), (0, u "()V"), (3, .class_ 12), (1, u "java/lang/String"), (0, u "value"), (0, u "[B"), (2, u "coder"), (0, u "B"), (2, u "hash"), (0, u "I"), (2, u "hashIsZero"), (0, u "Z"), (13, u "COMPACT_STRINGS"), (534, .class_ 576), (0, u "java/lang/CharSequence"), (22, u "CASE_INSENSITIVE_ORDER"), (0, u "Ljava/util/Comparator;"), (500, u "serialPersistentFields"), (0, u "[Ljava/io/ObjectStreamField;"), (0, .class_ 1104), (0, u "java/lang/String$CaseInsensitiveComparator"), (1, .class_ 1107), (0, u "java/io/Serializable"), (0, .class_ 1109), (0, u "java/lang/Comparable"), (0, .class_ 1111), (0, u "java/lang/constant/Constable"), (0, .class_ 1113), (0, u "java/lang/constant/ConstantDesc"), (2, u "serialVersionUID"), (0, u "J"), (3, u "REPL"), (0, u "C"), (2, u "LATIN1"), (1, u "UTF16")] 323

def k8m0 : Method := { name := "<init>", desc := "()V", sig := { parameters := [], returnType := none }, accessFlags := 1, code := none }
/-- java/lang/String -/
def k8 : Class := { plain "java/lang/String" (some 0) with
  accessFlags := 49
  interfaces := #[3, 4, 5, 6, 7]
  cf := some (fileOf pool8 10 #[.nestMembers #[1103]] #[{ accessFlags := 1, nameIndex := 5, descriptorIndex := 6, attributes := #[] }] 49 2 #[1106, 1108, 575, 1110, 1112] #[{ accessFlags := 18, nameIndex := 13, descriptorIndex := 14, attributes := #[] }, { accessFlags := 18, nameIndex := 17, descriptorIndex := 18, attributes := #[] }, { accessFlags := 2, nameIndex := 21, descriptorIndex := 22, attributes := #[] }, { accessFlags := 2, nameIndex := 25, descriptorIndex := 26, attributes := #[] }, { accessFlags := 26, nameIndex := 1116, descriptorIndex := 1117, attributes := #[] }, { accessFlags := 24, nameIndex := 40, descriptorIndex := 26, attributes := #[] }, { accessFlags := 26, nameIndex := 1101, descriptorIndex := 1102, attributes := #[] }, { accessFlags := 26, nameIndex := 1121, descriptorIndex := 1122, attributes := #[] }, { accessFlags := 25, nameIndex := 599, descriptorIndex := 600, attributes := #[] }, { accessFlags := 24, nameIndex := 1125, descriptorIndex := 18, attributes := #[] }, { accessFlags := 24, nameIndex := 1127, descriptorIndex := 18, attributes := #[] }])
  fields := #[{ name := "value", type := (.array .byte), accessFlags := 18, slot := 0, constantValue := 0 }, { name := "coder", type := .byte, accessFlags := 18, slot := 1, constantValue := 0 }, { name := "hash", type := .int, accessFlags := 2, slot := 2, constantValue := 0 }, { name := "hashIsZero", type := .boolean, accessFlags := 2, slot := 3, constantValue := 0 }, { name := "serialVersionUID", type := .long, accessFlags := 26, slot := 0, constantValue := 0 }, { name := "COMPACT_STRINGS", type := .boolean, accessFlags := 24, slot := 1, constantValue := 0 }, { name := "serialPersistentFields", type := (.array (.object "java/io/ObjectStreamField")), accessFlags := 26, slot := 2, constantValue := 0 }, { name := "REPL", type := .char, accessFlags := 26, slot := 3, constantValue := 0 }, { name := "CASE_INSENSITIVE_ORDER", type := (.object "java/util/Comparator"), accessFlags := 25, slot := 4, constantValue := 0 }, { name := "LATIN1", type := .byte, accessFlags := 24, slot := 5, constantValue := 0 }, { name := "UTF16", type := .byte, accessFlags := 24, slot := 6, constantValue := 0 }]
  methods := #[k8m0]
  instanceTypes := #[(.array .byte), .byte, .int, .boolean]
  staticTypes := #[.long, .boolean, (.array (.object "java/io/ObjectStreamField")), .char, (.object "java/util/Comparator"), .byte, .byte]
  resolved := Array.replicate 1451 none
  statics := none }

def pool9 : Array CpInfo := pool [(1, u "java/lang/Cloneable"), (0, .class_ 1), (0, u "java/lang/Object"), (0, .class_ 3)] 3

/-- java/lang/Cloneable -/
def k9 : Class := { plain "java/lang/Cloneable" (some 0) with
  accessFlags := 1537
  interfaces := #[]
  cf := some (fileOf pool9 2 #[] #[] 1537 4 #[] #[])
  fields := #[]
  methods := #[]
  instanceTypes := #[]
  staticTypes := #[]
  resolved := Array.replicate 8 none
  statics := none }

/-- the primitive byte -/
def k10 : Class := { plain "byte" none with kind := .primitive 'B', accessFlags := 0x411 }
/-- [B -/
def k11 : Class := { plain "[B" (some 0) with kind := .array 10 .byte, interfaces := #[9, 3], accessFlags := 1041 }

/-- the primitive int -/
def k12 : Class := { plain "int" none with kind := .primitive 'I', accessFlags := 0x411 }
/-- [I -/
def k13 : Class := { plain "[I" (some 0) with kind := .array 12 .int, interfaces := #[9, 3], accessFlags := 1041 }

def heap : Heap := #[]
def classes : Array Class := #[k0, k1, k2, k3, k4, k5, k6, k7, k8, k9, k10, k11, k12, k13]
def interned : List (Array UInt16 × Addr) := []
def slotsUsed : Nat := 0
def theMethod : MethodId := ⟨1, 1⟩
def args0 : Array Value := #[.int 5, .int 1, .int 2]
def aboutOver (below : List Frame) : State where
  vm := { classes := classes, interned := interned.toArray }
  heap := heap
  slotsUsed := slotsUsed
  threads := #[{ frames := .invoking theMethod args0 :: below }]
def below0 : List Frame := [.native { method := ⟨0, 0⟩, args := #[] }]
def about1 : State := aboutOver below0
def p0 : Program := .bare "" "" ""
def e0 : Env := launch0.env 0 0 0
theorem w_frames : about1.frames = Frame.invoking theMethod args0 :: below0 := rfl
set_option maxRecDepth 65536 in
theorem w_args : argsFit about1.vm theMethod args0 = true := by decide +kernel
set_option maxRecDepth 65536 in
theorem w_heap : heapFits about1 = true := by decide +kernel
set_option maxRecDepth 65536 in
theorem w_runnable : about1.curStatus? = some .runnable := by decide +kernel
set_option maxRecDepth 65536 in
theorem w_alone : about1.alone = true := by decide +kernel
set_option maxRecDepth 65536 in
theorem w_named : about1.methodNamed? x = some theMethod := by decide +kernel
set_option maxRecDepth 65536 in
theorem w_hears : about1.hears theMethod below0 = true := by decide +kernel
set_option maxRecDepth 65536 in
theorem w_ripe : about1.ripe theMethod args0 below0 = true := by decide +kernel
theorem w_running : about1.status = .running := rfl
set_option maxRecDepth 65536 in
theorem w_room : about1.hasRoom e0.platform room_1 = true :=
  launch0.hasRoom_least _ room_1 (by decide +kernel) (by decide +kernel) (by decide +kernel) (by decide +kernel) (by decide +kernel) (by decide +kernel)
theorem allAtoms_all (ts : List Jvm.Cond) (a : Array Jvm.Value) (st : Jvm.State) : (allAtoms ts).before a st = ts.all (fun c => c.before a st) := by
  induction ts with
  | nil => rfl
  | cons c t ih =>
    show (Jvm.Cond.and c (allAtoms t)).before a st = _
    rw [Jvm.Cond.before_and, ih, List.all_cons]
def words1 : List Jvm.Cond := Jvm.Cond.code x code maxLocals ret :: tables_1
/-- a 'code' word, met by the world's own term for the bytes: nothing is compared byte by byte -/
theorem code_word {y : MethodName} {bytes : ByteArray} {mx : Nat} {rt : Option FieldType} {a : Array Value} {s : State} {m : MethodId} {meth : Method} {c : Code} (h1 : s.methodNamed? y = some m) (h2 : s.vm.method? m = some meth) (h3 : meth.code = some c) (h4 : c.code = bytes)
    (h5 : (c.maxLocals == mx && c.exceptionTable.isEmpty && decide (c.maxStack ≤ mostOperands) && decide (meth.sig.returnType = rt) && !meth.locks && decide (parseMethodDescriptor y.desc = some meth.sig)) = true) : (Jvm.Cond.code y bytes mx rt).before a s = true := by
  simp only [Bool.and_eq_true, beq_iff_eq, Bool.not_eq_true', decide_eq_true_eq] at h5
  obtain ⟨⟨⟨⟨⟨g1, g2⟩, g3⟩, g4⟩, g5⟩, g6⟩ := h5
  simp [Cond.before, Cond.holds, Cond.value, h1, h2, h3, h4, g1, g2, g3, g4, g5, g6]
def isCode : Jvm.Cond → Bool
  | .code _ _ _ _ => true
  | _ => false
theorem all_split {L : List Jvm.Cond} {P : Jvm.Cond → Bool} (h1 : L.all (fun c => isCode c || P c) = true) (h2 : ∀ c ∈ L.filter isCode, P c = true) : L.all P = true := by
  refine List.all_eq_true.mpr fun c hc => ?_
  have h := List.all_eq_true.mp h1 c hc
  rcases Bool.eq_false_or_eq_true (isCode c) with hi | hi
  · exact h2 c (List.mem_filter.mpr ⟨hc, hi⟩)
  · simpa [hi] using h
set_option maxRecDepth 65536 in
theorem w_c0 : (Jvm.Cond.code x code maxLocals ret).before args0 about1 = true := code_word (m := ⟨1, 1⟩) (meth := k1m1) (c := k1c1) (by decide +kernel) rfl rfl rfl (by decide +kernel)
set_option maxRecDepth 65536 in
theorem w_c1 : (Jvm.Cond.code ({ cls := "com/example/hailport/hailport/wire/ByteReader", name := "<init>", desc := "([BLjava/lang/String;)V" } : Jvm.MethodName) prog_48_method_1_code (3 : Nat) (Option.none : Option Jvm.ClassFile.FieldType)).before args0 about1 = true := code_word (m := ⟨2, 0⟩) (meth := k2m0) (c := k2c0) (by decide +kernel) rfl rfl rfl (by decide +kernel)
set_option maxRecDepth 65536 in
theorem w_c2 : (Jvm.Cond.code ({ cls := "java/lang/Object", name := "<init>", desc := "()V" } : Jvm.MethodName) object_method_1_code (1 : Nat) (Option.none : Option Jvm.ClassFile.FieldType)).before args0 about1 = true := code_word (m := ⟨0, 0⟩) (meth := k0m0) (c := k0c0) (by decide +kernel) rfl rfl rfl (by decide +kernel)
set_option maxRecDepth 65536 in
theorem w_c3 : (Jvm.Cond.code ({ cls := "com/example/hailport/hailport/wire/ByteReader", name := "readUnsignedByte", desc := "(Ljava/lang/String;)I" } : Jvm.MethodName) prog_48_method_2_code (3 : Nat) (Option.some Jvm.ClassFile.FieldType.int)).before args0 about1 = true := code_word (m := ⟨2, 1⟩) (meth := k2m1) (c := k2c1) (by decide +kernel) rfl rfl rfl (by decide +kernel)
set_option maxRecDepth 65536 in
theorem w_c4 : (Jvm.Cond.code ({ cls := "com/example/hailport/hailport/wire/ByteReader", name := "require", desc := "(ILjava/lang/String;)V" } : Jvm.MethodName) prog_48_method_11_code (3 : Nat) (Option.none : Option Jvm.ClassFile.FieldType)).before args0 about1 = true := code_word (m := ⟨2, 3⟩) (meth := k2m3) (c := k2c3) (by decide +kernel) rfl rfl rfl (by decide +kernel)
set_option maxRecDepth 65536 in
theorem w_c5 : (Jvm.Cond.code ({ cls := "com/example/hailport/hailport/wire/ByteReader", name := "remaining", desc := "()I" } : Jvm.MethodName) prog_48_method_7_code (1 : Nat) (Option.some Jvm.ClassFile.FieldType.int)).before args0 about1 = true := code_word (m := ⟨2, 2⟩) (meth := k2m2) (c := k2c2) (by decide +kernel) rfl rfl rfl (by decide +kernel)
set_option maxRecDepth 65536 in
theorem w_c6 : (Jvm.Cond.code ({ cls := "com/example/hailport/hailport/wire/ByteReaderReadUnsignedBytePinLaw", name := "low8", desc := "(I)I" } : Jvm.MethodName) method_3_code (1 : Nat) (Option.some Jvm.ClassFile.FieldType.int)).before args0 about1 = true := code_word (m := ⟨1, 2⟩) (meth := k1m2) (c := k1c2) (by decide +kernel) rfl rfl rfl (by decide +kernel)
def codes1 : List Jvm.Cond := [Jvm.Cond.code x code maxLocals ret, Jvm.Cond.code ({ cls := "com/example/hailport/hailport/wire/ByteReader", name := "<init>", desc := "([BLjava/lang/String;)V" } : Jvm.MethodName) prog_48_method_1_code (3 : Nat) (Option.none : Option Jvm.ClassFile.FieldType), Jvm.Cond.code ({ cls := "java/lang/Object", name := "<init>", desc := "()V" } : Jvm.MethodName) object_method_1_code (1 : Nat) (Option.none : Option Jvm.ClassFile.FieldType), Jvm.Cond.code ({ cls := "com/example/hailport/hailport/wire/ByteReader", name := "readUnsignedByte", desc := "(Ljava/lang/String;)I" } : Jvm.MethodName) prog_48_method_2_code (3 : Nat) (Option.some Jvm.ClassFile.FieldType.int), Jvm.Cond.code ({ cls := "com/example/hailport/hailport/wire/ByteReader", name := "require", desc := "(ILjava/lang/String;)V" } : Jvm.MethodName) prog_48_method_11_code (3 : Nat) (Option.none : Option Jvm.ClassFile.FieldType), Jvm.Cond.code ({ cls := "com/example/hailport/hailport/wire/ByteReader", name := "remaining", desc := "()I" } : Jvm.MethodName) prog_48_method_7_code (1 : Nat) (Option.some Jvm.ClassFile.FieldType.int), Jvm.Cond.code ({ cls := "com/example/hailport/hailport/wire/ByteReaderReadUnsignedBytePinLaw", name := "low8", desc := "(I)I" } : Jvm.MethodName) method_3_code (1 : Nat) (Option.some Jvm.ClassFile.FieldType.int)]
set_option maxRecDepth 65536 in
theorem codes_eq : words1.filter isCode = codes1 := rfl
theorem w_codes : ∀ c ∈ words1.filter isCode, c.before args0 about1 = true := by
  rw [codes_eq]
  intro c hc
  simp only [codes1, List.mem_cons, List.not_mem_nil, or_false] at hc
  rcases hc with rfl | rfl | rfl | rfl | rfl | rfl | rfl
  · exact w_c0
  · exact w_c1
  · exact w_c2
  · exact w_c3
  · exact w_c4
  · exact w_c5
  · exact w_c6
set_option maxRecDepth 65536 in
theorem w_t1 : (words1.take 24).all (fun c => isCode c || c.before args0 about1) = true := by decide +kernel
set_option maxRecDepth 65536 in
theorem w_t2 : (words1.drop 24).all (fun c => isCode c || c.before args0 about1) = true := by decide +kernel
theorem w_tables : (allAtoms (Jvm.Cond.code x code maxLocals ret :: tables_1)).before args0 about1 = true := by
  rw [allAtoms_all]
  show words1.all (fun c => c.before args0 about1) = true
  refine all_split ?_ w_codes
  rw [← List.take_append_drop 24 words1, List.all_append, w_t1, w_t2]
  rfl
set_option maxRecDepth 65536 in
theorem w_case : (Jvm.Cond.and given_1 narrow_1).before args0 about1 = true := by decide +kernel
theorem w_applies : (headSpec (Jvm.Cond.code x code maxLocals ret :: tables_1) room_1).applies x e0.platform about1 = true :=
  (Spec.applies_iff w_frames).mpr ⟨w_running, w_runnable, w_alone, w_named, w_hears, w_ripe, w_room, w_tables⟩
theorem atStart : AtStart classFile x code maxLocals ret World_1 tables_1 room_1 Calls_1 rest_1 Pre_1 launch0 p0 e0 about1 theMethod args0 below0 :=
  ⟨lists_1, trivial, launch0.admits_env _ _ _, launch0.least_env, fairChoices_fair.cas, fairChoices_fair.clock, w_frames, w_args, w_heap, w_applies, trivial, trivial, w_case⟩
end start1
theorem witness_1 : WitnessClaimed_1 := ⟨start1.p0, start1.e0, start1.about1, start1.theMethod, start1.args0, start1.below0, start1.atStart⟩
end Jvm.Pilot.@@N@@
