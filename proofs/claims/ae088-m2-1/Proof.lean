import JvmDerived
import JvmDerived.Pilot.@@N@@Statement
import JvmDerived.Pilot.@@N@@Code
set_option linter.unusedVariables false
set_option linter.unusedSimpArgs false
namespace Jvm.RoadKit
open Sem ClassFile Op Lib Jvm.Stand Jvm.Free Jvm.LawKit
section New
variable {p : Program} {l : Launch} {e : Env} {R : Room} {s : State} {m : MethodId} {args : Array Value} {below : List Frame} {meth : Method} {c : Code} {T : State} {locs : List Loc} {cells slots : Nat}
theorem retI (X : Stand p l e R s m args below meth c T locs cells slots) (hx : p.tables.exec = Jvm.exec) {pc : Nat} {Ls : Array Slot} {z : Int32} {rest : List Value} (hret : meth.sig.returnType = some .int) (hd : decode c.code pc = .ok (.ireturn, 1)) {fs : List Frame}
    (hl : ∀ (f : JFrame) (acts : List Action), f.method = m → f.locked = none → f.entered = [] → (doReturn e (T.setTop f) acts (some (.int z))).1 = T.setFrames fs) : Steps p.tables e below (T.setTop (mkF m pc Ls (.int z :: rest))) (T.setFrames fs) :=
  retOut X hx hret rfl (Or.inl ⟨rfl, Or.inl rfl, _, rfl⟩) hd hl
theorem own_retJ (X : Stand p l e R s m args below meth c T locs cells slots) (hx : p.tables.exec = Jvm.exec) {pc : Nat} {Ls : Array Slot} {z : Int64} {rest : List Value} (hret : meth.sig.returnType = some .long) (hd : decode c.code pc = .ok (.lreturn, 1)) {fs : List Frame}
    (hl : ∀ (f : JFrame) (acts : List Action), f.method = m → f.locked = none → f.entered = [] → (doReturn e (T.setTop f) acts (some (.long z))).1 = T.setFrames fs) : Steps p.tables e below (T.setTop (mkF m pc Ls (.long z :: rest))) (T.setFrames fs) :=
  retOut X hx hret rfl (Or.inr (Or.inl ⟨rfl, rfl, _, rfl⟩)) hd hl
theorem own_retD (X : Stand p l e R s m args below meth c T locs cells slots) (hx : p.tables.exec = Jvm.exec) {pc : Nat} {Ls : Array Slot} {z : UInt64} {rest : List Value} (hret : meth.sig.returnType = some .double) (hd : decode c.code pc = .ok (.dreturn, 1)) {fs : List Frame}
    (hl : ∀ (f : JFrame) (acts : List Action), f.method = m → f.locked = none → f.entered = [] → (doReturn e (T.setTop f) acts (some (.double z))).1 = T.setFrames fs) : Steps p.tables e below (T.setTop (mkF m pc Ls (.double z :: rest))) (T.setFrames fs) :=
  retOut X hx hret rfl (Or.inr (Or.inr (Or.inl ⟨rfl, rfl, _, rfl⟩))) hd hl
theorem own_retR (X : Stand p l e R s m args below meth c T locs cells slots) (hx : p.tables.exec = Jvm.exec) {pc : Nat} {Ls : Array Slot} {w : Value} {t : FieldType} {rest : List Value} (hret : meth.sig.returnType = some t) (ht : t.isReference = true) (hv : w.isRef = true) (hd : decode c.code pc = .ok (.areturn, 1)) {fs : List Frame}
    (hl : ∀ (f : JFrame) (acts : List Action), f.method = m → f.locked = none → f.entered = [] → (doReturn e (T.setTop f) acts (some w)).1 = T.setFrames fs) : Steps p.tables e below (T.setTop (mkF m pc Ls (w :: rest))) (T.setFrames fs) :=
  retOut X hx hret (by rcases ref_cases hv with rfl | ⟨a, rfl⟩ <;> cases t <;> first | rfl | cases ht) (Or.inr (Or.inr (Or.inr (Or.inr ⟨rfl, ht, hv⟩)))) hd hl
end New
section Own
variable {p : Program} {e : Env} {below : List Frame}
/-- the run from S ends as P says -/
def own_Gl (p : Program) (e : Env) (below : List Frame) (P : Outcome → State → Prop) (S : State) : Prop := ∃ s₂ o, Steps p.tables e below S s₂ ∧ s₂.status = .running ∧ Ended s₂ below o ∧ P o s₂
theorem own_gl {P : Outcome → State → Prop} {S : State} (h : own_Gl p e below P S) : ∃ s₂ o, Steps p.tables e below S s₂ ∧ s₂.status = .running ∧ Ended s₂ below o ∧ P o s₂ := h
theorem own_st {P : Outcome → State → Prop} {S S' : State} (h : ∀ t, Steps p.tables e below S' t → Steps p.tables e below S t) (k : own_Gl p e below P S') : own_Gl p e below P S := by
  obtain ⟨s₂, o, h1, h2⟩ := k
  exact ⟨s₂, o, h _ h1, h2⟩
theorem own_cast {P : Outcome → State → Prop} {S S' : State} (h : S' = S) (k : own_Gl p e below P S') : own_Gl p e below P S := h ▸ k
theorem own_join {P : Outcome → State → Prop} {S : State} {α : Type} {F : α → State} {H : α → Prop} (J : ∀ x, H x → own_Gl p e below P (F x)) (k : (∀ x, H x → own_Gl p e below P (F x)) → own_Gl p e below P S) : own_Gl p e below P S := k J
theorem own_selfsel {s : State} {args : Array Value} {y : MethodName} {n : Nat} (wi : (Cond.instantiable y.cls n).before args s = true) (wp : (Cond.privateMethod y).before args s = true) (hinst : (Cond.instanceMethod y).before args s = true) (hy : y.cls ≠ "java/lang/invoke/MethodHandle" ∧ y.cls ≠ "java/lang/invoke/VarHandle") : (Cond.selects y.cls y y).before args s = true := by
  obtain ⟨c, k, h1, h2, -, h3, -⟩ := Cond.instantiable_spec wi
  exact selects_self_of_private h1 h2 (by simp only [Bool.or_eq_false_iff] at h3; exact h3.1) (Cond.privateMethod_at wp) hinst hy
/-- a place of an array is written, whatever it holds -/
theorem own_arv_any {Z : State} {h h' : Heap} {a : Addr} {c : Cell} {k : ClassId} {ty : FieldType} {z j : Int32} {vs : List Value} {dv v : Value} (A : Arr Z h a c ty) (q1 : c.cls = k) (S : c.slots.size = z.toNatClampNeg) (q3 : ¬ z < 0) (H : Has c vs dv) (G : ∀ i, i < c.slots.size → fits ty (vs.getD i dv) = true) (hv : fits ty v = true) (W : Wr h h' a j.toNatClampNeg v) (hj : ¬ (j < 0 ∨ c.slots.size ≤ j.toNatClampNeg)) : ∃ vs', Arv Z h' a k ty z vs' dv := by
  have F : Arv Z h a k ty z (vs ++ List.replicate z.toNatClampNeg dv) dv := Arv.pad ⟨c, A, q1, S, q3, H, G⟩ (pad_rep vs dv _)
  obtain ⟨c', A', r1, r2, r3, r4, r5⟩ := F
  cases A.1.symm.trans A'.1
  exact ⟨_, Arv.set A' r1 r2 r3 r4 r5 hv W j.toNatClampNeg rfl (by
    have q := Nat.lt_of_not_le fun y => hj (Or.inr y)
    rw [S] at q
    simp only [List.length_append, List.length_replicate]
    omega)⟩
end Own
end Jvm.RoadKit

namespace Jvm.Pilot.@@N@@
open Jvm Jvm.ClassFile Sem Op Lib Jvm.Free Jvm.Stand Jvm.LawKit Jvm.RoadKit Bundle Jvm.Pilot.@@N@@.Jvm.D

/-- what alongSide computes -/
def own_along (d f : Int32) : Int64 := if f = 0 then (1 : Int64) <<< (d &&& 0x3f).toInt64 else (((1 : Int64) <<< (d &&& 0x3f).toInt64) <<< ((1 : Int32) &&& 0x3f).toInt64) - 1
def own_good (d f : Int32) : Prop := (0 : Int64) < own_along d f ∧ ((own_along d f).toUInt64 >>> (d &&& 0x3f).toInt64.toUInt64).toInt64 = (1 : Int64) ∧ (f = 1 → own_along d f &&& (own_along d f + 1) = 0) ∧ (f = 0 → own_along d f &&& (own_along d f - 1) = 0)
instance (d f : Int32) : Decidable (own_good d f) := by unfold own_good; infer_instance
theorem own_all : ∀ k : Fin 63, own_good (Int32.ofNat k.val) 0 ∧ own_good (Int32.ofNat k.val) 1 := by decide +kernel
theorem own_rng (x : Int32) : ∃ k : Fin 63, (x &&& 2147483647) % 63 = Int32.ofNat k.val := by
  have h1 := c_mask x 2147483647 31 (by decide) (by decide)
  have h2 := (c_irem (x &&& 2147483647) 63 63 (by decide)).1 (by omega)
  have h3 : 0 ≤ ((x &&& 2147483647) % 63).toInt ∧ ((x &&& 2147483647) % 63).toInt < 63 := by omega
  refine ⟨⟨((x &&& 2147483647) % 63).toInt.toNat, by omega⟩, ?_⟩
  apply Int32.toInt_inj.mp
  rw [Int32.toInt_ofNat_of_lt (by show ((x &&& 2147483647) % 63).toInt.toNat < _; omega)]
  show ((x &&& 2147483647) % 63).toInt = ((((x &&& 2147483647) % 63).toInt.toNat : Nat) : Int)
  omega
theorem own_g0 (x : Int32) : own_good ((x &&& 2147483647) % 63) 0 := by obtain ⟨k, hk⟩ := own_rng x; rw [hk]; exact (own_all k).1
theorem own_g1 (x : Int32) : own_good ((x &&& 2147483647) % 63) 1 := by obtain ⟨k, hk⟩ := own_rng x; rw [hk]; exact (own_all k).2

theorem d1_0 : decode prog_16_method_5_code 0 = .ok (.lconst 1, 1) := by decide +kernel
theorem d1_1 : decode prog_16_method_5_code 1 = .ok (.iload_n 0, 1) := by decide +kernel
theorem d1_2 : decode prog_16_method_5_code 2 = .ok (.lshl, 1) := by decide +kernel
theorem d1_3 : decode prog_16_method_5_code 3 = .ok (.lstore_n 2, 1) := by decide +kernel
theorem d1_4 : decode prog_16_method_5_code 4 = .ok (.iload_n 1, 1) := by decide +kernel
theorem d1_5 : decode prog_16_method_5_code 5 = .ok (.ifCond .eq 11, 3) := by decide +kernel
theorem d1_8 : decode prog_16_method_5_code 8 = .ok (.lload_n 2, 1) := by decide +kernel
theorem d1_9 : decode prog_16_method_5_code 9 = .ok (.iconst 1, 1) := by decide +kernel
theorem d1_10 : decode prog_16_method_5_code 10 = .ok (.lshl, 1) := by decide +kernel
theorem d1_11 : decode prog_16_method_5_code 11 = .ok (.lconst 1, 1) := by decide +kernel
theorem d1_12 : decode prog_16_method_5_code 12 = .ok (.lsub, 1) := by decide +kernel
theorem d1_13 : decode prog_16_method_5_code 13 = .ok (.goto 4, 3) := by decide +kernel
theorem d1_16 : decode prog_16_method_5_code 16 = .ok (.lload_n 2, 1) := by decide +kernel
theorem d1_17 : decode prog_16_method_5_code 17 = .ok (.lreturn, 1) := by decide +kernel
theorem pn_0 : plainName "com/example/bloodwood/bloodwood/internal/TreePath" = true := by first | (simp [plainName, overriddenIn]; done) | decide +kernel
theorem ef_1 (m : MethodId) (p1 : Int32) (p2 : Int32) : entryFrame m #[(.int p1), (.int p2)] 4 = mkF m 0 #[.val (.int p1), .val (.int p2), .unset, .unset] [] := by first | (simp [entryFrame, mkF, argsToLocals, Value.category]; done) | rfl
def Q1 (Z : State) (p1 : Int32) (p2 : Int32) (h0 : Heap) (n0 : Nat) (v : Option Value) (h : Heap) (L : List Loc) : Prop := v = some (.long (own_along p1 p2)) ∧ Fr n0 L ∧ h = h0
set_option maxRecDepth 65536 in
set_option maxHeartbeats 40000000 in
theorem rm1 (l : Launch) (Z : State) (a0 : Array Value) (hw : ∀ d ∈ tables_1, d.before a0 Z = true) (ws : List Jvm.Cond) (p1 : Int32) (p2 : Int32) (h0 : Heap) (n0 : Nat) (Z0 : n0 ≤ h0.size)  :
    MetFree l (⟨"com/example/bloodwood/bloodwood/internal/TreePath", "alongSide", "(IZ)J"⟩ : MethodName) (head1 (Jvm.Cond.code (⟨"com/example/bloodwood/bloodwood/internal/TreePath", "alongSide", "(IZ)J"⟩ : MethodName) prog_16_method_5_code 4 (some .long) :: ws) ({ frames := 0, cells := 0, slots := 0, locals := 0 } : Room)) (fun ar_ U => ar_ = #[(.int p1), (.int p2)] ∧ Z.Warmed39 U.vm ∧ U.heap = h0) (fun _ _ _ _ _ => True) (fun _ U o U' => ∃ v L, o = .returned v ∧ Q1 Z p1 p2 h0 n0 v U'.heap L ∧ FrameEnd U o U' L ({ frames := 0, cells := 0, slots := 0, locals := 0 } : Room).cells ({ frames := 0, cells := 0, slots := 0, locals := 0 } : Room).slots) := by
  refine MetFree.of_bodySF (plainFor_of_name pn_0) hisR ?_
  intro p e s m args below meth c s₁ Bd hml0 hP hK
  obtain ⟨rfl, hZ, hh⟩ := hP
  have hx := Bd.exec
  have hby := Bd.bytes
  have hml : c.maxLocals = 4 := hml0
  have hown : s.vm.findClass "com/example/bloodwood/bloodwood/internal/TreePath" = some m.cls := findClass_of_methodNamed Bd.named
  have hnm := (name_of_methodNamed Bd.named Bd.method).1
  have X0 : Stand p l e ({ frames := 0, cells := 0, slots := 0, locals := 0 } : Room) s m #[(.int p1), (.int p2)] below meth c s₁ [] 0 0 := Stand.of_body Bd
  have e0 : s₁.heap = h0 := by rw [← hh, Bd.state]; rfl
  have N0 := Fr.nil n0
  refine own_gl ?_
  refine own_st (S' := s₁.setTop (mkF m 0 #[.val (.int p1), .val (.int p2), .unset, .unset] [])) (fun t_ k_ => castTop (ef_1 m p1 p2) k_) ?_
  refine own_st (S' := s₁.setTop (mkF m 1 #[.val (.int p1), .val (.int p2), .unset, .unset] [(.long (1 : Int64))])) (fun t_ k_ => XS.lconst X0.here hx rfl (hb hby d1_0) k_) ?_
  refine own_st (S' := s₁.setTop (mkF m 2 #[.val (.int p1), .val (.int p2), .unset, .unset] [(.int p1), (.long (1 : Int64))])) (fun t_ k_ => XS.iloadN X0.here hx rfl (hb hby d1_1) rfl k_) ?_
  refine own_st (S' := s₁.setTop (mkF m 3 #[.val (.int p1), .val (.int p2), .unset, .unset] [(.long ((1 : Int64) <<< (p1 &&& 0x3f).toInt64))])) (fun t_ k_ => XS.lshl X0.here hx rfl (hb hby d1_2) rfl k_) ?_
  refine own_st (S' := s₁.setTop (mkF m 4 #[.val (.int p1), .val (.int p2), .val (.long ((1 : Int64) <<< (p1 &&& 0x3f).toInt64)), .second] [])) (fun t_ k_ => XS.lstoreN X0.here hx rfl (hb hby d1_3) rfl (l' := #[.val (.int p1), .val (.int p2), .val (.long ((1 : Int64) <<< (p1 &&& 0x3f).toInt64)), .second]) rfl k_) ?_
  refine own_st (S' := s₁.setTop (mkF m 5 #[.val (.int p1), .val (.int p2), .val (.long ((1 : Int64) <<< (p1 &&& 0x3f).toInt64)), .second] [(.int p2)])) (fun t_ k_ => XS.iloadN X0.here hx rfl (hb hby d1_4) rfl k_) ?_
  by_cases hc5 : p2 = (0 : Int32)
  · refine own_st (S' := s₁.setTop (mkF m 16 #[.val (.int p1), .val (.int p2), .val (.long ((1 : Int64) <<< (p1 &&& 0x3f).toInt64)), .second] [])) (fun t_ k_ => XS.ifYes X0.here hx rfl (pc0 := 5) (pc' := 16) rfl (hb hby d1_5) rfl ((if0 _ _).trans (teq hc5).1) (by decide) (by decide) k_) ?_
    refine own_st (S' := s₁.setTop (mkF m 17 #[.val (.int p1), .val (.int p2), .val (.long ((1 : Int64) <<< (p1 &&& 0x3f).toInt64)), .second] [(.long ((1 : Int64) <<< (p1 &&& 0x3f).toInt64))])) (fun t_ k_ => XS.lloadN X0.here hx rfl (hb hby d1_16) rfl k_) ?_
    obtain ⟨fs, hr, hrun, hended, hW, hsame⟩ := X0.leave (v := some (.long ((1 : Int64) <<< (p1 &&& 0x3f).toInt64))) (fun h => by rw [Bd.returns] at h; cases h)
    refine ⟨_, _, own_retJ X0 hx Bd.returns (hb hby d1_17) hr, hrun, hended, _, _, rfl, ?_, ⟨_, rfl⟩, hW, hsame.mono (by decide) (by decide)⟩
    show Q1 Z p1 p2 h0 n0 _ s₁.heap _
    rw [e0]
    exact ⟨(congrArg (fun z => some (Value.long z)) (show ((1 : Int64) <<< (p1 &&& 0x3f).toInt64) = (own_along p1 p2) from by simp [own_along, hc5])), N0, rfl⟩
  · refine own_st (S' := s₁.setTop (mkF m 8 #[.val (.int p1), .val (.int p2), .val (.long ((1 : Int64) <<< (p1 &&& 0x3f).toInt64)), .second] [])) (fun t_ k_ => XS.ifNo X0.here hx rfl (hb hby d1_5) rfl ((if0 _ _).trans (feq hc5).1) k_) ?_
    refine own_st (S' := s₁.setTop (mkF m 9 #[.val (.int p1), .val (.int p2), .val (.long ((1 : Int64) <<< (p1 &&& 0x3f).toInt64)), .second] [(.long ((1 : Int64) <<< (p1 &&& 0x3f).toInt64))])) (fun t_ k_ => XS.lloadN X0.here hx rfl (hb hby d1_8) rfl k_) ?_
    refine own_st (S' := s₁.setTop (mkF m 10 #[.val (.int p1), .val (.int p2), .val (.long ((1 : Int64) <<< (p1 &&& 0x3f).toInt64)), .second] [(.int (1 : Int32)), (.long ((1 : Int64) <<< (p1 &&& 0x3f).toInt64))])) (fun t_ k_ => XS.iconst X0.here hx rfl (hb hby d1_9) k_) ?_
    refine own_st (S' := s₁.setTop (mkF m 11 #[.val (.int p1), .val (.int p2), .val (.long ((1 : Int64) <<< (p1 &&& 0x3f).toInt64)), .second] [(.long (((1 : Int64) <<< (p1 &&& 0x3f).toInt64) <<< ((1 : Int32) &&& 0x3f).toInt64))])) (fun t_ k_ => XS.lshl X0.here hx rfl (hb hby d1_10) rfl k_) ?_
    refine own_st (S' := s₁.setTop (mkF m 12 #[.val (.int p1), .val (.int p2), .val (.long ((1 : Int64) <<< (p1 &&& 0x3f).toInt64)), .second] [(.long (1 : Int64)), (.long (((1 : Int64) <<< (p1 &&& 0x3f).toInt64) <<< ((1 : Int32) &&& 0x3f).toInt64))])) (fun t_ k_ => XS.lconst X0.here hx rfl (hb hby d1_11) k_) ?_
    refine own_st (S' := s₁.setTop (mkF m 13 #[.val (.int p1), .val (.int p2), .val (.long ((1 : Int64) <<< (p1 &&& 0x3f).toInt64)), .second] [(.long ((((1 : Int64) <<< (p1 &&& 0x3f).toInt64) <<< ((1 : Int32) &&& 0x3f).toInt64) - (1 : Int64)))])) (fun t_ k_ => XS.lsub X0.here hx rfl (hb hby d1_12) rfl k_) ?_
    refine own_st (S' := s₁.setTop (mkF m 17 #[.val (.int p1), .val (.int p2), .val (.long ((1 : Int64) <<< (p1 &&& 0x3f).toInt64)), .second] [(.long ((((1 : Int64) <<< (p1 &&& 0x3f).toInt64) <<< ((1 : Int32) &&& 0x3f).toInt64) - (1 : Int64)))])) (fun t_ k_ => XS.goto X0.here hx rfl (pc0 := 13) (pc' := 17) rfl (hb hby d1_13) (by decide) (by decide) k_) ?_
    obtain ⟨fs, hr, hrun, hended, hW, hsame⟩ := X0.leave (v := some (.long ((((1 : Int64) <<< (p1 &&& 0x3f).toInt64) <<< ((1 : Int32) &&& 0x3f).toInt64) - (1 : Int64)))) (fun h => by rw [Bd.returns] at h; cases h)
    refine ⟨_, _, own_retJ X0 hx Bd.returns (hb hby d1_17) hr, hrun, hended, _, _, rfl, ?_, ⟨_, rfl⟩, hW, hsame.mono (by decide) (by decide)⟩
    show Q1 Z p1 p2 h0 n0 _ s₁.heap _
    rw [e0]
    exact ⟨(congrArg (fun z => some (Value.long z)) (show ((((1 : Int64) <<< (p1 &&& 0x3f).toInt64) <<< ((1 : Int32) &&& 0x3f).toInt64) - (1 : Int64)) = (own_along p1 p2) from by simp [own_along, hc5])), N0, rfl⟩
theorem pn_1 : plainName "com/example/bloodwood/bloodwood/internal/TreePathAlongSidePinLaw" = true := by first | (simp [plainName, overriddenIn]; done) | decide +kernel
theorem ef_0 (m : MethodId) (p0 : Int32) (p1 : Int32) : entryFrame m #[(.int p0), (.int p1)] maxLocals = mkF m 0 #[.val (.int p0), .val (.int p1), .unset, .unset, .unset, .unset] [] := by first | (simp [entryFrame, mkF, argsToLocals, Value.category, maxLocals]; done) | rfl
theorem pd_0 : parseMethodDescriptor "(IZ)J" = some ⟨[.int, .boolean], some .long⟩ := by decide +kernel
def Q0 (Z : State) (p0 : Int32) (p1 : Int32) (h0 : Heap) (n0 : Nat) (v : Option Value) (h : Heap) (L : List Loc) : Prop := v = some (.int (1 : Int32)) ∧ Fr n0 L
set_option maxRecDepth 65536 in
set_option maxHeartbeats 40000000 in
theorem rm0 (l : Launch) (Z : State) (a0 : Array Value) (hw : ∀ d ∈ tables_1, d.before a0 Z = true) (ws : List Jvm.Cond) (p0 : Int32) (p1 : Int32) (h0 : Heap) (n0 : Nat) (Z0 : n0 ≤ h0.size)  :
    MetFree l x (head1 (Jvm.Cond.code x code maxLocals ret :: ws) room_1) (fun ar_ U => ar_ = #[(.int p0), (.int p1)] ∧ Z.Warmed39 U.vm ∧ U.heap = h0) (fun _ _ _ _ _ => True) (fun _ U o U' => ∃ v L, o = .returned v ∧ Q0 Z p0 p1 h0 n0 v U'.heap L ∧ FrameEnd U o U' L room_1.cells room_1.slots) := by
  refine MetFree.of_bodySF (plainFor_of_name pn_1) hisR ?_
  intro p e s m args below meth c s₁ Bd hml0 hP hK
  obtain ⟨rfl, hZ, hh⟩ := hP
  have hx := Bd.exec
  have hby := Bd.bytes
  have hml : c.maxLocals = 6 := hml0
  have hown : s.vm.findClass "com/example/bloodwood/bloodwood/internal/TreePathAlongSidePinLaw" = some m.cls := findClass_of_methodNamed Bd.named
  have hnm := (name_of_methodNamed Bd.named Bd.method).1
  have X0 : Stand p l e room_1 s m #[(.int p0), (.int p1)] below meth c s₁ [] 0 0 := Stand.of_body Bd
  have e0 : s₁.heap = h0 := by rw [← hh, Bd.state]; rfl
  have N0 := Fr.nil n0
  refine own_gl ?_
  refine own_st (S' := s₁.setTop (mkF m 0 #[.val (.int p0), .val (.int p1), .unset, .unset, .unset, .unset] [])) (fun t_ k_ => castTop (ef_0 m p0 p1) k_) ?_
  refine own_st (S' := s₁.setTop (mkF m 1 #[.val (.int p0), .val (.int p1), .unset, .unset, .unset, .unset] [(.int p0)])) (fun t_ k_ => XS.iloadN X0.here hx rfl (hb hby at_0) rfl k_) ?_
  refine own_st (S' := s₁.setTop (mkF m 3 #[.val (.int p0), .val (.int p1), .unset, .unset, .unset, .unset] [(.int (2147483647 : Int32)), (.int p0)])) (fun t_ k_ => X0.ldcI hx hown (mvT hZ (hw _ (List.mem_of_getElem? (i := 0) rfl))) (g := (mkF m 1 #[.val (.int p0), .val (.int p1), .unset, .unset, .unset, .unset] [(.int p0)])) rfl (hb hby at_1) k_) ?_
  refine own_st (S' := s₁.setTop (mkF m 4 #[.val (.int p0), .val (.int p1), .unset, .unset, .unset, .unset] [(.int (p0 &&& (2147483647 : Int32)))])) (fun t_ k_ => XS.iand X0.here hx rfl (hb hby at_3) rfl k_) ?_
  refine own_st (S' := s₁.setTop (mkF m 6 #[.val (.int p0), .val (.int p1), .unset, .unset, .unset, .unset] [(.int (63 : Int32)), (.int (p0 &&& (2147483647 : Int32)))])) (fun t_ k_ => XS.bipush X0.here hx rfl (hb hby at_4) k_) ?_
  refine own_st (S' := s₁.setTop (mkF m 7 #[.val (.int p0), .val (.int p1), .unset, .unset, .unset, .unset] [(.int ((p0 &&& (2147483647 : Int32)) % (63 : Int32)))])) (fun t_ k_ => iremM (g := (mkF m 6 #[.val (.int p0), .val (.int p1), .unset, .unset, .unset, .unset] [(.int (63 : Int32)), (.int (p0 &&& (2147483647 : Int32)))])) X0 hx rfl (hb hby at_6) rfl (by decide) k_) ?_
  refine own_st (S' := s₁.setTop (mkF m 8 #[.val (.int p0), .val (.int p1), .val (.int ((p0 &&& (2147483647 : Int32)) % (63 : Int32))), .unset, .unset, .unset] [])) (fun t_ k_ => XS.istoreN X0.here hx rfl (hb hby at_7) rfl (l' := #[.val (.int p0), .val (.int p1), .val (.int ((p0 &&& (2147483647 : Int32)) % (63 : Int32))), .unset, .unset, .unset]) rfl k_) ?_
  refine own_st (S' := s₁.setTop (mkF m 9 #[.val (.int p0), .val (.int p1), .val (.int ((p0 &&& (2147483647 : Int32)) % (63 : Int32))), .unset, .unset, .unset] [(.int p1)])) (fun t_ k_ => XS.iloadN X0.here hx rfl (hb hby at_8) rfl k_) ?_
  refine own_st (S' := s₁.setTop (mkF m 10 #[.val (.int p0), .val (.int p1), .val (.int ((p0 &&& (2147483647 : Int32)) % (63 : Int32))), .unset, .unset, .unset] [(.int (1 : Int32)), (.int p1)])) (fun t_ k_ => XS.iconst X0.here hx rfl (hb hby at_9) k_) ?_
  refine own_st (S' := s₁.setTop (mkF m 11 #[.val (.int p0), .val (.int p1), .val (.int ((p0 &&& (2147483647 : Int32)) % (63 : Int32))), .unset, .unset, .unset] [(.int (p1 &&& (1 : Int32)))])) (fun t_ k_ => XS.iand X0.here hx rfl (hb hby at_10) rfl k_) ?_
  by_cases hc11 : (p1 &&& (1 : Int32)) = (0 : Int32)
  · refine own_st (S' := s₁.setTop (mkF m 18 #[.val (.int p0), .val (.int p1), .val (.int ((p0 &&& (2147483647 : Int32)) % (63 : Int32))), .unset, .unset, .unset] [])) (fun t_ k_ => XS.ifYes X0.here hx rfl (pc0 := 11) (pc' := 18) rfl (hb hby at_11) rfl ((if0 _ _).trans (teq hc11).1) (by decide) (by decide) k_) ?_
    refine own_st (S' := s₁.setTop (mkF m 19 #[.val (.int p0), .val (.int p1), .val (.int ((p0 &&& (2147483647 : Int32)) % (63 : Int32))), .unset, .unset, .unset] [(.int (0 : Int32))])) (fun t_ k_ => XS.iconst X0.here hx rfl (hb hby at_18) k_) ?_
    refine own_st (S' := s₁.setTop (mkF m 20 #[.val (.int p0), .val (.int p1), .val (.int ((p0 &&& (2147483647 : Int32)) % (63 : Int32))), .val (.int (0 : Int32)), .unset, .unset] [])) (fun t_ k_ => XS.istoreN X0.here hx rfl (hb hby at_19) rfl (l' := #[.val (.int p0), .val (.int p1), .val (.int ((p0 &&& (2147483647 : Int32)) % (63 : Int32))), .val (.int (0 : Int32)), .unset, .unset]) rfl k_) ?_
    refine own_st (S' := s₁.setTop (mkF m 21 #[.val (.int p0), .val (.int p1), .val (.int ((p0 &&& (2147483647 : Int32)) % (63 : Int32))), .val (.int (0 : Int32)), .unset, .unset] [(.int ((p0 &&& (2147483647 : Int32)) % (63 : Int32)))])) (fun t_ k_ => XS.iloadN X0.here hx rfl (hb hby at_20) rfl k_) ?_
    refine own_st (S' := s₁.setTop (mkF m 22 #[.val (.int p0), .val (.int p1), .val (.int ((p0 &&& (2147483647 : Int32)) % (63 : Int32))), .val (.int (0 : Int32)), .unset, .unset] [(.int (0 : Int32)), (.int ((p0 &&& (2147483647 : Int32)) % (63 : Int32)))])) (fun t_ k_ => XS.iloadN X0.here hx rfl (hb hby at_21) rfl k_) ?_
    obtain ⟨_, _, ⟨T1, L1, k1, n1⟩, -, X1, ⟨Lc1, hQ1, l1, y1, z1⟩, st1⟩ := Jvm.LawKit.callS X0 hx (y := (⟨"com/example/bloodwood/bloodwood/internal/TreePath", "alongSide", "(IZ)J"⟩ : MethodName)) hown (mvT hZ (hw _ (List.mem_of_getElem? (i := 1) rfl))) (mvT hZ (hw _ (List.mem_of_getElem? (i := 2) rfl))) (mvT hZ (hw _ (List.mem_of_getElem? (i := 3) rfl))) (mvT hZ (hw _ (List.mem_of_getElem? (i := 4) rfl))) (by decide) (backOf (W := 0) (rm1 l Z a0 hw [] ((p0 &&& (2147483647 : Int32)) % (63 : Int32)) (0 : Int32) h0 n0 Z0 ) hZ (hw _ (List.mem_of_getElem? (i := 4) rfl)) (hw _ (List.mem_of_getElem? (i := 3) rfl)) (by decide) (by decide)) (g := (mkF m 22 #[.val (.int p0), .val (.int p1), .val (.int ((p0 &&& (2147483647 : Int32)) % (63 : Int32))), .val (.int (0 : Int32)), .unset, .unset] [(.int (0 : Int32)), (.int ((p0 &&& (2147483647 : Int32)) % (63 : Int32)))])) rfl (by rw [hml]; rfl) (argsL := [(.int ((p0 &&& (2147483647 : Int32)) % (63 : Int32))), (.int (0 : Int32))]) (rest := []) (lenOf pd_0 rfl) rfl (by show 2 * 0 + _ ≤ _; exact Nat.le_of_eq rfl) (hb hby at_22) (fun _ _ => ⟨rfl, e0, (by decide : 0 + 0 ≤ _), (by decide : 0 + 0 ≤ _)⟩)
    dsimp only [Pt.U, Pt.locs, Pt.cells, Pt.slots] at X1 l1 y1 z1 st1 hQ1
    subst l1 y1 z1
    obtain ⟨rfl, M1, q1⟩ := hQ1
    have N1 := Fr.app N0 M1
    refine own_st (S' := T1.setTop (mkF m 25 #[.val (.int p0), .val (.int p1), .val (.int ((p0 &&& (2147483647 : Int32)) % (63 : Int32))), .val (.int (0 : Int32)), .unset, .unset] [(.long (own_along ((p0 &&& (2147483647 : Int32)) % (63 : Int32)) (0 : Int32)))])) st1 ?_
    refine own_st (S' := T1.setTop (mkF m 27 #[.val (.int p0), .val (.int p1), .val (.int ((p0 &&& (2147483647 : Int32)) % (63 : Int32))), .val (.int (0 : Int32)), .val (.long (own_along ((p0 &&& (2147483647 : Int32)) % (63 : Int32)) (0 : Int32))), .second] [])) (fun t_ k_ => XS.lstore X1.here hx rfl (hb hby at_25) rfl (l' := #[.val (.int p0), .val (.int p1), .val (.int ((p0 &&& (2147483647 : Int32)) % (63 : Int32))), .val (.int (0 : Int32)), .val (.long (own_along ((p0 &&& (2147483647 : Int32)) % (63 : Int32)) (0 : Int32))), .second]) rfl k_) ?_
    refine own_st (S' := T1.setTop (mkF m 29 #[.val (.int p0), .val (.int p1), .val (.int ((p0 &&& (2147483647 : Int32)) % (63 : Int32))), .val (.int (0 : Int32)), .val (.long (own_along ((p0 &&& (2147483647 : Int32)) % (63 : Int32)) (0 : Int32))), .second] [(.long (own_along ((p0 &&& (2147483647 : Int32)) % (63 : Int32)) (0 : Int32)))])) (fun t_ k_ => XS.lload X1.here hx rfl (hb hby at_27) rfl k_) ?_
    refine own_st (S' := T1.setTop (mkF m 30 #[.val (.int p0), .val (.int p1), .val (.int ((p0 &&& (2147483647 : Int32)) % (63 : Int32))), .val (.int (0 : Int32)), .val (.long (own_along ((p0 &&& (2147483647 : Int32)) % (63 : Int32)) (0 : Int32))), .second] [(.long (0 : Int64)), (.long (own_along ((p0 &&& (2147483647 : Int32)) % (63 : Int32)) (0 : Int32)))])) (fun t_ k_ => XS.lconst X1.here hx rfl (hb hby at_29) k_) ?_
    refine own_st (S' := T1.setTop (mkF m 31 #[.val (.int p0), .val (.int p1), .val (.int ((p0 &&& (2147483647 : Int32)) % (63 : Int32))), .val (.int (0 : Int32)), .val (.long (own_along ((p0 &&& (2147483647 : Int32)) % (63 : Int32)) (0 : Int32))), .second] [(.int (lcmpW (own_along ((p0 &&& (2147483647 : Int32)) % (63 : Int32)) (0 : Int32)) (0 : Int64)))])) (fun t_ k_ => XS.lcmp X1.here hx rfl (hb hby at_30) rfl k_) ?_
    by_cases hc31 : (0 : Int64) < (own_along ((p0 &&& (2147483647 : Int32)) % (63 : Int32)) (0 : Int32))
    · refine own_st (S' := T1.setTop (mkF m 36 #[.val (.int p0), .val (.int p1), .val (.int ((p0 &&& (2147483647 : Int32)) % (63 : Int32))), .val (.int (0 : Int32)), .val (.long (own_along ((p0 &&& (2147483647 : Int32)) % (63 : Int32)) (0 : Int32))), .second] [])) (fun t_ k_ => XS.ifYes X1.here hx rfl (pc0 := 31) (pc' := 36) rfl (hb hby at_31) rfl ((if0 _ _).trans (tlt ((lw_gt _ _).mpr hc31)).2.2.1) (by decide) (by decide) k_) ?_
      refine own_st (S' := T1.setTop (mkF m 38 #[.val (.int p0), .val (.int p1), .val (.int ((p0 &&& (2147483647 : Int32)) % (63 : Int32))), .val (.int (0 : Int32)), .val (.long (own_along ((p0 &&& (2147483647 : Int32)) % (63 : Int32)) (0 : Int32))), .second] [(.long (own_along ((p0 &&& (2147483647 : Int32)) % (63 : Int32)) (0 : Int32)))])) (fun t_ k_ => XS.lload X1.here hx rfl (hb hby at_36) rfl k_) ?_
      refine own_st (S' := T1.setTop (mkF m 39 #[.val (.int p0), .val (.int p1), .val (.int ((p0 &&& (2147483647 : Int32)) % (63 : Int32))), .val (.int (0 : Int32)), .val (.long (own_along ((p0 &&& (2147483647 : Int32)) % (63 : Int32)) (0 : Int32))), .second] [(.int ((p0 &&& (2147483647 : Int32)) % (63 : Int32))), (.long (own_along ((p0 &&& (2147483647 : Int32)) % (63 : Int32)) (0 : Int32)))])) (fun t_ k_ => XS.iloadN X1.here hx rfl (hb hby at_38) rfl k_) ?_
      refine own_st (S' := T1.setTop (mkF m 40 #[.val (.int p0), .val (.int p1), .val (.int ((p0 &&& (2147483647 : Int32)) % (63 : Int32))), .val (.int (0 : Int32)), .val (.long (own_along ((p0 &&& (2147483647 : Int32)) % (63 : Int32)) (0 : Int32))), .second] [(.long (((own_along ((p0 &&& (2147483647 : Int32)) % (63 : Int32)) (0 : Int32)).toUInt64 >>> (((p0 &&& (2147483647 : Int32)) % (63 : Int32)) &&& 0x3f).toInt64.toUInt64).toInt64))])) (fun t_ k_ => XS.lushr X1.here hx rfl (hb hby at_39) rfl k_) ?_
      refine own_st (S' := T1.setTop (mkF m 41 #[.val (.int p0), .val (.int p1), .val (.int ((p0 &&& (2147483647 : Int32)) % (63 : Int32))), .val (.int (0 : Int32)), .val (.long (own_along ((p0 &&& (2147483647 : Int32)) % (63 : Int32)) (0 : Int32))), .second] [(.long (1 : Int64)), (.long (((own_along ((p0 &&& (2147483647 : Int32)) % (63 : Int32)) (0 : Int32)).toUInt64 >>> (((p0 &&& (2147483647 : Int32)) % (63 : Int32)) &&& 0x3f).toInt64.toUInt64).toInt64))])) (fun t_ k_ => XS.lconst X1.here hx rfl (hb hby at_40) k_) ?_
      refine own_st (S' := T1.setTop (mkF m 42 #[.val (.int p0), .val (.int p1), .val (.int ((p0 &&& (2147483647 : Int32)) % (63 : Int32))), .val (.int (0 : Int32)), .val (.long (own_along ((p0 &&& (2147483647 : Int32)) % (63 : Int32)) (0 : Int32))), .second] [(.int (lcmpW (((own_along ((p0 &&& (2147483647 : Int32)) % (63 : Int32)) (0 : Int32)).toUInt64 >>> (((p0 &&& (2147483647 : Int32)) % (63 : Int32)) &&& 0x3f).toInt64.toUInt64).toInt64) (1 : Int64)))])) (fun t_ k_ => XS.lcmp X1.here hx rfl (hb hby at_41) rfl k_) ?_
      by_cases hc42 : (((own_along ((p0 &&& (2147483647 : Int32)) % (63 : Int32)) (0 : Int32)).toUInt64 >>> (((p0 &&& (2147483647 : Int32)) % (63 : Int32)) &&& 0x3f).toInt64.toUInt64).toInt64) = (1 : Int64)
      · refine own_st (S' := T1.setTop (mkF m 47 #[.val (.int p0), .val (.int p1), .val (.int ((p0 &&& (2147483647 : Int32)) % (63 : Int32))), .val (.int (0 : Int32)), .val (.long (own_along ((p0 &&& (2147483647 : Int32)) % (63 : Int32)) (0 : Int32))), .second] [])) (fun t_ k_ => XS.ifYes X1.here hx rfl (pc0 := 42) (pc' := 47) rfl (hb hby at_42) rfl ((if0 _ _).trans (teq ((lw_eq _ _).mpr hc42)).1) (by decide) (by decide) k_) ?_
        refine own_st (S' := T1.setTop (mkF m 48 #[.val (.int p0), .val (.int p1), .val (.int ((p0 &&& (2147483647 : Int32)) % (63 : Int32))), .val (.int (0 : Int32)), .val (.long (own_along ((p0 &&& (2147483647 : Int32)) % (63 : Int32)) (0 : Int32))), .second] [(.int (0 : Int32))])) (fun t_ k_ => XS.iloadN X1.here hx rfl (hb hby at_47) rfl k_) ?_
        refine own_st (S' := T1.setTop (mkF m 69 #[.val (.int p0), .val (.int p1), .val (.int ((p0 &&& (2147483647 : Int32)) % (63 : Int32))), .val (.int (0 : Int32)), .val (.long (own_along ((p0 &&& (2147483647 : Int32)) % (63 : Int32)) (0 : Int32))), .second] [])) (fun t_ k_ => XS.ifYes X1.here hx rfl (pc0 := 48) (pc' := 69) rfl (hb hby at_48) rfl ((if0 _ _).trans (teq (by decide : (0 : Int32) = (0 : Int32))).1) (by decide) (by decide) k_) ?_
        refine own_st (S' := T1.setTop (mkF m 71 #[.val (.int p0), .val (.int p1), .val (.int ((p0 &&& (2147483647 : Int32)) % (63 : Int32))), .val (.int (0 : Int32)), .val (.long (own_along ((p0 &&& (2147483647 : Int32)) % (63 : Int32)) (0 : Int32))), .second] [(.long (own_along ((p0 &&& (2147483647 : Int32)) % (63 : Int32)) (0 : Int32)))])) (fun t_ k_ => XS.lload X1.here hx rfl (hb hby at_69) rfl k_) ?_
        refine own_st (S' := T1.setTop (mkF m 73 #[.val (.int p0), .val (.int p1), .val (.int ((p0 &&& (2147483647 : Int32)) % (63 : Int32))), .val (.int (0 : Int32)), .val (.long (own_along ((p0 &&& (2147483647 : Int32)) % (63 : Int32)) (0 : Int32))), .second] [(.long (own_along ((p0 &&& (2147483647 : Int32)) % (63 : Int32)) (0 : Int32))), (.long (own_along ((p0 &&& (2147483647 : Int32)) % (63 : Int32)) (0 : Int32)))])) (fun t_ k_ => XS.lload X1.here hx rfl (hb hby at_71) rfl k_) ?_
        refine own_st (S' := T1.setTop (mkF m 74 #[.val (.int p0), .val (.int p1), .val (.int ((p0 &&& (2147483647 : Int32)) % (63 : Int32))), .val (.int (0 : Int32)), .val (.long (own_along ((p0 &&& (2147483647 : Int32)) % (63 : Int32)) (0 : Int32))), .second] [(.long (1 : Int64)), (.long (own_along ((p0 &&& (2147483647 : Int32)) % (63 : Int32)) (0 : Int32))), (.long (own_along ((p0 &&& (2147483647 : Int32)) % (63 : Int32)) (0 : Int32)))])) (fun t_ k_ => XS.lconst X1.here hx rfl (hb hby at_73) k_) ?_
        refine own_st (S' := T1.setTop (mkF m 75 #[.val (.int p0), .val (.int p1), .val (.int ((p0 &&& (2147483647 : Int32)) % (63 : Int32))), .val (.int (0 : Int32)), .val (.long (own_along ((p0 &&& (2147483647 : Int32)) % (63 : Int32)) (0 : Int32))), .second] [(.long ((own_along ((p0 &&& (2147483647 : Int32)) % (63 : Int32)) (0 : Int32)) - (1 : Int64))), (.long (own_along ((p0 &&& (2147483647 : Int32)) % (63 : Int32)) (0 : Int32)))])) (fun t_ k_ => XS.lsub X1.here hx rfl (hb hby at_74) rfl k_) ?_
        refine own_st (S' := T1.setTop (mkF m 76 #[.val (.int p0), .val (.int p1), .val (.int ((p0 &&& (2147483647 : Int32)) % (63 : Int32))), .val (.int (0 : Int32)), .val (.long (own_along ((p0 &&& (2147483647 : Int32)) % (63 : Int32)) (0 : Int32))), .second] [(.long ((own_along ((p0 &&& (2147483647 : Int32)) % (63 : Int32)) (0 : Int32)) &&& ((own_along ((p0 &&& (2147483647 : Int32)) % (63 : Int32)) (0 : Int32)) - (1 : Int64))))])) (fun t_ k_ => XS.land X1.here hx rfl (hb hby at_75) rfl k_) ?_
        refine own_st (S' := T1.setTop (mkF m 77 #[.val (.int p0), .val (.int p1), .val (.int ((p0 &&& (2147483647 : Int32)) % (63 : Int32))), .val (.int (0 : Int32)), .val (.long (own_along ((p0 &&& (2147483647 : Int32)) % (63 : Int32)) (0 : Int32))), .second] [(.long (0 : Int64)), (.long ((own_along ((p0 &&& (2147483647 : Int32)) % (63 : Int32)) (0 : Int32)) &&& ((own_along ((p0 &&& (2147483647 : Int32)) % (63 : Int32)) (0 : Int32)) - (1 : Int64))))])) (fun t_ k_ => XS.lconst X1.here hx rfl (hb hby at_76) k_) ?_
        refine own_st (S' := T1.setTop (mkF m 78 #[.val (.int p0), .val (.int p1), .val (.int ((p0 &&& (2147483647 : Int32)) % (63 : Int32))), .val (.int (0 : Int32)), .val (.long (own_along ((p0 &&& (2147483647 : Int32)) % (63 : Int32)) (0 : Int32))), .second] [(.int (lcmpW ((own_along ((p0 &&& (2147483647 : Int32)) % (63 : Int32)) (0 : Int32)) &&& ((own_along ((p0 &&& (2147483647 : Int32)) % (63 : Int32)) (0 : Int32)) - (1 : Int64))) (0 : Int64)))])) (fun t_ k_ => XS.lcmp X1.here hx rfl (hb hby at_77) rfl k_) ?_
        by_cases hc78 : ((own_along ((p0 &&& (2147483647 : Int32)) % (63 : Int32)) (0 : Int32)) &&& ((own_along ((p0 &&& (2147483647 : Int32)) % (63 : Int32)) (0 : Int32)) - (1 : Int64))) = (0 : Int64)
        · refine own_st (S' := T1.setTop (mkF m 81 #[.val (.int p0), .val (.int p1), .val (.int ((p0 &&& (2147483647 : Int32)) % (63 : Int32))), .val (.int (0 : Int32)), .val (.long (own_along ((p0 &&& (2147483647 : Int32)) % (63 : Int32)) (0 : Int32))), .second] [])) (fun t_ k_ => XS.ifNo X1.here hx rfl (hb hby at_78) rfl ((if0 _ _).trans (teq ((lw_eq _ _).mpr hc78)).2) k_) ?_
          refine own_st (S' := T1.setTop (mkF m 82 #[.val (.int p0), .val (.int p1), .val (.int ((p0 &&& (2147483647 : Int32)) % (63 : Int32))), .val (.int (0 : Int32)), .val (.long (own_along ((p0 &&& (2147483647 : Int32)) % (63 : Int32)) (0 : Int32))), .second] [(.int (1 : Int32))])) (fun t_ k_ => XS.iconst X1.here hx rfl (hb hby at_81) k_) ?_
          refine own_st (S' := T1.setTop (mkF m 86 #[.val (.int p0), .val (.int p1), .val (.int ((p0 &&& (2147483647 : Int32)) % (63 : Int32))), .val (.int (0 : Int32)), .val (.long (own_along ((p0 &&& (2147483647 : Int32)) % (63 : Int32)) (0 : Int32))), .second] [(.int (1 : Int32))])) (fun t_ k_ => XS.goto X1.here hx rfl (pc0 := 82) (pc' := 86) rfl (hb hby at_82) (by decide) (by decide) k_) ?_
          obtain ⟨fs, hr, hrun, hended, hW, hsame⟩ := X1.leave (v := some (.int (1 : Int32))) (fun h => by rw [Bd.returns] at h; cases h)
          refine ⟨_, _, retN X1 hx (t := .boolean) Bd.returns (by simp) (hb hby at_86) hr, hrun, hended, _, _, rfl, ?_, ⟨_, rfl⟩, hW, hsame.mono (by decide) (by decide)⟩
          show Q0 Z p0 p1 h0 n0 _ T1.heap _
          rw [q1]
          exact ⟨rfl, N1⟩
        · exact absurd ((own_g0 p0).2.2.2 rfl) hc78
      · exact absurd (own_g0 p0).2.1 hc42
    · exact absurd (own_g0 p0).1 hc31
  · refine own_st (S' := s₁.setTop (mkF m 14 #[.val (.int p0), .val (.int p1), .val (.int ((p0 &&& (2147483647 : Int32)) % (63 : Int32))), .unset, .unset, .unset] [])) (fun t_ k_ => XS.ifNo X0.here hx rfl (hb hby at_11) rfl ((if0 _ _).trans (feq hc11).1) k_) ?_
    refine own_st (S' := s₁.setTop (mkF m 15 #[.val (.int p0), .val (.int p1), .val (.int ((p0 &&& (2147483647 : Int32)) % (63 : Int32))), .unset, .unset, .unset] [(.int (1 : Int32))])) (fun t_ k_ => XS.iconst X0.here hx rfl (hb hby at_14) k_) ?_
    refine own_st (S' := s₁.setTop (mkF m 19 #[.val (.int p0), .val (.int p1), .val (.int ((p0 &&& (2147483647 : Int32)) % (63 : Int32))), .unset, .unset, .unset] [(.int (1 : Int32))])) (fun t_ k_ => XS.goto X0.here hx rfl (pc0 := 15) (pc' := 19) rfl (hb hby at_15) (by decide) (by decide) k_) ?_
    refine own_st (S' := s₁.setTop (mkF m 20 #[.val (.int p0), .val (.int p1), .val (.int ((p0 &&& (2147483647 : Int32)) % (63 : Int32))), .val (.int (1 : Int32)), .unset, .unset] [])) (fun t_ k_ => XS.istoreN X0.here hx rfl (hb hby at_19) rfl (l' := #[.val (.int p0), .val (.int p1), .val (.int ((p0 &&& (2147483647 : Int32)) % (63 : Int32))), .val (.int (1 : Int32)), .unset, .unset]) rfl k_) ?_
    refine own_st (S' := s₁.setTop (mkF m 21 #[.val (.int p0), .val (.int p1), .val (.int ((p0 &&& (2147483647 : Int32)) % (63 : Int32))), .val (.int (1 : Int32)), .unset, .unset] [(.int ((p0 &&& (2147483647 : Int32)) % (63 : Int32)))])) (fun t_ k_ => XS.iloadN X0.here hx rfl (hb hby at_20) rfl k_) ?_
    refine own_st (S' := s₁.setTop (mkF m 22 #[.val (.int p0), .val (.int p1), .val (.int ((p0 &&& (2147483647 : Int32)) % (63 : Int32))), .val (.int (1 : Int32)), .unset, .unset] [(.int (1 : Int32)), (.int ((p0 &&& (2147483647 : Int32)) % (63 : Int32)))])) (fun t_ k_ => XS.iloadN X0.here hx rfl (hb hby at_21) rfl k_) ?_
    obtain ⟨_, _, ⟨T2, L2, k2, n2⟩, -, X2, ⟨Lc2, hQ2, l2, y2, z2⟩, st2⟩ := Jvm.LawKit.callS X0 hx (y := (⟨"com/example/bloodwood/bloodwood/internal/TreePath", "alongSide", "(IZ)J"⟩ : MethodName)) hown (mvT hZ (hw _ (List.mem_of_getElem? (i := 1) rfl))) (mvT hZ (hw _ (List.mem_of_getElem? (i := 2) rfl))) (mvT hZ (hw _ (List.mem_of_getElem? (i := 3) rfl))) (mvT hZ (hw _ (List.mem_of_getElem? (i := 4) rfl))) (by decide) (backOf (W := 0) (rm1 l Z a0 hw [] ((p0 &&& (2147483647 : Int32)) % (63 : Int32)) (1 : Int32) h0 n0 Z0 ) hZ (hw _ (List.mem_of_getElem? (i := 4) rfl)) (hw _ (List.mem_of_getElem? (i := 3) rfl)) (by decide) (by decide)) (g := (mkF m 22 #[.val (.int p0), .val (.int p1), .val (.int ((p0 &&& (2147483647 : Int32)) % (63 : Int32))), .val (.int (1 : Int32)), .unset, .unset] [(.int (1 : Int32)), (.int ((p0 &&& (2147483647 : Int32)) % (63 : Int32)))])) rfl (by rw [hml]; rfl) (argsL := [(.int ((p0 &&& (2147483647 : Int32)) % (63 : Int32))), (.int (1 : Int32))]) (rest := []) (lenOf pd_0 rfl) rfl (by show 2 * 0 + _ ≤ _; exact Nat.le_of_eq rfl) (hb hby at_22) (fun _ _ => ⟨rfl, e0, (by decide : 0 + 0 ≤ _), (by decide : 0 + 0 ≤ _)⟩)
    dsimp only [Pt.U, Pt.locs, Pt.cells, Pt.slots] at X2 l2 y2 z2 st2 hQ2
    subst l2 y2 z2
    obtain ⟨rfl, M2, q2⟩ := hQ2
    have N2 := Fr.app N0 M2
    refine own_st (S' := T2.setTop (mkF m 25 #[.val (.int p0), .val (.int p1), .val (.int ((p0 &&& (2147483647 : Int32)) % (63 : Int32))), .val (.int (1 : Int32)), .unset, .unset] [(.long (own_along ((p0 &&& (2147483647 : Int32)) % (63 : Int32)) (1 : Int32)))])) st2 ?_
    refine own_st (S' := T2.setTop (mkF m 27 #[.val (.int p0), .val (.int p1), .val (.int ((p0 &&& (2147483647 : Int32)) % (63 : Int32))), .val (.int (1 : Int32)), .val (.long (own_along ((p0 &&& (2147483647 : Int32)) % (63 : Int32)) (1 : Int32))), .second] [])) (fun t_ k_ => XS.lstore X2.here hx rfl (hb hby at_25) rfl (l' := #[.val (.int p0), .val (.int p1), .val (.int ((p0 &&& (2147483647 : Int32)) % (63 : Int32))), .val (.int (1 : Int32)), .val (.long (own_along ((p0 &&& (2147483647 : Int32)) % (63 : Int32)) (1 : Int32))), .second]) rfl k_) ?_
    refine own_st (S' := T2.setTop (mkF m 29 #[.val (.int p0), .val (.int p1), .val (.int ((p0 &&& (2147483647 : Int32)) % (63 : Int32))), .val (.int (1 : Int32)), .val (.long (own_along ((p0 &&& (2147483647 : Int32)) % (63 : Int32)) (1 : Int32))), .second] [(.long (own_along ((p0 &&& (2147483647 : Int32)) % (63 : Int32)) (1 : Int32)))])) (fun t_ k_ => XS.lload X2.here hx rfl (hb hby at_27) rfl k_) ?_
    refine own_st (S' := T2.setTop (mkF m 30 #[.val (.int p0), .val (.int p1), .val (.int ((p0 &&& (2147483647 : Int32)) % (63 : Int32))), .val (.int (1 : Int32)), .val (.long (own_along ((p0 &&& (2147483647 : Int32)) % (63 : Int32)) (1 : Int32))), .second] [(.long (0 : Int64)), (.long (own_along ((p0 &&& (2147483647 : Int32)) % (63 : Int32)) (1 : Int32)))])) (fun t_ k_ => XS.lconst X2.here hx rfl (hb hby at_29) k_) ?_
    refine own_st (S' := T2.setTop (mkF m 31 #[.val (.int p0), .val (.int p1), .val (.int ((p0 &&& (2147483647 : Int32)) % (63 : Int32))), .val (.int (1 : Int32)), .val (.long (own_along ((p0 &&& (2147483647 : Int32)) % (63 : Int32)) (1 : Int32))), .second] [(.int (lcmpW (own_along ((p0 &&& (2147483647 : Int32)) % (63 : Int32)) (1 : Int32)) (0 : Int64)))])) (fun t_ k_ => XS.lcmp X2.here hx rfl (hb hby at_30) rfl k_) ?_
    by_cases hc31 : (0 : Int64) < (own_along ((p0 &&& (2147483647 : Int32)) % (63 : Int32)) (1 : Int32))
    · refine own_st (S' := T2.setTop (mkF m 36 #[.val (.int p0), .val (.int p1), .val (.int ((p0 &&& (2147483647 : Int32)) % (63 : Int32))), .val (.int (1 : Int32)), .val (.long (own_along ((p0 &&& (2147483647 : Int32)) % (63 : Int32)) (1 : Int32))), .second] [])) (fun t_ k_ => XS.ifYes X2.here hx rfl (pc0 := 31) (pc' := 36) rfl (hb hby at_31) rfl ((if0 _ _).trans (tlt ((lw_gt _ _).mpr hc31)).2.2.1) (by decide) (by decide) k_) ?_
      refine own_st (S' := T2.setTop (mkF m 38 #[.val (.int p0), .val (.int p1), .val (.int ((p0 &&& (2147483647 : Int32)) % (63 : Int32))), .val (.int (1 : Int32)), .val (.long (own_along ((p0 &&& (2147483647 : Int32)) % (63 : Int32)) (1 : Int32))), .second] [(.long (own_along ((p0 &&& (2147483647 : Int32)) % (63 : Int32)) (1 : Int32)))])) (fun t_ k_ => XS.lload X2.here hx rfl (hb hby at_36) rfl k_) ?_
      refine own_st (S' := T2.setTop (mkF m 39 #[.val (.int p0), .val (.int p1), .val (.int ((p0 &&& (2147483647 : Int32)) % (63 : Int32))), .val (.int (1 : Int32)), .val (.long (own_along ((p0 &&& (2147483647 : Int32)) % (63 : Int32)) (1 : Int32))), .second] [(.int ((p0 &&& (2147483647 : Int32)) % (63 : Int32))), (.long (own_along ((p0 &&& (2147483647 : Int32)) % (63 : Int32)) (1 : Int32)))])) (fun t_ k_ => XS.iloadN X2.here hx rfl (hb hby at_38) rfl k_) ?_
      refine own_st (S' := T2.setTop (mkF m 40 #[.val (.int p0), .val (.int p1), .val (.int ((p0 &&& (2147483647 : Int32)) % (63 : Int32))), .val (.int (1 : Int32)), .val (.long (own_along ((p0 &&& (2147483647 : Int32)) % (63 : Int32)) (1 : Int32))), .second] [(.long (((own_along ((p0 &&& (2147483647 : Int32)) % (63 : Int32)) (1 : Int32)).toUInt64 >>> (((p0 &&& (2147483647 : Int32)) % (63 : Int32)) &&& 0x3f).toInt64.toUInt64).toInt64))])) (fun t_ k_ => XS.lushr X2.here hx rfl (hb hby at_39) rfl k_) ?_
      refine own_st (S' := T2.setTop (mkF m 41 #[.val (.int p0), .val (.int p1), .val (.int ((p0 &&& (2147483647 : Int32)) % (63 : Int32))), .val (.int (1 : Int32)), .val (.long (own_along ((p0 &&& (2147483647 : Int32)) % (63 : Int32)) (1 : Int32))), .second] [(.long (1 : Int64)), (.long (((own_along ((p0 &&& (2147483647 : Int32)) % (63 : Int32)) (1 : Int32)).toUInt64 >>> (((p0 &&& (2147483647 : Int32)) % (63 : Int32)) &&& 0x3f).toInt64.toUInt64).toInt64))])) (fun t_ k_ => XS.lconst X2.here hx rfl (hb hby at_40) k_) ?_
      refine own_st (S' := T2.setTop (mkF m 42 #[.val (.int p0), .val (.int p1), .val (.int ((p0 &&& (2147483647 : Int32)) % (63 : Int32))), .val (.int (1 : Int32)), .val (.long (own_along ((p0 &&& (2147483647 : Int32)) % (63 : Int32)) (1 : Int32))), .second] [(.int (lcmpW (((own_along ((p0 &&& (2147483647 : Int32)) % (63 : Int32)) (1 : Int32)).toUInt64 >>> (((p0 &&& (2147483647 : Int32)) % (63 : Int32)) &&& 0x3f).toInt64.toUInt64).toInt64) (1 : Int64)))])) (fun t_ k_ => XS.lcmp X2.here hx rfl (hb hby at_41) rfl k_) ?_
      by_cases hc42 : (((own_along ((p0 &&& (2147483647 : Int32)) % (63 : Int32)) (1 : Int32)).toUInt64 >>> (((p0 &&& (2147483647 : Int32)) % (63 : Int32)) &&& 0x3f).toInt64.toUInt64).toInt64) = (1 : Int64)
      · refine own_st (S' := T2.setTop (mkF m 47 #[.val (.int p0), .val (.int p1), .val (.int ((p0 &&& (2147483647 : Int32)) % (63 : Int32))), .val (.int (1 : Int32)), .val (.long (own_along ((p0 &&& (2147483647 : Int32)) % (63 : Int32)) (1 : Int32))), .second] [])) (fun t_ k_ => XS.ifYes X2.here hx rfl (pc0 := 42) (pc' := 47) rfl (hb hby at_42) rfl ((if0 _ _).trans (teq ((lw_eq _ _).mpr hc42)).1) (by decide) (by decide) k_) ?_
        refine own_st (S' := T2.setTop (mkF m 48 #[.val (.int p0), .val (.int p1), .val (.int ((p0 &&& (2147483647 : Int32)) % (63 : Int32))), .val (.int (1 : Int32)), .val (.long (own_along ((p0 &&& (2147483647 : Int32)) % (63 : Int32)) (1 : Int32))), .second] [(.int (1 : Int32))])) (fun t_ k_ => XS.iloadN X2.here hx rfl (hb hby at_47) rfl k_) ?_
        refine own_st (S' := T2.setTop (mkF m 51 #[.val (.int p0), .val (.int p1), .val (.int ((p0 &&& (2147483647 : Int32)) % (63 : Int32))), .val (.int (1 : Int32)), .val (.long (own_along ((p0 &&& (2147483647 : Int32)) % (63 : Int32)) (1 : Int32))), .second] [])) (fun t_ k_ => XS.ifNo X2.here hx rfl (hb hby at_48) rfl ((if0 _ _).trans (feq (by decide : ¬ ((1 : Int32) = (0 : Int32)))).1) k_) ?_
        refine own_st (S' := T2.setTop (mkF m 53 #[.val (.int p0), .val (.int p1), .val (.int ((p0 &&& (2147483647 : Int32)) % (63 : Int32))), .val (.int (1 : Int32)), .val (.long (own_along ((p0 &&& (2147483647 : Int32)) % (63 : Int32)) (1 : Int32))), .second] [(.long (own_along ((p0 &&& (2147483647 : Int32)) % (63 : Int32)) (1 : Int32)))])) (fun t_ k_ => XS.lload X2.here hx rfl (hb hby at_51) rfl k_) ?_
        refine own_st (S' := T2.setTop (mkF m 55 #[.val (.int p0), .val (.int p1), .val (.int ((p0 &&& (2147483647 : Int32)) % (63 : Int32))), .val (.int (1 : Int32)), .val (.long (own_along ((p0 &&& (2147483647 : Int32)) % (63 : Int32)) (1 : Int32))), .second] [(.long (own_along ((p0 &&& (2147483647 : Int32)) % (63 : Int32)) (1 : Int32))), (.long (own_along ((p0 &&& (2147483647 : Int32)) % (63 : Int32)) (1 : Int32)))])) (fun t_ k_ => XS.lload X2.here hx rfl (hb hby at_53) rfl k_) ?_
        refine own_st (S' := T2.setTop (mkF m 56 #[.val (.int p0), .val (.int p1), .val (.int ((p0 &&& (2147483647 : Int32)) % (63 : Int32))), .val (.int (1 : Int32)), .val (.long (own_along ((p0 &&& (2147483647 : Int32)) % (63 : Int32)) (1 : Int32))), .second] [(.long (1 : Int64)), (.long (own_along ((p0 &&& (2147483647 : Int32)) % (63 : Int32)) (1 : Int32))), (.long (own_along ((p0 &&& (2147483647 : Int32)) % (63 : Int32)) (1 : Int32)))])) (fun t_ k_ => XS.lconst X2.here hx rfl (hb hby at_55) k_) ?_
        refine own_st (S' := T2.setTop (mkF m 57 #[.val (.int p0), .val (.int p1), .val (.int ((p0 &&& (2147483647 : Int32)) % (63 : Int32))), .val (.int (1 : Int32)), .val (.long (own_along ((p0 &&& (2147483647 : Int32)) % (63 : Int32)) (1 : Int32))), .second] [(.long ((own_along ((p0 &&& (2147483647 : Int32)) % (63 : Int32)) (1 : Int32)) + (1 : Int64))), (.long (own_along ((p0 &&& (2147483647 : Int32)) % (63 : Int32)) (1 : Int32)))])) (fun t_ k_ => XS.ladd X2.here hx rfl (hb hby at_56) rfl k_) ?_
        refine own_st (S' := T2.setTop (mkF m 58 #[.val (.int p0), .val (.int p1), .val (.int ((p0 &&& (2147483647 : Int32)) % (63 : Int32))), .val (.int (1 : Int32)), .val (.long (own_along ((p0 &&& (2147483647 : Int32)) % (63 : Int32)) (1 : Int32))), .second] [(.long ((own_along ((p0 &&& (2147483647 : Int32)) % (63 : Int32)) (1 : Int32)) &&& ((own_along ((p0 &&& (2147483647 : Int32)) % (63 : Int32)) (1 : Int32)) + (1 : Int64))))])) (fun t_ k_ => XS.land X2.here hx rfl (hb hby at_57) rfl k_) ?_
        refine own_st (S' := T2.setTop (mkF m 59 #[.val (.int p0), .val (.int p1), .val (.int ((p0 &&& (2147483647 : Int32)) % (63 : Int32))), .val (.int (1 : Int32)), .val (.long (own_along ((p0 &&& (2147483647 : Int32)) % (63 : Int32)) (1 : Int32))), .second] [(.long (0 : Int64)), (.long ((own_along ((p0 &&& (2147483647 : Int32)) % (63 : Int32)) (1 : Int32)) &&& ((own_along ((p0 &&& (2147483647 : Int32)) % (63 : Int32)) (1 : Int32)) + (1 : Int64))))])) (fun t_ k_ => XS.lconst X2.here hx rfl (hb hby at_58) k_) ?_
        refine own_st (S' := T2.setTop (mkF m 60 #[.val (.int p0), .val (.int p1), .val (.int ((p0 &&& (2147483647 : Int32)) % (63 : Int32))), .val (.int (1 : Int32)), .val (.long (own_along ((p0 &&& (2147483647 : Int32)) % (63 : Int32)) (1 : Int32))), .second] [(.int (lcmpW ((own_along ((p0 &&& (2147483647 : Int32)) % (63 : Int32)) (1 : Int32)) &&& ((own_along ((p0 &&& (2147483647 : Int32)) % (63 : Int32)) (1 : Int32)) + (1 : Int64))) (0 : Int64)))])) (fun t_ k_ => XS.lcmp X2.here hx rfl (hb hby at_59) rfl k_) ?_
        by_cases hc60 : ((own_along ((p0 &&& (2147483647 : Int32)) % (63 : Int32)) (1 : Int32)) &&& ((own_along ((p0 &&& (2147483647 : Int32)) % (63 : Int32)) (1 : Int32)) + (1 : Int64))) = (0 : Int64)
        · refine own_st (S' := T2.setTop (mkF m 63 #[.val (.int p0), .val (.int p1), .val (.int ((p0 &&& (2147483647 : Int32)) % (63 : Int32))), .val (.int (1 : Int32)), .val (.long (own_along ((p0 &&& (2147483647 : Int32)) % (63 : Int32)) (1 : Int32))), .second] [])) (fun t_ k_ => XS.ifNo X2.here hx rfl (hb hby at_60) rfl ((if0 _ _).trans (teq ((lw_eq _ _).mpr hc60)).2) k_) ?_
          refine own_st (S' := T2.setTop (mkF m 64 #[.val (.int p0), .val (.int p1), .val (.int ((p0 &&& (2147483647 : Int32)) % (63 : Int32))), .val (.int (1 : Int32)), .val (.long (own_along ((p0 &&& (2147483647 : Int32)) % (63 : Int32)) (1 : Int32))), .second] [(.int (1 : Int32))])) (fun t_ k_ => XS.iconst X2.here hx rfl (hb hby at_63) k_) ?_
          refine own_st (S' := T2.setTop (mkF m 68 #[.val (.int p0), .val (.int p1), .val (.int ((p0 &&& (2147483647 : Int32)) % (63 : Int32))), .val (.int (1 : Int32)), .val (.long (own_along ((p0 &&& (2147483647 : Int32)) % (63 : Int32)) (1 : Int32))), .second] [(.int (1 : Int32))])) (fun t_ k_ => XS.goto X2.here hx rfl (pc0 := 64) (pc' := 68) rfl (hb hby at_64) (by decide) (by decide) k_) ?_
          obtain ⟨fs, hr, hrun, hended, hW, hsame⟩ := X2.leave (v := some (.int (1 : Int32))) (fun h => by rw [Bd.returns] at h; cases h)
          refine ⟨_, _, retN X2 hx (t := .boolean) Bd.returns (by simp) (hb hby at_68) hr, hrun, hended, _, _, rfl, ?_, ⟨_, rfl⟩, hW, hsame.mono (by decide) (by decide)⟩
          show Q0 Z p0 p1 h0 n0 _ T2.heap _
          rw [q2]
          exact ⟨rfl, N2⟩
        · exact absurd ((own_g1 p0).2.2.1 rfl) hc60
      · exact absurd (own_g1 p0).2.1 hc42
    · exact absurd (own_g1 p0).1 hc31
set_option maxRecDepth 65536 in
set_option maxHeartbeats 40000000 in
theorem comes_1 {Post : Tables → Env → Array Value → State → Outcome → State → Prop} (hpost : ∀ tb e args s v u, (limb_1_1.after args s (.returned v) u = true ∧ limb_1_2.after args s (.returned v) u = true ∧ True) → FrameEnd s (.returned v) u (Jvm.fieldLocs frame_1_writes args s ++ Jvm.arrayLocs frame_1_arrays args s ++ Jvm.staticLocs frame_1_statics s) 0 0 → Post tb e args s (.returned v) u) :
    ArmFor flags0 classFile x code maxLocals ret World_1 tables_1 room_1 Calls_1 rest_1 Pre_1 Post := by
  intro l hfl _ _ p e ha hc hk s m args below hf hA hF happ hP
  obtain ⟨hcalls, hrest, hpre⟩ := hP
  obtain ⟨-, -, -, hnamed, -, -, -, hat⟩ := (Spec.applies_iff hf).mp happ
  obtain ⟨hg, hn⟩ := and_e (Cond.before_iff.mp (show (Jvm.Cond.and given_1 narrow_1).before args s = true from hpre))
  obtain ⟨hcount, ht0⟩ := and_e hg
  obtain ⟨ha0, ht1⟩ := and_e ht0
  obtain ⟨w0, w1, rfl⟩ : ∃ w0 w1 : Value, args = #[w0, w1] := by
    have hs : args.size = 2 := by simpa [Cond.value, given_1] using hcount
    obtain ⟨L⟩ := args
    match L, hs with
    | [w0, w1], _ => exact ⟨w0, w1, rfl⟩
  have hw := fun d (hd : d ∈ tables_1) => atoms_spec (ws := Jvm.Cond.code x code maxLocals ret :: tables_1) hat d (List.mem_cons_of_mem _ hd)
  have hfit : Fit s := fun {y c} hc i hi => by
    obtain ⟨ha, rfl⟩ := Array.getElem?_eq_some_iff.mp hc
    have q := List.all_eq_true.mp ((Array.all_eq_true_iff_forall_mem.mp hF) _ (Array.getElem_mem ha)) i (List.mem_range.mpr hi)
    simpa [Array.getElem?_eq_getElem hi] using q
  obtain ⟨i0, ei0⟩ := is_v ha0
  obtain rfl : w0 = (.int i0) := Option.some.inj ei0
  obtain ⟨i1, ei1⟩ := is_v ht1
  obtain rfl : w1 = (.int i1) := Option.some.inj ei1
  obtain ⟨n, o, h1, h2, h3, _, L, rfl, ⟨rfl, N⟩, hq⟩ := rm0 l s _ hw tables_1 i0 i1 s.heap s.heap.size (Nat.le_refl _)  p e ha hc hk s m _ below hf ((Spec.applies_iff_loose hf).mp happ).1 ⟨rfl, State.Warmed39.refl s, rfl⟩ trivial
  refine ⟨n, _, h1, h2, h3, hpost _ _ _ _ _ _ ⟨Cond.after_iff.mpr rfl, Cond.after_iff.mpr (eq_i res_at (Term.int_eval (1)) rfl), trivial⟩ ⟨hq.1, hq.2.1, (hq.2.2.sift fun y hy => Or.inr (N y hy)).mono (by decide) (by decide)⟩⟩
theorem main_1_1 : Claimed_1_1 := comes_1 fun _ _ _ _ _ _ h hF => ⟨h.1, hF⟩
theorem main_1_2 : Claimed_1_2 := comes_1 fun _ _ _ _ _ _ h hF => ⟨h.2.1, hF⟩
end Jvm.Pilot.@@N@@
namespace Jvm.Pilot.@@N@@
open Jvm Jvm.ClassFile Sem Op Lib Jvm.Free Jvm.Stand Jvm.Pilot.@@N@@.Jvm.D
/-! MADE BY PROGRAM (witnessworld.py) out of the Statement's table words and the real class files: 9 classes; the members and pool entries that the words name. The judged class is class 1, her method 1. -/
namespace start1
open Jvm.ClassFile
def u (s : String) : CpInfo := .utf8 (stringToUtf16 s)
/-- a pool by its gaps: so many unusable entries, then the entry; so many at the end -/
def gap : Nat → List CpInfo → List CpInfo
  | 0, r => r
  | n + 1, r => .unusable :: gap n r
def poolList (es : List (Nat × CpInfo)) (last : Nat) : List CpInfo := es.foldr (fun e r => gap e.1 (e.2 :: r)) (gap last [])
def pool (es : List (Nat × CpInfo)) (last : Nat) : Array CpInfo := ⟨poolList es last⟩
def fileOf (pool : Array CpInfo) (this : Nat) (attrs : Array Attribute := #[]) (ms : Array MethodInfo := #[]) (fl : Nat := 33) (sup : Nat := 0) (ifs : Array Nat := #[]) (fds : Array FieldInfo := #[]) : ClassFile where
  minorVersion := 0
  majorVersion := 65
  constantPool := pool
  accessFlags := fl
  thisClass := this
  superClass := sup
  interfaces := ifs
  fields := fds
  methods := ms
  attributes := attrs
def plain (name : String) (sup : Option ClassId) : Class where
  name := name
  kind := .ordinary
  loader := none
  accessFlags := 33
  super := sup
  interfaces := #[]
  cf := none
  fields := #[]
  methods := #[]
  instanceTypes := #[]
  staticTypes := #[]
  resolved := #[]
  callSites := []
  init := .initialized
  statics := none
  mirror := none

def pool0 : Array CpInfo := pool [(5, u "<init>"), (0, u "()V"), (1, .class_ 10), (1, u "java/lang/Object")] 113

def k0m0 : Method := { name := "<init>", desc := "()V", sig := { parameters := [], returnType := none }, accessFlags := 1, code := none }
/-- java/lang/Object -/
def k0 : Class := { plain "java/lang/Object" none with
  accessFlags := 33
  interfaces := #[]
  cf := some (fileOf pool0 8 #[] #[{ accessFlags := 1, nameIndex := 5, descriptorIndex := 6, attributes := #[] }] 33 0 #[] #[])
  fields := #[]
  methods := #[k0m0]
  instanceTypes := #[]
  staticTypes := #[]
  resolved := Array.replicate 124 none
  statics := none }

def pool1 : Array CpInfo := pool [(2, .class_ 4), (1, u "java/lang/Object"), (0, u "<init>"), (0, u "()V"), (0, .integer 2147483647), (0, .methodref 9 10), (0, .class_ 11), (0, .nameAndType 12 13), (0, u "com/example/bloodwood/bloodwood/internal/TreePath"), (0, u "alongSide"), (0, u "(IZ)J"), (0, .class_ 15), (0, u "com/example/bloodwood/bloodwood/internal/TreePathAlongSidePinLaw"), (2, u "law"), (0, u "(II)Z")] 3

def k1m0 : Method := { name := "<init>", desc := "()V", sig := { parameters := [], returnType := none }, accessFlags := 2, code := none }
def k1c1 : Code := { maxStack := 6, maxLocals := 6, code := code, exceptionTable := #[], attributes := #[] }
def k1m1 : Method := { name := "law", desc := "(II)Z", sig := { parameters := [.int, .int], returnType := some .boolean }, accessFlags := 9, code := some k1c1 }
/-- com/example/bloodwood/bloodwood/internal/TreePathAlongSidePinLaw -/
def k1 : Class := { plain "com/example/bloodwood/bloodwood/internal/TreePathAlongSidePinLaw" (some 0) with
  accessFlags := 49
  interfaces := #[]
  cf := some (fileOf pool1 14 #[] #[{ accessFlags := 2, nameIndex := 5, descriptorIndex := 6, attributes := #[] }, { accessFlags := 9, nameIndex := 18, descriptorIndex := 19, attributes := #[] }] 49 2 #[] #[])
  fields := #[]
  methods := #[k1m0, k1m1]
  instanceTypes := #[]
  staticTypes := #[]
  resolved := Array.replicate 23 none
  statics := none }

def pool2 : Array CpInfo := pool [(2, .class_ 4), (1, u "java/lang/Object"), (0, u "<init>"), (0, u "()V"), (12, .class_ 21), (1, u "com/example/bloodwood/bloodwood/internal/TreePath"), (7, u "ROOT"), (0, u "J"), (3, u "NONE"), (2, u "DEEPEST"), (0, u "I"), (6, u "alongSide"), (0, u "(IZ)J")] 7

def k2m0 : Method := { name := "<init>", desc := "()V", sig := { parameters := [], returnType := none }, accessFlags := 2, code := none }
def k2c1 : Code := { maxStack := 4, maxLocals := 4, code := prog_16_method_5_code, exceptionTable := #[], attributes := #[] }
def k2m1 : Method := { name := "alongSide", desc := "(IZ)J", sig := { parameters := [.int, .boolean], returnType := some .long }, accessFlags := 8, code := some k2c1 }
/-- com/example/bloodwood/bloodwood/internal/TreePath -/
def k2 : Class := { plain "com/example/bloodwood/bloodwood/internal/TreePath" (some 0) with
  accessFlags := 48
  interfaces := #[]
  cf := some (fileOf pool2 19 #[] #[{ accessFlags := 2, nameIndex := 5, descriptorIndex := 6, attributes := #[] }, { accessFlags := 8, nameIndex := 45, descriptorIndex := 46, attributes := #[] }] 48 2 #[] #[{ accessFlags := 24, nameIndex := 29, descriptorIndex := 30, attributes := #[] }, { accessFlags := 24, nameIndex := 34, descriptorIndex := 30, attributes := #[] }, { accessFlags := 24, nameIndex := 37, descriptorIndex := 38, attributes := #[] }])
  fields := #[{ name := "ROOT", type := .long, accessFlags := 24, slot := 0, constantValue := 0 }, { name := "NONE", type := .long, accessFlags := 24, slot := 1, constantValue := 0 }, { name := "DEEPEST", type := .int, accessFlags := 24, slot := 2, constantValue := 0 }]
  methods := #[k2m0, k2m1]
  instanceTypes := #[]
  staticTypes := #[.long, .long, .int]
  resolved := Array.replicate 54 none
  statics := none }

def pool3 : Array CpInfo := pool [(1, u "java/lang/Cloneable"), (0, .class_ 1), (0, u "java/lang/Object"), (0, .class_ 3)] 3

/-- java/lang/Cloneable -/
def k3 : Class := { plain "java/lang/Cloneable" (some 0) with
  accessFlags := 1537
  interfaces := #[]
  cf := some (fileOf pool3 2 #[] #[] 1537 4 #[] #[])
  fields := #[]
  methods := #[]
  instanceTypes := #[]
  staticTypes := #[]
  resolved := Array.replicate 8 none
  statics := none }

def pool4 : Array CpInfo := pool [(1, u "java/io/Serializable"), (0, .class_ 1), (0, u "java/lang/Object"), (0, .class_ 3)] 3

/-- java/io/Serializable -/
def k4 : Class := { plain "java/io/Serializable" (some 0) with
  accessFlags := 1537
  interfaces := #[]
  cf := some (fileOf pool4 2 #[] #[] 1537 4 #[] #[])
  fields := #[]
  methods := #[]
  instanceTypes := #[]
  staticTypes := #[]
  resolved := Array.replicate 8 none
  statics := none }

/-- the primitive byte -/
def k5 : Class := { plain "byte" none with kind := .primitive 'B', accessFlags := 0x411 }
/-- [B -/
def k6 : Class := { plain "[B" (some 0) with kind := .array 5 .byte, interfaces := #[3, 4], accessFlags := 1041 }

/-- the primitive int -/
def k7 : Class := { plain "int" none with kind := .primitive 'I', accessFlags := 0x411 }
/-- [I -/
def k8 : Class := { plain "[I" (some 0) with kind := .array 7 .int, interfaces := #[3, 4], accessFlags := 1041 }

def heap : Heap := #[]
def classes : Array Class := #[k0, k1, k2, k3, k4, k5, k6, k7, k8]
def interned : List (Array UInt16 × Addr) := []
def slotsUsed : Nat := 0
def theMethod : MethodId := ⟨1, 1⟩
def args0 : Array Value := #[.int 5, .int 1]
def aboutOver (below : List Frame) : State where
  vm := { classes := classes, interned := interned.toArray }
  heap := heap
  slotsUsed := slotsUsed
  threads := #[{ frames := .invoking theMethod args0 :: below }]
def below0 : List Frame := [.native { method := ⟨0, 0⟩, args := #[] }]
def about1 : State := aboutOver below0
def p0 : Program := .bare "" "" ""
def e0 : Env := launch0.env 0 0 0
theorem w_frames : about1.frames = Frame.invoking theMethod args0 :: below0 := rfl
set_option maxRecDepth 65536 in
theorem w_args : argsFit about1.vm theMethod args0 = true := by decide +kernel
set_option maxRecDepth 65536 in
theorem w_heap : heapFits about1 = true := by decide +kernel
set_option maxRecDepth 65536 in
theorem w_runnable : about1.curStatus? = some .runnable := by decide +kernel
set_option maxRecDepth 65536 in
theorem w_alone : about1.alone = true := by decide +kernel
set_option maxRecDepth 65536 in
theorem w_named : about1.methodNamed? x = some theMethod := by decide +kernel
set_option maxRecDepth 65536 in
theorem w_hears : about1.hears theMethod below0 = true := by decide +kernel
set_option maxRecDepth 65536 in
theorem w_ripe : about1.ripe theMethod args0 below0 = true := by decide +kernel
theorem w_running : about1.status = .running := rfl
set_option maxRecDepth 65536 in
theorem w_room : about1.hasRoom e0.platform room_1 = true :=
  launch0.hasRoom_least _ room_1 (by decide +kernel) (by decide +kernel) (by decide +kernel) (by decide +kernel) (by decide +kernel) (by decide +kernel)
theorem allAtoms_all (ts : List Jvm.Cond) (a : Array Jvm.Value) (st : Jvm.State) : (allAtoms ts).before a st = ts.all (fun c => c.before a st) := by
  induction ts with
  | nil => rfl
  | cons c t ih =>
    show (Jvm.Cond.and c (allAtoms t)).before a st = _
    rw [Jvm.Cond.before_and, ih, List.all_cons]
def words1 : List Jvm.Cond := Jvm.Cond.code x code maxLocals ret :: tables_1
/-- a 'code' word, met by the world's own term for the bytes: nothing is compared byte by byte -/
theorem code_word {y : MethodName} {bytes : ByteArray} {mx : Nat} {rt : Option FieldType} {a : Array Value} {s : State} {m : MethodId} {meth : Method} {c : Code} (h1 : s.methodNamed? y = some m) (h2 : s.vm.method? m = some meth) (h3 : meth.code = some c) (h4 : c.code = bytes)
    (h5 : (c.maxLocals == mx && c.exceptionTable.isEmpty && decide (c.maxStack ≤ mostOperands) && decide (meth.sig.returnType = rt) && !meth.locks && decide (parseMethodDescriptor y.desc = some meth.sig)) = true) : (Jvm.Cond.code y bytes mx rt).before a s = true := by
  simp only [Bool.and_eq_true, beq_iff_eq, Bool.not_eq_true', decide_eq_true_eq] at h5
  obtain ⟨⟨⟨⟨⟨g1, g2⟩, g3⟩, g4⟩, g5⟩, g6⟩ := h5
  simp [Cond.before, Cond.holds, Cond.value, h1, h2, h3, h4, g1, g2, g3, g4, g5, g6]
def isCode : Jvm.Cond → Bool
  | .code _ _ _ _ => true
  | _ => false
theorem all_split {L : List Jvm.Cond} {P : Jvm.Cond → Bool} (h1 : L.all (fun c => isCode c || P c) = true) (h2 : ∀ c ∈ L.filter isCode, P c = true) : L.all P = true := by
  refine List.all_eq_true.mpr fun c hc => ?_
  have h := List.all_eq_true.mp h1 c hc
  rcases Bool.eq_false_or_eq_true (isCode c) with hi | hi
  · exact h2 c (List.mem_filter.mpr ⟨hc, hi⟩)
  · simpa [hi] using h
set_option maxRecDepth 65536 in
theorem w_c0 : (Jvm.Cond.code x code maxLocals ret).before args0 about1 = true := code_word (m := ⟨1, 1⟩) (meth := k1m1) (c := k1c1) (by decide +kernel) rfl rfl rfl (by decide +kernel)
set_option maxRecDepth 65536 in
theorem w_c1 : (Jvm.Cond.code ({ cls := "com/example/bloodwood/bloodwood/internal/TreePath", name := "alongSide", desc := "(IZ)J" } : Jvm.MethodName) prog_16_method_5_code (4 : Nat) (Option.some Jvm.ClassFile.FieldType.long)).before args0 about1 = true := code_word (m := ⟨2, 1⟩) (meth := k2m1) (c := k2c1) (by decide +kernel) rfl rfl rfl (by decide +kernel)
def codes1 : List Jvm.Cond := [Jvm.Cond.code x code maxLocals ret, Jvm.Cond.code ({ cls := "com/example/bloodwood/bloodwood/internal/TreePath", name := "alongSide", desc := "(IZ)J" } : Jvm.MethodName) prog_16_method_5_code (4 : Nat) (Option.some Jvm.ClassFile.FieldType.long)]
set_option maxRecDepth 65536 in
theorem codes_eq : words1.filter isCode = codes1 := rfl
theorem w_codes : ∀ c ∈ words1.filter isCode, c.before args0 about1 = true := by
  rw [codes_eq]
  intro c hc
  simp only [codes1, List.mem_cons, List.not_mem_nil, or_false] at hc
  rcases hc with rfl | rfl
  · exact w_c0
  · exact w_c1
set_option maxRecDepth 65536 in
theorem w_t1 : words1.all (fun c => isCode c || c.before args0 about1) = true := by decide +kernel
theorem w_tables : (allAtoms (Jvm.Cond.code x code maxLocals ret :: tables_1)).before args0 about1 = true := by
  rw [allAtoms_all]
  show words1.all (fun c => c.before args0 about1) = true
  refine all_split ?_ w_codes
  rw [w_t1]
set_option maxRecDepth 65536 in
theorem w_case : (Jvm.Cond.and given_1 narrow_1).before args0 about1 = true := by decide +kernel
theorem w_applies : (headSpec (Jvm.Cond.code x code maxLocals ret :: tables_1) room_1).applies x e0.platform about1 = true :=
  (Spec.applies_iff w_frames).mpr ⟨w_running, w_runnable, w_alone, w_named, w_hears, w_ripe, w_room, w_tables⟩
theorem atStart : AtStart classFile x code maxLocals ret World_1 tables_1 room_1 Calls_1 rest_1 Pre_1 launch0 p0 e0 about1 theMethod args0 below0 :=
  ⟨lists_1, trivial, launch0.admits_env _ _ _, launch0.least_env, fairChoices_fair.cas, fairChoices_fair.clock, w_frames, w_args, w_heap, w_applies, trivial, trivial, w_case⟩
end start1
theorem witness_1 : WitnessClaimed_1 := ⟨start1.p0, start1.e0, start1.about1, start1.theMethod, start1.args0, start1.below0, start1.atStart⟩
end Jvm.Pilot.@@N@@
