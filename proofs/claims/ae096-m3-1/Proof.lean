import JvmDerived
import JvmDerived.Pilot.@@N@@Statement
import JvmDerived.Pilot.@@N@@Code
set_option linter.unusedVariables false
set_option linter.unusedSimpArgs false
namespace Jvm.RoadKit
open Sem ClassFile Op Lib Jvm.Stand Jvm.Free Jvm.LawKit
section New
variable {p : Program} {l : Launch} {e : Env} {R : Room} {s : State} {m : MethodId} {args : Array Value} {below : List Frame} {meth : Method} {c : Code} {T : State} {locs : List Loc} {cells slots : Nat}
theorem retI (X : Stand p l e R s m args below meth c T locs cells slots) (hx : p.tables.exec = Jvm.exec) {pc : Nat} {Ls : Array Slot} {z : Int32} {rest : List Value} (hret : meth.sig.returnType = some .int) (hd : decode c.code pc = .ok (.ireturn, 1)) {fs : List Frame}
    (hl : ∀ (f : JFrame) (acts : List Action), f.method = m → f.locked = none → f.entered = [] → (doReturn e (T.setTop f) acts (some (.int z))).1 = T.setFrames fs) : Steps p.tables e below (T.setTop (mkF m pc Ls (.int z :: rest))) (T.setFrames fs) :=
  retOut X hx hret rfl (Or.inl ⟨rfl, Or.inl rfl, _, rfl⟩) hd hl
theorem own_retJ (X : Stand p l e R s m args below meth c T locs cells slots) (hx : p.tables.exec = Jvm.exec) {pc : Nat} {Ls : Array Slot} {z : Int64} {rest : List Value} (hret : meth.sig.returnType = some .long) (hd : decode c.code pc = .ok (.lreturn, 1)) {fs : List Frame}
    (hl : ∀ (f : JFrame) (acts : List Action), f.method = m → f.locked = none → f.entered = [] → (doReturn e (T.setTop f) acts (some (.long z))).1 = T.setFrames fs) : Steps p.tables e below (T.setTop (mkF m pc Ls (.long z :: rest))) (T.setFrames fs) :=
  retOut X hx hret rfl (Or.inr (Or.inl ⟨rfl, rfl, _, rfl⟩)) hd hl
theorem own_retD (X : Stand p l e R s m args below meth c T locs cells slots) (hx : p.tables.exec = Jvm.exec) {pc : Nat} {Ls : Array Slot} {z : UInt64} {rest : List Value} (hret : meth.sig.returnType = some .double) (hd : decode c.code pc = .ok (.dreturn, 1)) {fs : List Frame}
    (hl : ∀ (f : JFrame) (acts : List Action), f.method = m → f.locked = none → f.entered = [] → (doReturn e (T.setTop f) acts (some (.double z))).1 = T.setFrames fs) : Steps p.tables e below (T.setTop (mkF m pc Ls (.double z :: rest))) (T.setFrames fs) :=
  retOut X hx hret rfl (Or.inr (Or.inr (Or.inl ⟨rfl, rfl, _, rfl⟩))) hd hl
theorem own_retR (X : Stand p l e R s m args below meth c T locs cells slots) (hx : p.tables.exec = Jvm.exec) {pc : Nat} {Ls : Array Slot} {w : Value} {t : FieldType} {rest : List Value} (hret : meth.sig.returnType = some t) (ht : t.isReference = true) (hv : w.isRef = true) (hd : decode c.code pc = .ok (.areturn, 1)) {fs : List Frame}
    (hl : ∀ (f : JFrame) (acts : List Action), f.method = m → f.locked = none → f.entered = [] → (doReturn e (T.setTop f) acts (some w)).1 = T.setFrames fs) : Steps p.tables e below (T.setTop (mkF m pc Ls (w :: rest))) (T.setFrames fs) :=
  retOut X hx hret (by rcases ref_cases hv with rfl | ⟨a, rfl⟩ <;> cases t <;> first | rfl | cases ht) (Or.inr (Or.inr (Or.inr (Or.inr ⟨rfl, ht, hv⟩)))) hd hl
end New
section Own
variable {p : Program} {e : Env} {below : List Frame}
/-- the run from S ends as P says -/
def own_Gl (p : Program) (e : Env) (below : List Frame) (P : Outcome → State → Prop) (S : State) : Prop := ∃ s₂ o, Steps p.tables e below S s₂ ∧ s₂.status = .running ∧ Ended s₂ below o ∧ P o s₂
theorem own_gl {P : Outcome → State → Prop} {S : State} (h : own_Gl p e below P S) : ∃ s₂ o, Steps p.tables e below S s₂ ∧ s₂.status = .running ∧ Ended s₂ below o ∧ P o s₂ := h
theorem own_st {P : Outcome → State → Prop} {S S' : State} (h : ∀ t, Steps p.tables e below S' t → Steps p.tables e below S t) (k : own_Gl p e below P S') : own_Gl p e below P S := by
  obtain ⟨s₂, o, h1, h2⟩ := k
  exact ⟨s₂, o, h _ h1, h2⟩
theorem own_cast {P : Outcome → State → Prop} {S S' : State} (h : S' = S) (k : own_Gl p e below P S') : own_Gl p e below P S := h ▸ k
theorem own_join {P : Outcome → State → Prop} {S : State} {α : Type} {F : α → State} {H : α → Prop} (J : ∀ x, H x → own_Gl p e below P (F x)) (k : (∀ x, H x → own_Gl p e below P (F x)) → own_Gl p e below P S) : own_Gl p e below P S := k J
theorem own_selfsel {s : State} {args : Array Value} {y : MethodName} {n : Nat} (wi : (Cond.instantiable y.cls n).before args s = true) (wp : (Cond.privateMethod y).before args s = true) (hinst : (Cond.instanceMethod y).before args s = true) (hy : y.cls ≠ "java/lang/invoke/MethodHandle" ∧ y.cls ≠ "java/lang/invoke/VarHandle") : (Cond.selects y.cls y y).before args s = true := by
  obtain ⟨c, k, h1, h2, -, h3, -⟩ := Cond.instantiable_spec wi
  exact selects_self_of_private h1 h2 (by simp only [Bool.or_eq_false_iff] at h3; exact h3.1) (Cond.privateMethod_at wp) hinst hy
/-- a place of an array is written, whatever it holds -/
theorem own_arv_any {Z : State} {h h' : Heap} {a : Addr} {c : Cell} {k : ClassId} {ty : FieldType} {z j : Int32} {vs : List Value} {dv v : Value} (A : Arr Z h a c ty) (q1 : c.cls = k) (S : c.slots.size = z.toNatClampNeg) (q3 : ¬ z < 0) (H : Has c vs dv) (G : ∀ i, i < c.slots.size → fits ty (vs.getD i dv) = true) (hv : fits ty v = true) (W : Wr h h' a j.toNatClampNeg v) (hj : ¬ (j < 0 ∨ c.slots.size ≤ j.toNatClampNeg)) : ∃ vs', Arv Z h' a k ty z vs' dv := by
  have F : Arv Z h a k ty z (vs ++ List.replicate z.toNatClampNeg dv) dv := Arv.pad ⟨c, A, q1, S, q3, H, G⟩ (pad_rep vs dv _)
  obtain ⟨c', A', r1, r2, r3, r4, r5⟩ := F
  cases A.1.symm.trans A'.1
  exact ⟨_, Arv.set A' r1 r2 r3 r4 r5 hv W j.toNatClampNeg rfl (by
    have q := Nat.lt_of_not_le fun y => hj (Or.inr y)
    rw [S] at q
    simp only [List.length_append, List.length_replicate]
    omega)⟩
end Own
section Ib
variable {p : Program} {l : Launch} {e : Env} {R : Room} {s : State} {args : Array Value} {below : List Frame} {Z : State} {a0 : Array Value} {h : Heap}
/-- a callee that may load a constant held, called where nothing has been interned since Z -/
theorem own_backIB {y : MethodName} {bytes : ByteArray} {maxL : Nat} {ret : Option FieldType} {rm : Room} {len W : Nat} {as' : Array Value} {Q : Option Value → Heap → List Loc → Prop}
    (hM : MetFree l y (head1 [Cond.code y bytes maxL ret] rm) (fun a U => a = as' ∧ Z.Warmed39 U.vm ∧ U.heap = h ∧ IB Z U.vm []) (fun _ _ _ _ _ => True) (fun _ U o U' => ∃ v L, o = .returned v ∧ Q v U'.heap L ∧ ReturnedEndW U o U' L rm.cells rm.slots))
    (hZ : Z.Warmed39 s.vm) (hI : IB Z s.vm []) (wc : (Cond.code y bytes maxL ret).before a0 Z = true) (wz : (Cond.initialized y.cls).before a0 Z = true) (hf : rm.frames + 1 ≤ R.frames) (hl : W + (maxL + 11) + rm.locals ≤ R.locals) :
    BackS l R p e below s args y len W (fun A a => a = as' ∧ A.U.heap = h ∧ A.cells + rm.cells ≤ R.cells ∧ A.slots + rm.slots ≤ R.slots)
      (fun A _ v B => ∃ L, Q v B.U.heap L ∧ B.locs = A.locs ++ L ∧ B.cells = A.cells + rm.cells ∧ B.slots = A.slots + rm.slots) :=
  BackS.of_freeW (bytes := bytes) (maxL := maxL) (ret := ret) (E := fun _ _ o t L k n => k = rm.cells ∧ n = rm.slots ∧ ∃ v, o = .returned v ∧ Q v t.heap L) hM hf hl
    (fun m meth c A a Y hp => have hU : Z.Warmed39 A.U.vm := wtrans hZ Y.warmed
      ⟨by show (Cond.and _ .tt).before a A.U = true; rw [Cond.before_and, mv hU wc]; rfl, mv hU wc, mv hU wz, hp.2.2.1, hp.2.2.2⟩)
    (fun m meth c A a g mk Y hp => ⟨hp.1, wtrans hZ Y.warmed, hp.2.1, by
      obtain ⟨more, h1, h2⟩ := hI
      exact ⟨more, Y.warmed.interned_eq.trans h1, h2⟩⟩) (fun _ _ _ _ _ _ _ _ _ => trivial)
    (fun _ _ _ _ ⟨v, L, h1, h2, h3⟩ => ⟨L, _, _, h3, rfl, rfl, v, h1, h2⟩)
    (fun m meth c A a g mk v t L k n Y hp _ _ ⟨e1, e2, v', e3, e4⟩ => by cases e3; subst e1 e2; exact ⟨L, e4, rfl, rfl, rfl⟩)
end Ib
end Jvm.RoadKit

/- laws to paste: Road.backV (cut by pick.py; bodies as the Statement names them) -/
namespace Jvm.Pilot.@@N@@
namespace StrChars
open Jvm Sem ClassFile Op Lib Jvm.Stand Jvm.Free.XT Jvm.Free.ALB Jvm.Free.JM Jvm.Free
open Jvm.Lib.Cold (StaticIs)
/-- a char array whose places are chars -/
def Ch (a : Addr) (A : Cell) (U : State) : Prop := Arr .char a A U ∧ Typed .char A
theorem Ch.mv {a : Addr} {A : Cell} {U U' : State} (h : Ch a A U) (hal : U.vm.Alike U'.vm) (hh : U'.heap = U.heap) : Ch a A U' := ⟨h.1.mv hal hh, h.2⟩
theorem Ch.keep {a : Addr} {A : Cell} {U U' : State} (h : Ch a A U) (hal : U.vm.Alike U'.vm) (hk : U'.heap[a]? = some A) : Ch a A U' := ⟨h.1.keep hal hk, h.2⟩
/-- what place i of a char[]'s cell holds -/
def cv (A : Cell) (i : Nat) : Int32 := match A.slots[i]? with | some (.int x) => x | _ => 0
theorem Ch.get {a : Addr} {A : Cell} {U : State} (h : Ch a A U) {i : Nat} (hi : i < A.slots.size) : A.slots[i]? = some (.int (cv A i)) := by
  have e := Array.getElem?_eq_getElem hi
  have f := h.2 i _ e
  unfold cv; rw [e]
  generalize A.slots[i] = v at f
  cases v <;> simp [fits] at f ⊢
/-- the byte that i2b leaves of a char -/
def lo8 (x : Int32) : Int32 := x.toInt8.toInt32
theorem fits_lo8 (y : Int32) : fits .byte (.int (lo8 y)) = true := by
  have h1 := y.toInt8.le_toInt
  have h2 := y.toInt8.toInt_lt
  simp only [lo8, fits, Bool.and_eq_true, decide_eq_true_eq, Int32.le_iff_toInt_le, Int8.toInt_toInt32, show (-128 : Int32).toInt = -128 from by decide, show (127 : Int32).toInt = 127 from by decide]
  omega
/-- A' is A but that each place j of lo .. hi - 1 holds f j -/
def Laid (A A' : Cell) (lo hi : Nat) (f : Nat → Value) : Prop := A'.cls = A.cls ∧ A'.vm = A.vm ∧ A'.slots.size = A.slots.size ∧ ∀ i, A'.slots[i]? = if lo ≤ i ∧ i < hi then some (f i) else A.slots[i]?
theorem Laid.zero (A : Cell) (lo : Nat) (f : Nat → Value) : Laid A A lo (lo + 0) f := ⟨rfl, rfl, rfl, fun i => by rw [if_neg (by omega)]⟩
theorem Laid.step {A Ak : Cell} {lo k : Nat} {f : Nat → Value} {v : Value} (h : Laid A Ak lo k f) (hlo : lo ≤ k) (hk : k < Ak.slots.size) (hv : v = f k) : Laid A (Ak.setSlot k v) lo (k + 1) f := by
  refine ⟨h.1, h.2.1, by simpa [Cell.setSlot] using h.2.2.1, fun i => ?_⟩
  by_cases e : k = i
  · subst e; rw [Cell.slots_setSlot_self v hk, if_pos (by omega), hv]
  · rw [Cell.slots_setSlot_ne v e, h.2.2.2 i]
    by_cases q : lo ≤ i ∧ i < k
    · rw [if_pos q, if_pos (by omega)]
    · rw [if_neg q, if_neg (by omega)]
def U16 : String := "java/lang/StringUTF16"
namespace Cmp5
def yN : MethodName := ⟨"java/lang/StringUTF16", "compress", "([CI[BII)I"⟩
abbrev yB : ByteArray := jdk_52_method_21_code
theorem d0 : decode yB 0 = .ok (.iconst 0, 1) := by decide +kernel
theorem d1 : decode yB 1 = .ok (.istore 5, 2) := by decide +kernel
theorem d3 : decode yB 3 = .ok (.iload 5, 2) := by decide +kernel
theorem d5 : decode yB 5 = .ok (.iload 4, 2) := by decide +kernel
theorem d7 : decode yB 7 = .ok (.if_icmp (.ge) 37, 3) := by decide +kernel
theorem d10 : decode yB 10 = .ok (.aload_n 0, 1) := by decide +kernel
theorem d11 : decode yB 11 = .ok (.iload_n 1, 1) := by decide +kernel
theorem d12 : decode yB 12 = .ok (.caload, 1) := by decide +kernel
theorem d13 : decode yB 13 = .ok (.istore 6, 2) := by decide +kernel
theorem d15 : decode yB 15 = .ok (.iload 6, 2) := by decide +kernel
theorem d17 : decode yB 17 = .ok (.sipush 255, 3) := by decide +kernel
theorem d20 : decode yB 20 = .ok (.if_icmp (.le) 6, 3) := by decide +kernel
theorem d26 : decode yB 26 = .ok (.aload_n 2, 1) := by decide +kernel
theorem d27 : decode yB 27 = .ok (.iload_n 3, 1) := by decide +kernel
theorem d28 : decode yB 28 = .ok (.iload 6, 2) := by decide +kernel
theorem d30 : decode yB 30 = .ok (.i2b, 1) := by decide +kernel
theorem d31 : decode yB 31 = .ok (.bastore, 1) := by decide +kernel
theorem d32 : decode yB 32 = .ok (.iinc 1 1, 3) := by decide +kernel
theorem d35 : decode yB 35 = .ok (.iinc 3 1, 3) := by decide +kernel
theorem d38 : decode yB 38 = .ok (.iinc 5 1, 3) := by decide +kernel
theorem d41 : decode yB 41 = .ok (.goto (-38), 3) := by decide +kernel
theorem d44 : decode yB 44 = .ok (.iload 4, 2) := by decide +kernel
theorem d46 : decode yB 46 = .ok (.ireturn, 1) := by decide +kernel
def site : List Cond := []
def tab : Cond := tabOf yN yB 7 (some .int) site
def P (b : Addr) (A : Cell) (d : Addr) (B : Cell) (o q len : Nat) (args : Array Value) (s : State) : Prop := args = #[.ref b, .int (Int32.ofNat o), .ref d, .int (Int32.ofNat q), .int (Int32.ofNat len)] ∧ Ch b A s ∧ Arr .byte d B s ∧ b ≠ d ∧ o + len ≤ A.slots.size ∧ q + len ≤ B.slots.size ∧ ∀ i, i < len → ¬ 255 < cv A (o + i)
def E (b : Addr) (A : Cell) (d : Addr) (B : Cell) (o q len : Nat) (r : Option Value) (s u : State) : Prop := r = some (.int (Int32.ofNat len)) ∧ ∃ B', Put d B' s u ∧ Laid B B' q (q + len) (fun j => Value.int (lo8 (cv A (o + (j - q)))))
/-- no char of the range above 255: len; the places written hold each char's low byte -/
theorem law (l : Launch) (b : Addr) (A : Cell) (d : Addr) (B : Cell) (o q len : Nat) : Law l yN 5 5 0 0 yB 7 (some .int) site (P b A d B o q len) (E b A d B o q len) (copyLocs d q len) 0 0 := by
  refine Law.of_walk (plainFor_of_name (by decide +kernel)) (by decide +kernel) (by decide +kernel) (by decide) (fun _ _ h => by rw [h.1]; rfl) (fun _ U U' hal hh h => ⟨h.1, h.2.1.mv hal hh, h.2.2.1.mv hal hh, h.2.2.2⟩) (fun r U U' V V' h1 hal h2 h => ⟨h.1, h.2.elim fun B' q => ⟨B', q.1.mv h1 h2, q.2⟩⟩) ?_
  intro p e s m args below meth c s₁ X0 hexec hbytes hml hret hlk hnm hown hh0 W hP
  obtain ⟨rfl, hA, hB, hne, l1, l2, hp⟩ := hP
  have c1 : Steps p.tables e below (s₁.setTop (entryFrame m #[.ref b, .int (Int32.ofNat o), .ref d, .int (Int32.ofNat q), .int (Int32.ofNat len)] 7)) (s₁.setTop (mkF m 0 #[.val (.ref b), .val (.int (Int32.ofNat o)), .val (.ref d), .val (.int (Int32.ofNat q)), .val (.int (Int32.ofNat len)), .unset, .unset] [])) := entry rfl
  have hA0 := hA.1.mv X0.warmed.alike hh0
  have hB0 := hB.mv X0.warmed.alike hh0
  have a31 := hA.1.2.2.2
  have c2 : Steps p.tables e below (s₁.setTop (entryFrame m #[.ref b, .int (Int32.ofNat o), .ref d, .int (Int32.ofNat q), .int (Int32.ofNat len)] 7)) (s₁.setTop (mkF m 3 #[.val (.ref b), .val (.int (Int32.ofNat o)), .val (.ref d), .val (.int (Int32.ofNat q)), .val (.int (Int32.ofNat len)), .val (.int 0), .unset] [])) := c1.trans (by
    refine iconstV X0.here hexec rfl 0 (hb hbytes d0) (by decide) ?_
    refine XS.istore X0.here hexec rfl (hb hbytes d1) rfl rfl ?_
    exact Steps.refl _)
  have loop : ∀ (r i : Nat), i + r = len → ∀ (z : Slot), (z = .unset ∨ ∃ w, z = .val w ∧ w.category = 1) → ∀ (Tl : State) (Bk : Cell), Stand p l e { frames := 0, locals := 0, cells := 0, slots := 0 } s m #[.ref b, .int (Int32.ofNat o), .ref d, .int (Int32.ofNat q), .int (Int32.ofNat len)] below meth c Tl ([] ++ copyLocs d q i) 0 0 → Put d Bk s₁ Tl → Laid B Bk q (q + i) (fun j => Value.int (lo8 (cv A (o + (j - q))))) →
      Steps p.tables e below (s₁.setTop (entryFrame m #[.ref b, .int (Int32.ofNat o), .ref d, .int (Int32.ofNat q), .int (Int32.ofNat len)] 7)) (Tl.setTop (mkF m 3 #[.val (.ref b), .val (.int (Int32.ofNat (o + i))), .val (.ref d), .val (.int (Int32.ofNat (q + i))), .val (.int (Int32.ofNat len)), .val (.int (Int32.ofNat i)), z] [])) → ∃ (T' : State) (B' : Cell) (z' : Slot), Stand p l e { frames := 0, locals := 0, cells := 0, slots := 0 } s m #[.ref b, .int (Int32.ofNat o), .ref d, .int (Int32.ofNat q), .int (Int32.ofNat len)] below meth c T' ([] ++ copyLocs d q len) 0 0 ∧ Put d B' s₁ T' ∧ Laid B B' q (q + len) (fun j => Value.int (lo8 (cv A (o + (j - q))))) ∧
      Steps p.tables e below (s₁.setTop (entryFrame m #[.ref b, .int (Int32.ofNat o), .ref d, .int (Int32.ofNat q), .int (Int32.ofNat len)] 7)) (T'.setTop (mkF m 3 #[.val (.ref b), .val (.int (Int32.ofNat (o + len))), .val (.ref d), .val (.int (Int32.ofNat (q + len))), .val (.int (Int32.ofNat len)), .val (.int (Int32.ofNat len)), z'] [])) := by
    intro r
    induction r with
    | zero =>
      intro i hi z hz Tl Bk Xl pl fl cl
      have hil : i = len := by omega
      rw [hil] at Xl fl cl
      exact ⟨Tl, Bk, z, Xl, pl, fl, cl⟩
    | succ r ih =>
      intro i hi z hz Tl Bk Xl pl fl cl
      have all := X0.warmed.alike.symm.trans Xl.warmed.alike
      have hAl := hA0.keep all (pl.other hne hA0.1)
      have hBk := hB0.like all pl.1 fl.1 fl.2.1 fl.2.2.1
      have hlt : q + i < Bk.slots.size := by rw [fl.2.2.1]; omega
      have c3 : Steps p.tables e below (s₁.setTop (entryFrame m #[.ref b, .int (Int32.ofNat o), .ref d, .int (Int32.ofNat q), .int (Int32.ofNat len)] 7)) (Tl.setTop (mkF m 12 #[.val (.ref b), .val (.int (Int32.ofNat (o + i))), .val (.ref d), .val (.int (Int32.ofNat (q + i))), .val (.int (Int32.ofNat len)), .val (.int (Int32.ofNat i)), z] [.int (Int32.ofNat (o + i)), .ref b])) := cl.trans (by
        refine XS.iload Xl.here hexec rfl (hb hbytes d3) rfl ?_
        refine XS.iload Xl.here hexec rfl (hb hbytes d5) rfl ?_
        refine XS.icmpNo Xl.here hexec rfl (hb hbytes d7) rfl (ii_ge_f (lt32 (by omega) (by omega))) ?_
        refine XS.aloadN Xl.here hexec rfl (hb hbytes d10) rfl rfl ?_
        refine XS.iloadN Xl.here hexec rfl (hb hbytes d11) rfl ?_
        exact Steps.refl _)
      have c4 : Steps p.tables e below (s₁.setTop (entryFrame m #[.ref b, .int (Int32.ofNat o), .ref d, .int (Int32.ofNat q), .int (Int32.ofNat len)] 7)) (Tl.setTop (mkF m 13 #[.val (.ref b), .val (.int (Int32.ofNat (o + i))), .val (.ref d), .val (.int (Int32.ofNat (q + i))), .val (.int (Int32.ofNat len)), .val (.int (Int32.ofNat i)), z] [.int (cv A (o + i))])) := c3.trans (by
        refine Xl.aget hexec hAl rfl (hA.get (i := o + i) (by omega)) rfl rfl (hb hbytes d12) ?_
        exact Steps.refl _)
      have c5 : Steps p.tables e below (s₁.setTop (entryFrame m #[.ref b, .int (Int32.ofNat o), .ref d, .int (Int32.ofNat q), .int (Int32.ofNat len)] 7)) (Tl.setTop (mkF m 15 #[.val (.ref b), .val (.int (Int32.ofNat (o + i))), .val (.ref d), .val (.int (Int32.ofNat (q + i))), .val (.int (Int32.ofNat len)), .val (.int (Int32.ofNat i)), .val (.int (cv A (o + i)))] [])) := c4.trans (by
        refine XS.istoreS Xl.here hexec rfl (hb hbytes d13) rfl rfl hz ?_
        exact Steps.refl _)
      have c6 : Steps p.tables e below (s₁.setTop (entryFrame m #[.ref b, .int (Int32.ofNat o), .ref d, .int (Int32.ofNat q), .int (Int32.ofNat len)] 7)) (Tl.setTop (mkF m 31 #[.val (.ref b), .val (.int (Int32.ofNat (o + i))), .val (.ref d), .val (.int (Int32.ofNat (q + i))), .val (.int (Int32.ofNat len)), .val (.int (Int32.ofNat i)), .val (.int (cv A (o + i)))] [.int (lo8 (cv A (o + i))), .int (Int32.ofNat (q + i)), .ref d])) := c5.trans (by
        refine XS.iload Xl.here hexec rfl (hb hbytes d15) rfl ?_
        refine sipushV Xl.here hexec rfl 255 (hb hbytes d17) (by decide) ?_
        refine XS.icmpYes Xl.here hexec rfl (pc0 := 20) rfl (hb hbytes d20) rfl (ii_le_t (hp i (by omega))) (by decide) rfl ?_
        refine XS.aloadN Xl.here hexec rfl (hb hbytes d26) rfl rfl ?_
        refine XS.iloadN Xl.here hexec rfl (hb hbytes d27) rfl ?_
        refine XS.iload Xl.here hexec rfl (hb hbytes d28) rfl ?_
        refine i2b Xl.here hexec rfl (hb hbytes d30) rfl ?_
        exact Steps.refl _)
      obtain ⟨T7, X7, p7, st7⟩ := Xl.aput hexec hBk rfl hlt rfl (fits_lo8 (cv A (o + i))) (g := (mkF m 31 #[.val (.ref b), .val (.int (Int32.ofNat (o + i))), .val (.ref d), .val (.int (Int32.ofNat (q + i))), .val (.int (Int32.ofNat len)), .val (.int (Int32.ofNat i)), .val (.int (cv A (o + i)))] [.int (lo8 (cv A (o + i))), .int (Int32.ofNat (q + i)), .ref d])) rfl (rest := []) rfl (hb hbytes d31)
      have c8 : Steps p.tables e below (s₁.setTop (entryFrame m #[.ref b, .int (Int32.ofNat o), .ref d, .int (Int32.ofNat q), .int (Int32.ofNat len)] 7)) (T7.setTop (mkF m 32 #[.val (.ref b), .val (.int (Int32.ofNat (o + i))), .val (.ref d), .val (.int (Int32.ofNat (q + i))), .val (.int (Int32.ofNat len)), .val (.int (Int32.ofNat i)), .val (.int (cv A (o + i)))] [])) := c6.trans (st7 _ (Steps.refl _))
      have c9 : Steps p.tables e below (s₁.setTop (entryFrame m #[.ref b, .int (Int32.ofNat o), .ref d, .int (Int32.ofNat q), .int (Int32.ofNat len)] 7)) (T7.setTop (mkF m 3 #[.val (.ref b), .val (.int (Int32.ofNat (o + i) + 1)), .val (.ref d), .val (.int (Int32.ofNat (q + i) + 1)), .val (.int (Int32.ofNat len)), .val (.int (Int32.ofNat i + 1)), .val (.int (cv A (o + i)))] [])) := c8.trans (by
        refine iincV X7.here hexec rfl 1 (hb hbytes d32) (by decide) rfl rfl ?_
        refine iincV X7.here hexec rfl 1 (hb hbytes d35) (by decide) rfl rfl ?_
        refine iincV X7.here hexec rfl 1 (hb hbytes d38) (by decide) rfl rfl ?_
        refine XS.goto X7.here hexec rfl (pc0 := 41) rfl (hb hbytes d41) (by decide) rfl ?_
        exact Steps.refl _)
      have c10 : Steps p.tables e below (s₁.setTop (entryFrame m #[.ref b, .int (Int32.ofNat o), .ref d, .int (Int32.ofNat q), .int (Int32.ofNat len)] 7)) (T7.setTop (mkF m 3 #[.val (.ref b), .val (.int (Int32.ofNat (o + (i + 1)))), .val (.ref d), .val (.int (Int32.ofNat (q + (i + 1)))), .val (.int (Int32.ofNat len)), .val (.int (Int32.ofNat (i + 1))), .val (.int (cv A (o + i)))] [])) := by
        have := c9
        rw [succ32, succ32, succ32] at this
        exact this
      exact ih (i + 1) (by omega) _ (Or.inr ⟨_, rfl, rfl⟩) T7 _ (by rw [copyLocs_step, ← List.append_assoc]; exact X7) (pl.trans p7) (fl.step (by omega) hlt (by simp)) c10
  obtain ⟨T9, B9, z9, X9, p9, f9, g9⟩ := loop len 0 (by omega) .unset (Or.inl rfl) s₁ B (by simpa [copyLocs] using X0) ⟨hB0.1, fun _ _ => rfl, rfl⟩ (Laid.zero _ _ _) c2
  have c11 : Steps p.tables e below (s₁.setTop (entryFrame m #[.ref b, .int (Int32.ofNat o), .ref d, .int (Int32.ofNat q), .int (Int32.ofNat len)] 7)) (T9.setTop (mkF m 46 #[.val (.ref b), .val (.int (Int32.ofNat (o + len))), .val (.ref d), .val (.int (Int32.ofNat (q + len))), .val (.int (Int32.ofNat len)), .val (.int (Int32.ofNat len)), z9] [.int (Int32.ofNat len)])) := g9.trans (by
    refine XS.iload X9.here hexec rfl (hb hbytes d3) rfl ?_
    refine XS.iload X9.here hexec rfl (hb hbytes d5) rfl ?_
    refine XS.icmpYes X9.here hexec rfl (pc0 := 7) rfl (hb hbytes d7) rfl (ii_ge_t (nlt32 (by omega) (Nat.le_refl _))) (by decide) rfl ?_
    refine XS.iload X9.here hexec rfl (hb hbytes d44) rfl ?_
    exact Steps.refl _)
  exact ⟨T9, some (.int (Int32.ofNat len)), _, _, _, X9, by simp, rfl, rfl, (fun h => by cases h), ⟨rfl, B9, p9.from hh0, f9⟩, fun fs hl => c11.trans (X9.ireturnOut hexec hret rfl (Or.inl rfl) (hb hbytes d46) hl)⟩
end Cmp5
namespace Cmp3
def yN : MethodName := ⟨"java/lang/StringUTF16", "compress", "([CII)[B"⟩
abbrev yB : ByteArray := jdk_52_method_16_code
theorem d0 : decode yB 0 = .ok (.iload_n 2, 1) := by decide +kernel
theorem d1 : decode yB 1 = .ok (.newarray .byte, 2) := by decide +kernel
theorem d3 : decode yB 3 = .ok (.astore_n 3, 1) := by decide +kernel
theorem d4 : decode yB 4 = .ok (.aload_n 0, 1) := by decide +kernel
theorem d5 : decode yB 5 = .ok (.iload_n 1, 1) := by decide +kernel
theorem d6 : decode yB 6 = .ok (.aload_n 3, 1) := by decide +kernel
theorem d7 : decode yB 7 = .ok (.iconst 0, 1) := by decide +kernel
theorem d8 : decode yB 8 = .ok (.iload_n 2, 1) := by decide +kernel
theorem d9 : decode yB 9 = .ok (.invokestatic 115, 3) := by decide +kernel
theorem d12 : decode yB 12 = .ok (.istore 4, 2) := by decide +kernel
theorem d14 : decode yB 14 = .ok (.iload 4, 2) := by decide +kernel
theorem d16 : decode yB 16 = .ok (.iload_n 2, 1) := by decide +kernel
theorem d17 : decode yB 17 = .ok (.if_icmp (.eq) 40, 3) := by decide +kernel
theorem d57 : decode yB 57 = .ok (.aload_n 3, 1) := by decide +kernel
theorem d58 : decode yB 58 = .ok (.areturn, 1) := by decide +kernel
def site : List Cond := [.arrayClass .byte, Cmp5.tab] ++ staticW U16 115 Cmp5.yN
def tab : Cond := tabOf yN yB 6 (some (.array .byte)) site
def P (b : Addr) (A : Cell) (o len : Nat) (args : Array Value) (s : State) : Prop := args = #[.ref b, .int (Int32.ofNat o), .int (Int32.ofNat len)] ∧ Ch b A s ∧ o + len ≤ A.slots.size ∧ len ≤ 536870912 ∧ ∀ i, i < len → ¬ 255 < cv A (o + i)
def E (b : Addr) (A : Cell) (o len : Nat) (r : Option Value) (s u : State) : Prop := NewArr .byte "[B" len (fun j => .int (lo8 (cv A (o + j)))) r s u ∧ u.heap.size = s.heap.size + 1
/-- no char of the range above 255: a new byte[] of their low bytes -/
theorem law (l : Launch) (b : Addr) (A : Cell) (o len : Nat) : Law l yN 3 3 1 18 yB 6 (some (.array .byte)) site (P b A o len) (E b A o len) [] 1 len := by
  refine Law.of_walk (plainFor_of_name (by decide +kernel)) (by decide +kernel) (by decide +kernel) (by decide) (fun _ _ h => by rw [h.1]; rfl) (fun _ U U' hal hh h => ⟨h.1, h.2.1.mv hal hh, h.2.2⟩) (fun r U U' V V' h1 hal h2 h => ⟨NewArr.mv r U U' V V' h1 hal h2 h.1, by rw [h1, h2]; exact h.2⟩) ?_
  intro p e s m args below meth c s₁ X0 hexec hbytes hml hret hlk hnm hown hh0 W hP
  obtain ⟨rfl, hA, l1, l2, hp⟩ := hP
  have a31 := hA.1.2.2.2
  have c1 : Steps p.tables e below (s₁.setTop (entryFrame m #[.ref b, .int (Int32.ofNat o), .int (Int32.ofNat len)] 6)) (s₁.setTop (mkF m 0 #[.val (.ref b), .val (.int (Int32.ofNat o)), .val (.int (Int32.ofNat len)), .unset, .unset, .unset] [])) := entry rfl
  have c2 : Steps p.tables e below (s₁.setTop (entryFrame m #[.ref b, .int (Int32.ofNat o), .int (Int32.ofNat len)] 6)) (s₁.setTop (mkF m 1 #[.val (.ref b), .val (.int (Int32.ofNat o)), .val (.int (Int32.ofNat len)), .unset, .unset, .unset] [.int (Int32.ofNat len)])) := c1.trans (by
    refine XS.iloadN X0.here hexec rfl (hb hbytes d0) rfl ?_
    exact Steps.refl _)
  obtain ⟨T3, B3, X3, ba3, bs3, bv3, bh3, bf3, st3⟩ := X0.anew hexec (atype := .byte) (wk W (.arrayClass .byte)) rfl (by show len * 1 ≤ _; omega) (by omega) (g := (mkF m 1 #[.val (.ref b), .val (.int (Int32.ofNat o)), .val (.int (Int32.ofNat len)), .unset, .unset, .unset] [.int (Int32.ofNat len)])) rfl (hb hbytes d1) (rest := []) rfl (Nat.le_refl _) (by show 0 + len ≤ len; omega)
  rw [hh0] at ba3 st3
  have kp3 : XT.Kept s T3 := (XT.Kept.of_eq hh0).push bh3
  have hA3 := hA.keep X3.warmed.alike (kp3 _ _ hA.1.1)
  have hne : b ≠ s.heap.size := hA.1.ne
  have c4 : Steps p.tables e below (s₁.setTop (entryFrame m #[.ref b, .int (Int32.ofNat o), .int (Int32.ofNat len)] 6)) (T3.setTop (mkF m 3 #[.val (.ref b), .val (.int (Int32.ofNat o)), .val (.int (Int32.ofNat len)), .unset, .unset, .unset] [.ref s.heap.size])) := c2.trans (st3 _ (Steps.refl _))
  have c5 : Steps p.tables e below (s₁.setTop (entryFrame m #[.ref b, .int (Int32.ofNat o), .int (Int32.ofNat len)] 6)) (T3.setTop (mkF m 9 #[.val (.ref b), .val (.int (Int32.ofNat o)), .val (.int (Int32.ofNat len)), .val (.ref s.heap.size), .unset, .unset] [.int (Int32.ofNat len), .int 0, .ref s.heap.size, .int (Int32.ofNat o), .ref b])) := c4.trans (by
    refine XS.astoreN X3.here hexec rfl (hb hbytes d3) rfl rfl rfl ?_
    refine XS.aloadN X3.here hexec rfl (hb hbytes d4) rfl rfl ?_
    refine XS.iloadN X3.here hexec rfl (hb hbytes d5) rfl ?_
    refine XS.aloadN X3.here hexec rfl (hb hbytes d6) rfl rfl ?_
    refine iconstV X3.here hexec rfl 0 (hb hbytes d7) (by decide) ?_
    refine XS.iloadN X3.here hexec rfl (hb hbytes d8) rfl ?_
    exact Steps.refl _)
  obtain ⟨v6, T6, X6, E6, g6⟩ := X3.callS hexec (Cmp5.law l b A s.heap.size B3 o 0 len) hown (wks W (staticW U16 115 Cmp5.yN)) (wk W Cmp5.tab) (W := 0) (Nat.le_of_ble_eq_true rfl) (Nat.le_of_ble_eq_true rfl) (Nat.le_refl _) (by show 0 + len + 0 ≤ len; omega) (g := (mkF m 9 #[.val (.ref b), .val (.int (Int32.ofNat o)), .val (.int (Int32.ofNat len)), .val (.ref s.heap.size), .unset, .unset] [.int (Int32.ofNat len), .int (Int32.ofNat 0), .ref s.heap.size, .int (Int32.ofNat o), .ref b])) rfl (by rw [hml]; rfl) c5 (argsL := [.ref b, .int (Int32.ofNat o), .ref s.heap.size, .int (Int32.ofNat 0), .int (Int32.ofNat len)]) (rest := []) rfl rfl (by show 2 * 0 + 0 ≤ _; decide) (hb hbytes d9) (⟨rfl, hA3, ba3, hne, l1, by rw [bs3]; simp, hp⟩)
  obtain ⟨rfl, B6, p6, f6⟩ := E6
  have c7 : Steps p.tables e below (s₁.setTop (entryFrame m #[.ref b, .int (Int32.ofNat o), .int (Int32.ofNat len)] 6)) (T6.setTop (mkF m 12 #[.val (.ref b), .val (.int (Int32.ofNat o)), .val (.int (Int32.ofNat len)), .val (.ref s.heap.size), .unset, .unset] [.int (Int32.ofNat len)])) := g6
  have c8 : Steps p.tables e below (s₁.setTop (entryFrame m #[.ref b, .int (Int32.ofNat o), .int (Int32.ofNat len)] 6)) (T6.setTop (mkF m 58 #[.val (.ref b), .val (.int (Int32.ofNat o)), .val (.int (Int32.ofNat len)), .val (.ref s.heap.size), .val (.int (Int32.ofNat len)), .unset] [.ref s.heap.size])) := c7.trans (by
    refine XS.istore X6.here hexec rfl (hb hbytes d12) rfl rfl ?_
    refine XS.iload X6.here hexec rfl (hb hbytes d14) rfl ?_
    refine XS.iloadN X6.here hexec rfl (hb hbytes d16) rfl ?_
    refine XS.icmpYes X6.here hexec rfl (pc0 := 17) rfl (hb hbytes d17) rfl (ii_eq_t rfl) (by decide) rfl ?_
    refine XS.aloadN X6.here hexec rfl (hb hbytes d57) rfl rfl ?_
    exact Steps.refl _)
  have X8 := X6.wide (L' := []) (cells' := 1) (slots' := len) (fun x hx hlt => by
    simp only [List.nil_append, copyLocs, List.mem_map, List.mem_range] at hx
    obtain ⟨i, -, rfl⟩ := hx
    exact absurd hlt (Nat.lt_irrefl _)) (Nat.le_refl _) (by omega)
  exact ⟨T6, some (.ref s.heap.size), _, _, _, X8, rfl, rfl, rfl, (fun h => by cases h), ⟨⟨rfl, B6, ba3.like (X3.warmed.alike.symm.trans X6.warmed.alike) p6.1 f6.1 f6.2.1 f6.2.2.1, f6.2.1.trans bv3, by rw [X6.warmed.alike.findClass, f6.1]; exact bf3, by rw [f6.2.2.1, bs3]; simp, fun j hj => by rw [f6.2.2.2 j, if_pos (by omega)]; rfl, kp3.put p6 (Nat.le_refl _)⟩, by rw [p6.2.2, bh3, hh0]; simp⟩, fun fs hl => c8.trans (X8.areturnOut hexec rfl hret rfl (hb hbytes d58) hl)⟩
end Cmp3
namespace CodL
def yN : MethodName := ⟨"java/lang/StringUTF16", "coderFromArrayLen", "([BI)B"⟩
abbrev yB : ByteArray := jdk_52_method_15_code
theorem d0 : decode yB 0 = .ok (.iload_n 1, 1) := by decide +kernel
theorem d1 : decode yB 1 = .ok (.aload_n 0, 1) := by decide +kernel
theorem d2 : decode yB 2 = .ok (.arraylength, 1) := by decide +kernel
theorem d3 : decode yB 3 = .ok (.isub, 1) := by decide +kernel
theorem d4 : decode yB 4 = .ok (.bipush 31, 2) := by decide +kernel
theorem d6 : decode yB 6 = .ok (.iushr, 1) := by decide +kernel
theorem d7 : decode yB 7 = .ok (.i2b, 1) := by decide +kernel
theorem d8 : decode yB 8 = .ok (.ireturn, 1) := by decide +kernel
def site : List Cond := []
def tab : Cond := tabOf yN yB 2 (some .byte) site
def P (d : Addr) (B : Cell) (args : Array Value) (s : State) : Prop := args = #[.ref d, .int (Int32.ofNat B.slots.size)] ∧ Arr .byte d B s
def E (r : Option Value) (s u : State) : Prop := XT.PureE (some (.int 0)) r s u
/-- an array as long as the number of chars: LATIN1 -/
theorem law (l : Launch) (d : Addr) (B : Cell) : Law l yN 2 2 0 0 yB 2 (some .byte) site (P d B) E [] 0 0 := by
  refine Law.of_walk (plainFor_of_name (by decide +kernel)) (by decide +kernel) (by decide +kernel) (by decide) (fun _ _ h => by rw [h.1]; rfl) (fun _ U U' hal hh h => ⟨h.1, h.2.mv hal hh⟩) (fun r U U' V V' h1 hal h2 h => XT.PureE.mv r U U' V V' h1 hal h2 h) ?_
  intro p e s m args below meth c s₁ X0 hexec hbytes hml hret hlk hnm hown hh0 W hP
  obtain ⟨rfl, hB⟩ := hP
  have hB0 := hB.mv X0.warmed.alike hh0
  have c1 : Steps p.tables e below (s₁.setTop (entryFrame m #[.ref d, .int (Int32.ofNat B.slots.size)] 2)) (s₁.setTop (mkF m 0 #[.val (.ref d), .val (.int (Int32.ofNat B.slots.size))] [])) := entry rfl
  have c2 : Steps p.tables e below (s₁.setTop (entryFrame m #[.ref d, .int (Int32.ofNat B.slots.size)] 2)) (s₁.setTop (mkF m 2 #[.val (.ref d), .val (.int (Int32.ofNat B.slots.size))] [.ref d, .int (Int32.ofNat B.slots.size)])) := c1.trans (by
    refine XS.iloadN X0.here hexec rfl (hb hbytes d0) rfl ?_
    refine XS.aloadN X0.here hexec rfl (hb hbytes d1) rfl rfl ?_
    exact Steps.refl _)
  have c3 : Steps p.tables e below (s₁.setTop (entryFrame m #[.ref d, .int (Int32.ofNat B.slots.size)] 2)) (s₁.setTop (mkF m 8 #[.val (.ref d), .val (.int (Int32.ofNat B.slots.size))] [.int (lo8 (ushr (Int32.ofNat B.slots.size - Int32.ofNat B.slots.size) 31))])) := c2.trans (by
    refine X0.alen hexec hB0 rfl rfl (hb hbytes d2) ?_
    refine XS.isub X0.here hexec rfl (hb hbytes d3) rfl ?_
    refine bipushV X0.here hexec rfl 31 (hb hbytes d4) (by decide) ?_
    refine iushr X0.here hexec rfl (hb hbytes d6) rfl ?_
    refine i2b X0.here hexec rfl (hb hbytes d7) rfl ?_
    exact Steps.refl _)
  have e0 : lo8 (ushr (Int32.ofNat B.slots.size - Int32.ofNat B.slots.size) 31) = 0 := by rw [Int32.sub_self]; decide
  rw [e0] at c3
  exact ⟨s₁, some (.int 0), _, _, _, X0, rfl, rfl, rfl, (fun h => by cases h), ⟨rfl, hh0⟩, fun fs hl => c3.trans (X0.ireturnOut hexec hret rfl (Or.inr (Or.inr (Or.inl rfl))) (hb hbytes d8) hl)⟩
end CodL
/-- the String at a is Latin-1 over a new byte[] (the heap's one new cell): the low bytes of the len chars of A from o on; every cell but a is kept -/
def Got (a : Addr) (D : Cell) (fV fC : Field) (A : Cell) (o len : Nat) (r : Option Value) (s u : State) : Prop := r = none ∧ ∃ D' V : Cell, Blank "java/lang/String" a D' u ∧ Same D D' [fV.slot, fC.slot] ∧ D'.slots[fV.slot]? = some (.ref s.heap.size) ∧ D'.slots[fC.slot]? = some (.int 0) ∧ Arr .byte s.heap.size V u ∧ V.vm = .none ∧ u.vm.findClass "[B" = some V.cls ∧ V.slots.size = len ∧ (∀ j, j < len → V.slots[j]? = some (.int (lo8 (cv A (o + j))))) ∧ (∀ (y : Addr) (c : Cell), y ≠ a → s.heap[y]? = some c → u.heap[y]? = some c) ∧ u.heap.size = s.heap.size + 1
theorem Got.mv {a : Addr} {D A : Cell} {fV fC : Field} {o len : Nat} : ∀ r (U U' V V' : State), U'.heap = U.heap → V.vm.Alike V'.vm → V'.heap = V.heap → Got a D fV fC A o len r U V → Got a D fV fC A o len r U' V' :=
  fun r U U' V V' h1 hal h2 ⟨e0, D', X, a1, a2, a3, a4, a5, a6, a7, a8, a9, a10, a11⟩ => ⟨e0, D', X, a1.mv hal h2, a2, by rw [h1]; exact a3, a4, by rw [h1]; exact a5.mv hal h2, a6, by rw [hal.findClass]; exact a7, a8, a9, by rw [h1, h2]; exact a10, by rw [h1, h2]; exact a11⟩
namespace New4
def yN : MethodName := ⟨"java/lang/String", "<init>", "([CIILjava/lang/Void;)V"⟩
abbrev yB : ByteArray := jdk_42_method_149_code
theorem d0 : decode yB 0 = .ok (.aload_n 0, 1) := by decide +kernel
theorem d1 : decode yB 1 = .ok (.invokespecial 1, 3) := by decide +kernel
theorem d4 : decode yB 4 = .ok (.iload_n 3, 1) := by decide +kernel
theorem d5 : decode yB 5 = .ok (.ifCond (.ne) 22, 3) := by decide +kernel
theorem d27 : decode yB 27 = .ok (.getstatic 38, 3) := by decide +kernel
theorem d30 : decode yB 30 = .ok (.ifCond (.eq) 28, 3) := by decide +kernel
theorem d33 : decode yB 33 = .ok (.aload_n 1, 1) := by decide +kernel
theorem d34 : decode yB 34 = .ok (.iload_n 2, 1) := by decide +kernel
theorem d35 : decode yB 35 = .ok (.iload_n 3, 1) := by decide +kernel
theorem d36 : decode yB 36 = .ok (.invokestatic 177, 3) := by decide +kernel
theorem d39 : decode yB 39 = .ok (.astore 5, 2) := by decide +kernel
theorem d41 : decode yB 41 = .ok (.aload_n 0, 1) := by decide +kernel
theorem d42 : decode yB 42 = .ok (.aload 5, 2) := by decide +kernel
theorem d44 : decode yB 44 = .ok (.iload_n 3, 1) := by decide +kernel
theorem d45 : decode yB 45 = .ok (.invokestatic 47, 3) := by decide +kernel
theorem d48 : decode yB 48 = .ok (.putfield 15, 3) := by decide +kernel
theorem d51 : decode yB 51 = .ok (.aload_n 0, 1) := by decide +kernel
theorem d52 : decode yB 52 = .ok (.aload 5, 2) := by decide +kernel
theorem d54 : decode yB 54 = .ok (.putfield 9, 3) := by decide +kernel
theorem d57 : decode yB 57 = .ok (.return_, 1) := by decide +kernel
def site : List Cond := [.fieldLink "java/lang/String" 38 "java/lang/String" "COMPACT_STRINGS" "Z", Cmp3.tab, CodL.tab, .laysFinal "java/lang/String" "java/lang/String" "value" "[B", .fieldLink "java/lang/String" 9 "java/lang/String" "value" "[B", .laysFinal "java/lang/String" "java/lang/String" "coder" "B", .fieldLink "java/lang/String" 15 "java/lang/String" "coder" "B"] ++ objW "java/lang/String" 1 ++ staticW "java/lang/String" 177 Cmp3.yN ++ staticW "java/lang/String" 47 CodL.yN
def tab : Cond := tabOf yN yB 6 none site
def P (a : Addr) (D : Cell) (fV fC : Field) (b : Addr) (A : Cell) (z : Int32) (o len : Nat) (args : Array Value) (s : State) : Prop := args = #[.ref a, .ref b, .int (Int32.ofNat o), .int (Int32.ofNat len), .null] ∧ Blank "java/lang/String" a D s ∧ Found "java/lang/String" "value" "[B" fV s ∧ Found "java/lang/String" "coder" "B" fC s ∧ Ch b A s ∧ StaticIs s "java/lang/String" "COMPACT_STRINGS" "Z" (.int z) ∧ ¬ z = 0 ∧ 0 < len ∧ o + len ≤ A.slots.size ∧ len ≤ 536870912 ∧ ∀ i, i < len → ¬ 255 < cv A (o + i)
def E (a : Addr) (D : Cell) (fV fC : Field) (A : Cell) (o len : Nat) (r : Option Value) (s u : State) : Prop := Got a D fV fC A o len r s u
/-- len > 0, no char of the range above 255: a Latin-1 String of their low bytes -/
theorem law (l : Launch) (a : Addr) (D : Cell) (fV fC : Field) (b : Addr) (A : Cell) (z : Int32) (o len : Nat) : Law l yN 5 4 2 35 yB 6 none site (P a D fV fC b A z o len) (E a D fV fC A o len) [⟨a, fC.slot⟩, ⟨a, fV.slot⟩] 1 len := by
  refine Law.of_walk (plainFor_of_name (by decide +kernel)) (by decide +kernel) (by decide +kernel) (by decide) (fun _ _ h => by rw [h.1]; rfl) (fun _ U U' hal hh h => ⟨h.1, h.2.1.mv hal hh, h.2.2.1.al hal, h.2.2.2.1.al hal, h.2.2.2.2.1.mv hal hh, h.2.2.2.2.2.1.there hal hh, h.2.2.2.2.2.2⟩) (fun r U U' V V' h1 hal h2 h => Got.mv r U U' V V' h1 hal h2 h) ?_
  intro p e s m args below meth c s₁ X0 hexec hbytes hml hret hlk hnm hown hh0 W hP
  obtain ⟨rfl, hB, f1, f2, hA, s1, hz, l0, l1, l2, hp⟩ := hP
  have a31 := hA.1.2.2.2
  have c1 : Steps p.tables e below (s₁.setTop (entryFrame m #[.ref a, .ref b, .int (Int32.ofNat o), .int (Int32.ofNat len), .null] 6)) (s₁.setTop (mkF m 0 #[.val (.ref a), .val (.ref b), .val (.int (Int32.ofNat o)), .val (.int (Int32.ofNat len)), .val .null, .unset] [])) := entry rfl
  have c2 : Steps p.tables e below (s₁.setTop (entryFrame m #[.ref a, .ref b, .int (Int32.ofNat o), .int (Int32.ofNat len), .null] 6)) (s₁.setTop (mkF m 1 #[.val (.ref a), .val (.ref b), .val (.int (Int32.ofNat o)), .val (.int (Int32.ofNat len)), .val .null, .unset] [.ref a])) := c1.trans (by
    refine XS.aloadN X0.here hexec rfl (hb hbytes d0) rfl rfl ?_
    exact Steps.refl _)
  obtain ⟨T3, X3, q3, st3⟩ := X0.oinit hexec hown (wks W (objW "java/lang/String" 1)) (g := (mkF m 1 #[.val (.ref a), .val (.ref b), .val (.int (Int32.ofNat o)), .val (.int (Int32.ofNat len)), .val .null, .unset] [.ref a])) rfl (by rw [hml]; rfl) (rest := []) rfl (hb hbytes d1) (W := 0) (by show 2 * 0 + 0 ≤ _; decide) (Nat.le_of_ble_eq_true rfl) (Nat.le_of_ble_eq_true rfl)
  have hh3 := q3.trans hh0
  have c4 : Steps p.tables e below (s₁.setTop (entryFrame m #[.ref a, .ref b, .int (Int32.ofNat o), .int (Int32.ofNat len), .null] 6)) (T3.setTop (mkF m 27 #[.val (.ref a), .val (.ref b), .val (.int (Int32.ofNat o)), .val (.int (Int32.ofNat len)), .val .null, .unset] [])) := (c2.trans (st3 _ (Steps.refl _))).trans (by
    refine XS.iloadN X3.here hexec rfl (hb hbytes d4) rfl ?_
    refine XS.ifYes X3.here hexec rfl (pc0 := 5) rfl (hb hbytes d5) rfl (i0_ne_t (nz32 (by omega) l0)) (by decide) rfl ?_
    exact Steps.refl _)
  obtain ⟨T5, X5, q5, st5⟩ := X3.sget hexec hown (wk W (.fieldLink "java/lang/String" 38 "java/lang/String" "COMPACT_STRINGS" "Z")) s1 (fun _ _ h => by rw [hh3]; exact h) (g := (mkF m 27 #[.val (.ref a), .val (.ref b), .val (.int (Int32.ofNat o)), .val (.int (Int32.ofNat len)), .val .null, .unset] [])) rfl (hb hbytes d27)
  have hh5 := q5.trans hh3
  have c6 : Steps p.tables e below (s₁.setTop (entryFrame m #[.ref a, .ref b, .int (Int32.ofNat o), .int (Int32.ofNat len), .null] 6)) (T5.setTop (mkF m 30 #[.val (.ref a), .val (.ref b), .val (.int (Int32.ofNat o)), .val (.int (Int32.ofNat len)), .val .null, .unset] [.int z])) := c4.trans (st5 _ (Steps.refl _))
  have c7 : Steps p.tables e below (s₁.setTop (entryFrame m #[.ref a, .ref b, .int (Int32.ofNat o), .int (Int32.ofNat len), .null] 6)) (T5.setTop (mkF m 36 #[.val (.ref a), .val (.ref b), .val (.int (Int32.ofNat o)), .val (.int (Int32.ofNat len)), .val .null, .unset] [.int (Int32.ofNat len), .int (Int32.ofNat o), .ref b])) := c6.trans (by
    refine XS.ifNo X5.here hexec rfl (hb hbytes d30) rfl (i0_eq_f hz) ?_
    refine XS.aloadN X5.here hexec rfl (hb hbytes d33) rfl rfl ?_
    refine XS.iloadN X5.here hexec rfl (hb hbytes d34) rfl ?_
    refine XS.iloadN X5.here hexec rfl (hb hbytes d35) rfl ?_
    exact Steps.refl _)
  obtain ⟨v8, T8, X8, E8, g8⟩ := X5.callS hexec (Cmp3.law l b A o len) hown (wks W (staticW "java/lang/String" 177 Cmp3.yN)) (wk W Cmp3.tab) (W := 0) (Nat.le_of_ble_eq_true rfl) (Nat.le_of_ble_eq_true rfl) (Nat.le_refl _) (by show 0 + len ≤ len; omega) (g := (mkF m 36 #[.val (.ref a), .val (.ref b), .val (.int (Int32.ofNat o)), .val (.int (Int32.ofNat len)), .val .null, .unset] [.int (Int32.ofNat len), .int (Int32.ofNat o), .ref b])) rfl (by rw [hml]; rfl) c7 (argsL := [.ref b, .int (Int32.ofNat o), .int (Int32.ofNat len)]) (rest := []) rfl rfl (by show 2 * 0 + 0 ≤ _; decide) (hb hbytes d36) (⟨rfl, hA.mv X5.warmed.alike hh5, l1, l2, hp⟩)
  obtain ⟨e8, z8⟩ := E8
  obtain ⟨rfl, N, n1, n2, n3, n4, n5, n6⟩ := NewArr.mv _ T5 s _ _ hh5.symm (Vm.Alike.refl _) rfl e8
  rw [hh5] at z8
  have hB1 := hB.keep X8.warmed.alike (n6 _ _ hB.1)
  have hne : s.heap.size ≠ a := (Nat.ne_of_lt (Array.getElem?_eq_some_iff.mp hB.1).1).symm
  have c9 : Steps p.tables e below (s₁.setTop (entryFrame m #[.ref a, .ref b, .int (Int32.ofNat o), .int (Int32.ofNat len), .null] 6)) (T8.setTop (mkF m 39 #[.val (.ref a), .val (.ref b), .val (.int (Int32.ofNat o)), .val (.int (Int32.ofNat len)), .val .null, .unset] [.ref s.heap.size])) := g8
  have c10 : Steps p.tables e below (s₁.setTop (entryFrame m #[.ref a, .ref b, .int (Int32.ofNat o), .int (Int32.ofNat len), .null] 6)) (T8.setTop (mkF m 45 #[.val (.ref a), .val (.ref b), .val (.int (Int32.ofNat o)), .val (.int (Int32.ofNat len)), .val .null, .val (.ref s.heap.size)] [.int (Int32.ofNat N.slots.size), .ref s.heap.size, .ref a])) := by
    have hc : Steps p.tables e below (s₁.setTop (entryFrame m #[.ref a, .ref b, .int (Int32.ofNat o), .int (Int32.ofNat len), .null] 6)) (T8.setTop (mkF m 45 #[.val (.ref a), .val (.ref b), .val (.int (Int32.ofNat o)), .val (.int (Int32.ofNat len)), .val .null, .val (.ref s.heap.size)] [.int (Int32.ofNat len), .ref s.heap.size, .ref a])) := c9.trans (by
      refine XS.astore X8.here hexec rfl (hb hbytes d39) rfl rfl rfl ?_
      refine XS.aloadN X8.here hexec rfl (hb hbytes d41) rfl rfl ?_
      refine XS.aload X8.here hexec rfl (hb hbytes d42) rfl rfl ?_
      refine XS.iloadN X8.here hexec rfl (hb hbytes d44) rfl ?_
      exact Steps.refl _)
    rw [n4]; exact hc
  obtain ⟨v11, T11, X11, E11, g11⟩ := X8.callS hexec (CodL.law l s.heap.size N) hown (wks W (staticW "java/lang/String" 47 CodL.yN)) (wk W CodL.tab) (W := 1) (Nat.le_of_ble_eq_true rfl) (Nat.le_of_ble_eq_true rfl) (Nat.le_refl _) (by show 0 + len + 0 ≤ len; omega) (g := (mkF m 45 #[.val (.ref a), .val (.ref b), .val (.int (Int32.ofNat o)), .val (.int (Int32.ofNat len)), .val .null, .val (.ref s.heap.size)] [.int (Int32.ofNat N.slots.size), .ref s.heap.size, .ref a])) rfl (by rw [hml]; rfl) c10 (argsL := [.ref s.heap.size, .int (Int32.ofNat N.slots.size)]) (rest := [.ref a]) rfl rfl (by show 2 * 0 + (1 + 0) ≤ _; decide) (hb hbytes d45) (⟨rfl, n1⟩)
  obtain ⟨rfl, q11⟩ := E11
  have hB11 := hB1.mv (X8.warmed.alike.symm.trans X11.warmed.alike) q11
  have c12 : Steps p.tables e below (s₁.setTop (entryFrame m #[.ref a, .ref b, .int (Int32.ofNat o), .int (Int32.ofNat len), .null] 6)) (T11.setTop (mkF m 48 #[.val (.ref a), .val (.ref b), .val (.int (Int32.ofNat o)), .val (.int (Int32.ofNat len)), .val .null, .val (.ref s.heap.size)] [.int 0, .ref a])) := g11
  obtain ⟨T13, X13, p13, bl13, sl13, st13⟩ := X11.finit hexec hown (wk W (.fieldLink "java/lang/String" 15 "java/lang/String" "coder" "B")) (Or.inr ⟨_, (wk W (.laysFinal "java/lang/String" "java/lang/String" "coder" "B"))⟩) (Or.inl ⟨rfl, hnm⟩) f2 (Or.inl rfl) hB11 (t := .byte) (by decide +kernel) rfl (g := (mkF m 48 #[.val (.ref a), .val (.ref b), .val (.int (Int32.ofNat o)), .val (.int (Int32.ofNat len)), .val .null, .val (.ref s.heap.size)] [.int 0, .ref a])) rfl (rest := []) rfl (hb hbytes d48)
  have c14 : Steps p.tables e below (s₁.setTop (entryFrame m #[.ref a, .ref b, .int (Int32.ofNat o), .int (Int32.ofNat len), .null] 6)) (T13.setTop (mkF m 54 #[.val (.ref a), .val (.ref b), .val (.int (Int32.ofNat o)), .val (.int (Int32.ofNat len)), .val .null, .val (.ref s.heap.size)] [.ref s.heap.size, .ref a])) := (c12.trans (st13 _ (Steps.refl _))).trans (by
    refine XS.aloadN X13.here hexec rfl (hb hbytes d51) rfl rfl ?_
    refine XS.aload X13.here hexec rfl (hb hbytes d52) rfl rfl ?_
    exact Steps.refl _)
  obtain ⟨T15, X15, p15, bl15, sl15, st15⟩ := X13.finit hexec hown (wk W (.fieldLink "java/lang/String" 9 "java/lang/String" "value" "[B")) (Or.inr ⟨_, (wk W (.laysFinal "java/lang/String" "java/lang/String" "value" "[B"))⟩) (Or.inl ⟨rfl, hnm⟩) f1 (Or.inl rfl) bl13 (t := (.array .byte)) (by decide +kernel) rfl (g := (mkF m 54 #[.val (.ref a), .val (.ref b), .val (.int (Int32.ofNat o)), .val (.int (Int32.ofNat len)), .val .null, .val (.ref s.heap.size)] [.ref s.heap.size, .ref a])) rfl (rest := []) rfl (hb hbytes d54)
  have c16 : Steps p.tables e below (s₁.setTop (entryFrame m #[.ref a, .ref b, .int (Int32.ofNat o), .int (Int32.ofNat len), .null] 6)) (T15.setTop (mkF m 57 #[.val (.ref a), .val (.ref b), .val (.int (Int32.ofNat o)), .val (.int (Int32.ofNat len)), .val .null, .val (.ref s.heap.size)] [])) := c14.trans (st15 _ (Steps.refl _))
  have ap := apart (Or.inr ⟨_, (wk W (.laysFinal "java/lang/String" "java/lang/String" "value" "[B"))⟩) (Or.inr ⟨_, (wk W (.laysFinal "java/lang/String" "java/lang/String" "coder" "B"))⟩) f1 f2 (t₁ := .array .byte) (t₂ := .byte) (by decide +kernel) (by decide +kernel) (by decide)
  have al := X8.warmed.alike.symm.trans X15.warmed.alike
  have n7 : T11.heap[s.heap.size]? = some N := by rw [q11]; exact n1.1
  exact ⟨T15, none, _, _, _, X15, by simp, rfl, by omega, (fun _ => rfl), ⟨rfl, _, N, bl15, ((Same.refl D _).set _ (by simp)).set _ (by simp), sl15, (Cell.slots_setSlot_ne _ ap).trans sl13, n1.keep al (p15.other hne (p13.other hne n7)), n2, by rw [al.findClass]; exact n3, n4, n5, fun y c h1 h2 => p15.other h1 (p13.other h1 (by rw [q11]; exact n6 y c h2)), by rw [p15.2.2, p13.2.2, q11]; exact z8⟩, fun fs hl => c16.trans (X15.returnOut hexec hret (hb hbytes d57) hl)⟩
end New4
namespace New1
def yN : MethodName := ⟨"java/lang/String", "<init>", "([C)V"⟩
abbrev yB : ByteArray := jdk_42_method_3_code
theorem d0 : decode yB 0 = .ok (.aload_n 0, 1) := by decide +kernel
theorem d1 : decode yB 1 = .ok (.aload_n 1, 1) := by decide +kernel
theorem d2 : decode yB 2 = .ok (.iconst 0, 1) := by decide +kernel
theorem d3 : decode yB 3 = .ok (.aload_n 1, 1) := by decide +kernel
theorem d4 : decode yB 4 = .ok (.arraylength, 1) := by decide +kernel
theorem d5 : decode yB 5 = .ok (.aconst_null, 1) := by decide +kernel
theorem d6 : decode yB 6 = .ok (.invokespecial 27, 3) := by decide +kernel
theorem d9 : decode yB 9 = .ok (.return_, 1) := by decide +kernel
def site : List Cond := [New4.tab] ++ initW "java/lang/String" 27 New4.yN
def tab : Cond := tabOf yN yB 2 none site
def P (a : Addr) (D : Cell) (fV fC : Field) (b : Addr) (A : Cell) (z : Int32) (args : Array Value) (s : State) : Prop := args = #[.ref a, .ref b] ∧ Blank "java/lang/String" a D s ∧ Found "java/lang/String" "value" "[B" fV s ∧ Found "java/lang/String" "coder" "B" fC s ∧ Ch b A s ∧ StaticIs s "java/lang/String" "COMPACT_STRINGS" "Z" (.int z) ∧ ¬ z = 0 ∧ 0 < A.slots.size ∧ A.slots.size ≤ 536870912 ∧ ∀ i, i < A.slots.size → ¬ 255 < cv A i
def E (a : Addr) (D : Cell) (fV fC : Field) (A : Cell) (r : Option Value) (s u : State) : Prop := Got a D fV fC A 0 A.slots.size r s u
/-- new String(chars), not empty, no char above 255: a Latin-1 String of their low bytes -/
theorem law (l : Launch) (a : Addr) (D : Cell) (fV fC : Field) (b : Addr) (A : Cell) (z : Int32) : Law l yN 2 1 3 52 yB 2 none site (P a D fV fC b A z) (E a D fV fC A) [⟨a, fC.slot⟩, ⟨a, fV.slot⟩] 1 A.slots.size := by
  refine Law.of_walk (plainFor_of_name (by decide +kernel)) (by decide +kernel) (by decide +kernel) (by decide) (fun _ _ h => by rw [h.1]; rfl) (fun _ U U' hal hh h => ⟨h.1, h.2.1.mv hal hh, h.2.2.1.al hal, h.2.2.2.1.al hal, h.2.2.2.2.1.mv hal hh, h.2.2.2.2.2.1.there hal hh, h.2.2.2.2.2.2⟩) (fun r U U' V V' h1 hal h2 h => Got.mv r U U' V V' h1 hal h2 h) ?_
  intro p e s m args below meth c s₁ X0 hexec hbytes hml hret hlk hnm hown hh0 W hP
  obtain ⟨rfl, hB, f1, f2, hA, s1, hz, l0, l2, hp⟩ := hP
  have c1 : Steps p.tables e below (s₁.setTop (entryFrame m #[.ref a, .ref b] 2)) (s₁.setTop (mkF m 0 #[.val (.ref a), .val (.ref b)] [])) := entry rfl
  have c2 : Steps p.tables e below (s₁.setTop (entryFrame m #[.ref a, .ref b] 2)) (s₁.setTop (mkF m 6 #[.val (.ref a), .val (.ref b)] [.null, .int (Int32.ofNat A.slots.size), .int 0, .ref b, .ref a])) := c1.trans (by
    refine XS.aloadN X0.here hexec rfl (hb hbytes d0) rfl rfl ?_
    refine XS.aloadN X0.here hexec rfl (hb hbytes d1) rfl rfl ?_
    refine iconstV X0.here hexec rfl 0 (hb hbytes d2) (by decide) ?_
    refine XS.aloadN X0.here hexec rfl (hb hbytes d3) rfl rfl ?_
    refine X0.alen hexec (hA.1.mv X0.warmed.alike hh0) rfl rfl (hb hbytes d4) ?_
    refine XS.aconstNull X0.here hexec rfl (hb hbytes d5) ?_
    exact Steps.refl _)
  obtain ⟨v3, T3, X3, E3, g3⟩ := X0.callN hexec (New4.law l a D fV fC b A z 0 A.slots.size) rfl hown (wks W (initW "java/lang/String" 27 New4.yN)) (W New4.tab (by simp only [site, List.mem_cons, List.mem_append, true_or, or_true])) (W := 0) (Nat.le_of_ble_eq_true rfl) (Nat.le_of_ble_eq_true rfl) (Nat.le_refl _) (by show 0 + A.slots.size ≤ A.slots.size; omega) (g := (mkF m 6 #[.val (.ref a), .val (.ref b)] [.null, .int (Int32.ofNat A.slots.size), .int (Int32.ofNat 0), .ref b, .ref a])) rfl (by rw [hml]; rfl) c2 (argsL := [.ref b, .int (Int32.ofNat 0), .int (Int32.ofNat A.slots.size), .null]) (rest := []) rfl rfl (by show 2 * 0 + 0 ≤ _; decide) (hb hbytes d6) (⟨rfl, hB.mv X0.warmed.alike hh0, f1.al X0.warmed.alike, f2.al X0.warmed.alike, hA.mv X0.warmed.alike hh0, s1.there X0.warmed.alike hh0, hz, l0, by omega, l2, fun i hi => by rw [Nat.zero_add]; exact hp i hi⟩)
  have e0 := Got.mv _ s₁ s _ _ hh0.symm (Vm.Alike.refl _) rfl E3
  obtain rfl := e0.1
  have c4 : Steps p.tables e below (s₁.setTop (entryFrame m #[.ref a, .ref b] 2)) (T3.setTop (mkF m 9 #[.val (.ref a), .val (.ref b)] [])) := g3
  exact ⟨T3, none, _, _, _, X3, by simp, rfl, by omega, (fun _ => rfl), e0, fun fs hl => c4.trans (X3.returnOut hexec hret (hb hbytes d9) hl)⟩
theorem pays {l : Launch} {R : Room} {p : Program} {e : Env} {below : List Frame} {s : State} {sargs : Array Value} {len W : Nat} (a : Addr) (D : Cell) (fV fC : Field) (b : Addr) (A : Cell) (z : Int32) (htab : tab.before sargs s = true) (hfr : 4 ≤ R.frames) (hlo : W + 65 ≤ R.locals) :
    Back l R p e below s sargs yN len W (fun A₁ a₁ => A₁.cells + 1 ≤ R.cells ∧ A₁.slots + A.slots.size ≤ R.slots ∧ P a D fV fC b A z a₁ A₁.U) (fun A₁ _ v₁ B₁ => E a D fV fC A v₁ A₁.U B₁.U ∧ B₁.locs = A₁.locs ++ [⟨a, fC.slot⟩, ⟨a, fV.slot⟩] ∧ B₁.cells = A₁.cells + 1 ∧ B₁.slots = A₁.slots + A.slots.size) :=
  (law l a D fV fC b A z).pays htab hfr (by omega)
end New1
end StrChars
namespace StrChars.Road
open Jvm Sem ClassFile Op Lib Jvm.Stand Jvm.Free Jvm.Free.XT
open Jvm.Lib.Cold (StaticIs)
abbrev ST : String := "java/lang/String"
/-- every table word that New1's law asks, flat -/
abbrev words : List Jvm.Cond := [.code New1.yN New1.yB 2 none, .initialized ST, .methodLink ST 27 New4.yN, .instanceMethod New4.yN,
  .code New4.yN New4.yB 6 none, .fieldLink ST 38 ST "COMPACT_STRINGS" "Z", .laysFinal ST ST "value" "[B", .fieldLink ST 9 ST "value" "[B", .laysFinal ST ST "coder" "B", .fieldLink ST 15 ST "coder" "B",
  .methodLink ST 1 Lib.objectInit, .instanceMethod Lib.objectInit, .code Lib.objectInit ⟨#[0xb1]⟩ 1 none, .methodLink ST 177 Cmp3.yN, .static Cmp3.yN, .methodLink ST 47 CodL.yN, .static CodL.yN,
  .code Cmp3.yN Cmp3.yB 6 (some (.array .byte)), .initialized U16, .arrayClass .byte, .methodLink U16 115 Cmp5.yN, .static Cmp5.yN, .code Cmp5.yN Cmp5.yB 7 (some .int), .code CodL.yN CodL.yB 2 (some .byte)]
theorem tab_of {a : Array Value} {s : State} (h : ∀ w ∈ words, w.before a s = true) : New1.tab.before a s = true := by
  have h5 : Cmp5.tab.before a s = true := unparts (wk h (.code Cmp5.yN Cmp5.yB 7 (some .int))) (wks h (.initialized Cmp5.yN.cls :: Cmp5.site))
  have hc : CodL.tab.before a s = true := unparts (wk h (.code CodL.yN CodL.yB 2 (some .byte))) (wks h (.initialized CodL.yN.cls :: CodL.site))
  have q5 : ∀ w ∈ Cmp5.tab :: words, w.before a s = true := fun w hw => (List.mem_cons.mp hw).elim (fun e => e ▸ h5) (h w)
  have h3 : Cmp3.tab.before a s = true := unparts (wk q5 (.code Cmp3.yN Cmp3.yB 6 (some (.array .byte)))) (wks q5 (.initialized Cmp3.yN.cls :: Cmp3.site))
  have q3 : ∀ w ∈ Cmp3.tab :: CodL.tab :: words, w.before a s = true := fun w hw => (List.mem_cons.mp hw).elim (fun e => e ▸ h3) fun hw => (List.mem_cons.mp hw).elim (fun e => e ▸ hc) (h w)
  have h4 : New4.tab.before a s = true := unparts (wk q3 (.code New4.yN New4.yB 6 none)) (wks q3 (.initialized New4.yN.cls :: New4.site))
  have q4 : ∀ w ∈ New4.tab :: words, w.before a s = true := fun w hw => (List.mem_cons.mp hw).elim (fun e => e ▸ h4) (h w)
  exact unparts (wk q4 (.code New1.yN New1.yB 2 none)) (wks q4 (.initialized New1.yN.cls :: New1.site))
/-- the words ride from the start Z to the walk's own state -/
theorem moved {Z s : State} {a0 args : Array Value} (hZ : Z.Warmed39 s.vm) (hw : ∀ d ∈ words, d.before a0 Z = true) : ∀ d ∈ words, d.before args s = true := fun d hd => by
  have q := hw d hd
  have t : ∀ d ∈ words, d = .arrayClass .byte ∨ (d.onTables && d.keepsFace) = true := by decide +kernel
  rcases t d hd with rfl | t
  · exact RoadKit.mvA hZ q
  · exact RoadKit.mv hZ q t
/-- WHAT COMES BACK, over the tables of the start Z: h the heap at the call, h' behind it -/
def Q (Z : State) (x : Addr) (A : Cell) (h : Heap) (v : Option Value) (h' : Heap) (L : List Loc) : Prop := v = none ∧ (∀ y ∈ L, y.base = x) ∧ RoadKit.Keep h h' [x] ∧ h'.size = h.size + 1 ∧ RoadKit.Exa Z h' x ST ∧ RoadKit.Fld Z h' x ST "value" "[B" (.ref h.size) ∧ RoadKit.Fld Z h' x ST "coder" "B" (.int 0) ∧
  (∃ V : Cell, RoadKit.Arr Z h' h.size V .byte ∧ V.vm = .none ∧ Z.vm.findClass "[B" = some V.cls ∧ V.slots.size = A.slots.size ∧ ∀ j, j < A.slots.size → V.slots[j]? = some (.int (lo8 (cv A j)))) ∧
  ∀ (O n d : String) (w : Value), RoadKit.Fld Z h x O n d w → RoadKit.slotOf Z O n d ≠ RoadKit.slotOf Z ST "value" "[B" → RoadKit.slotOf Z O n d ≠ RoadKit.slotOf Z ST "coder" "B" → RoadKit.Fld Z h' x O n d w
/-- **new String(chars) AT A CALL, IN THE ROAD'S FORM**: for specialBack behind newO: x the fresh String, b the char[] with the cell A -/
theorem back {p : Program} {l : Launch} {e : Env} {R : Room} {s : State} {args : Array Value} {below : List Frame} {len W : Nat} {Z : State} {a0 : Array Value} {h : Heap} (hZ : Z.Warmed39 s.vm) (hw : ∀ d ∈ words, d.before a0 Z = true) {kI : Nat} (wi : (Jvm.Cond.instantiable ST kI).before a0 Z = true)
    {x b : Addr} {A : Cell} {z : Int32} {v0 c0 : Value} (E : RoadKit.Exa Z h x ST) (V : RoadKit.Fld Z h x ST "value" "[B" v0) (C : RoadKit.Fld Z h x ST "coder" "B" c0) (K : RoadKit.Arr Z h b A .char) (hty : Typed .char A) (S : RoadKit.Sta Z h ST "COMPACT_STRINGS" "Z" (.int z)) (hz : ¬ z = 0)
    (l0 : 0 < A.slots.size) (l2 : A.slots.size ≤ 536870912) (hp : ∀ i, i < A.slots.size → ¬ 255 < cv A i) (hfr : 4 ≤ R.frames) (hlo : W + 65 ≤ R.locals) :
    Back l R p e below s args New1.yN len W (fun P a => a = #[.ref x, .ref b] ∧ P.U.heap = h ∧ P.cells + 1 ≤ R.cells ∧ P.slots + A.slots.size ≤ R.slots)
      (fun P _ v B => ∃ L, Q Z x A h v B.U.heap L ∧ B.locs = P.locs ++ L ∧ B.cells = P.cells + 1 ∧ B.slots = P.slots + A.slots.size) := by
  intro m meth c P g ig mk a X hg hsize hdg hW hn hp'
  obtain ⟨rfl, rfl, r1, r2⟩ := hp'
  have al : Z.vm.Alike P.U.vm := hZ.alike.trans X.warmed.alike
  obtain ⟨D, cfV, kV, iV, fV, hD, gV, stV, knV, obV, asV, slV⟩ := id V
  obtain ⟨D', cfC, kC, iC, fC, hD', gC, stC, -, -, asC, slC⟩ := id C
  cases hD.symm.trans hD'
  obtain ⟨D2, kD, e1, e2, e3, e4, e5⟩ := id E
  cases hD.symm.trans e1
  obtain ⟨c2, k2, i1, i2, i3, -⟩ := Cond.instantiable_spec wi
  cases e2.symm.trans i1
  cases e3.symm.trans i2
  obtain ⟨kU, u1, u2⟩ := al.2.2 _ _ e3
  have hB : Blank ST x D P.U := ⟨hD, ⟨knV, fun q hq => by rw [hq] at obV; cases obV⟩, by rw [al.findClass]; exact e2, kU, u1, by rw [u2]; exact i3, by rw [u2]; exact e5 i3⟩
  have F1 : Found ST "value" "[B" fV P.U := ⟨SBG.found_only al ⟨cfV, kV, iV, gV⟩, stV⟩
  have F2 : Found ST "coder" "B" fC P.U := ⟨SBG.found_only al ⟨cfC, kC, iC, gC⟩, stC⟩
  have hA : Ch b A P.U := ⟨⟨K.1, State.isArrayOf_alike al K.2.1, K.2.2, by omega⟩, hty⟩
  have hS : StaticIs P.U ST "COMPACT_STRINGS" "Z" (.int z) := by
    obtain ⟨cfS, iS, kS, fS, st, cS, t1, t2, t3, t4, t5, t6, t7⟩ := S
    exact StaticIs.there (s := { Z with heap := P.U.heap }) ⟨cfS, iS, kS, fS, st, cS, t1, t2, t3, t4, t5, (fun q => by rw [q] at t6; cases t6), t7⟩ al rfl
  obtain ⟨v, B, X', ⟨⟨hv, E', V', q1, q2, q3, q4, q5, q6, q7, q8, q9, q10, q11⟩, hl, hc, hs⟩, st⟩ := New1.pays x D fV fC b A z (tab_of (moved hZ hw)) hfr hlo m meth c P g ig mk _ X hg hsize hdg hW hn ⟨r1, r2, rfl, hB, F1, F2, hA, hS, hz, l0, l2, hp⟩
  have al' : Z.vm.Alike B.U.vm := hZ.alike.trans X'.warmed.alike
  have hsz : E'.slots.size = D.slots.size := by
    obtain ⟨-, -, -, kB, w1, w2, w3⟩ := q1
    obtain ⟨kB', y1, y2⟩ := al'.2.2 _ _ e3
    rw [q2.2.1] at w1
    cases w1.symm.trans y1
    rw [w3, e5 i3, y2]
  refine ⟨v, B, X', ⟨_, ⟨hv, ?_, ⟨by omega, fun y cy hy hn' => q10 y cy (by simpa using hn') hy, fun y cy hy => ?_⟩, q11, ⟨E', _, q1.1, by rw [q2.2.1]; exact e2, by rw [q2.2.1]; exact e3, by rw [q2.1]; exact obV, fun _ => by rw [hsz]; exact e5 i3⟩,
    ⟨E', cfV, kV, iV, fV, q1.1, gV, stV, by rw [q2.1]; exact knV, by rw [q2.1]; exact obV, by rw [q2.2.1]; exact asV, q3⟩, ⟨E', cfC, kC, iC, fC, q1.1, gC, stC, by rw [q2.1]; exact knV, by rw [q2.1]; exact obV, by rw [q2.2.1]; exact asC, q4⟩,
    ⟨V', ⟨q5.1, State.isArrayOf_alike al'.symm q5.2.1, q5.2.2.1⟩, q6, by rw [← al'.findClass]; exact q7, q8, fun j hj => by have := q9 j hj; rwa [Nat.zero_add] at this⟩, fun O n d w F n1 n2 => ?_⟩, hl, hc, hs⟩, st⟩
  · intro y hy
    simp only [List.mem_cons, List.not_mem_nil, or_false] at hy
    rcases hy with rfl | rfl <;> rfl
  · by_cases q : y = x
    · subst q
      cases hD.symm.trans hy
      exact ⟨E', q1.1, q2.2.1, q2.1, hsz⟩
    · exact ⟨cy, q10 y cy q hy, rfl, rfl, rfl⟩
  · obtain ⟨D3, cf, k, i, f, g1, g2, g3, g4, g5, g6, g7⟩ := F
    cases hD.symm.trans g1
    simp only [RoadKit.slotOf, g2, gV, gC, Option.map_some, Option.getD_some] at n1 n2
    exact ⟨E', cf, k, i, f, q1.1, g2, g3, by rw [q2.1]; exact g4, by rw [q2.1]; exact g5, by rw [q2.2.1]; exact g6, by rw [q2.2.2 f.slot (by simp [n1, n2])]; exact g7⟩
end StrChars.Road
namespace StrChars.Road
open Jvm Sem ClassFile Op Lib Jvm.Stand Jvm.Free Jvm.Free.XT
/-- WHAT COMES BACK, the byte[] as a list of values -/
def QA (Z : State) (x : Addr) (zn : Int32) (cs : List Int32) (h : Heap) (v : Option Value) (h' : Heap) (L : List Loc) : Prop := v = none ∧ (∀ y ∈ L, y.base = x) ∧ RoadKit.Keep h h' [x] ∧ h'.size = h.size + 1 ∧ RoadKit.Exa Z h' x ST ∧ RoadKit.Fld Z h' x ST "value" "[B" (.ref h.size) ∧ RoadKit.Fld Z h' x ST "coder" "B" (.int 0) ∧
  (∃ kb, Z.vm.findClass "[B" = some kb ∧ RoadKit.Arv Z h' h.size kb .byte zn (cs.map fun c => .int (lo8 c)) (.int 0)) ∧
  ∀ (O n d : String) (w : Value), RoadKit.Fld Z h x O n d w → RoadKit.slotOf Z O n d ≠ RoadKit.slotOf Z ST "value" "[B" → RoadKit.slotOf Z O n d ≠ RoadKit.slotOf Z ST "coder" "B" → RoadKit.Fld Z h' x O n d w
/-- **new String(chars) AT A CALL, THE ARRAYS AS LISTS**: the char[] at b holds cs, not empty, no char above 255 -/
theorem backArv {p : Program} {l : Launch} {e : Env} {R : Room} {s : State} {args : Array Value} {below : List Frame} {len W : Nat} {Z : State} {a0 : Array Value} {h : Heap} (hZ : Z.Warmed39 s.vm) (hw : ∀ d ∈ words, d.before a0 Z = true) {kI : Nat} (wi : (Jvm.Cond.instantiable ST kI).before a0 Z = true)
    {x b : Addr} {k : ClassId} {zn z : Int32} {cs : List Int32} {dv v0 c0 : Value} (E : RoadKit.Exa Z h x ST) (V : RoadKit.Fld Z h x ST "value" "[B" v0) (C : RoadKit.Fld Z h x ST "coder" "B" c0) (K : RoadKit.Arv Z h b k .char zn (cs.map Value.int) dv) (S : RoadKit.Sta Z h ST "COMPACT_STRINGS" "Z" (.int z)) (hz : ¬ z = 0)
    (hlen : zn.toNatClampNeg = cs.length) (h0 : 0 < cs.length) (hbig : cs.length ≤ 536870912) (hall : ∀ c ∈ cs, ¬ 255 < c) (hfr : 4 ≤ R.frames) (hlo : W + 65 ≤ R.locals) :
    Back l R p e below s args New1.yN len W (fun P a => a = #[.ref x, .ref b] ∧ P.U.heap = h ∧ P.cells + 1 ≤ R.cells ∧ P.slots + cs.length ≤ R.slots)
      (fun P _ v B => ∃ L, QA Z x zn cs h v B.U.heap L ∧ B.locs = P.locs ++ L ∧ B.cells = P.cells + 1 ∧ B.slots = P.slots + cs.length) := by
  obtain ⟨A, K1, K2, K3, K4, K5, K6⟩ := K
  have e : A.slots.size = cs.length := K3.trans hlen
  have hat : ∀ (i : Nat) (hi : i < cs.length), A.slots[i]? = some (.int cs[i]) := fun i hi => by rw [K5 i (by omega)]; simp [List.getD_eq_getElem?_getD, hi]
  have hcv : ∀ (i : Nat) (hi : i < cs.length), cv A i = cs[i] := fun i hi => by unfold cv; rw [hat i hi]
  have hty : Typed .char A := fun i v hv => by
    have hi : i < A.slots.size := (Array.getElem?_eq_some_iff.mp hv).1
    have q := K5 i hi
    rw [hv] at q
    rw [Option.some.inj q]
    exact K6 i hi
  refine Back.mono (back hZ hw wi E V C K1 hty S hz (by omega) (by omega) (fun i hi => by rw [hcv i (by omega)]; exact hall _ (List.getElem_mem _)) hfr hlo) (fun P a hp => ⟨hp.1, hp.2.1, hp.2.2.1, by rw [e]; exact hp.2.2.2⟩) (fun P a v B hp hq => ?_)
  obtain ⟨L, ⟨q1, q2, q3, q4, q5, q6, q7, ⟨V', v1, v2, v3, v4, v5⟩, q9⟩, hl, hc, hs⟩ := hq
  refine ⟨L, ⟨q1, q2, q3, q4, q5, q6, q7, ⟨V'.cls, v3, V', v1, rfl, by rw [v4, e, hlen], K4, fun i hi => ?_, fun i hi => ?_⟩, q9⟩, hl, hc, by rw [hs, e]⟩
  · have hi' : i < cs.length := by omega
    rw [v5 i (by omega), hcv i hi']; simp [List.getD_eq_getElem?_getD, hi']
  · have hi' : i < cs.length := by omega
    simp only [List.getD_eq_getElem?_getD, List.getElem?_map, List.getElem?_eq_getElem hi', Option.map_some, Option.getD_some]
    exact fits_lo8 _
end StrChars.Road
namespace StrChars.Road
open Jvm Sem ClassFile Op Lib Jvm.Stand Jvm.Free Jvm.Free.XT
/-- WHAT COMES BACK, in the writer's own shape -/
def QV (Z : State) (x : Addr) (N : Int32) (bs : List Int32) (h : Heap) (n0 : Nat) (v : Option Value) (h' : Heap) (L : List Loc) : Prop := v = none ∧ RoadKit.Fr n0 L ∧ RoadKit.Keep h h' [x] ∧ RoadKit.Exa Z h' x ST ∧ RoadKit.Fld Z h' x ST "coder" "B" (.int 0) ∧
  ∃ (t : Addr) (kb : ClassId), n0 ≤ t ∧ h.size ≤ t ∧ ¬ t = x ∧ RoadKit.Fld Z h' x ST "value" "[B" (.ref t) ∧ RoadKit.Arv Z h' t kb .byte N (bs.map Value.int) (.int 0)
/-- **new String(chars) AT A CALL, FOR THE WRITER**: a char[] of n known ints, each 0 to 255 -/
theorem backV {p : Program} {l : Launch} {e : Env} {R : Room} {s : State} {args : Array Value} {below : List Frame} {len W : Nat} {Z : State} {a0 : Array Value} {h : Heap} (hZ : Z.Warmed39 s.vm) (hw : ∀ d ∈ words, d.before a0 Z = true) {kI : Nat} (wi : (Jvm.Cond.instantiable ST kI).before a0 Z = true)
    {x b : Addr} {kC : ClassId} {cs bs : List Int32} {d v0 c0 : Value} {z N : Int32} {n n0 : Nat} (hx0 : n0 ≤ x) (hh0 : n0 ≤ h.size) (E : RoadKit.Exa Z h x ST) (V : RoadKit.Fld Z h x ST "value" "[B" v0) (C : RoadKit.Fld Z h x ST "coder" "B" c0) (K : RoadKit.Arv Z h b kC .char N (cs.map Value.int) d) (S : RoadKit.Sta Z h ST "COMPACT_STRINGS" "Z" (.int z)) (hz : ¬ z = 0)
    (hn : cs.length = n) (hN : N = Int32.ofNat n) (l0 : 0 < n) (l2 : n ≤ 4000) (hp : ∀ c ∈ cs, ¬ c < 0 ∧ ¬ (255 : Int32) < c) (hb : bs = cs.map (fun c => c.toInt8.toInt32)) (hfr : 4 ≤ R.frames) (hlo : W + 65 ≤ R.locals) :
    Back l R p e below s args (⟨"java/lang/String", "<init>", "([C)V"⟩ : MethodName) len W (fun P a => a = #[.ref x, .ref b] ∧ P.U.heap = h ∧ P.cells + 1 ≤ R.cells ∧ P.slots + n ≤ R.slots)
      (fun P _ v B => ∃ L, QV Z x N bs h n0 v B.U.heap L ∧ B.locs = P.locs ++ L ∧ B.cells = P.cells + 1 ∧ B.slots = P.slots + n) := by
  subst hn hN hb
  refine Back.mono (backArv hZ hw wi E V C K S hz (n32 (by omega)) l0 (by omega) (fun c hc => (hp c hc).2) hfr hlo) (fun P a hp => hp) (fun P a v B hp hq => ?_)
  obtain ⟨L, ⟨q1, q2, q3, q4, q5, q6, q7, ⟨kb, v1, v2⟩, q9⟩, hl, hc, hs⟩ := hq
  exact ⟨L, ⟨q1, fun y hy => by rw [q2 y hy]; exact hx0, q3, q5, q7, h.size, kb, hh0, Nat.le_refl _, Nat.ne_of_gt E.lt, q6, by rw [List.map_map]; exact v2⟩, hl, hc, hs⟩
end StrChars.Road
end Jvm.Pilot.@@N@@
namespace Jvm.Pilot.@@N@@
open Jvm Jvm.ClassFile Sem Op Lib Jvm.Free Jvm.Stand Jvm.LawKit Jvm.RoadKit Bundle Jvm.Pilot.@@N@@.Jvm.D

theorem own_wS {Z : State} {a0 : Array Value} (hw : ∀ d ∈ tables_1, d.before a0 Z = true) : ∀ a ∈ Bundle.stringAtoms, a.before a0 Z = true := fun d hd => by
  simp only [Bundle.stringAtoms, List.mem_cons, List.not_mem_nil, or_false] at hd
  rcases hd with rfl | rfl | rfl | rfl | rfl | rfl | rfl
  · exact (hw _ (List.mem_of_getElem? (i := 3) rfl))
  · exact (hw _ (List.mem_of_getElem? (i := 2) rfl))
  · exact (hw _ (List.mem_of_getElem? (i := 19) rfl))
  · exact (hw _ (List.mem_of_getElem? (i := 29) rfl))
  · exact (hw _ (List.mem_of_getElem? (i := 27) rfl))
  · exact (hw _ (List.mem_of_getElem? (i := 91) rfl))
  · exact (hw _ (List.mem_of_getElem? (i := 92) rfl))

theorem own_four (x : Int32) : x &&& (3 : Int32) = (0 : Int32) ∨ x &&& (3 : Int32) = (1 : Int32) ∨ x &&& (3 : Int32) = (2 : Int32) ∨ x &&& (3 : Int32) = (3 : Int32) := by
  have h := c_mask x 3 2 (by decide) (by decide)
  rw [← Int32.toInt_inj, ← Int32.toInt_inj, ← Int32.toInt_inj, ← Int32.toInt_inj]
  have z : (0 : Int32).toInt = 0 ∧ (1 : Int32).toInt = 1 ∧ (2 : Int32).toInt = 2 ∧ (3 : Int32).toInt = 3 := by decide
  omega
theorem own_ch (x : Int32) : ¬ nar .char ((x &&& (255 : Int32)).toUInt32.toUInt16.toUInt32.toInt32) < 0 ∧ ¬ (255 : Int32) < nar .char ((x &&& (255 : Int32)).toUInt32.toUInt16.toUInt32.toInt32) := by
  have e : nar .char ((x &&& (255 : Int32)).toUInt32.toUInt16.toUInt32.toInt32) = x &&& 255 := by
    show ((x &&& (255 : Int32)).toUInt32.toUInt16.toUInt32.toInt32).toUInt32.toUInt16.toUInt32.toInt32 = _
    rw [i2c_mask, i2c_mask]
  rw [e]
  have h := c_mask x 255 8 (by decide) (by decide)
  rw [Int32.lt_iff_toInt_lt, Int32.lt_iff_toInt_lt]
  have z : (0 : Int32).toInt = 0 ∧ (255 : Int32).toInt = 255 := by decide
  omega
theorem own_nb (x : Int32) : nar .byte (x.toInt8.toInt32) = x.toInt8.toInt32 := by
  show x.toInt8.toInt32.toInt8.toInt32 = _
  simp
def own_bs (n w : Int32) : List Value := List.take n.toNatClampNeg [.int (w.toInt8.toInt32), .int (((w.toUInt32 >>> ((8 : Int32) &&& 31).toUInt32).toInt32).toInt8.toInt32), .int (((w.toUInt32 >>> ((16 : Int32) &&& 31).toUInt32).toInt32).toInt8.toInt32)]
theorem own_to {Z : State} {h : Heap} {b : Addr} {k : ClassId} {n i w : Int32} {vs : List Value} (hq : n = i) (hv : own_bs i w = vs) (A : Arv Z h b k .byte i vs (.int (0 : Int32))) : Arv Z h b k .byte n (own_bs n w) (.int (0 : Int32)) := by
  subst hq
  rw [hv]; exact A
theorem own_from {Z : State} {h : Heap} {b : Addr} {k : ClassId} {n i w : Int32} {vs : List Value} (hq : n = i) (hv : own_bs i w = vs) (A : Arv Z h b k .byte n (own_bs n w) (.int (0 : Int32))) : Arv Z h b k .byte i vs (.int (0 : Int32)) := by
  subst hq
  rw [hv] at A; exact A

theorem d1_0 : decode jdk_42_method_149_code 0 = .ok (.aload_n 0, 1) := by decide +kernel
theorem d1_1 : decode jdk_42_method_149_code 1 = .ok (.invokespecial 1, 3) := by decide +kernel
theorem d1_4 : decode jdk_42_method_149_code 4 = .ok (.iload_n 3, 1) := by decide +kernel
theorem d1_5 : decode jdk_42_method_149_code 5 = .ok (.ifCond .ne 22, 3) := by decide +kernel
theorem d1_8 : decode jdk_42_method_149_code 8 = .ok (.aload_n 0, 1) := by decide +kernel
theorem d1_9 : decode jdk_42_method_149_code 9 = .ok (.ldc 7, 2) := by decide +kernel
theorem d1_11 : decode jdk_42_method_149_code 11 = .ok (.getfield 9, 3) := by decide +kernel
theorem d1_14 : decode jdk_42_method_149_code 14 = .ok (.putfield 9, 3) := by decide +kernel
theorem d1_17 : decode jdk_42_method_149_code 17 = .ok (.aload_n 0, 1) := by decide +kernel
theorem d1_18 : decode jdk_42_method_149_code 18 = .ok (.ldc 7, 2) := by decide +kernel
theorem d1_20 : decode jdk_42_method_149_code 20 = .ok (.getfield 15, 3) := by decide +kernel
theorem d1_23 : decode jdk_42_method_149_code 23 = .ok (.putfield 15, 3) := by decide +kernel
theorem d1_26 : decode jdk_42_method_149_code 26 = .ok (.return_, 1) := by decide +kernel
theorem pn_0 : plainName "java/lang/String" = true := by first | (simp [plainName, overriddenIn]; done) | decide +kernel
theorem ef_1 (m : MethodId) (o : Addr) (ar : Addr) : entryFrame m #[(.ref o), (.ref ar), (.int (0 : Int32)), (.int (0 : Int32)), .null] 6 = mkF m 0 #[.val (.ref o), .val (.ref ar), .val (.int (0 : Int32)), .val (.int (0 : Int32)), .val .null, .unset] [] := by first | (simp [entryFrame, mkF, argsToLocals, Value.category]; done) | rfl
def Q1 (Z : State) (o : Addr) (ar : Addr) (cz : Int32) (h0 : Heap) (n0 : Nat) (v_ : Option Value) (h_ : Heap) (L_ : List Loc) : Prop := v_ = none ∧ Fr n0 L_ ∧ Keep h0 h_ [o] ∧ Exa Z h_ o "java/lang/String"
set_option maxRecDepth 65536 in
set_option maxHeartbeats 40000000 in
theorem rm1 (l : Launch) (Z : State) (a0 : Array Value) (hw : ∀ d ∈ tables_1, d.before a0 Z = true) (ws : List Jvm.Cond) (o : Addr) (ar : Addr) (cz : Int32) (h0 : Heap) (n0 : Nat) (Z0 : n0 ≤ h0.size) (P0 : Exa Z h0 o "java/lang/String") (P1 : Fld Z h0 o "java/lang/String" "value" "[B" .null) (P2 : Fld Z h0 o "java/lang/String" "coder" "B" (.int (0 : Int32))) (Y0 : Sta Z Z.heap "java/lang/String" "COMPACT_STRINGS" "Z" (.int cz)) (O0 : Old Z n0 h0) (g_o : n0 ≤ o) (hcH : Jvm.Lit.constHeld Z "java/lang/String" 7) (hcw : Jvm.Lit.compactW.before a0 Z = true) :
    MetFree l (⟨"java/lang/String", "<init>", "([CIILjava/lang/Void;)V"⟩ : MethodName) (head1 (Jvm.Cond.code (⟨"java/lang/String", "<init>", "([CIILjava/lang/Void;)V"⟩ : MethodName) jdk_42_method_149_code 6 none :: ws) ({ frames := 1, cells := 2, slots := 4, locals := 12 } : Room)) (fun ar_ U_ => ar_ = #[(.ref o), (.ref ar), (.int (0 : Int32)), (.int (0 : Int32)), .null] ∧ Z.Warmed39 U_.vm ∧ U_.heap = h0 ∧ IB Z U_.vm []) (fun _ _ _ _ _ => True) (fun _ U_ o_ U2_ => ∃ v_ L_, o_ = .returned v_ ∧ Q1 Z o ar cz h0 n0 v_ U2_.heap L_ ∧ ReturnedEndW U_ o_ U2_ L_ ({ frames := 1, cells := 2, slots := 4, locals := 12 } : Room).cells ({ frames := 1, cells := 2, slots := 4, locals := 12 } : Room).slots) := by
  refine MetFree.of_bodySF (plainFor_of_name pn_0) hisR ?_
  intro p e s m args below meth c s₁ Bd hml0 hP hK
  obtain ⟨rfl, hZ, hh, hI⟩ := hP
  have hx := Bd.exec
  have hby := Bd.bytes
  have hml : c.maxLocals = 6 := hml0
  have hown : s.vm.findClass "java/lang/String" = some m.cls := findClass_of_methodNamed Bd.named
  have hnm := (name_of_methodNamed Bd.named Bd.method).1
  have X0 : Stand p l e ({ frames := 1, cells := 2, slots := 4, locals := 12 } : Room) s m #[(.ref o), (.ref ar), (.int (0 : Int32)), (.int (0 : Int32)), .null] below meth c s₁ [] 0 0 := Stand.of_body Bd
  have e0 : s₁.heap = h0 := by rw [← hh, Bd.state]; rfl
  have N0 := Fr.nil n0
  have wS := own_wS hw
  refine own_gl ?_
  refine own_st (S' := s₁.setTop (mkF m 0 #[.val (.ref o), .val (.ref ar), .val (.int (0 : Int32)), .val (.int (0 : Int32)), .val .null, .unset] [])) (fun t_ k_ => castTop (ef_1 m o ar) k_) ?_
  refine own_st (S' := s₁.setTop (mkF m 1 #[.val (.ref o), .val (.ref ar), .val (.int (0 : Int32)), .val (.int (0 : Int32)), .val .null, .unset] [(.ref o)])) (fun t_ k_ => XS.aloadN X0.here hx rfl (hb hby d1_0) rfl rfl k_) ?_
  obtain ⟨T_1, X_1, e_1, st_1⟩ := initO X0 hx hZ hown (hw _ (List.mem_of_getElem? (i := 11) rfl)) (hw _ (List.mem_of_getElem? (i := 12) rfl)) (hw _ (List.mem_of_getElem? (i := 13) rfl)) e0 (g := (mkF m 1 #[.val (.ref o), .val (.ref ar), .val (.int (0 : Int32)), .val (.int (0 : Int32)), .val .null, .unset] [(.ref o)])) rfl (by rw [hml]; rfl) rfl (hb hby d1_1) (by decide) (W := 0) (by show 2 * 0 + _ ≤ _; exact Nat.le_of_eq rfl) (by decide)
  refine own_st (S' := T_1.setTop (mkF m 4 #[.val (.ref o), .val (.ref ar), .val (.int (0 : Int32)), .val (.int (0 : Int32)), .val .null, .unset] [])) st_1 ?_
  refine own_st (S' := T_1.setTop (mkF m 5 #[.val (.ref o), .val (.ref ar), .val (.int (0 : Int32)), .val (.int (0 : Int32)), .val .null, .unset] [(.int (0 : Int32))])) (fun t_ k_ => XS.iloadN X_1.here hx rfl (hb hby d1_4) rfl k_) ?_
  refine own_st (S' := T_1.setTop (mkF m 8 #[.val (.ref o), .val (.ref ar), .val (.int (0 : Int32)), .val (.int (0 : Int32)), .val .null, .unset] [])) (fun t_ k_ => XS.ifNo X_1.here hx rfl (hb hby d1_5) rfl ((if0 _ _).trans (teq (by decide : (0 : Int32) = (0 : Int32))).2) k_) ?_
  refine own_st (S' := T_1.setTop (mkF m 9 #[.val (.ref o), .val (.ref ar), .val (.int (0 : Int32)), .val (.int (0 : Int32)), .val .null, .unset] [(.ref o)])) (fun t_ k_ => XS.aloadN X_1.here hx rfl (hb hby d1_8) rfl rfl k_) ?_
  obtain ⟨a_2, T_2, h_2, k_2, b_2, kc_2, X_2, e_2, E_2, hS_2, hk_2, hZ_2, ho_2, A_2, C_2, F_2, V_2, -, -, -, Lt_2, st_2⟩ := ldcSVL (s := s) (vm0 := s.vm) X_1 hx hZ hown (hw _ (List.mem_of_getElem? (i := 90) rfl)) wS e_1 (k0 := 0) (State.WarmedH.since (State.WarmedH.refl s) 0) (Nat.zero_le _) (Fr.nil _) (fun b_ cl_ q_ => by rw [hh]; exact O0.2.2 b_ cl_ q_) hI (by simp) hcH hcw (vs := []) (z := (0 : Int32)) ⟨by simp, by first | rfl | simp⟩ (by decide) (by decide) (g := (mkF m 9 #[.val (.ref o), .val (.ref ar), .val (.int (0 : Int32)), .val (.int (0 : Int32)), .val .null, .unset] [(.ref o)])) rfl (hb hby d1_9) (n := 0) (by decide) (by decide) (by decide) (by decide)
  have Z_2 : n0 ≤ h_2.size := Nat.le_trans Z0 E_2.1
  have K_2 : Keep h0 h_2 [o] := (Keep.refl h0 [o]).ext E_2
  refine own_st (S' := T_2.setTop (mkF m 11 #[.val (.ref o), .val (.ref ar), .val (.int (0 : Int32)), .val (.int (0 : Int32)), .val .null, .unset] [(.ref a_2), (.ref o)])) st_2 ?_
  obtain ⟨T_3, X_3, e_3, st_3⟩ := getF X_2 hx hZ_2 ho_2 (host := "") (Or.inl (hw _ (List.mem_of_getElem? (i := 28) rfl))) Via.refl e_2 F_2 (g := (mkF m 11 #[.val (.ref o), .val (.ref ar), .val (.int (0 : Int32)), .val (.int (0 : Int32)), .val .null, .unset] [(.ref a_2), (.ref o)])) rfl rfl (hb hby d1_11)
  refine own_st (S' := T_3.setTop (mkF m 14 #[.val (.ref o), .val (.ref ar), .val (.int (0 : Int32)), .val (.int (0 : Int32)), .val .null, .unset] [(.ref b_2), (.ref o)])) st_3 ?_
  have f_4 : Fld Z h_2 o "java/lang/String" "value" "[B" .null := (Fld.ext E_2 P1)
  have f_5 : Exa Z h_2 o "java/lang/String" := (Exa.ext E_2 P0)
  obtain ⟨T_6, h_6, X_6, e_6, W_6, st_6⟩ := putF X_3 hx hZ_2 ho_2 (host := "") (Or.inl (hw _ (List.mem_of_getElem? (i := 28) rfl))) Via.refl e_3 f_4 f_5 (Or.inr ⟨(hw _ (List.mem_of_getElem? (i := 29) rfl)), rfl, hnm⟩) (hw _ (List.mem_of_getElem? (i := 2) rfl)) (ty := (.array .byte)) (by decide) rfl rfl (g := (mkF m 14 #[.val (.ref o), .val (.ref ar), .val (.int (0 : Int32)), .val (.int (0 : Int32)), .val .null, .unset] [(.ref b_2), (.ref o)])) rfl rfl (hb hby d1_14)
  have Z_6 : n0 ≤ h_6.size := Nat.le_trans Z_2 (Keep.of_wr W_6).1
  have hs_6 : k_2 ≤ h_6.size := Nat.le_trans hk_2 (Keep.of_wr W_6).1
  have N_6 := Fr.snoc X_6 N0 g_o
  have K_6 : Keep h0 h_6 [o] := K_2.wr W_6 (Or.inl (List.mem_of_getElem? (i := 0) rfl))
  have f_6 : Fld Z h_6 o "java/lang/String" "value" "[B" (.ref b_2) := Fld.same W_6 f_4
  refine own_st (S' := T_6.setTop (mkF m 17 #[.val (.ref o), .val (.ref ar), .val (.int (0 : Int32)), .val (.int (0 : Int32)), .val .null, .unset] [])) st_6 ?_
  refine own_st (S' := T_6.setTop (mkF m 18 #[.val (.ref o), .val (.ref ar), .val (.int (0 : Int32)), .val (.int (0 : Int32)), .val .null, .unset] [(.ref o)])) (fun t_ k_ => XS.aloadN X_6.here hx rfl (hb hby d1_17) rfl rfl k_) ?_
  refine own_st (S' := T_6.setTop (mkF m 20 #[.val (.ref o), .val (.ref ar), .val (.int (0 : Int32)), .val (.int (0 : Int32)), .val .null, .unset] [(.ref a_2), (.ref o)])) (ldcAgain (s := s) (vm0 := T_2.vm) X_6 hx hZ_2 ho_2 (hw _ (List.mem_of_getElem? (i := 90) rfl)) Lt_2 (g := (mkF m 18 #[.val (.ref o), .val (.ref ar), .val (.int (0 : Int32)), .val (.int (0 : Int32)), .val .null, .unset] [(.ref o)])) rfl (hb hby d1_18)) ?_
  have f_8 : Fld Z h_6 a_2 "java/lang/String" "coder" "B" (.int (0 : Int32)) := (Fld.other W_6 C_2 (Or.inr (slot_ne (Or.inr (hw _ (List.mem_of_getElem? (i := 27) rfl))) (Or.inr (hw _ (List.mem_of_getElem? (i := 29) rfl))) (by decide) (t := .byte) (t' := (.array .byte)) (by decide) (by decide))))
  obtain ⟨T_9, X_9, e_9, st_9⟩ := getF X_6 hx hZ_2 ho_2 (host := "") (Or.inl (hw _ (List.mem_of_getElem? (i := 26) rfl))) Via.refl e_6 f_8 (g := (mkF m 20 #[.val (.ref o), .val (.ref ar), .val (.int (0 : Int32)), .val (.int (0 : Int32)), .val .null, .unset] [(.ref a_2), (.ref o)])) rfl rfl (hb hby d1_20)
  refine own_st (S' := T_9.setTop (mkF m 23 #[.val (.ref o), .val (.ref ar), .val (.int (0 : Int32)), .val (.int (0 : Int32)), .val .null, .unset] [(.int (0 : Int32)), (.ref o)])) st_9 ?_
  have f_10 : Fld Z h_6 o "java/lang/String" "coder" "B" (.int (0 : Int32)) := (Fld.other W_6 (Fld.ext E_2 P2) (Or.inr (slot_ne (Or.inr (hw _ (List.mem_of_getElem? (i := 27) rfl))) (Or.inr (hw _ (List.mem_of_getElem? (i := 29) rfl))) (by decide) (t := .byte) (t' := (.array .byte)) (by decide) (by decide))))
  have f_11 : Exa Z h_6 o "java/lang/String" := (Exa.wr W_6 f_5)
  obtain ⟨T_12, h_12, X_12, e_12, W_12, st_12⟩ := putFN X_9 hx hZ_2 ho_2 (hw _ (List.mem_of_getElem? (i := 26) rfl)) Via.refl e_9 f_10 f_11 (Or.inr ⟨(hw _ (List.mem_of_getElem? (i := 27) rfl)), rfl, hnm⟩) (hw _ (List.mem_of_getElem? (i := 2) rfl)) (ty := .byte) (v' := (.int (0 : Int32))) (by decide) rfl (by decide) (g := (mkF m 23 #[.val (.ref o), .val (.ref ar), .val (.int (0 : Int32)), .val (.int (0 : Int32)), .val .null, .unset] [(.int (0 : Int32)), (.ref o)])) rfl rfl (hb hby d1_23)
  have Z_12 : n0 ≤ h_12.size := Nat.le_trans Z_6 (Keep.of_wr W_12).1
  have hs_12 : k_2 ≤ h_12.size := Nat.le_trans hs_6 (Keep.of_wr W_12).1
  have N_12 := Fr.snoc X_12 N_6 g_o
  have K_12 : Keep h0 h_12 [o] := K_6.wr W_12 (Or.inl (List.mem_of_getElem? (i := 0) rfl))
  have f_12 : Fld Z h_12 o "java/lang/String" "coder" "B" (.int (0 : Int32)) := Fld.same W_12 f_10
  refine own_st (S' := T_12.setTop (mkF m 26 #[.val (.ref o), .val (.ref ar), .val (.int (0 : Int32)), .val (.int (0 : Int32)), .val .null, .unset] [])) st_12 ?_
  obtain ⟨fs, hr, hrun, hended, hRW⟩ := Stand.leaveW (s := s) (vm₁ := T_2.vm) X_12 (n := k_2) hS_2 (by rw [e_12]; exact hs_12) (v := none) (fun _ => rfl)
  have f_13 : Exa Z h_12 o "java/lang/String" := (Exa.wr W_12 f_11)
  refine ⟨_, _, X_12.returnOut hx Bd.returns (hb hby d1_26) hr, hrun, hended, _, _, rfl, ?_, ⟨_, rfl⟩, hRW.2.1, hRW.2.2.1, hRW.2.2.2.mono (by decide) (by decide)⟩
  show Q1 Z o ar cz h0 n0 _ T_12.heap _
  rw [e_12]
  exact ⟨rfl, N_12, K_12, f_13⟩
theorem d2_0 : decode jdk_42_method_3_code 0 = .ok (.aload_n 0, 1) := by decide +kernel
theorem d2_1 : decode jdk_42_method_3_code 1 = .ok (.aload_n 1, 1) := by decide +kernel
theorem d2_2 : decode jdk_42_method_3_code 2 = .ok (.iconst 0, 1) := by decide +kernel
theorem d2_3 : decode jdk_42_method_3_code 3 = .ok (.aload_n 1, 1) := by decide +kernel
theorem d2_4 : decode jdk_42_method_3_code 4 = .ok (.arraylength, 1) := by decide +kernel
theorem d2_5 : decode jdk_42_method_3_code 5 = .ok (.aconst_null, 1) := by decide +kernel
theorem d2_6 : decode jdk_42_method_3_code 6 = .ok (.invokespecial 27, 3) := by decide +kernel
theorem d2_9 : decode jdk_42_method_3_code 9 = .ok (.return_, 1) := by decide +kernel
theorem ef_2 (m : MethodId) (o : Addr) (ar : Addr) : entryFrame m #[(.ref o), (.ref ar)] 2 = mkF m 0 #[.val (.ref o), .val (.ref ar)] [] := by first | (simp [entryFrame, mkF, argsToLocals, Value.category]; done) | rfl
theorem pd_0 : parseMethodDescriptor "([CIILjava/lang/Void;)V" = some ⟨[(.array .char), .int, .int, (.object "java/lang/Void")], none⟩ := by decide +kernel
def Q2 (Z : State) (o : Addr) (ar : Addr) (cz : Int32) (k : ClassId) (h0 : Heap) (n0 : Nat) (v_ : Option Value) (h_ : Heap) (L_ : List Loc) : Prop := v_ = none ∧ Fr n0 L_ ∧ Keep h0 h_ [o] ∧ Exa Z h_ o "java/lang/String"
set_option maxRecDepth 65536 in
set_option maxHeartbeats 40000000 in
theorem rm2 (l : Launch) (Z : State) (a0 : Array Value) (hw : ∀ d ∈ tables_1, d.before a0 Z = true) (ws : List Jvm.Cond) (o : Addr) (ar : Addr) (cz : Int32) (k : ClassId) (h0 : Heap) (n0 : Nat) (Z0 : n0 ≤ h0.size) (P0 : Exa Z h0 o "java/lang/String") (P1 : Fld Z h0 o "java/lang/String" "value" "[B" .null) (P2 : Fld Z h0 o "java/lang/String" "coder" "B" (.int (0 : Int32))) (P3 : Arv Z h0 ar k .char (0 : Int32) [] (.int (0 : Int32))) (Y0 : Sta Z Z.heap "java/lang/String" "COMPACT_STRINGS" "Z" (.int cz)) (O0 : Old Z n0 h0) (g_o : n0 ≤ o) (hcH : Jvm.Lit.constHeld Z "java/lang/String" 7) (hcw : Jvm.Lit.compactW.before a0 Z = true) :
    MetFree l (⟨"java/lang/String", "<init>", "([C)V"⟩ : MethodName) (head1 (Jvm.Cond.code (⟨"java/lang/String", "<init>", "([C)V"⟩ : MethodName) jdk_42_method_3_code 2 none :: ws) ({ frames := 2, cells := 2, slots := 4, locals := 29 } : Room)) (fun ar_ U_ => ar_ = #[(.ref o), (.ref ar)] ∧ Z.Warmed39 U_.vm ∧ U_.heap = h0 ∧ IB Z U_.vm []) (fun _ _ _ _ _ => True) (fun _ U_ o_ U2_ => ∃ v_ L_, o_ = .returned v_ ∧ Q2 Z o ar cz k h0 n0 v_ U2_.heap L_ ∧ ReturnedEndW U_ o_ U2_ L_ ({ frames := 2, cells := 2, slots := 4, locals := 29 } : Room).cells ({ frames := 2, cells := 2, slots := 4, locals := 29 } : Room).slots) := by
  refine MetFree.of_bodySF (plainFor_of_name pn_0) hisR ?_
  intro p e s m args below meth c s₁ Bd hml0 hP hK
  obtain ⟨rfl, hZ, hh, hI⟩ := hP
  have hx := Bd.exec
  have hby := Bd.bytes
  have hml : c.maxLocals = 2 := hml0
  have hown : s.vm.findClass "java/lang/String" = some m.cls := findClass_of_methodNamed Bd.named
  have hnm := (name_of_methodNamed Bd.named Bd.method).1
  have X0 : Stand p l e ({ frames := 2, cells := 2, slots := 4, locals := 29 } : Room) s m #[(.ref o), (.ref ar)] below meth c s₁ [] 0 0 := Stand.of_body Bd
  have e0 : s₁.heap = h0 := by rw [← hh, Bd.state]; rfl
  have N0 := Fr.nil n0
  have wS := own_wS hw
  refine own_gl ?_
  refine own_st (S' := s₁.setTop (mkF m 0 #[.val (.ref o), .val (.ref ar)] [])) (fun t_ k_ => castTop (ef_2 m o ar) k_) ?_
  refine own_st (S' := s₁.setTop (mkF m 1 #[.val (.ref o), .val (.ref ar)] [(.ref o)])) (fun t_ k_ => XS.aloadN X0.here hx rfl (hb hby d2_0) rfl rfl k_) ?_
  refine own_st (S' := s₁.setTop (mkF m 2 #[.val (.ref o), .val (.ref ar)] [(.ref ar), (.ref o)])) (fun t_ k_ => XS.aloadN X0.here hx rfl (hb hby d2_1) rfl rfl k_) ?_
  refine own_st (S' := s₁.setTop (mkF m 3 #[.val (.ref o), .val (.ref ar)] [(.int (0 : Int32)), (.ref ar), (.ref o)])) (fun t_ k_ => XS.iconst X0.here hx rfl (hb hby d2_2) k_) ?_
  refine own_st (S' := s₁.setTop (mkF m 4 #[.val (.ref o), .val (.ref ar)] [(.ref ar), (.int (0 : Int32)), (.ref ar), (.ref o)])) (fun t_ k_ => XS.aloadN X0.here hx rfl (hb hby d2_3) rfl rfl k_) ?_
  obtain ⟨cl_1, Ar_1, q_1, S_1, M_1, H_1, G_1⟩ := id P3
  refine own_st (S' := s₁.setTop (mkF m 5 #[.val (.ref o), .val (.ref ar)] [(.int (0 : Int32)), (.int (0 : Int32)), (.ref ar), (.ref o)])) (fun t_ k_ => X0.arraylength hx (by rw [e0]; exact Ar_1.1) (State.isArrayOf_alike hZ.alike Ar_1.2.1) (g := (mkF m 4 #[.val (.ref o), .val (.ref ar)] [(.ref ar), (.int (0 : Int32)), (.ref ar), (.ref o)])) rfl rfl (hb hby d2_4) _ (by rw [len_of S_1 M_1]; exact k_)) ?_
  refine own_st (S' := s₁.setTop (mkF m 6 #[.val (.ref o), .val (.ref ar)] [.null, (.int (0 : Int32)), (.int (0 : Int32)), (.ref ar), (.ref o)])) (fun t_ k_ => XS.aconstNull X0.here hx rfl (hb hby d2_5) k_) ?_
  obtain ⟨_, _, ⟨T_2, L_2, k_2, n_2⟩, -, X_2, hS_2, hg_2, ⟨Lc_2, hQ_2, l_2, y_2, z_2⟩, st_2⟩ := X0.specialBackS hx (y := (⟨"java/lang/String", "<init>", "([CIILjava/lang/Void;)V"⟩ : MethodName)) rfl hown (mvT hZ (hw _ (List.mem_of_getElem? (i := 7) rfl))) (mvT hZ (hw _ (List.mem_of_getElem? (i := 8) rfl))) (mvT hZ (hw _ (List.mem_of_getElem? (i := 10) rfl))) (by decide) (own_backIB (W := 0) (rm1 l Z a0 hw [] o ar cz h0 n0 Z0 P0 P1 P2 Y0 O0 g_o hcH hcw) hZ hI (hw _ (List.mem_of_getElem? (i := 10) rfl)) (hw _ (List.mem_of_getElem? (i := 3) rfl)) (by decide) (by decide)) (g := (mkF m 6 #[.val (.ref o), .val (.ref ar)] [.null, (.int (0 : Int32)), (.int (0 : Int32)), (.ref ar), (.ref o)])) rfl (by rw [hml]; rfl) (Steps.refl _) (a := o) (argsL := [(.ref ar), (.int (0 : Int32)), (.int (0 : Int32)), .null]) (rest := []) (lenOf pd_0 rfl) rfl (by show 2 * 0 + _ ≤ _; exact Nat.le_of_eq rfl) (hb hby d2_6) (fun _ _ => ⟨rfl, e0, (by decide : 0 + 2 ≤ _), (by decide : 0 + 4 ≤ _)⟩)
  dsimp only [Pt.U, Pt.locs, Pt.cells, Pt.slots] at X_2 l_2 y_2 z_2 st_2 hQ_2 hS_2
  subst l_2 y_2 z_2
  have hZ_2 : Z.Warmed39 (s.setVm T_2.vm).vm := State.Warmed39.trans (t := s) hZ hS_2.1
  have ho_2 : (s.setVm T_2.vm).vm.findClass "java/lang/String" = some m.cls := by rw [show (s.setVm T_2.vm).vm = T_2.vm from rfl, hS_2.1.alike.findClass]; exact hown
  obtain ⟨rfl, M_2, K_2c, c_2_0⟩ := hQ_2
  have N_2 := Fr.app N0 M_2
  have K_2 : Keep h0 T_2.heap [o] := (Keep.refl h0 [o]).trans K_2c (allS (Or.inl (List.mem_of_getElem? (i := 0) rfl)) all0)
  have Z_2 : n0 ≤ T_2.heap.size := Nat.le_trans Z0 K_2c.1
  refine own_st (S' := T_2.setTop (mkF m 9 #[.val (.ref o), .val (.ref ar)] [])) (fun t_ k_ => st_2.trans k_) ?_
  obtain ⟨fs, hr, hrun, hended, hRW⟩ := Stand.leaveW (s := s) (vm₁ := T_2.vm) X_2 (n := T_2.heap.size) hS_2 (Nat.le_refl _) (v := none) (fun _ => rfl)
  refine ⟨_, _, X_2.returnOut hx Bd.returns (hb hby d2_9) hr, hrun, hended, _, _, rfl, ?_, ⟨_, rfl⟩, hRW.2.1, hRW.2.2.1, hRW.2.2.2.mono (by decide) (by decide)⟩
  show Q2 Z o ar cz k h0 n0 _ T_2.heap _
  exact ⟨rfl, N_2, K_2, c_2_0⟩
theorem d3_0 : decode method_3_code 0 = .ok (.iload_n 0, 1) := by decide +kernel
theorem d3_1 : decode method_3_code 1 = .ok (.newarray .byte, 2) := by decide +kernel
theorem d3_3 : decode method_3_code 3 = .ok (.astore_n 2, 1) := by decide +kernel
theorem d3_4 : decode method_3_code 4 = .ok (.iload_n 0, 1) := by decide +kernel
theorem d3_5 : decode method_3_code 5 = .ok (.ifCond .le 8, 3) := by decide +kernel
theorem d3_8 : decode method_3_code 8 = .ok (.aload_n 2, 1) := by decide +kernel
theorem d3_9 : decode method_3_code 9 = .ok (.iconst 0, 1) := by decide +kernel
theorem d3_10 : decode method_3_code 10 = .ok (.iload_n 1, 1) := by decide +kernel
theorem d3_11 : decode method_3_code 11 = .ok (.i2b, 1) := by decide +kernel
theorem d3_12 : decode method_3_code 12 = .ok (.bastore, 1) := by decide +kernel
theorem d3_13 : decode method_3_code 13 = .ok (.iload_n 0, 1) := by decide +kernel
theorem d3_14 : decode method_3_code 14 = .ok (.iconst 1, 1) := by decide +kernel
theorem d3_15 : decode method_3_code 15 = .ok (.if_icmp .le 11, 3) := by decide +kernel
theorem d3_18 : decode method_3_code 18 = .ok (.aload_n 2, 1) := by decide +kernel
theorem d3_19 : decode method_3_code 19 = .ok (.iconst 1, 1) := by decide +kernel
theorem d3_20 : decode method_3_code 20 = .ok (.iload_n 1, 1) := by decide +kernel
theorem d3_21 : decode method_3_code 21 = .ok (.bipush 8, 2) := by decide +kernel
theorem d3_23 : decode method_3_code 23 = .ok (.iushr, 1) := by decide +kernel
theorem d3_24 : decode method_3_code 24 = .ok (.i2b, 1) := by decide +kernel
theorem d3_25 : decode method_3_code 25 = .ok (.bastore, 1) := by decide +kernel
theorem d3_26 : decode method_3_code 26 = .ok (.iload_n 0, 1) := by decide +kernel
theorem d3_27 : decode method_3_code 27 = .ok (.iconst 2, 1) := by decide +kernel
theorem d3_28 : decode method_3_code 28 = .ok (.if_icmp .le 11, 3) := by decide +kernel
theorem d3_31 : decode method_3_code 31 = .ok (.aload_n 2, 1) := by decide +kernel
theorem d3_32 : decode method_3_code 32 = .ok (.iconst 2, 1) := by decide +kernel
theorem d3_33 : decode method_3_code 33 = .ok (.iload_n 1, 1) := by decide +kernel
theorem d3_34 : decode method_3_code 34 = .ok (.bipush 16, 2) := by decide +kernel
theorem d3_36 : decode method_3_code 36 = .ok (.iushr, 1) := by decide +kernel
theorem d3_37 : decode method_3_code 37 = .ok (.i2b, 1) := by decide +kernel
theorem d3_38 : decode method_3_code 38 = .ok (.bastore, 1) := by decide +kernel
theorem d3_39 : decode method_3_code 39 = .ok (.aload_n 2, 1) := by decide +kernel
theorem d3_40 : decode method_3_code 40 = .ok (.areturn, 1) := by decide +kernel
theorem pn_1 : plainName "com/example/westmount/westmount/RowRangeFirstPinLaw" = true := by first | (simp [plainName, overriddenIn]; done) | decide +kernel
theorem ef_3 (m : MethodId) (n : Int32) (w : Int32) : entryFrame m #[(.int n), (.int w)] 3 = mkF m 0 #[.val (.int n), .val (.int w), .unset] [] := by first | (simp [entryFrame, mkF, argsToLocals, Value.category]; done) | rfl
def Q3 (Z : State) (n : Int32) (w : Int32) (h0 : Heap) (n0 : Nat) (v_ : Option Value) (h_ : Heap) (L_ : List Loc) : Prop := ∃ b : Addr, ∃ k : ClassId, v_ = some (.ref b) ∧ Fr n0 L_ ∧ Keep h0 h_ [] ∧ h0.size ≤ b ∧ Arv Z h_ b k .byte n (own_bs n w) (.int (0 : Int32))
set_option maxRecDepth 65536 in
set_option maxHeartbeats 40000000 in
theorem rm3 (l : Launch) (Z : State) (a0 : Array Value) (hw : ∀ d ∈ tables_1, d.before a0 Z = true) (ws : List Jvm.Cond) (n : Int32) (w : Int32) (h0 : Heap) (n0 : Nat) (Z0 : n0 ≤ h0.size) (hn : n = (0 : Int32) ∨ n = (1 : Int32) ∨ n = (2 : Int32) ∨ n = (3 : Int32)) :
    MetFree l (⟨"com/example/westmount/westmount/RowRangeFirstPinLaw", "bytes", "(II)[B"⟩ : MethodName) (head1 (Jvm.Cond.code (⟨"com/example/westmount/westmount/RowRangeFirstPinLaw", "bytes", "(II)[B"⟩ : MethodName) method_3_code 3 (some (.array .byte)) :: ws) ({ frames := 0, cells := 1, slots := 3, locals := 0 } : Room)) (fun ar_ U_ => ar_ = #[(.int n), (.int w)] ∧ Z.Warmed39 U_.vm ∧ U_.heap = h0) (fun _ _ _ _ _ => True) (fun _ U_ o_ U2_ => ∃ v_ L_, o_ = .returned v_ ∧ Q3 Z n w h0 n0 v_ U2_.heap L_ ∧ FrameEnd U_ o_ U2_ L_ ({ frames := 0, cells := 1, slots := 3, locals := 0 } : Room).cells ({ frames := 0, cells := 1, slots := 3, locals := 0 } : Room).slots) := by
  refine MetFree.of_bodySF (plainFor_of_name pn_1) hisR ?_
  intro p e s m args below meth c s₁ Bd hml0 hP hK
  obtain ⟨rfl, hZ, hh⟩ := hP
  have hx := Bd.exec
  have hby := Bd.bytes
  have hml : c.maxLocals = 3 := hml0
  have hown : s.vm.findClass "com/example/westmount/westmount/RowRangeFirstPinLaw" = some m.cls := findClass_of_methodNamed Bd.named
  have hnm := (name_of_methodNamed Bd.named Bd.method).1
  have X0 : Stand p l e ({ frames := 0, cells := 1, slots := 3, locals := 0 } : Room) s m #[(.int n), (.int w)] below meth c s₁ [] 0 0 := Stand.of_body Bd
  have e0 : s₁.heap = h0 := by rw [← hh, Bd.state]; rfl
  have N0 := Fr.nil n0
  refine own_gl ?_
  refine own_st (S' := s₁.setTop (mkF m 0 #[.val (.int n), .val (.int w), .unset] [])) (fun t_ k_ => castTop (ef_3 m n w) k_) ?_
  rcases hn with hq | hq | hq | hq
  · refine own_cast (S' := s₁.setTop (mkF m 0 #[.val (.int (0 : Int32)), .val (.int w), .unset] [])) (by rw [hq]) ?_
    refine own_st (S' := s₁.setTop (mkF m 1 #[.val (.int (0 : Int32)), .val (.int w), .unset] [(.int (0 : Int32))])) (fun t_ k_ => XS.iloadN X0.here hx rfl (hb hby d3_0) rfl k_) ?_
    obtain ⟨T_1, h_1, k_1, X_1, e_1, E_1, A_1, st_1⟩ := newP X0 hx hZ (hw _ (List.mem_of_getElem? (i := 19) rfl)) e0 (g := (mkF m 1 #[.val (.int (0 : Int32)), .val (.int w), .unset] [(.int (0 : Int32))])) rfl (hb hby d3_1) rfl (by decide) (cap := 0) (by decide) (by decide) (by decide) (by decide)
    obtain ⟨b_1, gg_1⟩ : ∃ z, z = h0.size := ⟨_, rfl⟩
    rw [← gg_1] at A_1 st_1
    have g_b_1 : n0 ≤ b_1 := Nat.le_trans Z0 (Nat.le_of_eq gg_1.symm)
    have sz_b_1 : h0.size ≤ b_1 := Nat.le_trans (Keep.refl h0 []).1 (Nat.le_of_eq gg_1.symm)
    have Z_1 : n0 ≤ h_1.size := Nat.le_trans Z0 E_1.1
    have K_1 : Keep h0 h_1 [] := (Keep.refl h0 []).ext E_1
    have V_1 : Arv Z h_1 b_1 k_1 .byte (0 : Int32) [] (.int (0 : Int32)) := Arv.new A_1 (by decide)
    refine own_st (S' := T_1.setTop (mkF m 3 #[.val (.int (0 : Int32)), .val (.int w), .unset] [(.ref b_1)])) st_1 ?_
    refine own_st (S' := T_1.setTop (mkF m 4 #[.val (.int (0 : Int32)), .val (.int w), .val (.ref b_1)] [])) (fun t_ k_ => XS.astoreN X_1.here hx rfl (hb hby d3_3) rfl rfl (l' := #[.val (.int (0 : Int32)), .val (.int w), .val (.ref b_1)]) rfl k_) ?_
    refine own_st (S' := T_1.setTop (mkF m 5 #[.val (.int (0 : Int32)), .val (.int w), .val (.ref b_1)] [(.int (0 : Int32))])) (fun t_ k_ => XS.iloadN X_1.here hx rfl (hb hby d3_4) rfl k_) ?_
    refine own_st (S' := T_1.setTop (mkF m 13 #[.val (.int (0 : Int32)), .val (.int w), .val (.ref b_1)] [])) (fun t_ k_ => XS.ifYes X_1.here hx rfl (pc0 := 5) (pc' := 13) rfl (hb hby d3_5) rfl ((if0 _ _).trans (flt (by decide : ¬ ((0 : Int32) < (0 : Int32)))).2.2.2) (by decide) (by decide) k_) ?_
    refine own_st (S' := T_1.setTop (mkF m 14 #[.val (.int (0 : Int32)), .val (.int w), .val (.ref b_1)] [(.int (0 : Int32))])) (fun t_ k_ => XS.iloadN X_1.here hx rfl (hb hby d3_13) rfl k_) ?_
    refine own_st (S' := T_1.setTop (mkF m 15 #[.val (.int (0 : Int32)), .val (.int w), .val (.ref b_1)] [(.int (1 : Int32)), (.int (0 : Int32))])) (fun t_ k_ => XS.iconst X_1.here hx rfl (hb hby d3_14) k_) ?_
    refine own_st (S' := T_1.setTop (mkF m 26 #[.val (.int (0 : Int32)), .val (.int w), .val (.ref b_1)] [])) (fun t_ k_ => XS.icmpYes X_1.here hx rfl (pc0 := 15) (pc' := 26) rfl (hb hby d3_15) rfl (flt (by decide : ¬ ((1 : Int32) < (0 : Int32)))).2.2.2 (by decide) (by decide) k_) ?_
    refine own_st (S' := T_1.setTop (mkF m 27 #[.val (.int (0 : Int32)), .val (.int w), .val (.ref b_1)] [(.int (0 : Int32))])) (fun t_ k_ => XS.iloadN X_1.here hx rfl (hb hby d3_26) rfl k_) ?_
    refine own_st (S' := T_1.setTop (mkF m 28 #[.val (.int (0 : Int32)), .val (.int w), .val (.ref b_1)] [(.int (2 : Int32)), (.int (0 : Int32))])) (fun t_ k_ => XS.iconst X_1.here hx rfl (hb hby d3_27) k_) ?_
    refine own_st (S' := T_1.setTop (mkF m 39 #[.val (.int (0 : Int32)), .val (.int w), .val (.ref b_1)] [])) (fun t_ k_ => XS.icmpYes X_1.here hx rfl (pc0 := 28) (pc' := 39) rfl (hb hby d3_28) rfl (flt (by decide : ¬ ((2 : Int32) < (0 : Int32)))).2.2.2 (by decide) (by decide) k_) ?_
    refine own_st (S' := T_1.setTop (mkF m 40 #[.val (.int (0 : Int32)), .val (.int w), .val (.ref b_1)] [(.ref b_1)])) (fun t_ k_ => XS.aloadN X_1.here hx rfl (hb hby d3_39) rfl rfl k_) ?_
    obtain ⟨fs, hr, hrun, hended, hW, hsame⟩ := X_1.leave (v := some (.ref b_1)) (fun h => by rw [Bd.returns] at h; cases h)
    refine ⟨_, _, own_retR X_1 hx Bd.returns rfl rfl (hb hby d3_40) hr, hrun, hended, _, _, rfl, ?_, ⟨_, rfl⟩, hW, hsame.mono (by decide) (by decide)⟩
    show Q3 Z n w h0 n0 _ T_1.heap _
    rw [e_1]
    exact ⟨b_1, k_1, rfl, N0, K_1, sz_b_1, (own_to hq (by first | rfl | (simp only [own_nb]; rfl)) V_1)⟩
  · refine own_cast (S' := s₁.setTop (mkF m 0 #[.val (.int (1 : Int32)), .val (.int w), .unset] [])) (by rw [hq]) ?_
    refine own_st (S' := s₁.setTop (mkF m 1 #[.val (.int (1 : Int32)), .val (.int w), .unset] [(.int (1 : Int32))])) (fun t_ k_ => XS.iloadN X0.here hx rfl (hb hby d3_0) rfl k_) ?_
    obtain ⟨T_2, h_2, k_2, X_2, e_2, E_2, A_2, st_2⟩ := newP X0 hx hZ (hw _ (List.mem_of_getElem? (i := 19) rfl)) e0 (g := (mkF m 1 #[.val (.int (1 : Int32)), .val (.int w), .unset] [(.int (1 : Int32))])) rfl (hb hby d3_1) rfl (by decide) (cap := 1) (by decide) (by decide) (by decide) (by decide)
    obtain ⟨b_2, gg_2⟩ : ∃ z, z = h0.size := ⟨_, rfl⟩
    rw [← gg_2] at A_2 st_2
    have g_b_2 : n0 ≤ b_2 := Nat.le_trans Z0 (Nat.le_of_eq gg_2.symm)
    have sz_b_2 : h0.size ≤ b_2 := Nat.le_trans (Keep.refl h0 []).1 (Nat.le_of_eq gg_2.symm)
    have Z_2 : n0 ≤ h_2.size := Nat.le_trans Z0 E_2.1
    have K_2 : Keep h0 h_2 [] := (Keep.refl h0 []).ext E_2
    have V_2 : Arv Z h_2 b_2 k_2 .byte (1 : Int32) [(.int (0 : Int32))] (.int (0 : Int32)) := (Arv.new A_2 (by decide)).pad (pad_rep [] (.int (0 : Int32)) 1)
    refine own_st (S' := T_2.setTop (mkF m 3 #[.val (.int (1 : Int32)), .val (.int w), .unset] [(.ref b_2)])) st_2 ?_
    refine own_st (S' := T_2.setTop (mkF m 4 #[.val (.int (1 : Int32)), .val (.int w), .val (.ref b_2)] [])) (fun t_ k_ => XS.astoreN X_2.here hx rfl (hb hby d3_3) rfl rfl (l' := #[.val (.int (1 : Int32)), .val (.int w), .val (.ref b_2)]) rfl k_) ?_
    refine own_st (S' := T_2.setTop (mkF m 5 #[.val (.int (1 : Int32)), .val (.int w), .val (.ref b_2)] [(.int (1 : Int32))])) (fun t_ k_ => XS.iloadN X_2.here hx rfl (hb hby d3_4) rfl k_) ?_
    refine own_st (S' := T_2.setTop (mkF m 8 #[.val (.int (1 : Int32)), .val (.int w), .val (.ref b_2)] [])) (fun t_ k_ => XS.ifNo X_2.here hx rfl (hb hby d3_5) rfl ((if0 _ _).trans (tlt (by decide : (0 : Int32) < (1 : Int32))).2.2.2) k_) ?_
    refine own_st (S' := T_2.setTop (mkF m 9 #[.val (.int (1 : Int32)), .val (.int w), .val (.ref b_2)] [(.ref b_2)])) (fun t_ k_ => XS.aloadN X_2.here hx rfl (hb hby d3_8) rfl rfl k_) ?_
    refine own_st (S' := T_2.setTop (mkF m 10 #[.val (.int (1 : Int32)), .val (.int w), .val (.ref b_2)] [(.int (0 : Int32)), (.ref b_2)])) (fun t_ k_ => XS.iconst X_2.here hx rfl (hb hby d3_9) k_) ?_
    refine own_st (S' := T_2.setTop (mkF m 11 #[.val (.int (1 : Int32)), .val (.int w), .val (.ref b_2)] [(.int w), (.int (0 : Int32)), (.ref b_2)])) (fun t_ k_ => XS.iloadN X_2.here hx rfl (hb hby d3_10) rfl k_) ?_
    refine own_st (S' := T_2.setTop (mkF m 12 #[.val (.int (1 : Int32)), .val (.int w), .val (.ref b_2)] [(.int (w.toInt8.toInt32)), (.int (0 : Int32)), (.ref b_2)])) (fun t_ k_ => XS.i2b X_2.here hx rfl (hb hby d3_11) rfl k_) ?_
    obtain ⟨cl_3, Ar_3, q_3, S_3, M_3, H_3, G_3⟩ := id V_2
    have hin_3 : ¬ ((0 : Int32) < 0 ∨ cl_3.slots.size ≤ ((0 : Int32)).toNatClampNeg) := inb_of S_3 ⟨by decide, by decide⟩
    obtain ⟨T_3, h_3, X_3, e_3, W_3, st_3⟩ := stB X_2 hx hZ e_2 Ar_3 (j := (0 : Int32)) hin_3 (g := (mkF m 12 #[.val (.int (1 : Int32)), .val (.int w), .val (.ref b_2)] [(.int (w.toInt8.toInt32)), (.int (0 : Int32)), (.ref b_2)])) rfl rfl (hb hby d3_12)
    have Z_3 : n0 ≤ h_3.size := Nat.le_trans Z_2 (Keep.of_wr W_3).1
    have N_3 := Fr.snoc X_3 N0 g_b_2
    have K_3 : Keep h0 h_3 [] := K_2.wr W_3 (Or.inr sz_b_2)
    have V_3 : Arv Z h_3 b_2 k_2 .byte (1 : Int32) [(.int (nar .byte (w.toInt8.toInt32)))] (.int (0 : Int32)) := Arv.set Ar_3 q_3 S_3 M_3 H_3 G_3 (fits_nar_byte _) W_3 0 rfl (Nat.le_of_ble_eq_true rfl)
    refine own_st (S' := T_3.setTop (mkF m 13 #[.val (.int (1 : Int32)), .val (.int w), .val (.ref b_2)] [])) st_3 ?_
    refine own_st (S' := T_3.setTop (mkF m 14 #[.val (.int (1 : Int32)), .val (.int w), .val (.ref b_2)] [(.int (1 : Int32))])) (fun t_ k_ => XS.iloadN X_3.here hx rfl (hb hby d3_13) rfl k_) ?_
    refine own_st (S' := T_3.setTop (mkF m 15 #[.val (.int (1 : Int32)), .val (.int w), .val (.ref b_2)] [(.int (1 : Int32)), (.int (1 : Int32))])) (fun t_ k_ => XS.iconst X_3.here hx rfl (hb hby d3_14) k_) ?_
    refine own_st (S' := T_3.setTop (mkF m 26 #[.val (.int (1 : Int32)), .val (.int w), .val (.ref b_2)] [])) (fun t_ k_ => XS.icmpYes X_3.here hx rfl (pc0 := 15) (pc' := 26) rfl (hb hby d3_15) rfl (flt (by decide : ¬ ((1 : Int32) < (1 : Int32)))).2.2.2 (by decide) (by decide) k_) ?_
    refine own_st (S' := T_3.setTop (mkF m 27 #[.val (.int (1 : Int32)), .val (.int w), .val (.ref b_2)] [(.int (1 : Int32))])) (fun t_ k_ => XS.iloadN X_3.here hx rfl (hb hby d3_26) rfl k_) ?_
    refine own_st (S' := T_3.setTop (mkF m 28 #[.val (.int (1 : Int32)), .val (.int w), .val (.ref b_2)] [(.int (2 : Int32)), (.int (1 : Int32))])) (fun t_ k_ => XS.iconst X_3.here hx rfl (hb hby d3_27) k_) ?_
    refine own_st (S' := T_3.setTop (mkF m 39 #[.val (.int (1 : Int32)), .val (.int w), .val (.ref b_2)] [])) (fun t_ k_ => XS.icmpYes X_3.here hx rfl (pc0 := 28) (pc' := 39) rfl (hb hby d3_28) rfl (flt (by decide : ¬ ((2 : Int32) < (1 : Int32)))).2.2.2 (by decide) (by decide) k_) ?_
    refine own_st (S' := T_3.setTop (mkF m 40 #[.val (.int (1 : Int32)), .val (.int w), .val (.ref b_2)] [(.ref b_2)])) (fun t_ k_ => XS.aloadN X_3.here hx rfl (hb hby d3_39) rfl rfl k_) ?_
    obtain ⟨fs, hr, hrun, hended, hW, hsame⟩ := X_3.leave (v := some (.ref b_2)) (fun h => by rw [Bd.returns] at h; cases h)
    refine ⟨_, _, own_retR X_3 hx Bd.returns rfl rfl (hb hby d3_40) hr, hrun, hended, _, _, rfl, ?_, ⟨_, rfl⟩, hW, hsame.mono (by decide) (by decide)⟩
    show Q3 Z n w h0 n0 _ T_3.heap _
    rw [e_3]
    exact ⟨b_2, k_2, rfl, N_3, K_3, sz_b_2, (own_to hq (by first | rfl | (simp only [own_nb]; rfl)) V_3)⟩
  · refine own_cast (S' := s₁.setTop (mkF m 0 #[.val (.int (2 : Int32)), .val (.int w), .unset] [])) (by rw [hq]) ?_
    refine own_st (S' := s₁.setTop (mkF m 1 #[.val (.int (2 : Int32)), .val (.int w), .unset] [(.int (2 : Int32))])) (fun t_ k_ => XS.iloadN X0.here hx rfl (hb hby d3_0) rfl k_) ?_
    obtain ⟨T_4, h_4, k_4, X_4, e_4, E_4, A_4, st_4⟩ := newP X0 hx hZ (hw _ (List.mem_of_getElem? (i := 19) rfl)) e0 (g := (mkF m 1 #[.val (.int (2 : Int32)), .val (.int w), .unset] [(.int (2 : Int32))])) rfl (hb hby d3_1) rfl (by decide) (cap := 2) (by decide) (by decide) (by decide) (by decide)
    obtain ⟨b_4, gg_4⟩ : ∃ z, z = h0.size := ⟨_, rfl⟩
    rw [← gg_4] at A_4 st_4
    have g_b_4 : n0 ≤ b_4 := Nat.le_trans Z0 (Nat.le_of_eq gg_4.symm)
    have sz_b_4 : h0.size ≤ b_4 := Nat.le_trans (Keep.refl h0 []).1 (Nat.le_of_eq gg_4.symm)
    have Z_4 : n0 ≤ h_4.size := Nat.le_trans Z0 E_4.1
    have K_4 : Keep h0 h_4 [] := (Keep.refl h0 []).ext E_4
    have V_4 : Arv Z h_4 b_4 k_4 .byte (2 : Int32) [(.int (0 : Int32)), (.int (0 : Int32))] (.int (0 : Int32)) := (Arv.new A_4 (by decide)).pad (pad_rep [] (.int (0 : Int32)) 2)
    refine own_st (S' := T_4.setTop (mkF m 3 #[.val (.int (2 : Int32)), .val (.int w), .unset] [(.ref b_4)])) st_4 ?_
    refine own_st (S' := T_4.setTop (mkF m 4 #[.val (.int (2 : Int32)), .val (.int w), .val (.ref b_4)] [])) (fun t_ k_ => XS.astoreN X_4.here hx rfl (hb hby d3_3) rfl rfl (l' := #[.val (.int (2 : Int32)), .val (.int w), .val (.ref b_4)]) rfl k_) ?_
    refine own_st (S' := T_4.setTop (mkF m 5 #[.val (.int (2 : Int32)), .val (.int w), .val (.ref b_4)] [(.int (2 : Int32))])) (fun t_ k_ => XS.iloadN X_4.here hx rfl (hb hby d3_4) rfl k_) ?_
    refine own_st (S' := T_4.setTop (mkF m 8 #[.val (.int (2 : Int32)), .val (.int w), .val (.ref b_4)] [])) (fun t_ k_ => XS.ifNo X_4.here hx rfl (hb hby d3_5) rfl ((if0 _ _).trans (tlt (by decide : (0 : Int32) < (2 : Int32))).2.2.2) k_) ?_
    refine own_st (S' := T_4.setTop (mkF m 9 #[.val (.int (2 : Int32)), .val (.int w), .val (.ref b_4)] [(.ref b_4)])) (fun t_ k_ => XS.aloadN X_4.here hx rfl (hb hby d3_8) rfl rfl k_) ?_
    refine own_st (S' := T_4.setTop (mkF m 10 #[.val (.int (2 : Int32)), .val (.int w), .val (.ref b_4)] [(.int (0 : Int32)), (.ref b_4)])) (fun t_ k_ => XS.iconst X_4.here hx rfl (hb hby d3_9) k_) ?_
    refine own_st (S' := T_4.setTop (mkF m 11 #[.val (.int (2 : Int32)), .val (.int w), .val (.ref b_4)] [(.int w), (.int (0 : Int32)), (.ref b_4)])) (fun t_ k_ => XS.iloadN X_4.here hx rfl (hb hby d3_10) rfl k_) ?_
    refine own_st (S' := T_4.setTop (mkF m 12 #[.val (.int (2 : Int32)), .val (.int w), .val (.ref b_4)] [(.int (w.toInt8.toInt32)), (.int (0 : Int32)), (.ref b_4)])) (fun t_ k_ => XS.i2b X_4.here hx rfl (hb hby d3_11) rfl k_) ?_
    obtain ⟨cl_5, Ar_5, q_5, S_5, M_5, H_5, G_5⟩ := id V_4
    have hin_5 : ¬ ((0 : Int32) < 0 ∨ cl_5.slots.size ≤ ((0 : Int32)).toNatClampNeg) := inb_of S_5 ⟨by decide, by decide⟩
    obtain ⟨T_5, h_5, X_5, e_5, W_5, st_5⟩ := stB X_4 hx hZ e_4 Ar_5 (j := (0 : Int32)) hin_5 (g := (mkF m 12 #[.val (.int (2 : Int32)), .val (.int w), .val (.ref b_4)] [(.int (w.toInt8.toInt32)), (.int (0 : Int32)), (.ref b_4)])) rfl rfl (hb hby d3_12)
    have Z_5 : n0 ≤ h_5.size := Nat.le_trans Z_4 (Keep.of_wr W_5).1
    have N_5 := Fr.snoc X_5 N0 g_b_4
    have K_5 : Keep h0 h_5 [] := K_4.wr W_5 (Or.inr sz_b_4)
    have V_5 : Arv Z h_5 b_4 k_4 .byte (2 : Int32) [(.int (nar .byte (w.toInt8.toInt32))), (.int (0 : Int32))] (.int (0 : Int32)) := Arv.set Ar_5 q_5 S_5 M_5 H_5 G_5 (fits_nar_byte _) W_5 0 rfl (Nat.le_of_ble_eq_true rfl)
    refine own_st (S' := T_5.setTop (mkF m 13 #[.val (.int (2 : Int32)), .val (.int w), .val (.ref b_4)] [])) st_5 ?_
    refine own_st (S' := T_5.setTop (mkF m 14 #[.val (.int (2 : Int32)), .val (.int w), .val (.ref b_4)] [(.int (2 : Int32))])) (fun t_ k_ => XS.iloadN X_5.here hx rfl (hb hby d3_13) rfl k_) ?_
    refine own_st (S' := T_5.setTop (mkF m 15 #[.val (.int (2 : Int32)), .val (.int w), .val (.ref b_4)] [(.int (1 : Int32)), (.int (2 : Int32))])) (fun t_ k_ => XS.iconst X_5.here hx rfl (hb hby d3_14) k_) ?_
    refine own_st (S' := T_5.setTop (mkF m 18 #[.val (.int (2 : Int32)), .val (.int w), .val (.ref b_4)] [])) (fun t_ k_ => XS.icmpNo X_5.here hx rfl (hb hby d3_15) rfl (tlt (by decide : (1 : Int32) < (2 : Int32))).2.2.2 k_) ?_
    refine own_st (S' := T_5.setTop (mkF m 19 #[.val (.int (2 : Int32)), .val (.int w), .val (.ref b_4)] [(.ref b_4)])) (fun t_ k_ => XS.aloadN X_5.here hx rfl (hb hby d3_18) rfl rfl k_) ?_
    refine own_st (S' := T_5.setTop (mkF m 20 #[.val (.int (2 : Int32)), .val (.int w), .val (.ref b_4)] [(.int (1 : Int32)), (.ref b_4)])) (fun t_ k_ => XS.iconst X_5.here hx rfl (hb hby d3_19) k_) ?_
    refine own_st (S' := T_5.setTop (mkF m 21 #[.val (.int (2 : Int32)), .val (.int w), .val (.ref b_4)] [(.int w), (.int (1 : Int32)), (.ref b_4)])) (fun t_ k_ => XS.iloadN X_5.here hx rfl (hb hby d3_20) rfl k_) ?_
    refine own_st (S' := T_5.setTop (mkF m 23 #[.val (.int (2 : Int32)), .val (.int w), .val (.ref b_4)] [(.int (8 : Int32)), (.int w), (.int (1 : Int32)), (.ref b_4)])) (fun t_ k_ => XS.bipush X_5.here hx rfl (hb hby d3_21) k_) ?_
    refine own_st (S' := T_5.setTop (mkF m 24 #[.val (.int (2 : Int32)), .val (.int w), .val (.ref b_4)] [(.int ((w.toUInt32 >>> ((8 : Int32) &&& 31).toUInt32).toInt32)), (.int (1 : Int32)), (.ref b_4)])) (fun t_ k_ => XS.iushr X_5.here hx rfl (hb hby d3_23) rfl k_) ?_
    refine own_st (S' := T_5.setTop (mkF m 25 #[.val (.int (2 : Int32)), .val (.int w), .val (.ref b_4)] [(.int (((w.toUInt32 >>> ((8 : Int32) &&& 31).toUInt32).toInt32).toInt8.toInt32)), (.int (1 : Int32)), (.ref b_4)])) (fun t_ k_ => XS.i2b X_5.here hx rfl (hb hby d3_24) rfl k_) ?_
    obtain ⟨cl_6, Ar_6, q_6, S_6, M_6, H_6, G_6⟩ := id V_5
    have hin_6 : ¬ ((1 : Int32) < 0 ∨ cl_6.slots.size ≤ ((1 : Int32)).toNatClampNeg) := inb_of S_6 ⟨by decide, by decide⟩
    obtain ⟨T_6, h_6, X_6, e_6, W_6, st_6⟩ := stB X_5 hx hZ e_5 Ar_6 (j := (1 : Int32)) hin_6 (g := (mkF m 25 #[.val (.int (2 : Int32)), .val (.int w), .val (.ref b_4)] [(.int (((w.toUInt32 >>> ((8 : Int32) &&& 31).toUInt32).toInt32).toInt8.toInt32)), (.int (1 : Int32)), (.ref b_4)])) rfl rfl (hb hby d3_25)
    have Z_6 : n0 ≤ h_6.size := Nat.le_trans Z_5 (Keep.of_wr W_6).1
    have N_6 := Fr.snoc X_6 N_5 g_b_4
    have K_6 : Keep h0 h_6 [] := K_5.wr W_6 (Or.inr sz_b_4)
    have V_6 : Arv Z h_6 b_4 k_4 .byte (2 : Int32) [(.int (nar .byte (w.toInt8.toInt32))), (.int (nar .byte (((w.toUInt32 >>> ((8 : Int32) &&& 31).toUInt32).toInt32).toInt8.toInt32)))] (.int (0 : Int32)) := Arv.set Ar_6 q_6 S_6 M_6 H_6 G_6 (fits_nar_byte _) W_6 1 rfl (Nat.le_of_ble_eq_true rfl)
    refine own_st (S' := T_6.setTop (mkF m 26 #[.val (.int (2 : Int32)), .val (.int w), .val (.ref b_4)] [])) st_6 ?_
    refine own_st (S' := T_6.setTop (mkF m 27 #[.val (.int (2 : Int32)), .val (.int w), .val (.ref b_4)] [(.int (2 : Int32))])) (fun t_ k_ => XS.iloadN X_6.here hx rfl (hb hby d3_26) rfl k_) ?_
    refine own_st (S' := T_6.setTop (mkF m 28 #[.val (.int (2 : Int32)), .val (.int w), .val (.ref b_4)] [(.int (2 : Int32)), (.int (2 : Int32))])) (fun t_ k_ => XS.iconst X_6.here hx rfl (hb hby d3_27) k_) ?_
    refine own_st (S' := T_6.setTop (mkF m 39 #[.val (.int (2 : Int32)), .val (.int w), .val (.ref b_4)] [])) (fun t_ k_ => XS.icmpYes X_6.here hx rfl (pc0 := 28) (pc' := 39) rfl (hb hby d3_28) rfl (flt (by decide : ¬ ((2 : Int32) < (2 : Int32)))).2.2.2 (by decide) (by decide) k_) ?_
    refine own_st (S' := T_6.setTop (mkF m 40 #[.val (.int (2 : Int32)), .val (.int w), .val (.ref b_4)] [(.ref b_4)])) (fun t_ k_ => XS.aloadN X_6.here hx rfl (hb hby d3_39) rfl rfl k_) ?_
    obtain ⟨fs, hr, hrun, hended, hW, hsame⟩ := X_6.leave (v := some (.ref b_4)) (fun h => by rw [Bd.returns] at h; cases h)
    refine ⟨_, _, own_retR X_6 hx Bd.returns rfl rfl (hb hby d3_40) hr, hrun, hended, _, _, rfl, ?_, ⟨_, rfl⟩, hW, hsame.mono (by decide) (by decide)⟩
    show Q3 Z n w h0 n0 _ T_6.heap _
    rw [e_6]
    exact ⟨b_4, k_4, rfl, N_6, K_6, sz_b_4, (own_to hq (by first | rfl | (simp only [own_nb]; rfl)) V_6)⟩
  · refine own_cast (S' := s₁.setTop (mkF m 0 #[.val (.int (3 : Int32)), .val (.int w), .unset] [])) (by rw [hq]) ?_
    refine own_st (S' := s₁.setTop (mkF m 1 #[.val (.int (3 : Int32)), .val (.int w), .unset] [(.int (3 : Int32))])) (fun t_ k_ => XS.iloadN X0.here hx rfl (hb hby d3_0) rfl k_) ?_
    obtain ⟨T_7, h_7, k_7, X_7, e_7, E_7, A_7, st_7⟩ := newP X0 hx hZ (hw _ (List.mem_of_getElem? (i := 19) rfl)) e0 (g := (mkF m 1 #[.val (.int (3 : Int32)), .val (.int w), .unset] [(.int (3 : Int32))])) rfl (hb hby d3_1) rfl (by decide) (cap := 3) (by decide) (by decide) (by decide) (by decide)
    obtain ⟨b_7, gg_7⟩ : ∃ z, z = h0.size := ⟨_, rfl⟩
    rw [← gg_7] at A_7 st_7
    have g_b_7 : n0 ≤ b_7 := Nat.le_trans Z0 (Nat.le_of_eq gg_7.symm)
    have sz_b_7 : h0.size ≤ b_7 := Nat.le_trans (Keep.refl h0 []).1 (Nat.le_of_eq gg_7.symm)
    have Z_7 : n0 ≤ h_7.size := Nat.le_trans Z0 E_7.1
    have K_7 : Keep h0 h_7 [] := (Keep.refl h0 []).ext E_7
    have V_7 : Arv Z h_7 b_7 k_7 .byte (3 : Int32) [(.int (0 : Int32)), (.int (0 : Int32)), (.int (0 : Int32))] (.int (0 : Int32)) := (Arv.new A_7 (by decide)).pad (pad_rep [] (.int (0 : Int32)) 3)
    refine own_st (S' := T_7.setTop (mkF m 3 #[.val (.int (3 : Int32)), .val (.int w), .unset] [(.ref b_7)])) st_7 ?_
    refine own_st (S' := T_7.setTop (mkF m 4 #[.val (.int (3 : Int32)), .val (.int w), .val (.ref b_7)] [])) (fun t_ k_ => XS.astoreN X_7.here hx rfl (hb hby d3_3) rfl rfl (l' := #[.val (.int (3 : Int32)), .val (.int w), .val (.ref b_7)]) rfl k_) ?_
    refine own_st (S' := T_7.setTop (mkF m 5 #[.val (.int (3 : Int32)), .val (.int w), .val (.ref b_7)] [(.int (3 : Int32))])) (fun t_ k_ => XS.iloadN X_7.here hx rfl (hb hby d3_4) rfl k_) ?_
    refine own_st (S' := T_7.setTop (mkF m 8 #[.val (.int (3 : Int32)), .val (.int w), .val (.ref b_7)] [])) (fun t_ k_ => XS.ifNo X_7.here hx rfl (hb hby d3_5) rfl ((if0 _ _).trans (tlt (by decide : (0 : Int32) < (3 : Int32))).2.2.2) k_) ?_
    refine own_st (S' := T_7.setTop (mkF m 9 #[.val (.int (3 : Int32)), .val (.int w), .val (.ref b_7)] [(.ref b_7)])) (fun t_ k_ => XS.aloadN X_7.here hx rfl (hb hby d3_8) rfl rfl k_) ?_
    refine own_st (S' := T_7.setTop (mkF m 10 #[.val (.int (3 : Int32)), .val (.int w), .val (.ref b_7)] [(.int (0 : Int32)), (.ref b_7)])) (fun t_ k_ => XS.iconst X_7.here hx rfl (hb hby d3_9) k_) ?_
    refine own_st (S' := T_7.setTop (mkF m 11 #[.val (.int (3 : Int32)), .val (.int w), .val (.ref b_7)] [(.int w), (.int (0 : Int32)), (.ref b_7)])) (fun t_ k_ => XS.iloadN X_7.here hx rfl (hb hby d3_10) rfl k_) ?_
    refine own_st (S' := T_7.setTop (mkF m 12 #[.val (.int (3 : Int32)), .val (.int w), .val (.ref b_7)] [(.int (w.toInt8.toInt32)), (.int (0 : Int32)), (.ref b_7)])) (fun t_ k_ => XS.i2b X_7.here hx rfl (hb hby d3_11) rfl k_) ?_
    obtain ⟨cl_8, Ar_8, q_8, S_8, M_8, H_8, G_8⟩ := id V_7
    have hin_8 : ¬ ((0 : Int32) < 0 ∨ cl_8.slots.size ≤ ((0 : Int32)).toNatClampNeg) := inb_of S_8 ⟨by decide, by decide⟩
    obtain ⟨T_8, h_8, X_8, e_8, W_8, st_8⟩ := stB X_7 hx hZ e_7 Ar_8 (j := (0 : Int32)) hin_8 (g := (mkF m 12 #[.val (.int (3 : Int32)), .val (.int w), .val (.ref b_7)] [(.int (w.toInt8.toInt32)), (.int (0 : Int32)), (.ref b_7)])) rfl rfl (hb hby d3_12)
    have Z_8 : n0 ≤ h_8.size := Nat.le_trans Z_7 (Keep.of_wr W_8).1
    have N_8 := Fr.snoc X_8 N0 g_b_7
    have K_8 : Keep h0 h_8 [] := K_7.wr W_8 (Or.inr sz_b_7)
    have V_8 : Arv Z h_8 b_7 k_7 .byte (3 : Int32) [(.int (nar .byte (w.toInt8.toInt32))), (.int (0 : Int32)), (.int (0 : Int32))] (.int (0 : Int32)) := Arv.set Ar_8 q_8 S_8 M_8 H_8 G_8 (fits_nar_byte _) W_8 0 rfl (Nat.le_of_ble_eq_true rfl)
    refine own_st (S' := T_8.setTop (mkF m 13 #[.val (.int (3 : Int32)), .val (.int w), .val (.ref b_7)] [])) st_8 ?_
    refine own_st (S' := T_8.setTop (mkF m 14 #[.val (.int (3 : Int32)), .val (.int w), .val (.ref b_7)] [(.int (3 : Int32))])) (fun t_ k_ => XS.iloadN X_8.here hx rfl (hb hby d3_13) rfl k_) ?_
    refine own_st (S' := T_8.setTop (mkF m 15 #[.val (.int (3 : Int32)), .val (.int w), .val (.ref b_7)] [(.int (1 : Int32)), (.int (3 : Int32))])) (fun t_ k_ => XS.iconst X_8.here hx rfl (hb hby d3_14) k_) ?_
    refine own_st (S' := T_8.setTop (mkF m 18 #[.val (.int (3 : Int32)), .val (.int w), .val (.ref b_7)] [])) (fun t_ k_ => XS.icmpNo X_8.here hx rfl (hb hby d3_15) rfl (tlt (by decide : (1 : Int32) < (3 : Int32))).2.2.2 k_) ?_
    refine own_st (S' := T_8.setTop (mkF m 19 #[.val (.int (3 : Int32)), .val (.int w), .val (.ref b_7)] [(.ref b_7)])) (fun t_ k_ => XS.aloadN X_8.here hx rfl (hb hby d3_18) rfl rfl k_) ?_
    refine own_st (S' := T_8.setTop (mkF m 20 #[.val (.int (3 : Int32)), .val (.int w), .val (.ref b_7)] [(.int (1 : Int32)), (.ref b_7)])) (fun t_ k_ => XS.iconst X_8.here hx rfl (hb hby d3_19) k_) ?_
    refine own_st (S' := T_8.setTop (mkF m 21 #[.val (.int (3 : Int32)), .val (.int w), .val (.ref b_7)] [(.int w), (.int (1 : Int32)), (.ref b_7)])) (fun t_ k_ => XS.iloadN X_8.here hx rfl (hb hby d3_20) rfl k_) ?_
    refine own_st (S' := T_8.setTop (mkF m 23 #[.val (.int (3 : Int32)), .val (.int w), .val (.ref b_7)] [(.int (8 : Int32)), (.int w), (.int (1 : Int32)), (.ref b_7)])) (fun t_ k_ => XS.bipush X_8.here hx rfl (hb hby d3_21) k_) ?_
    refine own_st (S' := T_8.setTop (mkF m 24 #[.val (.int (3 : Int32)), .val (.int w), .val (.ref b_7)] [(.int ((w.toUInt32 >>> ((8 : Int32) &&& 31).toUInt32).toInt32)), (.int (1 : Int32)), (.ref b_7)])) (fun t_ k_ => XS.iushr X_8.here hx rfl (hb hby d3_23) rfl k_) ?_
    refine own_st (S' := T_8.setTop (mkF m 25 #[.val (.int (3 : Int32)), .val (.int w), .val (.ref b_7)] [(.int (((w.toUInt32 >>> ((8 : Int32) &&& 31).toUInt32).toInt32).toInt8.toInt32)), (.int (1 : Int32)), (.ref b_7)])) (fun t_ k_ => XS.i2b X_8.here hx rfl (hb hby d3_24) rfl k_) ?_
    obtain ⟨cl_9, Ar_9, q_9, S_9, M_9, H_9, G_9⟩ := id V_8
    have hin_9 : ¬ ((1 : Int32) < 0 ∨ cl_9.slots.size ≤ ((1 : Int32)).toNatClampNeg) := inb_of S_9 ⟨by decide, by decide⟩
    obtain ⟨T_9, h_9, X_9, e_9, W_9, st_9⟩ := stB X_8 hx hZ e_8 Ar_9 (j := (1 : Int32)) hin_9 (g := (mkF m 25 #[.val (.int (3 : Int32)), .val (.int w), .val (.ref b_7)] [(.int (((w.toUInt32 >>> ((8 : Int32) &&& 31).toUInt32).toInt32).toInt8.toInt32)), (.int (1 : Int32)), (.ref b_7)])) rfl rfl (hb hby d3_25)
    have Z_9 : n0 ≤ h_9.size := Nat.le_trans Z_8 (Keep.of_wr W_9).1
    have N_9 := Fr.snoc X_9 N_8 g_b_7
    have K_9 : Keep h0 h_9 [] := K_8.wr W_9 (Or.inr sz_b_7)
    have V_9 : Arv Z h_9 b_7 k_7 .byte (3 : Int32) [(.int (nar .byte (w.toInt8.toInt32))), (.int (nar .byte (((w.toUInt32 >>> ((8 : Int32) &&& 31).toUInt32).toInt32).toInt8.toInt32))), (.int (0 : Int32))] (.int (0 : Int32)) := Arv.set Ar_9 q_9 S_9 M_9 H_9 G_9 (fits_nar_byte _) W_9 1 rfl (Nat.le_of_ble_eq_true rfl)
    refine own_st (S' := T_9.setTop (mkF m 26 #[.val (.int (3 : Int32)), .val (.int w), .val (.ref b_7)] [])) st_9 ?_
    refine own_st (S' := T_9.setTop (mkF m 27 #[.val (.int (3 : Int32)), .val (.int w), .val (.ref b_7)] [(.int (3 : Int32))])) (fun t_ k_ => XS.iloadN X_9.here hx rfl (hb hby d3_26) rfl k_) ?_
    refine own_st (S' := T_9.setTop (mkF m 28 #[.val (.int (3 : Int32)), .val (.int w), .val (.ref b_7)] [(.int (2 : Int32)), (.int (3 : Int32))])) (fun t_ k_ => XS.iconst X_9.here hx rfl (hb hby d3_27) k_) ?_
    refine own_st (S' := T_9.setTop (mkF m 31 #[.val (.int (3 : Int32)), .val (.int w), .val (.ref b_7)] [])) (fun t_ k_ => XS.icmpNo X_9.here hx rfl (hb hby d3_28) rfl (tlt (by decide : (2 : Int32) < (3 : Int32))).2.2.2 k_) ?_
    refine own_st (S' := T_9.setTop (mkF m 32 #[.val (.int (3 : Int32)), .val (.int w), .val (.ref b_7)] [(.ref b_7)])) (fun t_ k_ => XS.aloadN X_9.here hx rfl (hb hby d3_31) rfl rfl k_) ?_
    refine own_st (S' := T_9.setTop (mkF m 33 #[.val (.int (3 : Int32)), .val (.int w), .val (.ref b_7)] [(.int (2 : Int32)), (.ref b_7)])) (fun t_ k_ => XS.iconst X_9.here hx rfl (hb hby d3_32) k_) ?_
    refine own_st (S' := T_9.setTop (mkF m 34 #[.val (.int (3 : Int32)), .val (.int w), .val (.ref b_7)] [(.int w), (.int (2 : Int32)), (.ref b_7)])) (fun t_ k_ => XS.iloadN X_9.here hx rfl (hb hby d3_33) rfl k_) ?_
    refine own_st (S' := T_9.setTop (mkF m 36 #[.val (.int (3 : Int32)), .val (.int w), .val (.ref b_7)] [(.int (16 : Int32)), (.int w), (.int (2 : Int32)), (.ref b_7)])) (fun t_ k_ => XS.bipush X_9.here hx rfl (hb hby d3_34) k_) ?_
    refine own_st (S' := T_9.setTop (mkF m 37 #[.val (.int (3 : Int32)), .val (.int w), .val (.ref b_7)] [(.int ((w.toUInt32 >>> ((16 : Int32) &&& 31).toUInt32).toInt32)), (.int (2 : Int32)), (.ref b_7)])) (fun t_ k_ => XS.iushr X_9.here hx rfl (hb hby d3_36) rfl k_) ?_
    refine own_st (S' := T_9.setTop (mkF m 38 #[.val (.int (3 : Int32)), .val (.int w), .val (.ref b_7)] [(.int (((w.toUInt32 >>> ((16 : Int32) &&& 31).toUInt32).toInt32).toInt8.toInt32)), (.int (2 : Int32)), (.ref b_7)])) (fun t_ k_ => XS.i2b X_9.here hx rfl (hb hby d3_37) rfl k_) ?_
    obtain ⟨cl_10, Ar_10, q_10, S_10, M_10, H_10, G_10⟩ := id V_9
    have hin_10 : ¬ ((2 : Int32) < 0 ∨ cl_10.slots.size ≤ ((2 : Int32)).toNatClampNeg) := inb_of S_10 ⟨by decide, by decide⟩
    obtain ⟨T_10, h_10, X_10, e_10, W_10, st_10⟩ := stB X_9 hx hZ e_9 Ar_10 (j := (2 : Int32)) hin_10 (g := (mkF m 38 #[.val (.int (3 : Int32)), .val (.int w), .val (.ref b_7)] [(.int (((w.toUInt32 >>> ((16 : Int32) &&& 31).toUInt32).toInt32).toInt8.toInt32)), (.int (2 : Int32)), (.ref b_7)])) rfl rfl (hb hby d3_38)
    have Z_10 : n0 ≤ h_10.size := Nat.le_trans Z_9 (Keep.of_wr W_10).1
    have N_10 := Fr.snoc X_10 N_9 g_b_7
    have K_10 : Keep h0 h_10 [] := K_9.wr W_10 (Or.inr sz_b_7)
    have V_10 : Arv Z h_10 b_7 k_7 .byte (3 : Int32) [(.int (nar .byte (w.toInt8.toInt32))), (.int (nar .byte (((w.toUInt32 >>> ((8 : Int32) &&& 31).toUInt32).toInt32).toInt8.toInt32))), (.int (nar .byte (((w.toUInt32 >>> ((16 : Int32) &&& 31).toUInt32).toInt32).toInt8.toInt32)))] (.int (0 : Int32)) := Arv.set Ar_10 q_10 S_10 M_10 H_10 G_10 (fits_nar_byte _) W_10 2 rfl (Nat.le_of_ble_eq_true rfl)
    refine own_st (S' := T_10.setTop (mkF m 39 #[.val (.int (3 : Int32)), .val (.int w), .val (.ref b_7)] [])) st_10 ?_
    refine own_st (S' := T_10.setTop (mkF m 40 #[.val (.int (3 : Int32)), .val (.int w), .val (.ref b_7)] [(.ref b_7)])) (fun t_ k_ => XS.aloadN X_10.here hx rfl (hb hby d3_39) rfl rfl k_) ?_
    obtain ⟨fs, hr, hrun, hended, hW, hsame⟩ := X_10.leave (v := some (.ref b_7)) (fun h => by rw [Bd.returns] at h; cases h)
    refine ⟨_, _, own_retR X_10 hx Bd.returns rfl rfl (hb hby d3_40) hr, hrun, hended, _, _, rfl, ?_, ⟨_, rfl⟩, hW, hsame.mono (by decide) (by decide)⟩
    show Q3 Z n w h0 n0 _ T_10.heap _
    rw [e_10]
    exact ⟨b_7, k_7, rfl, N_10, K_10, sz_b_7, (own_to hq (by first | rfl | (simp only [own_nb]; rfl)) V_10)⟩
theorem d4_0 : decode method_4_code 0 = .ok (.aload_n 0, 1) := by decide +kernel
theorem d4_1 : decode method_4_code 1 = .ok (.ifnull 58, 3) := by decide +kernel
theorem d4_4 : decode method_4_code 4 = .ok (.aload_n 0, 1) := by decide +kernel
theorem d4_5 : decode method_4_code 5 = .ok (.arraylength, 1) := by decide +kernel
theorem d4_6 : decode method_4_code 6 = .ok (.iload_n 1, 1) := by decide +kernel
theorem d4_7 : decode method_4_code 7 = .ok (.if_icmp .ne 52, 3) := by decide +kernel
theorem d4_10 : decode method_4_code 10 = .ok (.iload_n 1, 1) := by decide +kernel
theorem d4_11 : decode method_4_code 11 = .ok (.iconst 1, 1) := by decide +kernel
theorem d4_12 : decode method_4_code 12 = .ok (.if_icmp .lt 11, 3) := by decide +kernel
theorem d4_15 : decode method_4_code 15 = .ok (.aload_n 0, 1) := by decide +kernel
theorem d4_16 : decode method_4_code 16 = .ok (.iconst 0, 1) := by decide +kernel
theorem d4_17 : decode method_4_code 17 = .ok (.baload, 1) := by decide +kernel
theorem d4_18 : decode method_4_code 18 = .ok (.iload_n 2, 1) := by decide +kernel
theorem d4_19 : decode method_4_code 19 = .ok (.i2b, 1) := by decide +kernel
theorem d4_20 : decode method_4_code 20 = .ok (.if_icmp .ne 39, 3) := by decide +kernel
theorem d4_23 : decode method_4_code 23 = .ok (.iload_n 1, 1) := by decide +kernel
theorem d4_24 : decode method_4_code 24 = .ok (.iconst 2, 1) := by decide +kernel
theorem d4_25 : decode method_4_code 25 = .ok (.if_icmp .lt 14, 3) := by decide +kernel
theorem d4_28 : decode method_4_code 28 = .ok (.aload_n 0, 1) := by decide +kernel
theorem d4_29 : decode method_4_code 29 = .ok (.iconst 1, 1) := by decide +kernel
theorem d4_30 : decode method_4_code 30 = .ok (.baload, 1) := by decide +kernel
theorem d4_31 : decode method_4_code 31 = .ok (.iload_n 2, 1) := by decide +kernel
theorem d4_32 : decode method_4_code 32 = .ok (.bipush 8, 2) := by decide +kernel
theorem d4_34 : decode method_4_code 34 = .ok (.iushr, 1) := by decide +kernel
theorem d4_35 : decode method_4_code 35 = .ok (.i2b, 1) := by decide +kernel
theorem d4_36 : decode method_4_code 36 = .ok (.if_icmp .ne 23, 3) := by decide +kernel
theorem d4_39 : decode method_4_code 39 = .ok (.iload_n 1, 1) := by decide +kernel
theorem d4_40 : decode method_4_code 40 = .ok (.iconst 3, 1) := by decide +kernel
theorem d4_41 : decode method_4_code 41 = .ok (.if_icmp .lt 14, 3) := by decide +kernel
theorem d4_44 : decode method_4_code 44 = .ok (.aload_n 0, 1) := by decide +kernel
theorem d4_45 : decode method_4_code 45 = .ok (.iconst 2, 1) := by decide +kernel
theorem d4_46 : decode method_4_code 46 = .ok (.baload, 1) := by decide +kernel
theorem d4_47 : decode method_4_code 47 = .ok (.iload_n 2, 1) := by decide +kernel
theorem d4_48 : decode method_4_code 48 = .ok (.bipush 16, 2) := by decide +kernel
theorem d4_50 : decode method_4_code 50 = .ok (.iushr, 1) := by decide +kernel
theorem d4_51 : decode method_4_code 51 = .ok (.i2b, 1) := by decide +kernel
theorem d4_52 : decode method_4_code 52 = .ok (.if_icmp .ne 7, 3) := by decide +kernel
theorem d4_55 : decode method_4_code 55 = .ok (.iconst 1, 1) := by decide +kernel
theorem d4_56 : decode method_4_code 56 = .ok (.goto 4, 3) := by decide +kernel
theorem d4_60 : decode method_4_code 60 = .ok (.ireturn, 1) := by decide +kernel
theorem ef_4 (m : MethodId) (b : Addr) (n : Int32) (w : Int32) : entryFrame m #[(.ref b), (.int n), (.int w)] 3 = mkF m 0 #[.val (.ref b), .val (.int n), .val (.int w)] [] := by first | (simp [entryFrame, mkF, argsToLocals, Value.category]; done) | rfl
def Q4 (Z : State) (b : Addr) (n : Int32) (w : Int32) (k : ClassId) (h0 : Heap) (n0 : Nat) (v_ : Option Value) (h_ : Heap) (L_ : List Loc) : Prop := v_ = some (.int (1 : Int32)) ∧ Fr n0 L_ ∧ h_ = h0
set_option maxRecDepth 65536 in
set_option maxHeartbeats 40000000 in
theorem rm4 (l : Launch) (Z : State) (a0 : Array Value) (hw : ∀ d ∈ tables_1, d.before a0 Z = true) (ws : List Jvm.Cond) (b : Addr) (n : Int32) (w : Int32) (k : ClassId) (h0 : Heap) (n0 : Nat) (Z0 : n0 ≤ h0.size) (P0 : Arv Z h0 b k .byte n (own_bs n w) (.int (0 : Int32))) (hn : n = (0 : Int32) ∨ n = (1 : Int32) ∨ n = (2 : Int32) ∨ n = (3 : Int32)) :
    MetFree l (⟨"com/example/westmount/westmount/RowRangeFirstPinLaw", "sameBytes", "([BII)Z"⟩ : MethodName) (head1 (Jvm.Cond.code (⟨"com/example/westmount/westmount/RowRangeFirstPinLaw", "sameBytes", "([BII)Z"⟩ : MethodName) method_4_code 3 (some .boolean) :: ws) ({ frames := 0, cells := 0, slots := 0, locals := 0 } : Room)) (fun ar_ U_ => ar_ = #[(.ref b), (.int n), (.int w)] ∧ Z.Warmed39 U_.vm ∧ U_.heap = h0) (fun _ _ _ _ _ => True) (fun _ U_ o_ U2_ => ∃ v_ L_, o_ = .returned v_ ∧ Q4 Z b n w k h0 n0 v_ U2_.heap L_ ∧ FrameEnd U_ o_ U2_ L_ ({ frames := 0, cells := 0, slots := 0, locals := 0 } : Room).cells ({ frames := 0, cells := 0, slots := 0, locals := 0 } : Room).slots) := by
  refine MetFree.of_bodySF (plainFor_of_name pn_1) hisR ?_
  intro p e s m args below meth c s₁ Bd hml0 hP hK
  obtain ⟨rfl, hZ, hh⟩ := hP
  have hx := Bd.exec
  have hby := Bd.bytes
  have hml : c.maxLocals = 3 := hml0
  have hown : s.vm.findClass "com/example/westmount/westmount/RowRangeFirstPinLaw" = some m.cls := findClass_of_methodNamed Bd.named
  have hnm := (name_of_methodNamed Bd.named Bd.method).1
  have X0 : Stand p l e ({ frames := 0, cells := 0, slots := 0, locals := 0 } : Room) s m #[(.ref b), (.int n), (.int w)] below meth c s₁ [] 0 0 := Stand.of_body Bd
  have e0 : s₁.heap = h0 := by rw [← hh, Bd.state]; rfl
  have N0 := Fr.nil n0
  refine own_gl ?_
  refine own_st (S' := s₁.setTop (mkF m 0 #[.val (.ref b), .val (.int n), .val (.int w)] [])) (fun t_ k_ => castTop (ef_4 m b n w) k_) ?_
  rcases hn with hq | hq | hq | hq
  · refine own_cast (S' := s₁.setTop (mkF m 0 #[.val (.ref b), .val (.int (0 : Int32)), .val (.int w)] [])) (by rw [hq]) ?_
    have P0q : Arv Z h0 b k .byte (0 : Int32) [] (.int (0 : Int32)) := own_from hq rfl P0
    refine own_st (S' := s₁.setTop (mkF m 1 #[.val (.ref b), .val (.int (0 : Int32)), .val (.int w)] [(.ref b)])) (fun t_ k_ => XS.aloadN X0.here hx rfl (hb hby d4_0) rfl rfl k_) ?_
    refine own_st (S' := s₁.setTop (mkF m 4 #[.val (.ref b), .val (.int (0 : Int32)), .val (.int w)] [])) (fun t_ k_ => XS.ifnullNo X0.here hx rfl (hb hby d4_1) rfl k_) ?_
    refine own_st (S' := s₁.setTop (mkF m 5 #[.val (.ref b), .val (.int (0 : Int32)), .val (.int w)] [(.ref b)])) (fun t_ k_ => XS.aloadN X0.here hx rfl (hb hby d4_4) rfl rfl k_) ?_
    obtain ⟨cl_1, Ar_1, q_1, S_1, M_1, H_1, G_1⟩ := id P0q
    refine own_st (S' := s₁.setTop (mkF m 6 #[.val (.ref b), .val (.int (0 : Int32)), .val (.int w)] [(.int (0 : Int32))])) (fun t_ k_ => X0.arraylength hx (by rw [e0]; exact Ar_1.1) (State.isArrayOf_alike hZ.alike Ar_1.2.1) (g := (mkF m 5 #[.val (.ref b), .val (.int (0 : Int32)), .val (.int w)] [(.ref b)])) rfl rfl (hb hby d4_5) _ (by rw [len_of S_1 M_1]; exact k_)) ?_
    refine own_st (S' := s₁.setTop (mkF m 7 #[.val (.ref b), .val (.int (0 : Int32)), .val (.int w)] [(.int (0 : Int32)), (.int (0 : Int32))])) (fun t_ k_ => XS.iloadN X0.here hx rfl (hb hby d4_6) rfl k_) ?_
    refine own_st (S' := s₁.setTop (mkF m 10 #[.val (.ref b), .val (.int (0 : Int32)), .val (.int w)] [])) (fun t_ k_ => XS.icmpNo X0.here hx rfl (hb hby d4_7) rfl (teq (by decide : (0 : Int32) = (0 : Int32))).2 k_) ?_
    refine own_st (S' := s₁.setTop (mkF m 11 #[.val (.ref b), .val (.int (0 : Int32)), .val (.int w)] [(.int (0 : Int32))])) (fun t_ k_ => XS.iloadN X0.here hx rfl (hb hby d4_10) rfl k_) ?_
    refine own_st (S' := s₁.setTop (mkF m 12 #[.val (.ref b), .val (.int (0 : Int32)), .val (.int w)] [(.int (1 : Int32)), (.int (0 : Int32))])) (fun t_ k_ => XS.iconst X0.here hx rfl (hb hby d4_11) k_) ?_
    refine own_st (S' := s₁.setTop (mkF m 23 #[.val (.ref b), .val (.int (0 : Int32)), .val (.int w)] [])) (fun t_ k_ => XS.icmpYes X0.here hx rfl (pc0 := 12) (pc' := 23) rfl (hb hby d4_12) rfl (tlt (by decide : (0 : Int32) < (1 : Int32))).1 (by decide) (by decide) k_) ?_
    refine own_st (S' := s₁.setTop (mkF m 24 #[.val (.ref b), .val (.int (0 : Int32)), .val (.int w)] [(.int (0 : Int32))])) (fun t_ k_ => XS.iloadN X0.here hx rfl (hb hby d4_23) rfl k_) ?_
    refine own_st (S' := s₁.setTop (mkF m 25 #[.val (.ref b), .val (.int (0 : Int32)), .val (.int w)] [(.int (2 : Int32)), (.int (0 : Int32))])) (fun t_ k_ => XS.iconst X0.here hx rfl (hb hby d4_24) k_) ?_
    refine own_st (S' := s₁.setTop (mkF m 39 #[.val (.ref b), .val (.int (0 : Int32)), .val (.int w)] [])) (fun t_ k_ => XS.icmpYes X0.here hx rfl (pc0 := 25) (pc' := 39) rfl (hb hby d4_25) rfl (tlt (by decide : (0 : Int32) < (2 : Int32))).1 (by decide) (by decide) k_) ?_
    refine own_st (S' := s₁.setTop (mkF m 40 #[.val (.ref b), .val (.int (0 : Int32)), .val (.int w)] [(.int (0 : Int32))])) (fun t_ k_ => XS.iloadN X0.here hx rfl (hb hby d4_39) rfl k_) ?_
    refine own_st (S' := s₁.setTop (mkF m 41 #[.val (.ref b), .val (.int (0 : Int32)), .val (.int w)] [(.int (3 : Int32)), (.int (0 : Int32))])) (fun t_ k_ => XS.iconst X0.here hx rfl (hb hby d4_40) k_) ?_
    refine own_st (S' := s₁.setTop (mkF m 55 #[.val (.ref b), .val (.int (0 : Int32)), .val (.int w)] [])) (fun t_ k_ => XS.icmpYes X0.here hx rfl (pc0 := 41) (pc' := 55) rfl (hb hby d4_41) rfl (tlt (by decide : (0 : Int32) < (3 : Int32))).1 (by decide) (by decide) k_) ?_
    refine own_st (S' := s₁.setTop (mkF m 56 #[.val (.ref b), .val (.int (0 : Int32)), .val (.int w)] [(.int (1 : Int32))])) (fun t_ k_ => XS.iconst X0.here hx rfl (hb hby d4_55) k_) ?_
    refine own_st (S' := s₁.setTop (mkF m 60 #[.val (.ref b), .val (.int (0 : Int32)), .val (.int w)] [(.int (1 : Int32))])) (fun t_ k_ => XS.goto X0.here hx rfl (pc0 := 56) (pc' := 60) rfl (hb hby d4_56) (by decide) (by decide) k_) ?_
    obtain ⟨fs, hr, hrun, hended, hW, hsame⟩ := X0.leave (v := some (.int (1 : Int32))) (fun h => by rw [Bd.returns] at h; cases h)
    refine ⟨_, _, retN X0 hx (t := .boolean) Bd.returns (by simp) (hb hby d4_60) hr, hrun, hended, _, _, rfl, ?_, ⟨_, rfl⟩, hW, hsame.mono (by decide) (by decide)⟩
    show Q4 Z b n w k h0 n0 _ s₁.heap _
    rw [e0]
    exact ⟨rfl, N0, rfl⟩
  · refine own_cast (S' := s₁.setTop (mkF m 0 #[.val (.ref b), .val (.int (1 : Int32)), .val (.int w)] [])) (by rw [hq]) ?_
    have P0q : Arv Z h0 b k .byte (1 : Int32) [(.int (w.toInt8.toInt32))] (.int (0 : Int32)) := own_from hq rfl P0
    refine own_st (S' := s₁.setTop (mkF m 1 #[.val (.ref b), .val (.int (1 : Int32)), .val (.int w)] [(.ref b)])) (fun t_ k_ => XS.aloadN X0.here hx rfl (hb hby d4_0) rfl rfl k_) ?_
    refine own_st (S' := s₁.setTop (mkF m 4 #[.val (.ref b), .val (.int (1 : Int32)), .val (.int w)] [])) (fun t_ k_ => XS.ifnullNo X0.here hx rfl (hb hby d4_1) rfl k_) ?_
    refine own_st (S' := s₁.setTop (mkF m 5 #[.val (.ref b), .val (.int (1 : Int32)), .val (.int w)] [(.ref b)])) (fun t_ k_ => XS.aloadN X0.here hx rfl (hb hby d4_4) rfl rfl k_) ?_
    obtain ⟨cl_2, Ar_2, q_2, S_2, M_2, H_2, G_2⟩ := id P0q
    refine own_st (S' := s₁.setTop (mkF m 6 #[.val (.ref b), .val (.int (1 : Int32)), .val (.int w)] [(.int (1 : Int32))])) (fun t_ k_ => X0.arraylength hx (by rw [e0]; exact Ar_2.1) (State.isArrayOf_alike hZ.alike Ar_2.2.1) (g := (mkF m 5 #[.val (.ref b), .val (.int (1 : Int32)), .val (.int w)] [(.ref b)])) rfl rfl (hb hby d4_5) _ (by rw [len_of S_2 M_2]; exact k_)) ?_
    refine own_st (S' := s₁.setTop (mkF m 7 #[.val (.ref b), .val (.int (1 : Int32)), .val (.int w)] [(.int (1 : Int32)), (.int (1 : Int32))])) (fun t_ k_ => XS.iloadN X0.here hx rfl (hb hby d4_6) rfl k_) ?_
    refine own_st (S' := s₁.setTop (mkF m 10 #[.val (.ref b), .val (.int (1 : Int32)), .val (.int w)] [])) (fun t_ k_ => XS.icmpNo X0.here hx rfl (hb hby d4_7) rfl (teq (by decide : (1 : Int32) = (1 : Int32))).2 k_) ?_
    refine own_st (S' := s₁.setTop (mkF m 11 #[.val (.ref b), .val (.int (1 : Int32)), .val (.int w)] [(.int (1 : Int32))])) (fun t_ k_ => XS.iloadN X0.here hx rfl (hb hby d4_10) rfl k_) ?_
    refine own_st (S' := s₁.setTop (mkF m 12 #[.val (.ref b), .val (.int (1 : Int32)), .val (.int w)] [(.int (1 : Int32)), (.int (1 : Int32))])) (fun t_ k_ => XS.iconst X0.here hx rfl (hb hby d4_11) k_) ?_
    refine own_st (S' := s₁.setTop (mkF m 15 #[.val (.ref b), .val (.int (1 : Int32)), .val (.int w)] [])) (fun t_ k_ => XS.icmpNo X0.here hx rfl (hb hby d4_12) rfl (flt (by decide : ¬ ((1 : Int32) < (1 : Int32)))).1 k_) ?_
    refine own_st (S' := s₁.setTop (mkF m 16 #[.val (.ref b), .val (.int (1 : Int32)), .val (.int w)] [(.ref b)])) (fun t_ k_ => XS.aloadN X0.here hx rfl (hb hby d4_15) rfl rfl k_) ?_
    refine own_st (S' := s₁.setTop (mkF m 17 #[.val (.ref b), .val (.int (1 : Int32)), .val (.int w)] [(.int (0 : Int32)), (.ref b)])) (fun t_ k_ => XS.iconst X0.here hx rfl (hb hby d4_16) k_) ?_
    obtain ⟨cl_3, Ar_3, q_3, S_3, M_3, H_3, G_3⟩ := id P0q
    have hin_3 : ¬ ((0 : Int32) < 0 ∨ cl_3.slots.size ≤ ((0 : Int32)).toNatClampNeg) := inb_of S_3 ⟨by decide, by decide⟩
    have hat_3 : cl_3.slots[((0 : Int32)).toNatClampNeg]? = some (.int (w.toInt8.toInt32)) := H_3.at hin_3 rfl
    refine own_st (S' := s₁.setTop (mkF m 18 #[.val (.ref b), .val (.int (1 : Int32)), .val (.int w)] [(.int (w.toInt8.toInt32))])) (fun t_ k_ => X0.baloadBytes hx (j := (0 : Int32)) (v := (.int (w.toInt8.toInt32))) (by rw [e0]; exact Ar_3.1) (State.isArrayOf_alike hZ.alike Ar_3.2.1) Ar_3.2.2 hin_3 hat_3 (g := (mkF m 17 #[.val (.ref b), .val (.int (1 : Int32)), .val (.int w)] [(.int (0 : Int32)), (.ref b)])) rfl rfl (hb hby d4_17) _ k_) ?_
    refine own_st (S' := s₁.setTop (mkF m 19 #[.val (.ref b), .val (.int (1 : Int32)), .val (.int w)] [(.int w), (.int (w.toInt8.toInt32))])) (fun t_ k_ => XS.iloadN X0.here hx rfl (hb hby d4_18) rfl k_) ?_
    refine own_st (S' := s₁.setTop (mkF m 20 #[.val (.ref b), .val (.int (1 : Int32)), .val (.int w)] [(.int (w.toInt8.toInt32)), (.int (w.toInt8.toInt32))])) (fun t_ k_ => XS.i2b X0.here hx rfl (hb hby d4_19) rfl k_) ?_
    refine own_st (S' := s₁.setTop (mkF m 23 #[.val (.ref b), .val (.int (1 : Int32)), .val (.int w)] [])) (fun t_ k_ => XS.icmpNo X0.here hx rfl (hb hby d4_20) rfl (teq (rfl : (w.toInt8.toInt32) = (w.toInt8.toInt32))).2 k_) ?_
    refine own_st (S' := s₁.setTop (mkF m 24 #[.val (.ref b), .val (.int (1 : Int32)), .val (.int w)] [(.int (1 : Int32))])) (fun t_ k_ => XS.iloadN X0.here hx rfl (hb hby d4_23) rfl k_) ?_
    refine own_st (S' := s₁.setTop (mkF m 25 #[.val (.ref b), .val (.int (1 : Int32)), .val (.int w)] [(.int (2 : Int32)), (.int (1 : Int32))])) (fun t_ k_ => XS.iconst X0.here hx rfl (hb hby d4_24) k_) ?_
    refine own_st (S' := s₁.setTop (mkF m 39 #[.val (.ref b), .val (.int (1 : Int32)), .val (.int w)] [])) (fun t_ k_ => XS.icmpYes X0.here hx rfl (pc0 := 25) (pc' := 39) rfl (hb hby d4_25) rfl (tlt (by decide : (1 : Int32) < (2 : Int32))).1 (by decide) (by decide) k_) ?_
    refine own_st (S' := s₁.setTop (mkF m 40 #[.val (.ref b), .val (.int (1 : Int32)), .val (.int w)] [(.int (1 : Int32))])) (fun t_ k_ => XS.iloadN X0.here hx rfl (hb hby d4_39) rfl k_) ?_
    refine own_st (S' := s₁.setTop (mkF m 41 #[.val (.ref b), .val (.int (1 : Int32)), .val (.int w)] [(.int (3 : Int32)), (.int (1 : Int32))])) (fun t_ k_ => XS.iconst X0.here hx rfl (hb hby d4_40) k_) ?_
    refine own_st (S' := s₁.setTop (mkF m 55 #[.val (.ref b), .val (.int (1 : Int32)), .val (.int w)] [])) (fun t_ k_ => XS.icmpYes X0.here hx rfl (pc0 := 41) (pc' := 55) rfl (hb hby d4_41) rfl (tlt (by decide : (1 : Int32) < (3 : Int32))).1 (by decide) (by decide) k_) ?_
    refine own_st (S' := s₁.setTop (mkF m 56 #[.val (.ref b), .val (.int (1 : Int32)), .val (.int w)] [(.int (1 : Int32))])) (fun t_ k_ => XS.iconst X0.here hx rfl (hb hby d4_55) k_) ?_
    refine own_st (S' := s₁.setTop (mkF m 60 #[.val (.ref b), .val (.int (1 : Int32)), .val (.int w)] [(.int (1 : Int32))])) (fun t_ k_ => XS.goto X0.here hx rfl (pc0 := 56) (pc' := 60) rfl (hb hby d4_56) (by decide) (by decide) k_) ?_
    obtain ⟨fs, hr, hrun, hended, hW, hsame⟩ := X0.leave (v := some (.int (1 : Int32))) (fun h => by rw [Bd.returns] at h; cases h)
    refine ⟨_, _, retN X0 hx (t := .boolean) Bd.returns (by simp) (hb hby d4_60) hr, hrun, hended, _, _, rfl, ?_, ⟨_, rfl⟩, hW, hsame.mono (by decide) (by decide)⟩
    show Q4 Z b n w k h0 n0 _ s₁.heap _
    rw [e0]
    exact ⟨rfl, N0, rfl⟩
  · refine own_cast (S' := s₁.setTop (mkF m 0 #[.val (.ref b), .val (.int (2 : Int32)), .val (.int w)] [])) (by rw [hq]) ?_
    have P0q : Arv Z h0 b k .byte (2 : Int32) [(.int (w.toInt8.toInt32)), (.int (((w.toUInt32 >>> ((8 : Int32) &&& 31).toUInt32).toInt32).toInt8.toInt32))] (.int (0 : Int32)) := own_from hq rfl P0
    refine own_st (S' := s₁.setTop (mkF m 1 #[.val (.ref b), .val (.int (2 : Int32)), .val (.int w)] [(.ref b)])) (fun t_ k_ => XS.aloadN X0.here hx rfl (hb hby d4_0) rfl rfl k_) ?_
    refine own_st (S' := s₁.setTop (mkF m 4 #[.val (.ref b), .val (.int (2 : Int32)), .val (.int w)] [])) (fun t_ k_ => XS.ifnullNo X0.here hx rfl (hb hby d4_1) rfl k_) ?_
    refine own_st (S' := s₁.setTop (mkF m 5 #[.val (.ref b), .val (.int (2 : Int32)), .val (.int w)] [(.ref b)])) (fun t_ k_ => XS.aloadN X0.here hx rfl (hb hby d4_4) rfl rfl k_) ?_
    obtain ⟨cl_4, Ar_4, q_4, S_4, M_4, H_4, G_4⟩ := id P0q
    refine own_st (S' := s₁.setTop (mkF m 6 #[.val (.ref b), .val (.int (2 : Int32)), .val (.int w)] [(.int (2 : Int32))])) (fun t_ k_ => X0.arraylength hx (by rw [e0]; exact Ar_4.1) (State.isArrayOf_alike hZ.alike Ar_4.2.1) (g := (mkF m 5 #[.val (.ref b), .val (.int (2 : Int32)), .val (.int w)] [(.ref b)])) rfl rfl (hb hby d4_5) _ (by rw [len_of S_4 M_4]; exact k_)) ?_
    refine own_st (S' := s₁.setTop (mkF m 7 #[.val (.ref b), .val (.int (2 : Int32)), .val (.int w)] [(.int (2 : Int32)), (.int (2 : Int32))])) (fun t_ k_ => XS.iloadN X0.here hx rfl (hb hby d4_6) rfl k_) ?_
    refine own_st (S' := s₁.setTop (mkF m 10 #[.val (.ref b), .val (.int (2 : Int32)), .val (.int w)] [])) (fun t_ k_ => XS.icmpNo X0.here hx rfl (hb hby d4_7) rfl (teq (by decide : (2 : Int32) = (2 : Int32))).2 k_) ?_
    refine own_st (S' := s₁.setTop (mkF m 11 #[.val (.ref b), .val (.int (2 : Int32)), .val (.int w)] [(.int (2 : Int32))])) (fun t_ k_ => XS.iloadN X0.here hx rfl (hb hby d4_10) rfl k_) ?_
    refine own_st (S' := s₁.setTop (mkF m 12 #[.val (.ref b), .val (.int (2 : Int32)), .val (.int w)] [(.int (1 : Int32)), (.int (2 : Int32))])) (fun t_ k_ => XS.iconst X0.here hx rfl (hb hby d4_11) k_) ?_
    refine own_st (S' := s₁.setTop (mkF m 15 #[.val (.ref b), .val (.int (2 : Int32)), .val (.int w)] [])) (fun t_ k_ => XS.icmpNo X0.here hx rfl (hb hby d4_12) rfl (flt (by decide : ¬ ((2 : Int32) < (1 : Int32)))).1 k_) ?_
    refine own_st (S' := s₁.setTop (mkF m 16 #[.val (.ref b), .val (.int (2 : Int32)), .val (.int w)] [(.ref b)])) (fun t_ k_ => XS.aloadN X0.here hx rfl (hb hby d4_15) rfl rfl k_) ?_
    refine own_st (S' := s₁.setTop (mkF m 17 #[.val (.ref b), .val (.int (2 : Int32)), .val (.int w)] [(.int (0 : Int32)), (.ref b)])) (fun t_ k_ => XS.iconst X0.here hx rfl (hb hby d4_16) k_) ?_
    obtain ⟨cl_5, Ar_5, q_5, S_5, M_5, H_5, G_5⟩ := id P0q
    have hin_5 : ¬ ((0 : Int32) < 0 ∨ cl_5.slots.size ≤ ((0 : Int32)).toNatClampNeg) := inb_of S_5 ⟨by decide, by decide⟩
    have hat_5 : cl_5.slots[((0 : Int32)).toNatClampNeg]? = some (.int (w.toInt8.toInt32)) := H_5.at hin_5 rfl
    refine own_st (S' := s₁.setTop (mkF m 18 #[.val (.ref b), .val (.int (2 : Int32)), .val (.int w)] [(.int (w.toInt8.toInt32))])) (fun t_ k_ => X0.baloadBytes hx (j := (0 : Int32)) (v := (.int (w.toInt8.toInt32))) (by rw [e0]; exact Ar_5.1) (State.isArrayOf_alike hZ.alike Ar_5.2.1) Ar_5.2.2 hin_5 hat_5 (g := (mkF m 17 #[.val (.ref b), .val (.int (2 : Int32)), .val (.int w)] [(.int (0 : Int32)), (.ref b)])) rfl rfl (hb hby d4_17) _ k_) ?_
    refine own_st (S' := s₁.setTop (mkF m 19 #[.val (.ref b), .val (.int (2 : Int32)), .val (.int w)] [(.int w), (.int (w.toInt8.toInt32))])) (fun t_ k_ => XS.iloadN X0.here hx rfl (hb hby d4_18) rfl k_) ?_
    refine own_st (S' := s₁.setTop (mkF m 20 #[.val (.ref b), .val (.int (2 : Int32)), .val (.int w)] [(.int (w.toInt8.toInt32)), (.int (w.toInt8.toInt32))])) (fun t_ k_ => XS.i2b X0.here hx rfl (hb hby d4_19) rfl k_) ?_
    refine own_st (S' := s₁.setTop (mkF m 23 #[.val (.ref b), .val (.int (2 : Int32)), .val (.int w)] [])) (fun t_ k_ => XS.icmpNo X0.here hx rfl (hb hby d4_20) rfl (teq (rfl : (w.toInt8.toInt32) = (w.toInt8.toInt32))).2 k_) ?_
    refine own_st (S' := s₁.setTop (mkF m 24 #[.val (.ref b), .val (.int (2 : Int32)), .val (.int w)] [(.int (2 : Int32))])) (fun t_ k_ => XS.iloadN X0.here hx rfl (hb hby d4_23) rfl k_) ?_
    refine own_st (S' := s₁.setTop (mkF m 25 #[.val (.ref b), .val (.int (2 : Int32)), .val (.int w)] [(.int (2 : Int32)), (.int (2 : Int32))])) (fun t_ k_ => XS.iconst X0.here hx rfl (hb hby d4_24) k_) ?_
    refine own_st (S' := s₁.setTop (mkF m 28 #[.val (.ref b), .val (.int (2 : Int32)), .val (.int w)] [])) (fun t_ k_ => XS.icmpNo X0.here hx rfl (hb hby d4_25) rfl (flt (by decide : ¬ ((2 : Int32) < (2 : Int32)))).1 k_) ?_
    refine own_st (S' := s₁.setTop (mkF m 29 #[.val (.ref b), .val (.int (2 : Int32)), .val (.int w)] [(.ref b)])) (fun t_ k_ => XS.aloadN X0.here hx rfl (hb hby d4_28) rfl rfl k_) ?_
    refine own_st (S' := s₁.setTop (mkF m 30 #[.val (.ref b), .val (.int (2 : Int32)), .val (.int w)] [(.int (1 : Int32)), (.ref b)])) (fun t_ k_ => XS.iconst X0.here hx rfl (hb hby d4_29) k_) ?_
    obtain ⟨cl_6, Ar_6, q_6, S_6, M_6, H_6, G_6⟩ := id P0q
    have hin_6 : ¬ ((1 : Int32) < 0 ∨ cl_6.slots.size ≤ ((1 : Int32)).toNatClampNeg) := inb_of S_6 ⟨by decide, by decide⟩
    have hat_6 : cl_6.slots[((1 : Int32)).toNatClampNeg]? = some (.int (((w.toUInt32 >>> ((8 : Int32) &&& 31).toUInt32).toInt32).toInt8.toInt32)) := H_6.at hin_6 rfl
    refine own_st (S' := s₁.setTop (mkF m 31 #[.val (.ref b), .val (.int (2 : Int32)), .val (.int w)] [(.int (((w.toUInt32 >>> ((8 : Int32) &&& 31).toUInt32).toInt32).toInt8.toInt32))])) (fun t_ k_ => X0.baloadBytes hx (j := (1 : Int32)) (v := (.int (((w.toUInt32 >>> ((8 : Int32) &&& 31).toUInt32).toInt32).toInt8.toInt32))) (by rw [e0]; exact Ar_6.1) (State.isArrayOf_alike hZ.alike Ar_6.2.1) Ar_6.2.2 hin_6 hat_6 (g := (mkF m 30 #[.val (.ref b), .val (.int (2 : Int32)), .val (.int w)] [(.int (1 : Int32)), (.ref b)])) rfl rfl (hb hby d4_30) _ k_) ?_
    refine own_st (S' := s₁.setTop (mkF m 32 #[.val (.ref b), .val (.int (2 : Int32)), .val (.int w)] [(.int w), (.int (((w.toUInt32 >>> ((8 : Int32) &&& 31).toUInt32).toInt32).toInt8.toInt32))])) (fun t_ k_ => XS.iloadN X0.here hx rfl (hb hby d4_31) rfl k_) ?_
    refine own_st (S' := s₁.setTop (mkF m 34 #[.val (.ref b), .val (.int (2 : Int32)), .val (.int w)] [(.int (8 : Int32)), (.int w), (.int (((w.toUInt32 >>> ((8 : Int32) &&& 31).toUInt32).toInt32).toInt8.toInt32))])) (fun t_ k_ => XS.bipush X0.here hx rfl (hb hby d4_32) k_) ?_
    refine own_st (S' := s₁.setTop (mkF m 35 #[.val (.ref b), .val (.int (2 : Int32)), .val (.int w)] [(.int ((w.toUInt32 >>> ((8 : Int32) &&& 31).toUInt32).toInt32)), (.int (((w.toUInt32 >>> ((8 : Int32) &&& 31).toUInt32).toInt32).toInt8.toInt32))])) (fun t_ k_ => XS.iushr X0.here hx rfl (hb hby d4_34) rfl k_) ?_
    refine own_st (S' := s₁.setTop (mkF m 36 #[.val (.ref b), .val (.int (2 : Int32)), .val (.int w)] [(.int (((w.toUInt32 >>> ((8 : Int32) &&& 31).toUInt32).toInt32).toInt8.toInt32)), (.int (((w.toUInt32 >>> ((8 : Int32) &&& 31).toUInt32).toInt32).toInt8.toInt32))])) (fun t_ k_ => XS.i2b X0.here hx rfl (hb hby d4_35) rfl k_) ?_
    refine own_st (S' := s₁.setTop (mkF m 39 #[.val (.ref b), .val (.int (2 : Int32)), .val (.int w)] [])) (fun t_ k_ => XS.icmpNo X0.here hx rfl (hb hby d4_36) rfl (teq (rfl : (((w.toUInt32 >>> ((8 : Int32) &&& 31).toUInt32).toInt32).toInt8.toInt32) = (((w.toUInt32 >>> ((8 : Int32) &&& 31).toUInt32).toInt32).toInt8.toInt32))).2 k_) ?_
    refine own_st (S' := s₁.setTop (mkF m 40 #[.val (.ref b), .val (.int (2 : Int32)), .val (.int w)] [(.int (2 : Int32))])) (fun t_ k_ => XS.iloadN X0.here hx rfl (hb hby d4_39) rfl k_) ?_
    refine own_st (S' := s₁.setTop (mkF m 41 #[.val (.ref b), .val (.int (2 : Int32)), .val (.int w)] [(.int (3 : Int32)), (.int (2 : Int32))])) (fun t_ k_ => XS.iconst X0.here hx rfl (hb hby d4_40) k_) ?_
    refine own_st (S' := s₁.setTop (mkF m 55 #[.val (.ref b), .val (.int (2 : Int32)), .val (.int w)] [])) (fun t_ k_ => XS.icmpYes X0.here hx rfl (pc0 := 41) (pc' := 55) rfl (hb hby d4_41) rfl (tlt (by decide : (2 : Int32) < (3 : Int32))).1 (by decide) (by decide) k_) ?_
    refine own_st (S' := s₁.setTop (mkF m 56 #[.val (.ref b), .val (.int (2 : Int32)), .val (.int w)] [(.int (1 : Int32))])) (fun t_ k_ => XS.iconst X0.here hx rfl (hb hby d4_55) k_) ?_
    refine own_st (S' := s₁.setTop (mkF m 60 #[.val (.ref b), .val (.int (2 : Int32)), .val (.int w)] [(.int (1 : Int32))])) (fun t_ k_ => XS.goto X0.here hx rfl (pc0 := 56) (pc' := 60) rfl (hb hby d4_56) (by decide) (by decide) k_) ?_
    obtain ⟨fs, hr, hrun, hended, hW, hsame⟩ := X0.leave (v := some (.int (1 : Int32))) (fun h => by rw [Bd.returns] at h; cases h)
    refine ⟨_, _, retN X0 hx (t := .boolean) Bd.returns (by simp) (hb hby d4_60) hr, hrun, hended, _, _, rfl, ?_, ⟨_, rfl⟩, hW, hsame.mono (by decide) (by decide)⟩
    show Q4 Z b n w k h0 n0 _ s₁.heap _
    rw [e0]
    exact ⟨rfl, N0, rfl⟩
  · refine own_cast (S' := s₁.setTop (mkF m 0 #[.val (.ref b), .val (.int (3 : Int32)), .val (.int w)] [])) (by rw [hq]) ?_
    have P0q : Arv Z h0 b k .byte (3 : Int32) [(.int (w.toInt8.toInt32)), (.int (((w.toUInt32 >>> ((8 : Int32) &&& 31).toUInt32).toInt32).toInt8.toInt32)), (.int (((w.toUInt32 >>> ((16 : Int32) &&& 31).toUInt32).toInt32).toInt8.toInt32))] (.int (0 : Int32)) := own_from hq rfl P0
    refine own_st (S' := s₁.setTop (mkF m 1 #[.val (.ref b), .val (.int (3 : Int32)), .val (.int w)] [(.ref b)])) (fun t_ k_ => XS.aloadN X0.here hx rfl (hb hby d4_0) rfl rfl k_) ?_
    refine own_st (S' := s₁.setTop (mkF m 4 #[.val (.ref b), .val (.int (3 : Int32)), .val (.int w)] [])) (fun t_ k_ => XS.ifnullNo X0.here hx rfl (hb hby d4_1) rfl k_) ?_
    refine own_st (S' := s₁.setTop (mkF m 5 #[.val (.ref b), .val (.int (3 : Int32)), .val (.int w)] [(.ref b)])) (fun t_ k_ => XS.aloadN X0.here hx rfl (hb hby d4_4) rfl rfl k_) ?_
    obtain ⟨cl_7, Ar_7, q_7, S_7, M_7, H_7, G_7⟩ := id P0q
    refine own_st (S' := s₁.setTop (mkF m 6 #[.val (.ref b), .val (.int (3 : Int32)), .val (.int w)] [(.int (3 : Int32))])) (fun t_ k_ => X0.arraylength hx (by rw [e0]; exact Ar_7.1) (State.isArrayOf_alike hZ.alike Ar_7.2.1) (g := (mkF m 5 #[.val (.ref b), .val (.int (3 : Int32)), .val (.int w)] [(.ref b)])) rfl rfl (hb hby d4_5) _ (by rw [len_of S_7 M_7]; exact k_)) ?_
    refine own_st (S' := s₁.setTop (mkF m 7 #[.val (.ref b), .val (.int (3 : Int32)), .val (.int w)] [(.int (3 : Int32)), (.int (3 : Int32))])) (fun t_ k_ => XS.iloadN X0.here hx rfl (hb hby d4_6) rfl k_) ?_
    refine own_st (S' := s₁.setTop (mkF m 10 #[.val (.ref b), .val (.int (3 : Int32)), .val (.int w)] [])) (fun t_ k_ => XS.icmpNo X0.here hx rfl (hb hby d4_7) rfl (teq (by decide : (3 : Int32) = (3 : Int32))).2 k_) ?_
    refine own_st (S' := s₁.setTop (mkF m 11 #[.val (.ref b), .val (.int (3 : Int32)), .val (.int w)] [(.int (3 : Int32))])) (fun t_ k_ => XS.iloadN X0.here hx rfl (hb hby d4_10) rfl k_) ?_
    refine own_st (S' := s₁.setTop (mkF m 12 #[.val (.ref b), .val (.int (3 : Int32)), .val (.int w)] [(.int (1 : Int32)), (.int (3 : Int32))])) (fun t_ k_ => XS.iconst X0.here hx rfl (hb hby d4_11) k_) ?_
    refine own_st (S' := s₁.setTop (mkF m 15 #[.val (.ref b), .val (.int (3 : Int32)), .val (.int w)] [])) (fun t_ k_ => XS.icmpNo X0.here hx rfl (hb hby d4_12) rfl (flt (by decide : ¬ ((3 : Int32) < (1 : Int32)))).1 k_) ?_
    refine own_st (S' := s₁.setTop (mkF m 16 #[.val (.ref b), .val (.int (3 : Int32)), .val (.int w)] [(.ref b)])) (fun t_ k_ => XS.aloadN X0.here hx rfl (hb hby d4_15) rfl rfl k_) ?_
    refine own_st (S' := s₁.setTop (mkF m 17 #[.val (.ref b), .val (.int (3 : Int32)), .val (.int w)] [(.int (0 : Int32)), (.ref b)])) (fun t_ k_ => XS.iconst X0.here hx rfl (hb hby d4_16) k_) ?_
    obtain ⟨cl_8, Ar_8, q_8, S_8, M_8, H_8, G_8⟩ := id P0q
    have hin_8 : ¬ ((0 : Int32) < 0 ∨ cl_8.slots.size ≤ ((0 : Int32)).toNatClampNeg) := inb_of S_8 ⟨by decide, by decide⟩
    have hat_8 : cl_8.slots[((0 : Int32)).toNatClampNeg]? = some (.int (w.toInt8.toInt32)) := H_8.at hin_8 rfl
    refine own_st (S' := s₁.setTop (mkF m 18 #[.val (.ref b), .val (.int (3 : Int32)), .val (.int w)] [(.int (w.toInt8.toInt32))])) (fun t_ k_ => X0.baloadBytes hx (j := (0 : Int32)) (v := (.int (w.toInt8.toInt32))) (by rw [e0]; exact Ar_8.1) (State.isArrayOf_alike hZ.alike Ar_8.2.1) Ar_8.2.2 hin_8 hat_8 (g := (mkF m 17 #[.val (.ref b), .val (.int (3 : Int32)), .val (.int w)] [(.int (0 : Int32)), (.ref b)])) rfl rfl (hb hby d4_17) _ k_) ?_
    refine own_st (S' := s₁.setTop (mkF m 19 #[.val (.ref b), .val (.int (3 : Int32)), .val (.int w)] [(.int w), (.int (w.toInt8.toInt32))])) (fun t_ k_ => XS.iloadN X0.here hx rfl (hb hby d4_18) rfl k_) ?_
    refine own_st (S' := s₁.setTop (mkF m 20 #[.val (.ref b), .val (.int (3 : Int32)), .val (.int w)] [(.int (w.toInt8.toInt32)), (.int (w.toInt8.toInt32))])) (fun t_ k_ => XS.i2b X0.here hx rfl (hb hby d4_19) rfl k_) ?_
    refine own_st (S' := s₁.setTop (mkF m 23 #[.val (.ref b), .val (.int (3 : Int32)), .val (.int w)] [])) (fun t_ k_ => XS.icmpNo X0.here hx rfl (hb hby d4_20) rfl (teq (rfl : (w.toInt8.toInt32) = (w.toInt8.toInt32))).2 k_) ?_
    refine own_st (S' := s₁.setTop (mkF m 24 #[.val (.ref b), .val (.int (3 : Int32)), .val (.int w)] [(.int (3 : Int32))])) (fun t_ k_ => XS.iloadN X0.here hx rfl (hb hby d4_23) rfl k_) ?_
    refine own_st (S' := s₁.setTop (mkF m 25 #[.val (.ref b), .val (.int (3 : Int32)), .val (.int w)] [(.int (2 : Int32)), (.int (3 : Int32))])) (fun t_ k_ => XS.iconst X0.here hx rfl (hb hby d4_24) k_) ?_
    refine own_st (S' := s₁.setTop (mkF m 28 #[.val (.ref b), .val (.int (3 : Int32)), .val (.int w)] [])) (fun t_ k_ => XS.icmpNo X0.here hx rfl (hb hby d4_25) rfl (flt (by decide : ¬ ((3 : Int32) < (2 : Int32)))).1 k_) ?_
    refine own_st (S' := s₁.setTop (mkF m 29 #[.val (.ref b), .val (.int (3 : Int32)), .val (.int w)] [(.ref b)])) (fun t_ k_ => XS.aloadN X0.here hx rfl (hb hby d4_28) rfl rfl k_) ?_
    refine own_st (S' := s₁.setTop (mkF m 30 #[.val (.ref b), .val (.int (3 : Int32)), .val (.int w)] [(.int (1 : Int32)), (.ref b)])) (fun t_ k_ => XS.iconst X0.here hx rfl (hb hby d4_29) k_) ?_
    obtain ⟨cl_9, Ar_9, q_9, S_9, M_9, H_9, G_9⟩ := id P0q
    have hin_9 : ¬ ((1 : Int32) < 0 ∨ cl_9.slots.size ≤ ((1 : Int32)).toNatClampNeg) := inb_of S_9 ⟨by decide, by decide⟩
    have hat_9 : cl_9.slots[((1 : Int32)).toNatClampNeg]? = some (.int (((w.toUInt32 >>> ((8 : Int32) &&& 31).toUInt32).toInt32).toInt8.toInt32)) := H_9.at hin_9 rfl
    refine own_st (S' := s₁.setTop (mkF m 31 #[.val (.ref b), .val (.int (3 : Int32)), .val (.int w)] [(.int (((w.toUInt32 >>> ((8 : Int32) &&& 31).toUInt32).toInt32).toInt8.toInt32))])) (fun t_ k_ => X0.baloadBytes hx (j := (1 : Int32)) (v := (.int (((w.toUInt32 >>> ((8 : Int32) &&& 31).toUInt32).toInt32).toInt8.toInt32))) (by rw [e0]; exact Ar_9.1) (State.isArrayOf_alike hZ.alike Ar_9.2.1) Ar_9.2.2 hin_9 hat_9 (g := (mkF m 30 #[.val (.ref b), .val (.int (3 : Int32)), .val (.int w)] [(.int (1 : Int32)), (.ref b)])) rfl rfl (hb hby d4_30) _ k_) ?_
    refine own_st (S' := s₁.setTop (mkF m 32 #[.val (.ref b), .val (.int (3 : Int32)), .val (.int w)] [(.int w), (.int (((w.toUInt32 >>> ((8 : Int32) &&& 31).toUInt32).toInt32).toInt8.toInt32))])) (fun t_ k_ => XS.iloadN X0.here hx rfl (hb hby d4_31) rfl k_) ?_
    refine own_st (S' := s₁.setTop (mkF m 34 #[.val (.ref b), .val (.int (3 : Int32)), .val (.int w)] [(.int (8 : Int32)), (.int w), (.int (((w.toUInt32 >>> ((8 : Int32) &&& 31).toUInt32).toInt32).toInt8.toInt32))])) (fun t_ k_ => XS.bipush X0.here hx rfl (hb hby d4_32) k_) ?_
    refine own_st (S' := s₁.setTop (mkF m 35 #[.val (.ref b), .val (.int (3 : Int32)), .val (.int w)] [(.int ((w.toUInt32 >>> ((8 : Int32) &&& 31).toUInt32).toInt32)), (.int (((w.toUInt32 >>> ((8 : Int32) &&& 31).toUInt32).toInt32).toInt8.toInt32))])) (fun t_ k_ => XS.iushr X0.here hx rfl (hb hby d4_34) rfl k_) ?_
    refine own_st (S' := s₁.setTop (mkF m 36 #[.val (.ref b), .val (.int (3 : Int32)), .val (.int w)] [(.int (((w.toUInt32 >>> ((8 : Int32) &&& 31).toUInt32).toInt32).toInt8.toInt32)), (.int (((w.toUInt32 >>> ((8 : Int32) &&& 31).toUInt32).toInt32).toInt8.toInt32))])) (fun t_ k_ => XS.i2b X0.here hx rfl (hb hby d4_35) rfl k_) ?_
    refine own_st (S' := s₁.setTop (mkF m 39 #[.val (.ref b), .val (.int (3 : Int32)), .val (.int w)] [])) (fun t_ k_ => XS.icmpNo X0.here hx rfl (hb hby d4_36) rfl (teq (rfl : (((w.toUInt32 >>> ((8 : Int32) &&& 31).toUInt32).toInt32).toInt8.toInt32) = (((w.toUInt32 >>> ((8 : Int32) &&& 31).toUInt32).toInt32).toInt8.toInt32))).2 k_) ?_
    refine own_st (S' := s₁.setTop (mkF m 40 #[.val (.ref b), .val (.int (3 : Int32)), .val (.int w)] [(.int (3 : Int32))])) (fun t_ k_ => XS.iloadN X0.here hx rfl (hb hby d4_39) rfl k_) ?_
    refine own_st (S' := s₁.setTop (mkF m 41 #[.val (.ref b), .val (.int (3 : Int32)), .val (.int w)] [(.int (3 : Int32)), (.int (3 : Int32))])) (fun t_ k_ => XS.iconst X0.here hx rfl (hb hby d4_40) k_) ?_
    refine own_st (S' := s₁.setTop (mkF m 44 #[.val (.ref b), .val (.int (3 : Int32)), .val (.int w)] [])) (fun t_ k_ => XS.icmpNo X0.here hx rfl (hb hby d4_41) rfl (flt (by decide : ¬ ((3 : Int32) < (3 : Int32)))).1 k_) ?_
    refine own_st (S' := s₁.setTop (mkF m 45 #[.val (.ref b), .val (.int (3 : Int32)), .val (.int w)] [(.ref b)])) (fun t_ k_ => XS.aloadN X0.here hx rfl (hb hby d4_44) rfl rfl k_) ?_
    refine own_st (S' := s₁.setTop (mkF m 46 #[.val (.ref b), .val (.int (3 : Int32)), .val (.int w)] [(.int (2 : Int32)), (.ref b)])) (fun t_ k_ => XS.iconst X0.here hx rfl (hb hby d4_45) k_) ?_
    obtain ⟨cl_10, Ar_10, q_10, S_10, M_10, H_10, G_10⟩ := id P0q
    have hin_10 : ¬ ((2 : Int32) < 0 ∨ cl_10.slots.size ≤ ((2 : Int32)).toNatClampNeg) := inb_of S_10 ⟨by decide, by decide⟩
    have hat_10 : cl_10.slots[((2 : Int32)).toNatClampNeg]? = some (.int (((w.toUInt32 >>> ((16 : Int32) &&& 31).toUInt32).toInt32).toInt8.toInt32)) := H_10.at hin_10 rfl
    refine own_st (S' := s₁.setTop (mkF m 47 #[.val (.ref b), .val (.int (3 : Int32)), .val (.int w)] [(.int (((w.toUInt32 >>> ((16 : Int32) &&& 31).toUInt32).toInt32).toInt8.toInt32))])) (fun t_ k_ => X0.baloadBytes hx (j := (2 : Int32)) (v := (.int (((w.toUInt32 >>> ((16 : Int32) &&& 31).toUInt32).toInt32).toInt8.toInt32))) (by rw [e0]; exact Ar_10.1) (State.isArrayOf_alike hZ.alike Ar_10.2.1) Ar_10.2.2 hin_10 hat_10 (g := (mkF m 46 #[.val (.ref b), .val (.int (3 : Int32)), .val (.int w)] [(.int (2 : Int32)), (.ref b)])) rfl rfl (hb hby d4_46) _ k_) ?_
    refine own_st (S' := s₁.setTop (mkF m 48 #[.val (.ref b), .val (.int (3 : Int32)), .val (.int w)] [(.int w), (.int (((w.toUInt32 >>> ((16 : Int32) &&& 31).toUInt32).toInt32).toInt8.toInt32))])) (fun t_ k_ => XS.iloadN X0.here hx rfl (hb hby d4_47) rfl k_) ?_
    refine own_st (S' := s₁.setTop (mkF m 50 #[.val (.ref b), .val (.int (3 : Int32)), .val (.int w)] [(.int (16 : Int32)), (.int w), (.int (((w.toUInt32 >>> ((16 : Int32) &&& 31).toUInt32).toInt32).toInt8.toInt32))])) (fun t_ k_ => XS.bipush X0.here hx rfl (hb hby d4_48) k_) ?_
    refine own_st (S' := s₁.setTop (mkF m 51 #[.val (.ref b), .val (.int (3 : Int32)), .val (.int w)] [(.int ((w.toUInt32 >>> ((16 : Int32) &&& 31).toUInt32).toInt32)), (.int (((w.toUInt32 >>> ((16 : Int32) &&& 31).toUInt32).toInt32).toInt8.toInt32))])) (fun t_ k_ => XS.iushr X0.here hx rfl (hb hby d4_50) rfl k_) ?_
    refine own_st (S' := s₁.setTop (mkF m 52 #[.val (.ref b), .val (.int (3 : Int32)), .val (.int w)] [(.int (((w.toUInt32 >>> ((16 : Int32) &&& 31).toUInt32).toInt32).toInt8.toInt32)), (.int (((w.toUInt32 >>> ((16 : Int32) &&& 31).toUInt32).toInt32).toInt8.toInt32))])) (fun t_ k_ => XS.i2b X0.here hx rfl (hb hby d4_51) rfl k_) ?_
    refine own_st (S' := s₁.setTop (mkF m 55 #[.val (.ref b), .val (.int (3 : Int32)), .val (.int w)] [])) (fun t_ k_ => XS.icmpNo X0.here hx rfl (hb hby d4_52) rfl (teq (rfl : (((w.toUInt32 >>> ((16 : Int32) &&& 31).toUInt32).toInt32).toInt8.toInt32) = (((w.toUInt32 >>> ((16 : Int32) &&& 31).toUInt32).toInt32).toInt8.toInt32))).2 k_) ?_
    refine own_st (S' := s₁.setTop (mkF m 56 #[.val (.ref b), .val (.int (3 : Int32)), .val (.int w)] [(.int (1 : Int32))])) (fun t_ k_ => XS.iconst X0.here hx rfl (hb hby d4_55) k_) ?_
    refine own_st (S' := s₁.setTop (mkF m 60 #[.val (.ref b), .val (.int (3 : Int32)), .val (.int w)] [(.int (1 : Int32))])) (fun t_ k_ => XS.goto X0.here hx rfl (pc0 := 56) (pc' := 60) rfl (hb hby d4_56) (by decide) (by decide) k_) ?_
    obtain ⟨fs, hr, hrun, hended, hW, hsame⟩ := X0.leave (v := some (.int (1 : Int32))) (fun h => by rw [Bd.returns] at h; cases h)
    refine ⟨_, _, retN X0 hx (t := .boolean) Bd.returns (by simp) (hb hby d4_60) hr, hrun, hended, _, _, rfl, ?_, ⟨_, rfl⟩, hW, hsame.mono (by decide) (by decide)⟩
    show Q4 Z b n w k h0 n0 _ s₁.heap _
    rw [e0]
    exact ⟨rfl, N0, rfl⟩
theorem d5_0 : decode jdk_30_method_1_code 0 = .ok (.aload_n 0, 1) := by decide +kernel
theorem d5_1 : decode jdk_30_method_1_code 1 = .ok (.invokespecial 1, 3) := by decide +kernel
theorem d5_4 : decode jdk_30_method_1_code 4 = .ok (.return_, 1) := by decide +kernel
theorem pn_2 : plainName "java/lang/Record" = true := by first | (simp [plainName, overriddenIn]; done) | decide +kernel
theorem ef_5 (m : MethodId) (a : Addr) : entryFrame m #[(.ref a)] 1 = mkF m 0 #[.val (.ref a)] [] := by first | (simp [entryFrame, mkF, argsToLocals, Value.category]; done) | rfl
def Q5 (Z : State) (a : Addr) (h0 : Heap) (n0 : Nat) (v_ : Option Value) (h_ : Heap) (L_ : List Loc) : Prop := v_ = none ∧ Fr n0 L_ ∧ h_ = h0
set_option maxRecDepth 65536 in
set_option maxHeartbeats 40000000 in
theorem rm5 (l : Launch) (Z : State) (a0 : Array Value) (hw : ∀ d ∈ tables_1, d.before a0 Z = true) (ws : List Jvm.Cond) (a : Addr) (h0 : Heap) (n0 : Nat) (Z0 : n0 ≤ h0.size)  :
    MetFree l (⟨"java/lang/Record", "<init>", "()V"⟩ : MethodName) (head1 (Jvm.Cond.code (⟨"java/lang/Record", "<init>", "()V"⟩ : MethodName) jdk_30_method_1_code 1 none :: ws) ({ frames := 1, cells := 0, slots := 0, locals := 12 } : Room)) (fun ar_ U_ => ar_ = #[(.ref a)] ∧ Z.Warmed39 U_.vm ∧ U_.heap = h0) (fun _ _ _ _ _ => True) (fun _ U_ o_ U2_ => ∃ v_ L_, o_ = .returned v_ ∧ Q5 Z a h0 n0 v_ U2_.heap L_ ∧ FrameEnd U_ o_ U2_ L_ ({ frames := 1, cells := 0, slots := 0, locals := 12 } : Room).cells ({ frames := 1, cells := 0, slots := 0, locals := 12 } : Room).slots) := by
  refine MetFree.of_bodySF (plainFor_of_name pn_2) hisR ?_
  intro p e s m args below meth c s₁ Bd hml0 hP hK
  obtain ⟨rfl, hZ, hh⟩ := hP
  have hx := Bd.exec
  have hby := Bd.bytes
  have hml : c.maxLocals = 1 := hml0
  have hown : s.vm.findClass "java/lang/Record" = some m.cls := findClass_of_methodNamed Bd.named
  have hnm := (name_of_methodNamed Bd.named Bd.method).1
  have X0 : Stand p l e ({ frames := 1, cells := 0, slots := 0, locals := 12 } : Room) s m #[(.ref a)] below meth c s₁ [] 0 0 := Stand.of_body Bd
  have e0 : s₁.heap = h0 := by rw [← hh, Bd.state]; rfl
  have N0 := Fr.nil n0
  refine own_gl ?_
  refine own_st (S' := s₁.setTop (mkF m 0 #[.val (.ref a)] [])) (fun t_ k_ => castTop (ef_5 m a) k_) ?_
  refine own_st (S' := s₁.setTop (mkF m 1 #[.val (.ref a)] [(.ref a)])) (fun t_ k_ => XS.aloadN X0.here hx rfl (hb hby d5_0) rfl rfl k_) ?_
  obtain ⟨T_1, X_1, e_1, st_1⟩ := initO X0 hx hZ hown (hw _ (List.mem_of_getElem? (i := 45) rfl)) (hw _ (List.mem_of_getElem? (i := 12) rfl)) (hw _ (List.mem_of_getElem? (i := 13) rfl)) e0 (g := (mkF m 1 #[.val (.ref a)] [(.ref a)])) rfl (by rw [hml]; rfl) rfl (hb hby d5_1) (by decide) (W := 0) (by show 2 * 0 + _ ≤ _; exact Nat.le_of_eq rfl) (by decide)
  refine own_st (S' := T_1.setTop (mkF m 4 #[.val (.ref a)] [])) st_1 ?_
  obtain ⟨fs, hr, hrun, hended, hW, hsame⟩ := X_1.leave (v := none) (fun _ => rfl)
  refine ⟨_, _, X_1.returnOut hx Bd.returns (hb hby d5_4) hr, hrun, hended, _, _, rfl, ?_, ⟨_, rfl⟩, hW, hsame.mono (by decide) (by decide)⟩
  show Q5 Z a h0 n0 _ T_1.heap _
  rw [e_1]
  exact ⟨rfl, N0, rfl⟩
theorem d6_0 : decode prog_13_method_1_code 0 = .ok (.aload_n 0, 1) := by decide +kernel
theorem d6_1 : decode prog_13_method_1_code 1 = .ok (.invokespecial 1, 3) := by decide +kernel
theorem d6_4 : decode prog_13_method_1_code 4 = .ok (.aload_n 0, 1) := by decide +kernel
theorem d6_5 : decode prog_13_method_1_code 5 = .ok (.aload_n 1, 1) := by decide +kernel
theorem d6_6 : decode prog_13_method_1_code 6 = .ok (.putfield 7, 3) := by decide +kernel
theorem d6_9 : decode prog_13_method_1_code 9 = .ok (.aload_n 0, 1) := by decide +kernel
theorem d6_10 : decode prog_13_method_1_code 10 = .ok (.aload_n 2, 1) := by decide +kernel
theorem d6_11 : decode prog_13_method_1_code 11 = .ok (.putfield 13, 3) := by decide +kernel
theorem d6_14 : decode prog_13_method_1_code 14 = .ok (.aload_n 0, 1) := by decide +kernel
theorem d6_15 : decode prog_13_method_1_code 15 = .ok (.iload_n 3, 1) := by decide +kernel
theorem d6_16 : decode prog_13_method_1_code 16 = .ok (.putfield 17, 3) := by decide +kernel
theorem d6_19 : decode prog_13_method_1_code 19 = .ok (.aload_n 0, 1) := by decide +kernel
theorem d6_20 : decode prog_13_method_1_code 20 = .ok (.aload 4, 2) := by decide +kernel
theorem d6_22 : decode prog_13_method_1_code 22 = .ok (.putfield 21, 3) := by decide +kernel
theorem d6_25 : decode prog_13_method_1_code 25 = .ok (.aload_n 0, 1) := by decide +kernel
theorem d6_26 : decode prog_13_method_1_code 26 = .ok (.iload 5, 2) := by decide +kernel
theorem d6_28 : decode prog_13_method_1_code 28 = .ok (.putfield 24, 3) := by decide +kernel
theorem d6_31 : decode prog_13_method_1_code 31 = .ok (.return_, 1) := by decide +kernel
theorem pn_3 : plainName "com/example/westmount/westmount/RowRange" = true := by first | (simp [plainName, overriddenIn]; done) | decide +kernel
theorem ef_6 (m : MethodId) (r : Addr) (t : Addr) (b : Addr) (si : Int32) (d : Addr) (so : Int32) : entryFrame m #[(.ref r), (.ref t), (.ref b), (.int si), (.ref d), (.int so)] 6 = mkF m 0 #[.val (.ref r), .val (.ref t), .val (.ref b), .val (.int si), .val (.ref d), .val (.int so)] [] := by first | (simp [entryFrame, mkF, argsToLocals, Value.category]; done) | rfl
theorem pd_1 : parseMethodDescriptor "()V" = some ⟨[], none⟩ := by decide +kernel
def Q6 (Z : State) (r : Addr) (t : Addr) (b : Addr) (si : Int32) (d : Addr) (so : Int32) (h0 : Heap) (n0 : Nat) (v_ : Option Value) (h_ : Heap) (L_ : List Loc) : Prop := v_ = none ∧ Fr n0 L_ ∧ Keep h0 h_ [r] ∧ Exa Z h_ r "com/example/westmount/westmount/RowRange" ∧ Fld Z h_ r "com/example/westmount/westmount/RowRange" "table" "Ljava/lang/String;" (.ref t) ∧ Fld Z h_ r "com/example/westmount/westmount/RowRange" "start" "[B" (.ref b) ∧ Fld Z h_ r "com/example/westmount/westmount/RowRange" "stop" "[B" (.ref d)
set_option maxRecDepth 65536 in
set_option maxHeartbeats 40000000 in
theorem rm6 (l : Launch) (Z : State) (a0 : Array Value) (hw : ∀ d ∈ tables_1, d.before a0 Z = true) (ws : List Jvm.Cond) (r : Addr) (t : Addr) (b : Addr) (si : Int32) (d : Addr) (so : Int32) (h0 : Heap) (n0 : Nat) (Z0 : n0 ≤ h0.size) (P0 : Exa Z h0 r "com/example/westmount/westmount/RowRange") (P1 : Fld Z h0 r "com/example/westmount/westmount/RowRange" "table" "Ljava/lang/String;" .null) (P2 : Fld Z h0 r "com/example/westmount/westmount/RowRange" "start" "[B" .null) (P3 : Fld Z h0 r "com/example/westmount/westmount/RowRange" "startIncluded" "Z" (.int (0 : Int32))) (P4 : Fld Z h0 r "com/example/westmount/westmount/RowRange" "stop" "[B" .null) (P5 : Fld Z h0 r "com/example/westmount/westmount/RowRange" "stopIncluded" "Z" (.int (0 : Int32))) (g_r : n0 ≤ r) :
    MetFree l (⟨"com/example/westmount/westmount/RowRange", "<init>", "(Ljava/lang/String;[BZ[BZ)V"⟩ : MethodName) (head1 (Jvm.Cond.code (⟨"com/example/westmount/westmount/RowRange", "<init>", "(Ljava/lang/String;[BZ[BZ)V"⟩ : MethodName) prog_13_method_1_code 6 none :: ws) ({ frames := 2, cells := 0, slots := 0, locals := 24 } : Room)) (fun ar_ U_ => ar_ = #[(.ref r), (.ref t), (.ref b), (.int si), (.ref d), (.int so)] ∧ Z.Warmed39 U_.vm ∧ U_.heap = h0) (fun _ _ _ _ _ => True) (fun _ U_ o_ U2_ => ∃ v_ L_, o_ = .returned v_ ∧ Q6 Z r t b si d so h0 n0 v_ U2_.heap L_ ∧ FrameEnd U_ o_ U2_ L_ ({ frames := 2, cells := 0, slots := 0, locals := 24 } : Room).cells ({ frames := 2, cells := 0, slots := 0, locals := 24 } : Room).slots) := by
  refine MetFree.of_bodySF (plainFor_of_name pn_3) hisR ?_
  intro p e s m args below meth c s₁ Bd hml0 hP hK
  obtain ⟨rfl, hZ, hh⟩ := hP
  have hx := Bd.exec
  have hby := Bd.bytes
  have hml : c.maxLocals = 6 := hml0
  have hown : s.vm.findClass "com/example/westmount/westmount/RowRange" = some m.cls := findClass_of_methodNamed Bd.named
  have hnm := (name_of_methodNamed Bd.named Bd.method).1
  have X0 : Stand p l e ({ frames := 2, cells := 0, slots := 0, locals := 24 } : Room) s m #[(.ref r), (.ref t), (.ref b), (.int si), (.ref d), (.int so)] below meth c s₁ [] 0 0 := Stand.of_body Bd
  have e0 : s₁.heap = h0 := by rw [← hh, Bd.state]; rfl
  have N0 := Fr.nil n0
  refine own_gl ?_
  refine own_st (S' := s₁.setTop (mkF m 0 #[.val (.ref r), .val (.ref t), .val (.ref b), .val (.int si), .val (.ref d), .val (.int so)] [])) (fun t_ k_ => castTop (ef_6 m r t b si d so) k_) ?_
  refine own_st (S' := s₁.setTop (mkF m 1 #[.val (.ref r), .val (.ref t), .val (.ref b), .val (.int si), .val (.ref d), .val (.int so)] [(.ref r)])) (fun t_ k_ => XS.aloadN X0.here hx rfl (hb hby d6_0) rfl rfl k_) ?_
  obtain ⟨_, _, ⟨T_1, L_1, k_1, n_1⟩, -, X_1, ⟨Lc_1, hQ_1, l_1, y_1, z_1⟩, st_1⟩ := X0.specialBack hx (y := (⟨"java/lang/Record", "<init>", "()V"⟩ : MethodName)) rfl hown (mvT hZ (hw _ (List.mem_of_getElem? (i := 40) rfl))) (mvT hZ (hw _ (List.mem_of_getElem? (i := 41) rfl))) (mvT hZ (hw _ (List.mem_of_getElem? (i := 44) rfl))) (by decide) (backOf (W := 0) (rm5 l Z a0 hw [] r h0 n0 Z0 ) hZ (hw _ (List.mem_of_getElem? (i := 44) rfl)) (hw _ (List.mem_of_getElem? (i := 43) rfl)) (by decide) (by decide)) (g := (mkF m 1 #[.val (.ref r), .val (.ref t), .val (.ref b), .val (.int si), .val (.ref d), .val (.int so)] [(.ref r)])) rfl (by rw [hml]; rfl) (Steps.refl _) (a := r) (argsL := []) (rest := []) (lenOf pd_1 rfl) rfl (by show 2 * 0 + _ ≤ _; exact Nat.le_of_eq rfl) (hb hby d6_1) (fun _ _ => ⟨rfl, e0, (by decide : 0 + 0 ≤ _), (by decide : 0 + 0 ≤ _)⟩)
  dsimp only [Pt.U, Pt.locs, Pt.cells, Pt.slots] at X_1 l_1 y_1 z_1 st_1 hQ_1
  subst l_1 y_1 z_1
  obtain ⟨rfl, M_1, q_1⟩ := hQ_1
  have N_1 := Fr.app N0 M_1
  refine own_st (S' := T_1.setTop (mkF m 4 #[.val (.ref r), .val (.ref t), .val (.ref b), .val (.int si), .val (.ref d), .val (.int so)] [])) (fun t_ k_ => st_1.trans k_) ?_
  refine own_st (S' := T_1.setTop (mkF m 5 #[.val (.ref r), .val (.ref t), .val (.ref b), .val (.int si), .val (.ref d), .val (.int so)] [(.ref r)])) (fun t_ k_ => XS.aloadN X_1.here hx rfl (hb hby d6_4) rfl rfl k_) ?_
  refine own_st (S' := T_1.setTop (mkF m 6 #[.val (.ref r), .val (.ref t), .val (.ref b), .val (.int si), .val (.ref d), .val (.int so)] [(.ref t), (.ref r)])) (fun t_ k_ => XS.aloadN X_1.here hx rfl (hb hby d6_5) rfl rfl k_) ?_
  obtain ⟨T_2, h_2, X_2, e_2, W_2, st_2⟩ := putF X_1 hx hZ hown (host := "") (Or.inl (hw _ (List.mem_of_getElem? (i := 46) rfl))) Via.refl q_1 P1 P0 (Or.inr ⟨(hw _ (List.mem_of_getElem? (i := 47) rfl)), rfl, hnm⟩) (hw _ (List.mem_of_getElem? (i := 35) rfl)) (ty := (.object "java/lang/String")) (by decide) rfl rfl (g := (mkF m 6 #[.val (.ref r), .val (.ref t), .val (.ref b), .val (.int si), .val (.ref d), .val (.int so)] [(.ref t), (.ref r)])) rfl rfl (hb hby d6_6)
  have Z_2 : n0 ≤ h_2.size := Nat.le_trans Z0 (Keep.of_wr W_2).1
  have N_2 := Fr.snoc X_2 N_1 g_r
  have K_2 : Keep h0 h_2 [r] := (Keep.refl h0 [r]).wr W_2 (Or.inl (List.mem_of_getElem? (i := 0) rfl))
  have f_2 : Fld Z h_2 r "com/example/westmount/westmount/RowRange" "table" "Ljava/lang/String;" (.ref t) := Fld.same W_2 P1
  refine own_st (S' := T_2.setTop (mkF m 9 #[.val (.ref r), .val (.ref t), .val (.ref b), .val (.int si), .val (.ref d), .val (.int so)] [])) st_2 ?_
  refine own_st (S' := T_2.setTop (mkF m 10 #[.val (.ref r), .val (.ref t), .val (.ref b), .val (.int si), .val (.ref d), .val (.int so)] [(.ref r)])) (fun t_ k_ => XS.aloadN X_2.here hx rfl (hb hby d6_9) rfl rfl k_) ?_
  refine own_st (S' := T_2.setTop (mkF m 11 #[.val (.ref r), .val (.ref t), .val (.ref b), .val (.int si), .val (.ref d), .val (.int so)] [(.ref b), (.ref r)])) (fun t_ k_ => XS.aloadN X_2.here hx rfl (hb hby d6_10) rfl rfl k_) ?_
  have f_3 : Fld Z h_2 r "com/example/westmount/westmount/RowRange" "start" "[B" .null := (Fld.other W_2 P2 (Or.inr (slot_ne (Or.inr (hw _ (List.mem_of_getElem? (i := 49) rfl))) (Or.inr (hw _ (List.mem_of_getElem? (i := 47) rfl))) (by decide) (t := (.array .byte)) (t' := (.object "java/lang/String")) (by decide) (by decide))))
  have f_4 : Exa Z h_2 r "com/example/westmount/westmount/RowRange" := (Exa.wr W_2 P0)
  obtain ⟨T_5, h_5, X_5, e_5, W_5, st_5⟩ := putF X_2 hx hZ hown (host := "") (Or.inl (hw _ (List.mem_of_getElem? (i := 48) rfl))) Via.refl e_2 f_3 f_4 (Or.inr ⟨(hw _ (List.mem_of_getElem? (i := 49) rfl)), rfl, hnm⟩) (hw _ (List.mem_of_getElem? (i := 35) rfl)) (ty := (.array .byte)) (by decide) rfl rfl (g := (mkF m 11 #[.val (.ref r), .val (.ref t), .val (.ref b), .val (.int si), .val (.ref d), .val (.int so)] [(.ref b), (.ref r)])) rfl rfl (hb hby d6_11)
  have Z_5 : n0 ≤ h_5.size := Nat.le_trans Z_2 (Keep.of_wr W_5).1
  have N_5 := Fr.snoc X_5 N_2 g_r
  have K_5 : Keep h0 h_5 [r] := K_2.wr W_5 (Or.inl (List.mem_of_getElem? (i := 0) rfl))
  have f_5 : Fld Z h_5 r "com/example/westmount/westmount/RowRange" "start" "[B" (.ref b) := Fld.same W_5 f_3
  refine own_st (S' := T_5.setTop (mkF m 14 #[.val (.ref r), .val (.ref t), .val (.ref b), .val (.int si), .val (.ref d), .val (.int so)] [])) st_5 ?_
  refine own_st (S' := T_5.setTop (mkF m 15 #[.val (.ref r), .val (.ref t), .val (.ref b), .val (.int si), .val (.ref d), .val (.int so)] [(.ref r)])) (fun t_ k_ => XS.aloadN X_5.here hx rfl (hb hby d6_14) rfl rfl k_) ?_
  refine own_st (S' := T_5.setTop (mkF m 16 #[.val (.ref r), .val (.ref t), .val (.ref b), .val (.int si), .val (.ref d), .val (.int so)] [(.int si), (.ref r)])) (fun t_ k_ => XS.iloadN X_5.here hx rfl (hb hby d6_15) rfl k_) ?_
  have f_6 : Fld Z h_5 r "com/example/westmount/westmount/RowRange" "startIncluded" "Z" (.int (0 : Int32)) := (Fld.other W_5 (Fld.other W_2 P3 (Or.inr (slot_ne (Or.inr (hw _ (List.mem_of_getElem? (i := 51) rfl))) (Or.inr (hw _ (List.mem_of_getElem? (i := 47) rfl))) (by decide) (t := .boolean) (t' := (.object "java/lang/String")) (by decide) (by decide)))) (Or.inr (slot_ne (Or.inr (hw _ (List.mem_of_getElem? (i := 51) rfl))) (Or.inr (hw _ (List.mem_of_getElem? (i := 49) rfl))) (by decide) (t := .boolean) (t' := (.array .byte)) (by decide) (by decide))))
  have f_7 : Exa Z h_5 r "com/example/westmount/westmount/RowRange" := (Exa.wr W_5 f_4)
  obtain ⟨T_8, h_8, X_8, e_8, W_8, st_8⟩ := putFN X_5 hx hZ hown (hw _ (List.mem_of_getElem? (i := 50) rfl)) Via.refl e_5 f_6 f_7 (Or.inr ⟨(hw _ (List.mem_of_getElem? (i := 51) rfl)), rfl, hnm⟩) (hw _ (List.mem_of_getElem? (i := 35) rfl)) (ty := .boolean) (v' := (.int (nar .boolean si))) (by decide) rfl (fits_nar_bool _) (g := (mkF m 16 #[.val (.ref r), .val (.ref t), .val (.ref b), .val (.int si), .val (.ref d), .val (.int so)] [(.int si), (.ref r)])) rfl rfl (hb hby d6_16)
  have Z_8 : n0 ≤ h_8.size := Nat.le_trans Z_5 (Keep.of_wr W_8).1
  have N_8 := Fr.snoc X_8 N_5 g_r
  have K_8 : Keep h0 h_8 [r] := K_5.wr W_8 (Or.inl (List.mem_of_getElem? (i := 0) rfl))
  have f_8 : Fld Z h_8 r "com/example/westmount/westmount/RowRange" "startIncluded" "Z" (.int (nar .boolean si)) := Fld.same W_8 f_6
  refine own_st (S' := T_8.setTop (mkF m 19 #[.val (.ref r), .val (.ref t), .val (.ref b), .val (.int si), .val (.ref d), .val (.int so)] [])) st_8 ?_
  refine own_st (S' := T_8.setTop (mkF m 20 #[.val (.ref r), .val (.ref t), .val (.ref b), .val (.int si), .val (.ref d), .val (.int so)] [(.ref r)])) (fun t_ k_ => XS.aloadN X_8.here hx rfl (hb hby d6_19) rfl rfl k_) ?_
  refine own_st (S' := T_8.setTop (mkF m 22 #[.val (.ref r), .val (.ref t), .val (.ref b), .val (.int si), .val (.ref d), .val (.int so)] [(.ref d), (.ref r)])) (fun t_ k_ => XS.aload X_8.here hx rfl (hb hby d6_20) rfl rfl k_) ?_
  have f_9 : Fld Z h_8 r "com/example/westmount/westmount/RowRange" "stop" "[B" .null := (Fld.other W_8 (Fld.other W_5 (Fld.other W_2 P4 (Or.inr (slot_ne (Or.inr (hw _ (List.mem_of_getElem? (i := 53) rfl))) (Or.inr (hw _ (List.mem_of_getElem? (i := 47) rfl))) (by decide) (t := (.array .byte)) (t' := (.object "java/lang/String")) (by decide) (by decide)))) (Or.inr (slot_ne (Or.inr (hw _ (List.mem_of_getElem? (i := 53) rfl))) (Or.inr (hw _ (List.mem_of_getElem? (i := 49) rfl))) (by decide) (t := (.array .byte)) (t' := (.array .byte)) (by decide) (by decide)))) (Or.inr (slot_ne (Or.inr (hw _ (List.mem_of_getElem? (i := 53) rfl))) (Or.inr (hw _ (List.mem_of_getElem? (i := 51) rfl))) (by decide) (t := (.array .byte)) (t' := .boolean) (by decide) (by decide))))
  have f_10 : Exa Z h_8 r "com/example/westmount/westmount/RowRange" := (Exa.wr W_8 f_7)
  obtain ⟨T_11, h_11, X_11, e_11, W_11, st_11⟩ := putF X_8 hx hZ hown (host := "") (Or.inl (hw _ (List.mem_of_getElem? (i := 52) rfl))) Via.refl e_8 f_9 f_10 (Or.inr ⟨(hw _ (List.mem_of_getElem? (i := 53) rfl)), rfl, hnm⟩) (hw _ (List.mem_of_getElem? (i := 35) rfl)) (ty := (.array .byte)) (by decide) rfl rfl (g := (mkF m 22 #[.val (.ref r), .val (.ref t), .val (.ref b), .val (.int si), .val (.ref d), .val (.int so)] [(.ref d), (.ref r)])) rfl rfl (hb hby d6_22)
  have Z_11 : n0 ≤ h_11.size := Nat.le_trans Z_8 (Keep.of_wr W_11).1
  have N_11 := Fr.snoc X_11 N_8 g_r
  have K_11 : Keep h0 h_11 [r] := K_8.wr W_11 (Or.inl (List.mem_of_getElem? (i := 0) rfl))
  have f_11 : Fld Z h_11 r "com/example/westmount/westmount/RowRange" "stop" "[B" (.ref d) := Fld.same W_11 f_9
  refine own_st (S' := T_11.setTop (mkF m 25 #[.val (.ref r), .val (.ref t), .val (.ref b), .val (.int si), .val (.ref d), .val (.int so)] [])) st_11 ?_
  refine own_st (S' := T_11.setTop (mkF m 26 #[.val (.ref r), .val (.ref t), .val (.ref b), .val (.int si), .val (.ref d), .val (.int so)] [(.ref r)])) (fun t_ k_ => XS.aloadN X_11.here hx rfl (hb hby d6_25) rfl rfl k_) ?_
  refine own_st (S' := T_11.setTop (mkF m 28 #[.val (.ref r), .val (.ref t), .val (.ref b), .val (.int si), .val (.ref d), .val (.int so)] [(.int so), (.ref r)])) (fun t_ k_ => XS.iload X_11.here hx rfl (hb hby d6_26) rfl k_) ?_
  have f_12 : Fld Z h_11 r "com/example/westmount/westmount/RowRange" "stopIncluded" "Z" (.int (0 : Int32)) := (Fld.other W_11 (Fld.other W_8 (Fld.other W_5 (Fld.other W_2 P5 (Or.inr (slot_ne (Or.inr (hw _ (List.mem_of_getElem? (i := 55) rfl))) (Or.inr (hw _ (List.mem_of_getElem? (i := 47) rfl))) (by decide) (t := .boolean) (t' := (.object "java/lang/String")) (by decide) (by decide)))) (Or.inr (slot_ne (Or.inr (hw _ (List.mem_of_getElem? (i := 55) rfl))) (Or.inr (hw _ (List.mem_of_getElem? (i := 49) rfl))) (by decide) (t := .boolean) (t' := (.array .byte)) (by decide) (by decide)))) (Or.inr (slot_ne (Or.inr (hw _ (List.mem_of_getElem? (i := 55) rfl))) (Or.inr (hw _ (List.mem_of_getElem? (i := 51) rfl))) (by decide) (t := .boolean) (t' := .boolean) (by decide) (by decide)))) (Or.inr (slot_ne (Or.inr (hw _ (List.mem_of_getElem? (i := 55) rfl))) (Or.inr (hw _ (List.mem_of_getElem? (i := 53) rfl))) (by decide) (t := .boolean) (t' := (.array .byte)) (by decide) (by decide))))
  have f_13 : Exa Z h_11 r "com/example/westmount/westmount/RowRange" := (Exa.wr W_11 f_10)
  obtain ⟨T_14, h_14, X_14, e_14, W_14, st_14⟩ := putFN X_11 hx hZ hown (hw _ (List.mem_of_getElem? (i := 54) rfl)) Via.refl e_11 f_12 f_13 (Or.inr ⟨(hw _ (List.mem_of_getElem? (i := 55) rfl)), rfl, hnm⟩) (hw _ (List.mem_of_getElem? (i := 35) rfl)) (ty := .boolean) (v' := (.int (nar .boolean so))) (by decide) rfl (fits_nar_bool _) (g := (mkF m 28 #[.val (.ref r), .val (.ref t), .val (.ref b), .val (.int si), .val (.ref d), .val (.int so)] [(.int so), (.ref r)])) rfl rfl (hb hby d6_28)
  have Z_14 : n0 ≤ h_14.size := Nat.le_trans Z_11 (Keep.of_wr W_14).1
  have N_14 := Fr.snoc X_14 N_11 g_r
  have K_14 : Keep h0 h_14 [r] := K_11.wr W_14 (Or.inl (List.mem_of_getElem? (i := 0) rfl))
  have f_14 : Fld Z h_14 r "com/example/westmount/westmount/RowRange" "stopIncluded" "Z" (.int (nar .boolean so)) := Fld.same W_14 f_12
  refine own_st (S' := T_14.setTop (mkF m 31 #[.val (.ref r), .val (.ref t), .val (.ref b), .val (.int si), .val (.ref d), .val (.int so)] [])) st_14 ?_
  obtain ⟨fs, hr, hrun, hended, hW, hsame⟩ := X_14.leave (v := none) (fun _ => rfl)
  have f_15 : Exa Z h_14 r "com/example/westmount/westmount/RowRange" := (Exa.wr W_14 f_13)
  have f_16 : Fld Z h_14 r "com/example/westmount/westmount/RowRange" "table" "Ljava/lang/String;" (.ref t) := (Fld.other W_14 (Fld.other W_11 (Fld.other W_8 (Fld.other W_5 f_2 (Or.inr (slot_ne (Or.inr (hw _ (List.mem_of_getElem? (i := 47) rfl))) (Or.inr (hw _ (List.mem_of_getElem? (i := 49) rfl))) (by decide) (t := (.object "java/lang/String")) (t' := (.array .byte)) (by decide) (by decide)))) (Or.inr (slot_ne (Or.inr (hw _ (List.mem_of_getElem? (i := 47) rfl))) (Or.inr (hw _ (List.mem_of_getElem? (i := 51) rfl))) (by decide) (t := (.object "java/lang/String")) (t' := .boolean) (by decide) (by decide)))) (Or.inr (slot_ne (Or.inr (hw _ (List.mem_of_getElem? (i := 47) rfl))) (Or.inr (hw _ (List.mem_of_getElem? (i := 53) rfl))) (by decide) (t := (.object "java/lang/String")) (t' := (.array .byte)) (by decide) (by decide)))) (Or.inr (slot_ne (Or.inr (hw _ (List.mem_of_getElem? (i := 47) rfl))) (Or.inr (hw _ (List.mem_of_getElem? (i := 55) rfl))) (by decide) (t := (.object "java/lang/String")) (t' := .boolean) (by decide) (by decide))))
  have f_17 : Fld Z h_14 r "com/example/westmount/westmount/RowRange" "start" "[B" (.ref b) := (Fld.other W_14 (Fld.other W_11 (Fld.other W_8 f_5 (Or.inr (slot_ne (Or.inr (hw _ (List.mem_of_getElem? (i := 49) rfl))) (Or.inr (hw _ (List.mem_of_getElem? (i := 51) rfl))) (by decide) (t := (.array .byte)) (t' := .boolean) (by decide) (by decide)))) (Or.inr (slot_ne (Or.inr (hw _ (List.mem_of_getElem? (i := 49) rfl))) (Or.inr (hw _ (List.mem_of_getElem? (i := 53) rfl))) (by decide) (t := (.array .byte)) (t' := (.array .byte)) (by decide) (by decide)))) (Or.inr (slot_ne (Or.inr (hw _ (List.mem_of_getElem? (i := 49) rfl))) (Or.inr (hw _ (List.mem_of_getElem? (i := 55) rfl))) (by decide) (t := (.array .byte)) (t' := .boolean) (by decide) (by decide))))
  have f_18 : Fld Z h_14 r "com/example/westmount/westmount/RowRange" "stop" "[B" (.ref d) := (Fld.other W_14 f_11 (Or.inr (slot_ne (Or.inr (hw _ (List.mem_of_getElem? (i := 53) rfl))) (Or.inr (hw _ (List.mem_of_getElem? (i := 55) rfl))) (by decide) (t := (.array .byte)) (t' := .boolean) (by decide) (by decide))))
  refine ⟨_, _, X_14.returnOut hx Bd.returns (hb hby d6_31) hr, hrun, hended, _, _, rfl, ?_, ⟨_, rfl⟩, hW, hsame.mono (by decide) (by decide)⟩
  show Q6 Z r t b si d so h0 n0 _ T_14.heap _
  rw [e_14]
  exact ⟨rfl, N_14, K_14, f_15, f_16, f_17, f_18⟩
theorem d7_0 : decode prog_12_method_1_code 0 = .ok (.aload_n 0, 1) := by decide +kernel
theorem d7_1 : decode prog_12_method_1_code 1 = .ok (.invokespecial 1, 3) := by decide +kernel
theorem d7_4 : decode prog_12_method_1_code 4 = .ok (.aload_n 0, 1) := by decide +kernel
theorem d7_5 : decode prog_12_method_1_code 5 = .ok (.aload_n 1, 1) := by decide +kernel
theorem d7_6 : decode prog_12_method_1_code 6 = .ok (.putfield 7, 3) := by decide +kernel
theorem d7_9 : decode prog_12_method_1_code 9 = .ok (.aload_n 0, 1) := by decide +kernel
theorem d7_10 : decode prog_12_method_1_code 10 = .ok (.aload_n 2, 1) := by decide +kernel
theorem d7_11 : decode prog_12_method_1_code 11 = .ok (.putfield 13, 3) := by decide +kernel
theorem d7_14 : decode prog_12_method_1_code 14 = .ok (.return_, 1) := by decide +kernel
theorem pn_4 : plainName "com/example/westmount/westmount/RowKey" = true := by first | (simp [plainName, overriddenIn]; done) | decide +kernel
theorem ef_7 (m : MethodId) (q : Addr) (t : Addr) (b : Addr) : entryFrame m #[(.ref q), (.ref t), (.ref b)] 3 = mkF m 0 #[.val (.ref q), .val (.ref t), .val (.ref b)] [] := by first | (simp [entryFrame, mkF, argsToLocals, Value.category]; done) | rfl
def Q7 (Z : State) (q : Addr) (t : Addr) (b : Addr) (h0 : Heap) (n0 : Nat) (v_ : Option Value) (h_ : Heap) (L_ : List Loc) : Prop := v_ = none ∧ Fr n0 L_ ∧ Keep h0 h_ [q] ∧ Exa Z h_ q "com/example/westmount/westmount/RowKey" ∧ Fld Z h_ q "com/example/westmount/westmount/RowKey" "table" "Ljava/lang/String;" (.ref t) ∧ Fld Z h_ q "com/example/westmount/westmount/RowKey" "row" "[B" (.ref b)
set_option maxRecDepth 65536 in
set_option maxHeartbeats 40000000 in
theorem rm7 (l : Launch) (Z : State) (a0 : Array Value) (hw : ∀ d ∈ tables_1, d.before a0 Z = true) (ws : List Jvm.Cond) (q : Addr) (t : Addr) (b : Addr) (h0 : Heap) (n0 : Nat) (Z0 : n0 ≤ h0.size) (P0 : Exa Z h0 q "com/example/westmount/westmount/RowKey") (P1 : Fld Z h0 q "com/example/westmount/westmount/RowKey" "table" "Ljava/lang/String;" .null) (P2 : Fld Z h0 q "com/example/westmount/westmount/RowKey" "row" "[B" .null) (g_q : n0 ≤ q) :
    MetFree l (⟨"com/example/westmount/westmount/RowKey", "<init>", "(Ljava/lang/String;[B)V"⟩ : MethodName) (head1 (Jvm.Cond.code (⟨"com/example/westmount/westmount/RowKey", "<init>", "(Ljava/lang/String;[B)V"⟩ : MethodName) prog_12_method_1_code 3 none :: ws) ({ frames := 2, cells := 0, slots := 0, locals := 24 } : Room)) (fun ar_ U_ => ar_ = #[(.ref q), (.ref t), (.ref b)] ∧ Z.Warmed39 U_.vm ∧ U_.heap = h0) (fun _ _ _ _ _ => True) (fun _ U_ o_ U2_ => ∃ v_ L_, o_ = .returned v_ ∧ Q7 Z q t b h0 n0 v_ U2_.heap L_ ∧ FrameEnd U_ o_ U2_ L_ ({ frames := 2, cells := 0, slots := 0, locals := 24 } : Room).cells ({ frames := 2, cells := 0, slots := 0, locals := 24 } : Room).slots) := by
  refine MetFree.of_bodySF (plainFor_of_name pn_4) hisR ?_
  intro p e s m args below meth c s₁ Bd hml0 hP hK
  obtain ⟨rfl, hZ, hh⟩ := hP
  have hx := Bd.exec
  have hby := Bd.bytes
  have hml : c.maxLocals = 3 := hml0
  have hown : s.vm.findClass "com/example/westmount/westmount/RowKey" = some m.cls := findClass_of_methodNamed Bd.named
  have hnm := (name_of_methodNamed Bd.named Bd.method).1
  have X0 : Stand p l e ({ frames := 2, cells := 0, slots := 0, locals := 24 } : Room) s m #[(.ref q), (.ref t), (.ref b)] below meth c s₁ [] 0 0 := Stand.of_body Bd
  have e0 : s₁.heap = h0 := by rw [← hh, Bd.state]; rfl
  have N0 := Fr.nil n0
  refine own_gl ?_
  refine own_st (S' := s₁.setTop (mkF m 0 #[.val (.ref q), .val (.ref t), .val (.ref b)] [])) (fun t_ k_ => castTop (ef_7 m q t b) k_) ?_
  refine own_st (S' := s₁.setTop (mkF m 1 #[.val (.ref q), .val (.ref t), .val (.ref b)] [(.ref q)])) (fun t_ k_ => XS.aloadN X0.here hx rfl (hb hby d7_0) rfl rfl k_) ?_
  obtain ⟨_, _, ⟨T_1, L_1, k_1, n_1⟩, -, X_1, ⟨Lc_1, hQ_1, l_1, y_1, z_1⟩, st_1⟩ := X0.specialBack hx (y := (⟨"java/lang/Record", "<init>", "()V"⟩ : MethodName)) rfl hown (mvT hZ (hw _ (List.mem_of_getElem? (i := 67) rfl))) (mvT hZ (hw _ (List.mem_of_getElem? (i := 41) rfl))) (mvT hZ (hw _ (List.mem_of_getElem? (i := 44) rfl))) (by decide) (backOf (W := 0) (rm5 l Z a0 hw [] q h0 n0 Z0 ) hZ (hw _ (List.mem_of_getElem? (i := 44) rfl)) (hw _ (List.mem_of_getElem? (i := 43) rfl)) (by decide) (by decide)) (g := (mkF m 1 #[.val (.ref q), .val (.ref t), .val (.ref b)] [(.ref q)])) rfl (by rw [hml]; rfl) (Steps.refl _) (a := q) (argsL := []) (rest := []) (lenOf pd_1 rfl) rfl (by show 2 * 0 + _ ≤ _; exact Nat.le_of_eq rfl) (hb hby d7_1) (fun _ _ => ⟨rfl, e0, (by decide : 0 + 0 ≤ _), (by decide : 0 + 0 ≤ _)⟩)
  dsimp only [Pt.U, Pt.locs, Pt.cells, Pt.slots] at X_1 l_1 y_1 z_1 st_1 hQ_1
  subst l_1 y_1 z_1
  obtain ⟨rfl, M_1, q_1⟩ := hQ_1
  have N_1 := Fr.app N0 M_1
  refine own_st (S' := T_1.setTop (mkF m 4 #[.val (.ref q), .val (.ref t), .val (.ref b)] [])) (fun t_ k_ => st_1.trans k_) ?_
  refine own_st (S' := T_1.setTop (mkF m 5 #[.val (.ref q), .val (.ref t), .val (.ref b)] [(.ref q)])) (fun t_ k_ => XS.aloadN X_1.here hx rfl (hb hby d7_4) rfl rfl k_) ?_
  refine own_st (S' := T_1.setTop (mkF m 6 #[.val (.ref q), .val (.ref t), .val (.ref b)] [(.ref t), (.ref q)])) (fun t_ k_ => XS.aloadN X_1.here hx rfl (hb hby d7_5) rfl rfl k_) ?_
  obtain ⟨T_2, h_2, X_2, e_2, W_2, st_2⟩ := putF X_1 hx hZ hown (host := "") (Or.inl (hw _ (List.mem_of_getElem? (i := 68) rfl))) Via.refl q_1 P1 P0 (Or.inr ⟨(hw _ (List.mem_of_getElem? (i := 69) rfl)), rfl, hnm⟩) (hw _ (List.mem_of_getElem? (i := 62) rfl)) (ty := (.object "java/lang/String")) (by decide) rfl rfl (g := (mkF m 6 #[.val (.ref q), .val (.ref t), .val (.ref b)] [(.ref t), (.ref q)])) rfl rfl (hb hby d7_6)
  have Z_2 : n0 ≤ h_2.size := Nat.le_trans Z0 (Keep.of_wr W_2).1
  have N_2 := Fr.snoc X_2 N_1 g_q
  have K_2 : Keep h0 h_2 [q] := (Keep.refl h0 [q]).wr W_2 (Or.inl (List.mem_of_getElem? (i := 0) rfl))
  have f_2 : Fld Z h_2 q "com/example/westmount/westmount/RowKey" "table" "Ljava/lang/String;" (.ref t) := Fld.same W_2 P1
  refine own_st (S' := T_2.setTop (mkF m 9 #[.val (.ref q), .val (.ref t), .val (.ref b)] [])) st_2 ?_
  refine own_st (S' := T_2.setTop (mkF m 10 #[.val (.ref q), .val (.ref t), .val (.ref b)] [(.ref q)])) (fun t_ k_ => XS.aloadN X_2.here hx rfl (hb hby d7_9) rfl rfl k_) ?_
  refine own_st (S' := T_2.setTop (mkF m 11 #[.val (.ref q), .val (.ref t), .val (.ref b)] [(.ref b), (.ref q)])) (fun t_ k_ => XS.aloadN X_2.here hx rfl (hb hby d7_10) rfl rfl k_) ?_
  have f_3 : Fld Z h_2 q "com/example/westmount/westmount/RowKey" "row" "[B" .null := (Fld.other W_2 P2 (Or.inr (slot_ne (Or.inr (hw _ (List.mem_of_getElem? (i := 71) rfl))) (Or.inr (hw _ (List.mem_of_getElem? (i := 69) rfl))) (by decide) (t := (.array .byte)) (t' := (.object "java/lang/String")) (by decide) (by decide))))
  have f_4 : Exa Z h_2 q "com/example/westmount/westmount/RowKey" := (Exa.wr W_2 P0)
  obtain ⟨T_5, h_5, X_5, e_5, W_5, st_5⟩ := putF X_2 hx hZ hown (host := "") (Or.inl (hw _ (List.mem_of_getElem? (i := 70) rfl))) Via.refl e_2 f_3 f_4 (Or.inr ⟨(hw _ (List.mem_of_getElem? (i := 71) rfl)), rfl, hnm⟩) (hw _ (List.mem_of_getElem? (i := 62) rfl)) (ty := (.array .byte)) (by decide) rfl rfl (g := (mkF m 11 #[.val (.ref q), .val (.ref t), .val (.ref b)] [(.ref b), (.ref q)])) rfl rfl (hb hby d7_11)
  have Z_5 : n0 ≤ h_5.size := Nat.le_trans Z_2 (Keep.of_wr W_5).1
  have N_5 := Fr.snoc X_5 N_2 g_q
  have K_5 : Keep h0 h_5 [q] := K_2.wr W_5 (Or.inl (List.mem_of_getElem? (i := 0) rfl))
  have f_5 : Fld Z h_5 q "com/example/westmount/westmount/RowKey" "row" "[B" (.ref b) := Fld.same W_5 f_3
  refine own_st (S' := T_5.setTop (mkF m 14 #[.val (.ref q), .val (.ref t), .val (.ref b)] [])) st_5 ?_
  obtain ⟨fs, hr, hrun, hended, hW, hsame⟩ := X_5.leave (v := none) (fun _ => rfl)
  have f_6 : Exa Z h_5 q "com/example/westmount/westmount/RowKey" := (Exa.wr W_5 f_4)
  have f_7 : Fld Z h_5 q "com/example/westmount/westmount/RowKey" "table" "Ljava/lang/String;" (.ref t) := (Fld.other W_5 f_2 (Or.inr (slot_ne (Or.inr (hw _ (List.mem_of_getElem? (i := 69) rfl))) (Or.inr (hw _ (List.mem_of_getElem? (i := 71) rfl))) (by decide) (t := (.object "java/lang/String")) (t' := (.array .byte)) (by decide) (by decide))))
  refine ⟨_, _, X_5.returnOut hx Bd.returns (hb hby d7_14) hr, hrun, hended, _, _, rfl, ?_, ⟨_, rfl⟩, hW, hsame.mono (by decide) (by decide)⟩
  show Q7 Z q t b h0 n0 _ T_5.heap _
  rw [e_5]
  exact ⟨rfl, N_5, K_5, f_6, f_7, f_5⟩
theorem d8_0 : decode prog_13_method_2_code 0 = .ok (.new 27, 3) := by decide +kernel
theorem d8_3 : decode prog_13_method_2_code 3 = .ok (.dup, 1) := by decide +kernel
theorem d8_4 : decode prog_13_method_2_code 4 = .ok (.aload_n 0, 1) := by decide +kernel
theorem d8_5 : decode prog_13_method_2_code 5 = .ok (.getfield 7, 3) := by decide +kernel
theorem d8_8 : decode prog_13_method_2_code 8 = .ok (.aload_n 0, 1) := by decide +kernel
theorem d8_9 : decode prog_13_method_2_code 9 = .ok (.getfield 13, 3) := by decide +kernel
theorem d8_12 : decode prog_13_method_2_code 12 = .ok (.invokespecial 29, 3) := by decide +kernel
theorem d8_15 : decode prog_13_method_2_code 15 = .ok (.areturn, 1) := by decide +kernel
theorem ef_8 (m : MethodId) (r : Addr) : entryFrame m #[(.ref r)] 1 = mkF m 0 #[.val (.ref r)] [] := by first | (simp [entryFrame, mkF, argsToLocals, Value.category]; done) | rfl
theorem pd_2 : parseMethodDescriptor "(Ljava/lang/String;[B)V" = some ⟨[(.object "java/lang/String"), (.array .byte)], none⟩ := by decide +kernel
def Q8 (Z : State) (r : Addr) (t : Addr) (b : Addr) (h0 : Heap) (n0 : Nat) (v_ : Option Value) (h_ : Heap) (L_ : List Loc) : Prop := ∃ q : Addr, v_ = some (.ref q) ∧ Fr n0 L_ ∧ Keep h0 h_ [] ∧ h0.size ≤ q ∧ Exa Z h_ q "com/example/westmount/westmount/RowKey" ∧ Fld Z h_ q "com/example/westmount/westmount/RowKey" "table" "Ljava/lang/String;" (.ref t) ∧ Fld Z h_ q "com/example/westmount/westmount/RowKey" "row" "[B" (.ref b)
set_option maxRecDepth 65536 in
set_option maxHeartbeats 40000000 in
theorem rm8 (l : Launch) (Z : State) (a0 : Array Value) (hw : ∀ d ∈ tables_1, d.before a0 Z = true) (ws : List Jvm.Cond) (r : Addr) (t : Addr) (b : Addr) (h0 : Heap) (n0 : Nat) (Z0 : n0 ≤ h0.size) (P0 : Fld Z h0 r "com/example/westmount/westmount/RowRange" "table" "Ljava/lang/String;" (.ref t)) (P1 : Fld Z h0 r "com/example/westmount/westmount/RowRange" "start" "[B" (.ref b)) :
    MetFree l (⟨"com/example/westmount/westmount/RowRange", "first", "()Lcom/example/westmount/westmount/RowKey;"⟩ : MethodName) (head1 (Jvm.Cond.code (⟨"com/example/westmount/westmount/RowRange", "first", "()Lcom/example/westmount/westmount/RowKey;"⟩ : MethodName) prog_13_method_2_code 1 (some (.object "com/example/westmount/westmount/RowKey")) :: ws) ({ frames := 3, cells := 1, slots := 2, locals := 39 } : Room)) (fun ar_ U_ => ar_ = #[(.ref r)] ∧ Z.Warmed39 U_.vm ∧ U_.heap = h0) (fun _ _ _ _ _ => True) (fun _ U_ o_ U2_ => ∃ v_ L_, o_ = .returned v_ ∧ Q8 Z r t b h0 n0 v_ U2_.heap L_ ∧ FrameEnd U_ o_ U2_ L_ ({ frames := 3, cells := 1, slots := 2, locals := 39 } : Room).cells ({ frames := 3, cells := 1, slots := 2, locals := 39 } : Room).slots) := by
  refine MetFree.of_bodySF (plainFor_of_name pn_3) hisR ?_
  intro p e s m args below meth c s₁ Bd hml0 hP hK
  obtain ⟨rfl, hZ, hh⟩ := hP
  have hx := Bd.exec
  have hby := Bd.bytes
  have hml : c.maxLocals = 1 := hml0
  have hown : s.vm.findClass "com/example/westmount/westmount/RowRange" = some m.cls := findClass_of_methodNamed Bd.named
  have hnm := (name_of_methodNamed Bd.named Bd.method).1
  have X0 : Stand p l e ({ frames := 3, cells := 1, slots := 2, locals := 39 } : Room) s m #[(.ref r)] below meth c s₁ [] 0 0 := Stand.of_body Bd
  have e0 : s₁.heap = h0 := by rw [← hh, Bd.state]; rfl
  have N0 := Fr.nil n0
  refine own_gl ?_
  refine own_st (S' := s₁.setTop (mkF m 0 #[.val (.ref r)] [])) (fun t_ k_ => castTop (ef_8 m r) k_) ?_
  obtain ⟨T_1, h_1, X_1, e_1, E_1, A_1, D_1, -, st_1⟩ := newO X0 hx hZ hown (hw _ (List.mem_of_getElem? (i := 61) rfl)) (hw _ (List.mem_of_getElem? (i := 62) rfl)) (hw _ (List.mem_of_getElem? (i := 63) rfl)) e0 (g := (mkF m 0 #[.val (.ref r)] [])) rfl (hb hby d8_0) (by decide) (by decide)
  obtain ⟨b_1, gg_1⟩ : ∃ z, z = h0.size := ⟨_, rfl⟩
  rw [← gg_1] at A_1 D_1 st_1
  have ne_r_b_1 : r ≠ b_1 := Nat.ne_of_lt (Nat.lt_of_lt_of_le P0.lt (Nat.le_of_eq gg_1.symm))
  have g_b_1 : n0 ≤ b_1 := Nat.le_trans Z0 (Nat.le_of_eq gg_1.symm)
  have sz_b_1 : h0.size ≤ b_1 := Nat.le_trans (Keep.refl h0 []).1 (Nat.le_of_eq gg_1.symm)
  have Z_1 : n0 ≤ h_1.size := Nat.le_trans Z0 E_1.1
  have K_1 : Keep h0 h_1 [] := (Keep.refl h0 []).ext E_1
  have F_1_table : Fld Z h_1 b_1 "com/example/westmount/westmount/RowKey" "table" "Ljava/lang/String;" .null := D_1 (Or.inr (hw _ (List.mem_of_getElem? (i := 69) rfl))) (ty := (.object "java/lang/String")) (by decide)
  have F_1_row : Fld Z h_1 b_1 "com/example/westmount/westmount/RowKey" "row" "[B" .null := D_1 (Or.inr (hw _ (List.mem_of_getElem? (i := 71) rfl))) (ty := (.array .byte)) (by decide)
  refine own_st (S' := T_1.setTop (mkF m 3 #[.val (.ref r)] [(.ref b_1)])) st_1 ?_
  refine own_st (S' := T_1.setTop (mkF m 4 #[.val (.ref r)] [(.ref b_1), (.ref b_1)])) (fun t_ k_ => XS.dup X_1.here hx rfl (hb hby d8_3) rfl rfl k_) ?_
  refine own_st (S' := T_1.setTop (mkF m 5 #[.val (.ref r)] [(.ref r), (.ref b_1), (.ref b_1)])) (fun t_ k_ => XS.aloadN X_1.here hx rfl (hb hby d8_4) rfl rfl k_) ?_
  have f_2 : Fld Z h_1 r "com/example/westmount/westmount/RowRange" "table" "Ljava/lang/String;" (.ref t) := (Fld.ext E_1 P0)
  obtain ⟨T_3, X_3, e_3, st_3⟩ := getF X_1 hx hZ hown (host := "") (Or.inl (hw _ (List.mem_of_getElem? (i := 46) rfl))) Via.refl e_1 f_2 (g := (mkF m 5 #[.val (.ref r)] [(.ref r), (.ref b_1), (.ref b_1)])) rfl rfl (hb hby d8_5)
  refine own_st (S' := T_3.setTop (mkF m 8 #[.val (.ref r)] [(.ref t), (.ref b_1), (.ref b_1)])) st_3 ?_
  refine own_st (S' := T_3.setTop (mkF m 9 #[.val (.ref r)] [(.ref r), (.ref t), (.ref b_1), (.ref b_1)])) (fun t_ k_ => XS.aloadN X_3.here hx rfl (hb hby d8_8) rfl rfl k_) ?_
  have f_4 : Fld Z h_1 r "com/example/westmount/westmount/RowRange" "start" "[B" (.ref b) := (Fld.ext E_1 P1)
  obtain ⟨T_5, X_5, e_5, st_5⟩ := getF X_3 hx hZ hown (host := "") (Or.inl (hw _ (List.mem_of_getElem? (i := 48) rfl))) Via.refl e_3 f_4 (g := (mkF m 9 #[.val (.ref r)] [(.ref r), (.ref t), (.ref b_1), (.ref b_1)])) rfl rfl (hb hby d8_9)
  refine own_st (S' := T_5.setTop (mkF m 12 #[.val (.ref r)] [(.ref b), (.ref t), (.ref b_1), (.ref b_1)])) st_5 ?_
  obtain ⟨_, _, ⟨T_6, L_6, k_6, n_6⟩, -, X_6, ⟨Lc_6, hQ_6, l_6, y_6, z_6⟩, st_6⟩ := X_5.specialBack hx (y := (⟨"com/example/westmount/westmount/RowKey", "<init>", "(Ljava/lang/String;[B)V"⟩ : MethodName)) rfl hown (mvT hZ (hw _ (List.mem_of_getElem? (i := 64) rfl))) (mvT hZ (hw _ (List.mem_of_getElem? (i := 65) rfl))) (mvT hZ (hw _ (List.mem_of_getElem? (i := 66) rfl))) (by decide) (backOf (W := 1) (rm7 l Z a0 hw [] b_1 t b h_1 n0 Z_1 A_1 F_1_table F_1_row g_b_1) hZ (hw _ (List.mem_of_getElem? (i := 66) rfl)) (hw _ (List.mem_of_getElem? (i := 63) rfl)) (by decide) (by decide)) (g := (mkF m 12 #[.val (.ref r)] [(.ref b), (.ref t), (.ref b_1), (.ref b_1)])) rfl (by rw [hml]; rfl) (Steps.refl _) (a := b_1) (argsL := [(.ref t), (.ref b)]) (rest := [(.ref b_1)]) (lenOf pd_2 rfl) rfl (by show 2 * 0 + _ ≤ _; exact Nat.le_of_eq rfl) (hb hby d8_12) (fun _ _ => ⟨rfl, e_5, (by decide : 1 + 0 ≤ _), (by decide : 2 + 0 ≤ _)⟩)
  dsimp only [Pt.U, Pt.locs, Pt.cells, Pt.slots] at X_6 l_6 y_6 z_6 st_6 hQ_6
  subst l_6 y_6 z_6
  obtain ⟨rfl, M_6, K_6c, c_6_0, c_6_1, c_6_2⟩ := hQ_6
  have N_6 := Fr.app N0 M_6
  have K_6 : Keep h0 T_6.heap [] := K_1.trans K_6c (allS (Or.inr sz_b_1) all0)
  have Z_6 : n0 ≤ T_6.heap.size := Nat.le_trans Z_1 K_6c.1
  refine own_st (S' := T_6.setTop (mkF m 15 #[.val (.ref r)] [(.ref b_1)])) (fun t_ k_ => st_6.trans k_) ?_
  obtain ⟨fs, hr, hrun, hended, hW, hsame⟩ := X_6.leave (v := some (.ref b_1)) (fun h => by rw [Bd.returns] at h; cases h)
  refine ⟨_, _, own_retR X_6 hx Bd.returns rfl rfl (hb hby d8_15) hr, hrun, hended, _, _, rfl, ?_, ⟨_, rfl⟩, hW, hsame.mono (by decide) (by decide)⟩
  show Q8 Z r t b h0 n0 _ T_6.heap _
  exact ⟨b_1, rfl, N_6, K_6, sz_b_1, c_6_0, c_6_1, c_6_2⟩
theorem d9_0 : decode prog_13_method_3_code 0 = .ok (.aload_n 0, 1) := by decide +kernel
theorem d9_1 : decode prog_13_method_3_code 1 = .ok (.getfield 21, 3) := by decide +kernel
theorem d9_4 : decode prog_13_method_3_code 4 = .ok (.arraylength, 1) := by decide +kernel
theorem d9_5 : decode prog_13_method_3_code 5 = .ok (.ifCond .le 21, 3) := by decide +kernel
theorem d9_8 : decode prog_13_method_3_code 8 = .ok (.new 27, 3) := by decide +kernel
theorem d9_11 : decode prog_13_method_3_code 11 = .ok (.dup, 1) := by decide +kernel
theorem d9_12 : decode prog_13_method_3_code 12 = .ok (.aload_n 0, 1) := by decide +kernel
theorem d9_13 : decode prog_13_method_3_code 13 = .ok (.getfield 7, 3) := by decide +kernel
theorem d9_16 : decode prog_13_method_3_code 16 = .ok (.aload_n 0, 1) := by decide +kernel
theorem d9_17 : decode prog_13_method_3_code 17 = .ok (.getfield 21, 3) := by decide +kernel
theorem d9_20 : decode prog_13_method_3_code 20 = .ok (.invokespecial 29, 3) := by decide +kernel
theorem d9_23 : decode prog_13_method_3_code 23 = .ok (.goto 22, 3) := by decide +kernel
theorem d9_45 : decode prog_13_method_3_code 45 = .ok (.areturn, 1) := by decide +kernel
theorem ef_9 (m : MethodId) (r : Addr) : entryFrame m #[(.ref r)] 1 = mkF m 0 #[.val (.ref r)] [] := by first | (simp [entryFrame, mkF, argsToLocals, Value.category]; done) | rfl
def Q9 (Z : State) (r : Addr) (t : Addr) (b : Addr) (k : ClassId) (n : Int32) (us : List Value) (h0 : Heap) (n0 : Nat) (v_ : Option Value) (h_ : Heap) (L_ : List Loc) : Prop := ∃ q : Addr, v_ = some (.ref q) ∧ Fr n0 L_ ∧ Keep h0 h_ [] ∧ h0.size ≤ q ∧ Exa Z h_ q "com/example/westmount/westmount/RowKey" ∧ Fld Z h_ q "com/example/westmount/westmount/RowKey" "table" "Ljava/lang/String;" (.ref t) ∧ Fld Z h_ q "com/example/westmount/westmount/RowKey" "row" "[B" (.ref b)
set_option maxRecDepth 65536 in
set_option maxHeartbeats 40000000 in
theorem rm9 (l : Launch) (Z : State) (a0 : Array Value) (hw : ∀ d ∈ tables_1, d.before a0 Z = true) (ws : List Jvm.Cond) (r : Addr) (t : Addr) (b : Addr) (k : ClassId) (n : Int32) (us : List Value) (h0 : Heap) (n0 : Nat) (Z0 : n0 ≤ h0.size) (P0 : Fld Z h0 r "com/example/westmount/westmount/RowRange" "table" "Ljava/lang/String;" (.ref t)) (P1 : Fld Z h0 r "com/example/westmount/westmount/RowRange" "stop" "[B" (.ref b)) (P2 : Arv Z h0 b k .byte n us (.int (0 : Int32))) (hpos : (0 : Int32) < n) :
    MetFree l (⟨"com/example/westmount/westmount/RowRange", "last", "()Lcom/example/westmount/westmount/RowKey;"⟩ : MethodName) (head1 (Jvm.Cond.code (⟨"com/example/westmount/westmount/RowRange", "last", "()Lcom/example/westmount/westmount/RowKey;"⟩ : MethodName) prog_13_method_3_code 1 (some (.object "com/example/westmount/westmount/RowKey")) :: ws) ({ frames := 3, cells := 1, slots := 2, locals := 39 } : Room)) (fun ar_ U_ => ar_ = #[(.ref r)] ∧ Z.Warmed39 U_.vm ∧ U_.heap = h0) (fun _ _ _ _ _ => True) (fun _ U_ o_ U2_ => ∃ v_ L_, o_ = .returned v_ ∧ Q9 Z r t b k n us h0 n0 v_ U2_.heap L_ ∧ FrameEnd U_ o_ U2_ L_ ({ frames := 3, cells := 1, slots := 2, locals := 39 } : Room).cells ({ frames := 3, cells := 1, slots := 2, locals := 39 } : Room).slots) := by
  refine MetFree.of_bodySF (plainFor_of_name pn_3) hisR ?_
  intro p e s m args below meth c s₁ Bd hml0 hP hK
  obtain ⟨rfl, hZ, hh⟩ := hP
  have hx := Bd.exec
  have hby := Bd.bytes
  have hml : c.maxLocals = 1 := hml0
  have hown : s.vm.findClass "com/example/westmount/westmount/RowRange" = some m.cls := findClass_of_methodNamed Bd.named
  have hnm := (name_of_methodNamed Bd.named Bd.method).1
  have X0 : Stand p l e ({ frames := 3, cells := 1, slots := 2, locals := 39 } : Room) s m #[(.ref r)] below meth c s₁ [] 0 0 := Stand.of_body Bd
  have e0 : s₁.heap = h0 := by rw [← hh, Bd.state]; rfl
  have N0 := Fr.nil n0
  refine own_gl ?_
  refine own_st (S' := s₁.setTop (mkF m 0 #[.val (.ref r)] [])) (fun t_ k_ => castTop (ef_9 m r) k_) ?_
  refine own_st (S' := s₁.setTop (mkF m 1 #[.val (.ref r)] [(.ref r)])) (fun t_ k_ => XS.aloadN X0.here hx rfl (hb hby d9_0) rfl rfl k_) ?_
  obtain ⟨T_1, X_1, e_1, st_1⟩ := getF X0 hx hZ hown (host := "") (Or.inl (hw _ (List.mem_of_getElem? (i := 52) rfl))) Via.refl e0 P1 (g := (mkF m 1 #[.val (.ref r)] [(.ref r)])) rfl rfl (hb hby d9_1)
  refine own_st (S' := T_1.setTop (mkF m 4 #[.val (.ref r)] [(.ref b)])) st_1 ?_
  obtain ⟨cl_2, Ar_2, q_2, S_2, M_2, H_2, G_2⟩ := id P2
  refine own_st (S' := T_1.setTop (mkF m 5 #[.val (.ref r)] [(.int n)])) (fun t_ k_ => X_1.arraylength hx (by rw [e_1]; exact Ar_2.1) (State.isArrayOf_alike hZ.alike Ar_2.2.1) (g := (mkF m 4 #[.val (.ref r)] [(.ref b)])) rfl rfl (hb hby d9_4) _ (by rw [len_of S_2 M_2]; exact k_)) ?_
  refine own_st (S' := T_1.setTop (mkF m 8 #[.val (.ref r)] [])) (fun t_ k_ => XS.ifNo X_1.here hx rfl (hb hby d9_5) rfl ((if0 _ _).trans (tlt hpos).2.2.2) k_) ?_
  obtain ⟨T_3, h_3, X_3, e_3, E_3, A_3, D_3, -, st_3⟩ := newO X_1 hx hZ hown (hw _ (List.mem_of_getElem? (i := 61) rfl)) (hw _ (List.mem_of_getElem? (i := 62) rfl)) (hw _ (List.mem_of_getElem? (i := 63) rfl)) e_1 (g := (mkF m 8 #[.val (.ref r)] [])) rfl (hb hby d9_8) (by decide) (by decide)
  obtain ⟨b_3, gg_3⟩ : ∃ z, z = h0.size := ⟨_, rfl⟩
  rw [← gg_3] at A_3 D_3 st_3
  have ne_b_b_3 : b ≠ b_3 := Nat.ne_of_lt (Nat.lt_of_lt_of_le P2.lt (Nat.le_of_eq gg_3.symm))
  have ne_r_b_3 : r ≠ b_3 := Nat.ne_of_lt (Nat.lt_of_lt_of_le P0.lt (Nat.le_of_eq gg_3.symm))
  have g_b_3 : n0 ≤ b_3 := Nat.le_trans Z0 (Nat.le_of_eq gg_3.symm)
  have sz_b_3 : h0.size ≤ b_3 := Nat.le_trans (Keep.refl h0 []).1 (Nat.le_of_eq gg_3.symm)
  have Z_3 : n0 ≤ h_3.size := Nat.le_trans Z0 E_3.1
  have K_3 : Keep h0 h_3 [] := (Keep.refl h0 []).ext E_3
  have F_3_table : Fld Z h_3 b_3 "com/example/westmount/westmount/RowKey" "table" "Ljava/lang/String;" .null := D_3 (Or.inr (hw _ (List.mem_of_getElem? (i := 69) rfl))) (ty := (.object "java/lang/String")) (by decide)
  have F_3_row : Fld Z h_3 b_3 "com/example/westmount/westmount/RowKey" "row" "[B" .null := D_3 (Or.inr (hw _ (List.mem_of_getElem? (i := 71) rfl))) (ty := (.array .byte)) (by decide)
  refine own_st (S' := T_3.setTop (mkF m 11 #[.val (.ref r)] [(.ref b_3)])) st_3 ?_
  refine own_st (S' := T_3.setTop (mkF m 12 #[.val (.ref r)] [(.ref b_3), (.ref b_3)])) (fun t_ k_ => XS.dup X_3.here hx rfl (hb hby d9_11) rfl rfl k_) ?_
  refine own_st (S' := T_3.setTop (mkF m 13 #[.val (.ref r)] [(.ref r), (.ref b_3), (.ref b_3)])) (fun t_ k_ => XS.aloadN X_3.here hx rfl (hb hby d9_12) rfl rfl k_) ?_
  have f_4 : Fld Z h_3 r "com/example/westmount/westmount/RowRange" "table" "Ljava/lang/String;" (.ref t) := (Fld.ext E_3 P0)
  obtain ⟨T_5, X_5, e_5, st_5⟩ := getF X_3 hx hZ hown (host := "") (Or.inl (hw _ (List.mem_of_getElem? (i := 46) rfl))) Via.refl e_3 f_4 (g := (mkF m 13 #[.val (.ref r)] [(.ref r), (.ref b_3), (.ref b_3)])) rfl rfl (hb hby d9_13)
  refine own_st (S' := T_5.setTop (mkF m 16 #[.val (.ref r)] [(.ref t), (.ref b_3), (.ref b_3)])) st_5 ?_
  refine own_st (S' := T_5.setTop (mkF m 17 #[.val (.ref r)] [(.ref r), (.ref t), (.ref b_3), (.ref b_3)])) (fun t_ k_ => XS.aloadN X_5.here hx rfl (hb hby d9_16) rfl rfl k_) ?_
  have f_6 : Fld Z h_3 r "com/example/westmount/westmount/RowRange" "stop" "[B" (.ref b) := (Fld.ext E_3 P1)
  obtain ⟨T_7, X_7, e_7, st_7⟩ := getF X_5 hx hZ hown (host := "") (Or.inl (hw _ (List.mem_of_getElem? (i := 52) rfl))) Via.refl e_5 f_6 (g := (mkF m 17 #[.val (.ref r)] [(.ref r), (.ref t), (.ref b_3), (.ref b_3)])) rfl rfl (hb hby d9_17)
  refine own_st (S' := T_7.setTop (mkF m 20 #[.val (.ref r)] [(.ref b), (.ref t), (.ref b_3), (.ref b_3)])) st_7 ?_
  obtain ⟨_, _, ⟨T_8, L_8, k_8, n_8⟩, -, X_8, ⟨Lc_8, hQ_8, l_8, y_8, z_8⟩, st_8⟩ := X_7.specialBack hx (y := (⟨"com/example/westmount/westmount/RowKey", "<init>", "(Ljava/lang/String;[B)V"⟩ : MethodName)) rfl hown (mvT hZ (hw _ (List.mem_of_getElem? (i := 64) rfl))) (mvT hZ (hw _ (List.mem_of_getElem? (i := 65) rfl))) (mvT hZ (hw _ (List.mem_of_getElem? (i := 66) rfl))) (by decide) (backOf (W := 1) (rm7 l Z a0 hw [] b_3 t b h_3 n0 Z_3 A_3 F_3_table F_3_row g_b_3) hZ (hw _ (List.mem_of_getElem? (i := 66) rfl)) (hw _ (List.mem_of_getElem? (i := 63) rfl)) (by decide) (by decide)) (g := (mkF m 20 #[.val (.ref r)] [(.ref b), (.ref t), (.ref b_3), (.ref b_3)])) rfl (by rw [hml]; rfl) (Steps.refl _) (a := b_3) (argsL := [(.ref t), (.ref b)]) (rest := [(.ref b_3)]) (lenOf pd_2 rfl) rfl (by show 2 * 0 + _ ≤ _; exact Nat.le_of_eq rfl) (hb hby d9_20) (fun _ _ => ⟨rfl, e_7, (by decide : 1 + 0 ≤ _), (by decide : 2 + 0 ≤ _)⟩)
  dsimp only [Pt.U, Pt.locs, Pt.cells, Pt.slots] at X_8 l_8 y_8 z_8 st_8 hQ_8
  subst l_8 y_8 z_8
  obtain ⟨rfl, M_8, K_8c, c_8_0, c_8_1, c_8_2⟩ := hQ_8
  have N_8 := Fr.app N0 M_8
  have K_8 : Keep h0 T_8.heap [] := K_3.trans K_8c (allS (Or.inr sz_b_3) all0)
  have Z_8 : n0 ≤ T_8.heap.size := Nat.le_trans Z_3 K_8c.1
  refine own_st (S' := T_8.setTop (mkF m 23 #[.val (.ref r)] [(.ref b_3)])) (fun t_ k_ => st_8.trans k_) ?_
  refine own_st (S' := T_8.setTop (mkF m 45 #[.val (.ref r)] [(.ref b_3)])) (fun t_ k_ => XS.goto X_8.here hx rfl (pc0 := 23) (pc' := 45) rfl (hb hby d9_23) (by decide) (by decide) k_) ?_
  obtain ⟨fs, hr, hrun, hended, hW, hsame⟩ := X_8.leave (v := some (.ref b_3)) (fun h => by rw [Bd.returns] at h; cases h)
  refine ⟨_, _, own_retR X_8 hx Bd.returns rfl rfl (hb hby d9_45) hr, hrun, hended, _, _, rfl, ?_, ⟨_, rfl⟩, hW, hsame.mono (by decide) (by decide)⟩
  show Q9 Z r t b k n us h0 n0 _ T_8.heap _
  exact ⟨b_3, rfl, N_8, K_8, sz_b_3, c_8_0, c_8_1, c_8_2⟩
theorem d10_0 : decode prog_12_method_7_code 0 = .ok (.aload_n 0, 1) := by decide +kernel
theorem d10_1 : decode prog_12_method_7_code 1 = .ok (.getfield 7, 3) := by decide +kernel
theorem d10_4 : decode prog_12_method_7_code 4 = .ok (.areturn, 1) := by decide +kernel
theorem ef_10 (m : MethodId) (q : Addr) : entryFrame m #[(.ref q)] 1 = mkF m 0 #[.val (.ref q)] [] := by first | (simp [entryFrame, mkF, argsToLocals, Value.category]; done) | rfl
def Q10 (Z : State) (q : Addr) (t : Addr) (h0 : Heap) (n0 : Nat) (v_ : Option Value) (h_ : Heap) (L_ : List Loc) : Prop := v_ = some (.ref t) ∧ Fr n0 L_ ∧ h_ = h0
set_option maxRecDepth 65536 in
set_option maxHeartbeats 40000000 in
theorem rm10 (l : Launch) (Z : State) (a0 : Array Value) (hw : ∀ d ∈ tables_1, d.before a0 Z = true) (ws : List Jvm.Cond) (q : Addr) (t : Addr) (h0 : Heap) (n0 : Nat) (Z0 : n0 ≤ h0.size) (P0 : Fld Z h0 q "com/example/westmount/westmount/RowKey" "table" "Ljava/lang/String;" (.ref t)) :
    MetFree l (⟨"com/example/westmount/westmount/RowKey", "table", "()Ljava/lang/String;"⟩ : MethodName) (head1 (Jvm.Cond.code (⟨"com/example/westmount/westmount/RowKey", "table", "()Ljava/lang/String;"⟩ : MethodName) prog_12_method_7_code 1 (some (.object "java/lang/String")) :: ws) ({ frames := 0, cells := 0, slots := 0, locals := 0 } : Room)) (fun ar_ U_ => ar_ = #[(.ref q)] ∧ Z.Warmed39 U_.vm ∧ U_.heap = h0) (fun _ _ _ _ _ => True) (fun _ U_ o_ U2_ => ∃ v_ L_, o_ = .returned v_ ∧ Q10 Z q t h0 n0 v_ U2_.heap L_ ∧ FrameEnd U_ o_ U2_ L_ ({ frames := 0, cells := 0, slots := 0, locals := 0 } : Room).cells ({ frames := 0, cells := 0, slots := 0, locals := 0 } : Room).slots) := by
  refine MetFree.of_bodySF (plainFor_of_name pn_4) hisR ?_
  intro p e s m args below meth c s₁ Bd hml0 hP hK
  obtain ⟨rfl, hZ, hh⟩ := hP
  have hx := Bd.exec
  have hby := Bd.bytes
  have hml : c.maxLocals = 1 := hml0
  have hown : s.vm.findClass "com/example/westmount/westmount/RowKey" = some m.cls := findClass_of_methodNamed Bd.named
  have hnm := (name_of_methodNamed Bd.named Bd.method).1
  have X0 : Stand p l e ({ frames := 0, cells := 0, slots := 0, locals := 0 } : Room) s m #[(.ref q)] below meth c s₁ [] 0 0 := Stand.of_body Bd
  have e0 : s₁.heap = h0 := by rw [← hh, Bd.state]; rfl
  have N0 := Fr.nil n0
  refine own_gl ?_
  refine own_st (S' := s₁.setTop (mkF m 0 #[.val (.ref q)] [])) (fun t_ k_ => castTop (ef_10 m q) k_) ?_
  refine own_st (S' := s₁.setTop (mkF m 1 #[.val (.ref q)] [(.ref q)])) (fun t_ k_ => XS.aloadN X0.here hx rfl (hb hby d10_0) rfl rfl k_) ?_
  obtain ⟨T_1, X_1, e_1, st_1⟩ := getF X0 hx hZ hown (host := "") (Or.inl (hw _ (List.mem_of_getElem? (i := 68) rfl))) Via.refl e0 P0 (g := (mkF m 1 #[.val (.ref q)] [(.ref q)])) rfl rfl (hb hby d10_1)
  refine own_st (S' := T_1.setTop (mkF m 4 #[.val (.ref q)] [(.ref t)])) st_1 ?_
  obtain ⟨fs, hr, hrun, hended, hW, hsame⟩ := X_1.leave (v := some (.ref t)) (fun h => by rw [Bd.returns] at h; cases h)
  refine ⟨_, _, own_retR X_1 hx Bd.returns rfl rfl (hb hby d10_4) hr, hrun, hended, _, _, rfl, ?_, ⟨_, rfl⟩, hW, hsame.mono (by decide) (by decide)⟩
  show Q10 Z q t h0 n0 _ T_1.heap _
  rw [e_1]
  exact ⟨rfl, N0, rfl⟩
theorem d11_0 : decode prog_12_method_8_code 0 = .ok (.aload_n 0, 1) := by decide +kernel
theorem d11_1 : decode prog_12_method_8_code 1 = .ok (.getfield 13, 3) := by decide +kernel
theorem d11_4 : decode prog_12_method_8_code 4 = .ok (.areturn, 1) := by decide +kernel
theorem ef_11 (m : MethodId) (q : Addr) : entryFrame m #[(.ref q)] 1 = mkF m 0 #[.val (.ref q)] [] := by first | (simp [entryFrame, mkF, argsToLocals, Value.category]; done) | rfl
def Q11 (Z : State) (q : Addr) (b : Addr) (h0 : Heap) (n0 : Nat) (v_ : Option Value) (h_ : Heap) (L_ : List Loc) : Prop := v_ = some (.ref b) ∧ Fr n0 L_ ∧ h_ = h0
set_option maxRecDepth 65536 in
set_option maxHeartbeats 40000000 in
theorem rm11 (l : Launch) (Z : State) (a0 : Array Value) (hw : ∀ d ∈ tables_1, d.before a0 Z = true) (ws : List Jvm.Cond) (q : Addr) (b : Addr) (h0 : Heap) (n0 : Nat) (Z0 : n0 ≤ h0.size) (P0 : Fld Z h0 q "com/example/westmount/westmount/RowKey" "row" "[B" (.ref b)) :
    MetFree l (⟨"com/example/westmount/westmount/RowKey", "row", "()[B"⟩ : MethodName) (head1 (Jvm.Cond.code (⟨"com/example/westmount/westmount/RowKey", "row", "()[B"⟩ : MethodName) prog_12_method_8_code 1 (some (.array .byte)) :: ws) ({ frames := 0, cells := 0, slots := 0, locals := 0 } : Room)) (fun ar_ U_ => ar_ = #[(.ref q)] ∧ Z.Warmed39 U_.vm ∧ U_.heap = h0) (fun _ _ _ _ _ => True) (fun _ U_ o_ U2_ => ∃ v_ L_, o_ = .returned v_ ∧ Q11 Z q b h0 n0 v_ U2_.heap L_ ∧ FrameEnd U_ o_ U2_ L_ ({ frames := 0, cells := 0, slots := 0, locals := 0 } : Room).cells ({ frames := 0, cells := 0, slots := 0, locals := 0 } : Room).slots) := by
  refine MetFree.of_bodySF (plainFor_of_name pn_4) hisR ?_
  intro p e s m args below meth c s₁ Bd hml0 hP hK
  obtain ⟨rfl, hZ, hh⟩ := hP
  have hx := Bd.exec
  have hby := Bd.bytes
  have hml : c.maxLocals = 1 := hml0
  have hown : s.vm.findClass "com/example/westmount/westmount/RowKey" = some m.cls := findClass_of_methodNamed Bd.named
  have hnm := (name_of_methodNamed Bd.named Bd.method).1
  have X0 : Stand p l e ({ frames := 0, cells := 0, slots := 0, locals := 0 } : Room) s m #[(.ref q)] below meth c s₁ [] 0 0 := Stand.of_body Bd
  have e0 : s₁.heap = h0 := by rw [← hh, Bd.state]; rfl
  have N0 := Fr.nil n0
  refine own_gl ?_
  refine own_st (S' := s₁.setTop (mkF m 0 #[.val (.ref q)] [])) (fun t_ k_ => castTop (ef_11 m q) k_) ?_
  refine own_st (S' := s₁.setTop (mkF m 1 #[.val (.ref q)] [(.ref q)])) (fun t_ k_ => XS.aloadN X0.here hx rfl (hb hby d11_0) rfl rfl k_) ?_
  obtain ⟨T_1, X_1, e_1, st_1⟩ := getF X0 hx hZ hown (host := "") (Or.inl (hw _ (List.mem_of_getElem? (i := 70) rfl))) Via.refl e0 P0 (g := (mkF m 1 #[.val (.ref q)] [(.ref q)])) rfl rfl (hb hby d11_1)
  refine own_st (S' := T_1.setTop (mkF m 4 #[.val (.ref q)] [(.ref b)])) st_1 ?_
  obtain ⟨fs, hr, hrun, hended, hW, hsame⟩ := X_1.leave (v := some (.ref b)) (fun h => by rw [Bd.returns] at h; cases h)
  refine ⟨_, _, own_retR X_1 hx Bd.returns rfl rfl (hb hby d11_4) hr, hrun, hended, _, _, rfl, ?_, ⟨_, rfl⟩, hW, hsame.mono (by decide) (by decide)⟩
  show Q11 Z q b h0 n0 _ T_1.heap _
  rw [e_1]
  exact ⟨rfl, N0, rfl⟩
theorem d12_0 : decode jdk_42_method_66_code 0 = .ok (.aload_n 0, 1) := by decide +kernel
theorem d12_1 : decode jdk_42_method_66_code 1 = .ok (.aload_n 1, 1) := by decide +kernel
theorem d12_2 : decode jdk_42_method_66_code 2 = .ok (.if_acmp .ne 5, 3) := by decide +kernel
theorem d12_5 : decode jdk_42_method_66_code 5 = .ok (.iconst 1, 1) := by decide +kernel
theorem d12_6 : decode jdk_42_method_66_code 6 = .ok (.ireturn, 1) := by decide +kernel
theorem ef_12 (m : MethodId) (a : Addr) (o : Addr) : entryFrame m #[(.ref a), (.ref o)] 3 = mkF m 0 #[.val (.ref a), .val (.ref o), .unset] [] := by first | (simp [entryFrame, mkF, argsToLocals, Value.category]; done) | rfl
def Q12 (Z : State) (a : Addr) (o : Addr) (h0 : Heap) (n0 : Nat) (v_ : Option Value) (h_ : Heap) (L_ : List Loc) : Prop := v_ = some (.int (1 : Int32)) ∧ Fr n0 L_ ∧ h_ = h0
set_option maxRecDepth 65536 in
set_option maxHeartbeats 40000000 in
theorem rm12 (l : Launch) (Z : State) (a0 : Array Value) (hw : ∀ d ∈ tables_1, d.before a0 Z = true) (ws : List Jvm.Cond) (a : Addr) (o : Addr) (h0 : Heap) (n0 : Nat) (Z0 : n0 ≤ h0.size) (hao : o = a) :
    MetFree l (⟨"java/lang/String", "equals", "(Ljava/lang/Object;)Z"⟩ : MethodName) (head1 (Jvm.Cond.code (⟨"java/lang/String", "equals", "(Ljava/lang/Object;)Z"⟩ : MethodName) jdk_42_method_66_code 3 (some .boolean) :: ws) ({ frames := 0, cells := 0, slots := 0, locals := 0 } : Room)) (fun ar_ U_ => ar_ = #[(.ref a), (.ref o)] ∧ Z.Warmed39 U_.vm ∧ U_.heap = h0) (fun _ _ _ _ _ => True) (fun _ U_ o_ U2_ => ∃ v_ L_, o_ = .returned v_ ∧ Q12 Z a o h0 n0 v_ U2_.heap L_ ∧ FrameEnd U_ o_ U2_ L_ ({ frames := 0, cells := 0, slots := 0, locals := 0 } : Room).cells ({ frames := 0, cells := 0, slots := 0, locals := 0 } : Room).slots) := by
  refine MetFree.of_bodySF (plainFor_of_name pn_0) hisR ?_
  intro p e s m args below meth c s₁ Bd hml0 hP hK
  obtain ⟨rfl, hZ, hh⟩ := hP
  have hx := Bd.exec
  have hby := Bd.bytes
  have hml : c.maxLocals = 3 := hml0
  have hown : s.vm.findClass "java/lang/String" = some m.cls := findClass_of_methodNamed Bd.named
  have hnm := (name_of_methodNamed Bd.named Bd.method).1
  have X0 : Stand p l e ({ frames := 0, cells := 0, slots := 0, locals := 0 } : Room) s m #[(.ref a), (.ref o)] below meth c s₁ [] 0 0 := Stand.of_body Bd
  have e0 : s₁.heap = h0 := by rw [← hh, Bd.state]; rfl
  have N0 := Fr.nil n0
  refine own_gl ?_
  refine own_st (S' := s₁.setTop (mkF m 0 #[.val (.ref a), .val (.ref o), .unset] [])) (fun t_ k_ => castTop (ef_12 m a o) k_) ?_
  refine own_cast (S' := s₁.setTop (mkF m 0 #[.val (.ref a), .val (.ref a), .unset] [])) (by rw [hao]) ?_
  refine own_st (S' := s₁.setTop (mkF m 1 #[.val (.ref a), .val (.ref a), .unset] [(.ref a)])) (fun t_ k_ => XS.aloadN X0.here hx rfl (hb hby d12_0) rfl rfl k_) ?_
  refine own_st (S' := s₁.setTop (mkF m 2 #[.val (.ref a), .val (.ref a), .unset] [(.ref a), (.ref a)])) (fun t_ k_ => XS.aloadN X0.here hx rfl (hb hby d12_1) rfl rfl k_) ?_
  refine own_st (S' := s₁.setTop (mkF m 5 #[.val (.ref a), .val (.ref a), .unset] [])) (fun t_ k_ => Jvm.RoadKit.acmp (g := (mkF m 2 #[.val (.ref a), .val (.ref a), .unset] [(.ref a), (.ref a)])) X0 hx rfl rfl rfl (pc0 := 2) (pc' := 5) (same := true) rfl (hb hby d12_2) rfl (decide_eq_true rfl) (by decide) (by decide) k_) ?_
  refine own_st (S' := s₁.setTop (mkF m 6 #[.val (.ref a), .val (.ref a), .unset] [(.int (1 : Int32))])) (fun t_ k_ => XS.iconst X0.here hx rfl (hb hby d12_5) k_) ?_
  obtain ⟨fs, hr, hrun, hended, hW, hsame⟩ := X0.leave (v := some (.int (1 : Int32))) (fun h => by rw [Bd.returns] at h; cases h)
  refine ⟨_, _, retN X0 hx (t := .boolean) Bd.returns (by simp) (hb hby d12_6) hr, hrun, hended, _, _, rfl, ?_, ⟨_, rfl⟩, hW, hsame.mono (by decide) (by decide)⟩
  show Q12 Z a o h0 n0 _ s₁.heap _
  rw [e0]
  exact ⟨rfl, N0, rfl⟩
theorem d13_0 : decode jdk_48_method_13_code 0 = .ok (.iconst 0, 1) := by decide +kernel
theorem d13_1 : decode jdk_48_method_13_code 1 = .ok (.istore_n 3, 1) := by decide +kernel
theorem d13_2 : decode jdk_48_method_13_code 2 = .ok (.iload_n 2, 1) := by decide +kernel
theorem d13_3 : decode jdk_48_method_13_code 3 = .ok (.bipush 7, 2) := by decide +kernel
theorem d13_5 : decode jdk_48_method_13_code 5 = .ok (.if_icmp .le 44, 3) := by decide +kernel
theorem d13_49 : decode jdk_48_method_13_code 49 = .ok (.iload_n 3, 1) := by decide +kernel
theorem d13_50 : decode jdk_48_method_13_code 50 = .ok (.iload_n 2, 1) := by decide +kernel
theorem d13_51 : decode jdk_48_method_13_code 51 = .ok (.if_icmp .ge 20, 3) := by decide +kernel
theorem d13_54 : decode jdk_48_method_13_code 54 = .ok (.aload_n 0, 1) := by decide +kernel
theorem d13_55 : decode jdk_48_method_13_code 55 = .ok (.iload_n 3, 1) := by decide +kernel
theorem d13_56 : decode jdk_48_method_13_code 56 = .ok (.baload, 1) := by decide +kernel
theorem d13_57 : decode jdk_48_method_13_code 57 = .ok (.aload_n 1, 1) := by decide +kernel
theorem d13_58 : decode jdk_48_method_13_code 58 = .ok (.iload_n 3, 1) := by decide +kernel
theorem d13_59 : decode jdk_48_method_13_code 59 = .ok (.baload, 1) := by decide +kernel
theorem d13_60 : decode jdk_48_method_13_code 60 = .ok (.if_icmp .eq 5, 3) := by decide +kernel
theorem d13_65 : decode jdk_48_method_13_code 65 = .ok (.iinc 3 1, 3) := by decide +kernel
theorem d13_68 : decode jdk_48_method_13_code 68 = .ok (.goto (-19), 3) := by decide +kernel
theorem d13_71 : decode jdk_48_method_13_code 71 = .ok (.iconst (-1), 1) := by decide +kernel
theorem d13_72 : decode jdk_48_method_13_code 72 = .ok (.ireturn, 1) := by decide +kernel
theorem pn_5 : plainName "jdk/internal/util/ArraysSupport" = true := by first | (simp [plainName, overriddenIn]; done) | decide +kernel
theorem ef_13 (m : MethodId) (b : Addr) (d : Addr) (n : Int32) : entryFrame m #[(.ref b), (.ref d), (.int n)] 4 = mkF m 0 #[.val (.ref b), .val (.ref d), .val (.int n), .unset] [] := by first | (simp [entryFrame, mkF, argsToLocals, Value.category]; done) | rfl
def Q13 (Z : State) (b : Addr) (d : Addr) (n : Int32) (k : ClassId) (kd : ClassId) (w : Int32) (h0 : Heap) (n0 : Nat) (v_ : Option Value) (h_ : Heap) (L_ : List Loc) : Prop := v_ = some (.int (-1 : Int32)) ∧ Fr n0 L_ ∧ h_ = h0
set_option maxRecDepth 65536 in
set_option maxHeartbeats 40000000 in
theorem rm13 (l : Launch) (Z : State) (a0 : Array Value) (hw : ∀ d ∈ tables_1, d.before a0 Z = true) (ws : List Jvm.Cond) (b : Addr) (d : Addr) (n : Int32) (k : ClassId) (kd : ClassId) (w : Int32) (h0 : Heap) (n0 : Nat) (Z0 : n0 ≤ h0.size) (P0 : Arv Z h0 b k .byte n (own_bs n w) (.int (0 : Int32))) (P1 : Arv Z h0 d kd .byte n (own_bs n w) (.int (0 : Int32))) (hn : n = (0 : Int32) ∨ n = (1 : Int32) ∨ n = (2 : Int32) ∨ n = (3 : Int32)) :
    MetFree l (⟨"jdk/internal/util/ArraysSupport", "mismatch", "([B[BI)I"⟩ : MethodName) (head1 (Jvm.Cond.code (⟨"jdk/internal/util/ArraysSupport", "mismatch", "([B[BI)I"⟩ : MethodName) jdk_48_method_13_code 4 (some .int) :: ws) ({ frames := 0, cells := 0, slots := 0, locals := 0 } : Room)) (fun ar_ U_ => ar_ = #[(.ref b), (.ref d), (.int n)] ∧ Z.Warmed39 U_.vm ∧ U_.heap = h0) (fun _ _ _ _ _ => True) (fun _ U_ o_ U2_ => ∃ v_ L_, o_ = .returned v_ ∧ Q13 Z b d n k kd w h0 n0 v_ U2_.heap L_ ∧ FrameEnd U_ o_ U2_ L_ ({ frames := 0, cells := 0, slots := 0, locals := 0 } : Room).cells ({ frames := 0, cells := 0, slots := 0, locals := 0 } : Room).slots) := by
  refine MetFree.of_bodySF (plainFor_of_name pn_5) hisR ?_
  intro p e s m args below meth c s₁ Bd hml0 hP hK
  obtain ⟨rfl, hZ, hh⟩ := hP
  have hx := Bd.exec
  have hby := Bd.bytes
  have hml : c.maxLocals = 4 := hml0
  have hown : s.vm.findClass "jdk/internal/util/ArraysSupport" = some m.cls := findClass_of_methodNamed Bd.named
  have hnm := (name_of_methodNamed Bd.named Bd.method).1
  have X0 : Stand p l e ({ frames := 0, cells := 0, slots := 0, locals := 0 } : Room) s m #[(.ref b), (.ref d), (.int n)] below meth c s₁ [] 0 0 := Stand.of_body Bd
  have e0 : s₁.heap = h0 := by rw [← hh, Bd.state]; rfl
  have N0 := Fr.nil n0
  refine own_gl ?_
  refine own_st (S' := s₁.setTop (mkF m 0 #[.val (.ref b), .val (.ref d), .val (.int n), .unset] [])) (fun t_ k_ => castTop (ef_13 m b d n) k_) ?_
  rcases hn with hq | hq | hq | hq
  · refine own_cast (S' := s₁.setTop (mkF m 0 #[.val (.ref b), .val (.ref d), .val (.int (0 : Int32)), .unset] [])) (by rw [hq]) ?_
    have P0q : Arv Z h0 b k .byte (0 : Int32) [] (.int (0 : Int32)) := own_from hq rfl P0
    have P1q : Arv Z h0 d kd .byte (0 : Int32) [] (.int (0 : Int32)) := own_from hq rfl P1
    refine own_st (S' := s₁.setTop (mkF m 1 #[.val (.ref b), .val (.ref d), .val (.int (0 : Int32)), .unset] [(.int (0 : Int32))])) (fun t_ k_ => XS.iconst X0.here hx rfl (hb hby d13_0) k_) ?_
    refine own_st (S' := s₁.setTop (mkF m 2 #[.val (.ref b), .val (.ref d), .val (.int (0 : Int32)), .val (.int (0 : Int32))] [])) (fun t_ k_ => XS.istoreN X0.here hx rfl (hb hby d13_1) rfl (l' := #[.val (.ref b), .val (.ref d), .val (.int (0 : Int32)), .val (.int (0 : Int32))]) rfl k_) ?_
    refine own_st (S' := s₁.setTop (mkF m 3 #[.val (.ref b), .val (.ref d), .val (.int (0 : Int32)), .val (.int (0 : Int32))] [(.int (0 : Int32))])) (fun t_ k_ => XS.iloadN X0.here hx rfl (hb hby d13_2) rfl k_) ?_
    refine own_st (S' := s₁.setTop (mkF m 5 #[.val (.ref b), .val (.ref d), .val (.int (0 : Int32)), .val (.int (0 : Int32))] [(.int (7 : Int32)), (.int (0 : Int32))])) (fun t_ k_ => XS.bipush X0.here hx rfl (hb hby d13_3) k_) ?_
    refine own_st (S' := s₁.setTop (mkF m 49 #[.val (.ref b), .val (.ref d), .val (.int (0 : Int32)), .val (.int (0 : Int32))] [])) (fun t_ k_ => XS.icmpYes X0.here hx rfl (pc0 := 5) (pc' := 49) rfl (hb hby d13_5) rfl (flt (by decide : ¬ ((7 : Int32) < (0 : Int32)))).2.2.2 (by decide) (by decide) k_) ?_
    refine own_st (S' := s₁.setTop (mkF m 50 #[.val (.ref b), .val (.ref d), .val (.int (0 : Int32)), .val (.int (0 : Int32))] [(.int (0 : Int32))])) (fun t_ k_ => XS.iloadN X0.here hx rfl (hb hby d13_49) rfl k_) ?_
    refine own_st (S' := s₁.setTop (mkF m 51 #[.val (.ref b), .val (.ref d), .val (.int (0 : Int32)), .val (.int (0 : Int32))] [(.int (0 : Int32)), (.int (0 : Int32))])) (fun t_ k_ => XS.iloadN X0.here hx rfl (hb hby d13_50) rfl k_) ?_
    refine own_st (S' := s₁.setTop (mkF m 71 #[.val (.ref b), .val (.ref d), .val (.int (0 : Int32)), .val (.int (0 : Int32))] [])) (fun t_ k_ => XS.icmpYes X0.here hx rfl (pc0 := 51) (pc' := 71) rfl (hb hby d13_51) rfl (flt (by decide : ¬ ((0 : Int32) < (0 : Int32)))).2.1 (by decide) (by decide) k_) ?_
    refine own_st (S' := s₁.setTop (mkF m 72 #[.val (.ref b), .val (.ref d), .val (.int (0 : Int32)), .val (.int (0 : Int32))] [(.int (-1 : Int32))])) (fun t_ k_ => XS.iconst X0.here hx rfl (hb hby d13_71) k_) ?_
    obtain ⟨fs, hr, hrun, hended, hW, hsame⟩ := X0.leave (v := some (.int (-1 : Int32))) (fun h => by rw [Bd.returns] at h; cases h)
    refine ⟨_, _, retI X0 hx Bd.returns (hb hby d13_72) hr, hrun, hended, _, _, rfl, ?_, ⟨_, rfl⟩, hW, hsame.mono (by decide) (by decide)⟩
    show Q13 Z b d n k kd w h0 n0 _ s₁.heap _
    rw [e0]
    exact ⟨rfl, N0, rfl⟩
  · refine own_cast (S' := s₁.setTop (mkF m 0 #[.val (.ref b), .val (.ref d), .val (.int (1 : Int32)), .unset] [])) (by rw [hq]) ?_
    have P0q : Arv Z h0 b k .byte (1 : Int32) [(.int (w.toInt8.toInt32))] (.int (0 : Int32)) := own_from hq rfl P0
    have P1q : Arv Z h0 d kd .byte (1 : Int32) [(.int (w.toInt8.toInt32))] (.int (0 : Int32)) := own_from hq rfl P1
    refine own_st (S' := s₁.setTop (mkF m 1 #[.val (.ref b), .val (.ref d), .val (.int (1 : Int32)), .unset] [(.int (0 : Int32))])) (fun t_ k_ => XS.iconst X0.here hx rfl (hb hby d13_0) k_) ?_
    refine own_st (S' := s₁.setTop (mkF m 2 #[.val (.ref b), .val (.ref d), .val (.int (1 : Int32)), .val (.int (0 : Int32))] [])) (fun t_ k_ => XS.istoreN X0.here hx rfl (hb hby d13_1) rfl (l' := #[.val (.ref b), .val (.ref d), .val (.int (1 : Int32)), .val (.int (0 : Int32))]) rfl k_) ?_
    refine own_st (S' := s₁.setTop (mkF m 3 #[.val (.ref b), .val (.ref d), .val (.int (1 : Int32)), .val (.int (0 : Int32))] [(.int (1 : Int32))])) (fun t_ k_ => XS.iloadN X0.here hx rfl (hb hby d13_2) rfl k_) ?_
    refine own_st (S' := s₁.setTop (mkF m 5 #[.val (.ref b), .val (.ref d), .val (.int (1 : Int32)), .val (.int (0 : Int32))] [(.int (7 : Int32)), (.int (1 : Int32))])) (fun t_ k_ => XS.bipush X0.here hx rfl (hb hby d13_3) k_) ?_
    refine own_st (S' := s₁.setTop (mkF m 49 #[.val (.ref b), .val (.ref d), .val (.int (1 : Int32)), .val (.int (0 : Int32))] [])) (fun t_ k_ => XS.icmpYes X0.here hx rfl (pc0 := 5) (pc' := 49) rfl (hb hby d13_5) rfl (flt (by decide : ¬ ((7 : Int32) < (1 : Int32)))).2.2.2 (by decide) (by decide) k_) ?_
    refine own_st (S' := s₁.setTop (mkF m 50 #[.val (.ref b), .val (.ref d), .val (.int (1 : Int32)), .val (.int (0 : Int32))] [(.int (0 : Int32))])) (fun t_ k_ => XS.iloadN X0.here hx rfl (hb hby d13_49) rfl k_) ?_
    refine own_st (S' := s₁.setTop (mkF m 51 #[.val (.ref b), .val (.ref d), .val (.int (1 : Int32)), .val (.int (0 : Int32))] [(.int (1 : Int32)), (.int (0 : Int32))])) (fun t_ k_ => XS.iloadN X0.here hx rfl (hb hby d13_50) rfl k_) ?_
    refine own_st (S' := s₁.setTop (mkF m 54 #[.val (.ref b), .val (.ref d), .val (.int (1 : Int32)), .val (.int (0 : Int32))] [])) (fun t_ k_ => XS.icmpNo X0.here hx rfl (hb hby d13_51) rfl (tlt (by decide : (0 : Int32) < (1 : Int32))).2.1 k_) ?_
    refine own_st (S' := s₁.setTop (mkF m 55 #[.val (.ref b), .val (.ref d), .val (.int (1 : Int32)), .val (.int (0 : Int32))] [(.ref b)])) (fun t_ k_ => XS.aloadN X0.here hx rfl (hb hby d13_54) rfl rfl k_) ?_
    refine own_st (S' := s₁.setTop (mkF m 56 #[.val (.ref b), .val (.ref d), .val (.int (1 : Int32)), .val (.int (0 : Int32))] [(.int (0 : Int32)), (.ref b)])) (fun t_ k_ => XS.iloadN X0.here hx rfl (hb hby d13_55) rfl k_) ?_
    obtain ⟨cl_1, Ar_1, q_1, S_1, M_1, H_1, G_1⟩ := id P0q
    have hin_1 : ¬ ((0 : Int32) < 0 ∨ cl_1.slots.size ≤ ((0 : Int32)).toNatClampNeg) := inb_of S_1 ⟨by decide, by decide⟩
    have hat_1 : cl_1.slots[((0 : Int32)).toNatClampNeg]? = some (.int (w.toInt8.toInt32)) := H_1.at hin_1 rfl
    refine own_st (S' := s₁.setTop (mkF m 57 #[.val (.ref b), .val (.ref d), .val (.int (1 : Int32)), .val (.int (0 : Int32))] [(.int (w.toInt8.toInt32))])) (fun t_ k_ => X0.baloadBytes hx (j := (0 : Int32)) (v := (.int (w.toInt8.toInt32))) (by rw [e0]; exact Ar_1.1) (State.isArrayOf_alike hZ.alike Ar_1.2.1) Ar_1.2.2 hin_1 hat_1 (g := (mkF m 56 #[.val (.ref b), .val (.ref d), .val (.int (1 : Int32)), .val (.int (0 : Int32))] [(.int (0 : Int32)), (.ref b)])) rfl rfl (hb hby d13_56) _ k_) ?_
    refine own_st (S' := s₁.setTop (mkF m 58 #[.val (.ref b), .val (.ref d), .val (.int (1 : Int32)), .val (.int (0 : Int32))] [(.ref d), (.int (w.toInt8.toInt32))])) (fun t_ k_ => XS.aloadN X0.here hx rfl (hb hby d13_57) rfl rfl k_) ?_
    refine own_st (S' := s₁.setTop (mkF m 59 #[.val (.ref b), .val (.ref d), .val (.int (1 : Int32)), .val (.int (0 : Int32))] [(.int (0 : Int32)), (.ref d), (.int (w.toInt8.toInt32))])) (fun t_ k_ => XS.iloadN X0.here hx rfl (hb hby d13_58) rfl k_) ?_
    obtain ⟨cl_2, Ar_2, q_2, S_2, M_2, H_2, G_2⟩ := id P1q
    have hin_2 : ¬ ((0 : Int32) < 0 ∨ cl_2.slots.size ≤ ((0 : Int32)).toNatClampNeg) := inb_of S_2 ⟨by decide, by decide⟩
    have hat_2 : cl_2.slots[((0 : Int32)).toNatClampNeg]? = some (.int (w.toInt8.toInt32)) := H_2.at hin_2 rfl
    refine own_st (S' := s₁.setTop (mkF m 60 #[.val (.ref b), .val (.ref d), .val (.int (1 : Int32)), .val (.int (0 : Int32))] [(.int (w.toInt8.toInt32)), (.int (w.toInt8.toInt32))])) (fun t_ k_ => X0.baloadBytes hx (j := (0 : Int32)) (v := (.int (w.toInt8.toInt32))) (by rw [e0]; exact Ar_2.1) (State.isArrayOf_alike hZ.alike Ar_2.2.1) Ar_2.2.2 hin_2 hat_2 (g := (mkF m 59 #[.val (.ref b), .val (.ref d), .val (.int (1 : Int32)), .val (.int (0 : Int32))] [(.int (0 : Int32)), (.ref d), (.int (w.toInt8.toInt32))])) rfl rfl (hb hby d13_59) _ k_) ?_
    refine own_st (S' := s₁.setTop (mkF m 65 #[.val (.ref b), .val (.ref d), .val (.int (1 : Int32)), .val (.int (0 : Int32))] [])) (fun t_ k_ => XS.icmpYes X0.here hx rfl (pc0 := 60) (pc' := 65) rfl (hb hby d13_60) rfl (teq (rfl : (w.toInt8.toInt32) = (w.toInt8.toInt32))).1 (by decide) (by decide) k_) ?_
    refine own_st (S' := s₁.setTop (mkF m 68 #[.val (.ref b), .val (.ref d), .val (.int (1 : Int32)), .val (.int ((0 : Int32) + (1 : Int32)))] [])) (fun t_ k_ => XS.iinc X0.here hx rfl (hb hby d13_65) rfl (l' := #[.val (.ref b), .val (.ref d), .val (.int (1 : Int32)), .val (.int ((0 : Int32) + (1 : Int32)))]) rfl k_) ?_
    refine own_st (S' := s₁.setTop (mkF m 49 #[.val (.ref b), .val (.ref d), .val (.int (1 : Int32)), .val (.int ((0 : Int32) + (1 : Int32)))] [])) (fun t_ k_ => XS.goto X0.here hx rfl (pc0 := 68) (pc' := 49) rfl (hb hby d13_68) (by decide) (by decide) k_) ?_
    refine own_st (S' := s₁.setTop (mkF m 50 #[.val (.ref b), .val (.ref d), .val (.int (1 : Int32)), .val (.int ((0 : Int32) + (1 : Int32)))] [(.int ((0 : Int32) + (1 : Int32)))])) (fun t_ k_ => XS.iloadN X0.here hx rfl (hb hby d13_49) rfl k_) ?_
    refine own_st (S' := s₁.setTop (mkF m 51 #[.val (.ref b), .val (.ref d), .val (.int (1 : Int32)), .val (.int ((0 : Int32) + (1 : Int32)))] [(.int (1 : Int32)), (.int ((0 : Int32) + (1 : Int32)))])) (fun t_ k_ => XS.iloadN X0.here hx rfl (hb hby d13_50) rfl k_) ?_
    refine own_st (S' := s₁.setTop (mkF m 71 #[.val (.ref b), .val (.ref d), .val (.int (1 : Int32)), .val (.int ((0 : Int32) + (1 : Int32)))] [])) (fun t_ k_ => XS.icmpYes X0.here hx rfl (pc0 := 51) (pc' := 71) rfl (hb hby d13_51) rfl (flt (by decide : ¬ (((0 : Int32) + (1 : Int32)) < (1 : Int32)))).2.1 (by decide) (by decide) k_) ?_
    refine own_st (S' := s₁.setTop (mkF m 72 #[.val (.ref b), .val (.ref d), .val (.int (1 : Int32)), .val (.int ((0 : Int32) + (1 : Int32)))] [(.int (-1 : Int32))])) (fun t_ k_ => XS.iconst X0.here hx rfl (hb hby d13_71) k_) ?_
    obtain ⟨fs, hr, hrun, hended, hW, hsame⟩ := X0.leave (v := some (.int (-1 : Int32))) (fun h => by rw [Bd.returns] at h; cases h)
    refine ⟨_, _, retI X0 hx Bd.returns (hb hby d13_72) hr, hrun, hended, _, _, rfl, ?_, ⟨_, rfl⟩, hW, hsame.mono (by decide) (by decide)⟩
    show Q13 Z b d n k kd w h0 n0 _ s₁.heap _
    rw [e0]
    exact ⟨rfl, N0, rfl⟩
  · refine own_cast (S' := s₁.setTop (mkF m 0 #[.val (.ref b), .val (.ref d), .val (.int (2 : Int32)), .unset] [])) (by rw [hq]) ?_
    have P0q : Arv Z h0 b k .byte (2 : Int32) [(.int (w.toInt8.toInt32)), (.int (((w.toUInt32 >>> ((8 : Int32) &&& 31).toUInt32).toInt32).toInt8.toInt32))] (.int (0 : Int32)) := own_from hq rfl P0
    have P1q : Arv Z h0 d kd .byte (2 : Int32) [(.int (w.toInt8.toInt32)), (.int (((w.toUInt32 >>> ((8 : Int32) &&& 31).toUInt32).toInt32).toInt8.toInt32))] (.int (0 : Int32)) := own_from hq rfl P1
    refine own_st (S' := s₁.setTop (mkF m 1 #[.val (.ref b), .val (.ref d), .val (.int (2 : Int32)), .unset] [(.int (0 : Int32))])) (fun t_ k_ => XS.iconst X0.here hx rfl (hb hby d13_0) k_) ?_
    refine own_st (S' := s₁.setTop (mkF m 2 #[.val (.ref b), .val (.ref d), .val (.int (2 : Int32)), .val (.int (0 : Int32))] [])) (fun t_ k_ => XS.istoreN X0.here hx rfl (hb hby d13_1) rfl (l' := #[.val (.ref b), .val (.ref d), .val (.int (2 : Int32)), .val (.int (0 : Int32))]) rfl k_) ?_
    refine own_st (S' := s₁.setTop (mkF m 3 #[.val (.ref b), .val (.ref d), .val (.int (2 : Int32)), .val (.int (0 : Int32))] [(.int (2 : Int32))])) (fun t_ k_ => XS.iloadN X0.here hx rfl (hb hby d13_2) rfl k_) ?_
    refine own_st (S' := s₁.setTop (mkF m 5 #[.val (.ref b), .val (.ref d), .val (.int (2 : Int32)), .val (.int (0 : Int32))] [(.int (7 : Int32)), (.int (2 : Int32))])) (fun t_ k_ => XS.bipush X0.here hx rfl (hb hby d13_3) k_) ?_
    refine own_st (S' := s₁.setTop (mkF m 49 #[.val (.ref b), .val (.ref d), .val (.int (2 : Int32)), .val (.int (0 : Int32))] [])) (fun t_ k_ => XS.icmpYes X0.here hx rfl (pc0 := 5) (pc' := 49) rfl (hb hby d13_5) rfl (flt (by decide : ¬ ((7 : Int32) < (2 : Int32)))).2.2.2 (by decide) (by decide) k_) ?_
    refine own_st (S' := s₁.setTop (mkF m 50 #[.val (.ref b), .val (.ref d), .val (.int (2 : Int32)), .val (.int (0 : Int32))] [(.int (0 : Int32))])) (fun t_ k_ => XS.iloadN X0.here hx rfl (hb hby d13_49) rfl k_) ?_
    refine own_st (S' := s₁.setTop (mkF m 51 #[.val (.ref b), .val (.ref d), .val (.int (2 : Int32)), .val (.int (0 : Int32))] [(.int (2 : Int32)), (.int (0 : Int32))])) (fun t_ k_ => XS.iloadN X0.here hx rfl (hb hby d13_50) rfl k_) ?_
    refine own_st (S' := s₁.setTop (mkF m 54 #[.val (.ref b), .val (.ref d), .val (.int (2 : Int32)), .val (.int (0 : Int32))] [])) (fun t_ k_ => XS.icmpNo X0.here hx rfl (hb hby d13_51) rfl (tlt (by decide : (0 : Int32) < (2 : Int32))).2.1 k_) ?_
    refine own_st (S' := s₁.setTop (mkF m 55 #[.val (.ref b), .val (.ref d), .val (.int (2 : Int32)), .val (.int (0 : Int32))] [(.ref b)])) (fun t_ k_ => XS.aloadN X0.here hx rfl (hb hby d13_54) rfl rfl k_) ?_
    refine own_st (S' := s₁.setTop (mkF m 56 #[.val (.ref b), .val (.ref d), .val (.int (2 : Int32)), .val (.int (0 : Int32))] [(.int (0 : Int32)), (.ref b)])) (fun t_ k_ => XS.iloadN X0.here hx rfl (hb hby d13_55) rfl k_) ?_
    obtain ⟨cl_3, Ar_3, q_3, S_3, M_3, H_3, G_3⟩ := id P0q
    have hin_3 : ¬ ((0 : Int32) < 0 ∨ cl_3.slots.size ≤ ((0 : Int32)).toNatClampNeg) := inb_of S_3 ⟨by decide, by decide⟩
    have hat_3 : cl_3.slots[((0 : Int32)).toNatClampNeg]? = some (.int (w.toInt8.toInt32)) := H_3.at hin_3 rfl
    refine own_st (S' := s₁.setTop (mkF m 57 #[.val (.ref b), .val (.ref d), .val (.int (2 : Int32)), .val (.int (0 : Int32))] [(.int (w.toInt8.toInt32))])) (fun t_ k_ => X0.baloadBytes hx (j := (0 : Int32)) (v := (.int (w.toInt8.toInt32))) (by rw [e0]; exact Ar_3.1) (State.isArrayOf_alike hZ.alike Ar_3.2.1) Ar_3.2.2 hin_3 hat_3 (g := (mkF m 56 #[.val (.ref b), .val (.ref d), .val (.int (2 : Int32)), .val (.int (0 : Int32))] [(.int (0 : Int32)), (.ref b)])) rfl rfl (hb hby d13_56) _ k_) ?_
    refine own_st (S' := s₁.setTop (mkF m 58 #[.val (.ref b), .val (.ref d), .val (.int (2 : Int32)), .val (.int (0 : Int32))] [(.ref d), (.int (w.toInt8.toInt32))])) (fun t_ k_ => XS.aloadN X0.here hx rfl (hb hby d13_57) rfl rfl k_) ?_
    refine own_st (S' := s₁.setTop (mkF m 59 #[.val (.ref b), .val (.ref d), .val (.int (2 : Int32)), .val (.int (0 : Int32))] [(.int (0 : Int32)), (.ref d), (.int (w.toInt8.toInt32))])) (fun t_ k_ => XS.iloadN X0.here hx rfl (hb hby d13_58) rfl k_) ?_
    obtain ⟨cl_4, Ar_4, q_4, S_4, M_4, H_4, G_4⟩ := id P1q
    have hin_4 : ¬ ((0 : Int32) < 0 ∨ cl_4.slots.size ≤ ((0 : Int32)).toNatClampNeg) := inb_of S_4 ⟨by decide, by decide⟩
    have hat_4 : cl_4.slots[((0 : Int32)).toNatClampNeg]? = some (.int (w.toInt8.toInt32)) := H_4.at hin_4 rfl
    refine own_st (S' := s₁.setTop (mkF m 60 #[.val (.ref b), .val (.ref d), .val (.int (2 : Int32)), .val (.int (0 : Int32))] [(.int (w.toInt8.toInt32)), (.int (w.toInt8.toInt32))])) (fun t_ k_ => X0.baloadBytes hx (j := (0 : Int32)) (v := (.int (w.toInt8.toInt32))) (by rw [e0]; exact Ar_4.1) (State.isArrayOf_alike hZ.alike Ar_4.2.1) Ar_4.2.2 hin_4 hat_4 (g := (mkF m 59 #[.val (.ref b), .val (.ref d), .val (.int (2 : Int32)), .val (.int (0 : Int32))] [(.int (0 : Int32)), (.ref d), (.int (w.toInt8.toInt32))])) rfl rfl (hb hby d13_59) _ k_) ?_
    refine own_st (S' := s₁.setTop (mkF m 65 #[.val (.ref b), .val (.ref d), .val (.int (2 : Int32)), .val (.int (0 : Int32))] [])) (fun t_ k_ => XS.icmpYes X0.here hx rfl (pc0 := 60) (pc' := 65) rfl (hb hby d13_60) rfl (teq (rfl : (w.toInt8.toInt32) = (w.toInt8.toInt32))).1 (by decide) (by decide) k_) ?_
    refine own_st (S' := s₁.setTop (mkF m 68 #[.val (.ref b), .val (.ref d), .val (.int (2 : Int32)), .val (.int ((0 : Int32) + (1 : Int32)))] [])) (fun t_ k_ => XS.iinc X0.here hx rfl (hb hby d13_65) rfl (l' := #[.val (.ref b), .val (.ref d), .val (.int (2 : Int32)), .val (.int ((0 : Int32) + (1 : Int32)))]) rfl k_) ?_
    refine own_st (S' := s₁.setTop (mkF m 49 #[.val (.ref b), .val (.ref d), .val (.int (2 : Int32)), .val (.int ((0 : Int32) + (1 : Int32)))] [])) (fun t_ k_ => XS.goto X0.here hx rfl (pc0 := 68) (pc' := 49) rfl (hb hby d13_68) (by decide) (by decide) k_) ?_
    refine own_st (S' := s₁.setTop (mkF m 50 #[.val (.ref b), .val (.ref d), .val (.int (2 : Int32)), .val (.int ((0 : Int32) + (1 : Int32)))] [(.int ((0 : Int32) + (1 : Int32)))])) (fun t_ k_ => XS.iloadN X0.here hx rfl (hb hby d13_49) rfl k_) ?_
    refine own_st (S' := s₁.setTop (mkF m 51 #[.val (.ref b), .val (.ref d), .val (.int (2 : Int32)), .val (.int ((0 : Int32) + (1 : Int32)))] [(.int (2 : Int32)), (.int ((0 : Int32) + (1 : Int32)))])) (fun t_ k_ => XS.iloadN X0.here hx rfl (hb hby d13_50) rfl k_) ?_
    refine own_st (S' := s₁.setTop (mkF m 54 #[.val (.ref b), .val (.ref d), .val (.int (2 : Int32)), .val (.int ((0 : Int32) + (1 : Int32)))] [])) (fun t_ k_ => XS.icmpNo X0.here hx rfl (hb hby d13_51) rfl (tlt (by decide : ((0 : Int32) + (1 : Int32)) < (2 : Int32))).2.1 k_) ?_
    refine own_st (S' := s₁.setTop (mkF m 55 #[.val (.ref b), .val (.ref d), .val (.int (2 : Int32)), .val (.int ((0 : Int32) + (1 : Int32)))] [(.ref b)])) (fun t_ k_ => XS.aloadN X0.here hx rfl (hb hby d13_54) rfl rfl k_) ?_
    refine own_st (S' := s₁.setTop (mkF m 56 #[.val (.ref b), .val (.ref d), .val (.int (2 : Int32)), .val (.int ((0 : Int32) + (1 : Int32)))] [(.int ((0 : Int32) + (1 : Int32))), (.ref b)])) (fun t_ k_ => XS.iloadN X0.here hx rfl (hb hby d13_55) rfl k_) ?_
    obtain ⟨cl_5, Ar_5, q_5, S_5, M_5, H_5, G_5⟩ := id P0q
    have hin_5 : ¬ (((0 : Int32) + (1 : Int32)) < 0 ∨ cl_5.slots.size ≤ (((0 : Int32) + (1 : Int32))).toNatClampNeg) := inb_of S_5 ⟨by decide, by decide⟩
    have hat_5 : cl_5.slots[(((0 : Int32) + (1 : Int32))).toNatClampNeg]? = some (.int (((w.toUInt32 >>> ((8 : Int32) &&& 31).toUInt32).toInt32).toInt8.toInt32)) := H_5.at hin_5 rfl
    refine own_st (S' := s₁.setTop (mkF m 57 #[.val (.ref b), .val (.ref d), .val (.int (2 : Int32)), .val (.int ((0 : Int32) + (1 : Int32)))] [(.int (((w.toUInt32 >>> ((8 : Int32) &&& 31).toUInt32).toInt32).toInt8.toInt32))])) (fun t_ k_ => X0.baloadBytes hx (j := ((0 : Int32) + (1 : Int32))) (v := (.int (((w.toUInt32 >>> ((8 : Int32) &&& 31).toUInt32).toInt32).toInt8.toInt32))) (by rw [e0]; exact Ar_5.1) (State.isArrayOf_alike hZ.alike Ar_5.2.1) Ar_5.2.2 hin_5 hat_5 (g := (mkF m 56 #[.val (.ref b), .val (.ref d), .val (.int (2 : Int32)), .val (.int ((0 : Int32) + (1 : Int32)))] [(.int ((0 : Int32) + (1 : Int32))), (.ref b)])) rfl rfl (hb hby d13_56) _ k_) ?_
    refine own_st (S' := s₁.setTop (mkF m 58 #[.val (.ref b), .val (.ref d), .val (.int (2 : Int32)), .val (.int ((0 : Int32) + (1 : Int32)))] [(.ref d), (.int (((w.toUInt32 >>> ((8 : Int32) &&& 31).toUInt32).toInt32).toInt8.toInt32))])) (fun t_ k_ => XS.aloadN X0.here hx rfl (hb hby d13_57) rfl rfl k_) ?_
    refine own_st (S' := s₁.setTop (mkF m 59 #[.val (.ref b), .val (.ref d), .val (.int (2 : Int32)), .val (.int ((0 : Int32) + (1 : Int32)))] [(.int ((0 : Int32) + (1 : Int32))), (.ref d), (.int (((w.toUInt32 >>> ((8 : Int32) &&& 31).toUInt32).toInt32).toInt8.toInt32))])) (fun t_ k_ => XS.iloadN X0.here hx rfl (hb hby d13_58) rfl k_) ?_
    obtain ⟨cl_6, Ar_6, q_6, S_6, M_6, H_6, G_6⟩ := id P1q
    have hin_6 : ¬ (((0 : Int32) + (1 : Int32)) < 0 ∨ cl_6.slots.size ≤ (((0 : Int32) + (1 : Int32))).toNatClampNeg) := inb_of S_6 ⟨by decide, by decide⟩
    have hat_6 : cl_6.slots[(((0 : Int32) + (1 : Int32))).toNatClampNeg]? = some (.int (((w.toUInt32 >>> ((8 : Int32) &&& 31).toUInt32).toInt32).toInt8.toInt32)) := H_6.at hin_6 rfl
    refine own_st (S' := s₁.setTop (mkF m 60 #[.val (.ref b), .val (.ref d), .val (.int (2 : Int32)), .val (.int ((0 : Int32) + (1 : Int32)))] [(.int (((w.toUInt32 >>> ((8 : Int32) &&& 31).toUInt32).toInt32).toInt8.toInt32)), (.int (((w.toUInt32 >>> ((8 : Int32) &&& 31).toUInt32).toInt32).toInt8.toInt32))])) (fun t_ k_ => X0.baloadBytes hx (j := ((0 : Int32) + (1 : Int32))) (v := (.int (((w.toUInt32 >>> ((8 : Int32) &&& 31).toUInt32).toInt32).toInt8.toInt32))) (by rw [e0]; exact Ar_6.1) (State.isArrayOf_alike hZ.alike Ar_6.2.1) Ar_6.2.2 hin_6 hat_6 (g := (mkF m 59 #[.val (.ref b), .val (.ref d), .val (.int (2 : Int32)), .val (.int ((0 : Int32) + (1 : Int32)))] [(.int ((0 : Int32) + (1 : Int32))), (.ref d), (.int (((w.toUInt32 >>> ((8 : Int32) &&& 31).toUInt32).toInt32).toInt8.toInt32))])) rfl rfl (hb hby d13_59) _ k_) ?_
    refine own_st (S' := s₁.setTop (mkF m 65 #[.val (.ref b), .val (.ref d), .val (.int (2 : Int32)), .val (.int ((0 : Int32) + (1 : Int32)))] [])) (fun t_ k_ => XS.icmpYes X0.here hx rfl (pc0 := 60) (pc' := 65) rfl (hb hby d13_60) rfl (teq (rfl : (((w.toUInt32 >>> ((8 : Int32) &&& 31).toUInt32).toInt32).toInt8.toInt32) = (((w.toUInt32 >>> ((8 : Int32) &&& 31).toUInt32).toInt32).toInt8.toInt32))).1 (by decide) (by decide) k_) ?_
    refine own_st (S' := s₁.setTop (mkF m 68 #[.val (.ref b), .val (.ref d), .val (.int (2 : Int32)), .val (.int (((0 : Int32) + (1 : Int32)) + (1 : Int32)))] [])) (fun t_ k_ => XS.iinc X0.here hx rfl (hb hby d13_65) rfl (l' := #[.val (.ref b), .val (.ref d), .val (.int (2 : Int32)), .val (.int (((0 : Int32) + (1 : Int32)) + (1 : Int32)))]) rfl k_) ?_
    refine own_st (S' := s₁.setTop (mkF m 49 #[.val (.ref b), .val (.ref d), .val (.int (2 : Int32)), .val (.int (((0 : Int32) + (1 : Int32)) + (1 : Int32)))] [])) (fun t_ k_ => XS.goto X0.here hx rfl (pc0 := 68) (pc' := 49) rfl (hb hby d13_68) (by decide) (by decide) k_) ?_
    refine own_st (S' := s₁.setTop (mkF m 50 #[.val (.ref b), .val (.ref d), .val (.int (2 : Int32)), .val (.int (((0 : Int32) + (1 : Int32)) + (1 : Int32)))] [(.int (((0 : Int32) + (1 : Int32)) + (1 : Int32)))])) (fun t_ k_ => XS.iloadN X0.here hx rfl (hb hby d13_49) rfl k_) ?_
    refine own_st (S' := s₁.setTop (mkF m 51 #[.val (.ref b), .val (.ref d), .val (.int (2 : Int32)), .val (.int (((0 : Int32) + (1 : Int32)) + (1 : Int32)))] [(.int (2 : Int32)), (.int (((0 : Int32) + (1 : Int32)) + (1 : Int32)))])) (fun t_ k_ => XS.iloadN X0.here hx rfl (hb hby d13_50) rfl k_) ?_
    refine own_st (S' := s₁.setTop (mkF m 71 #[.val (.ref b), .val (.ref d), .val (.int (2 : Int32)), .val (.int (((0 : Int32) + (1 : Int32)) + (1 : Int32)))] [])) (fun t_ k_ => XS.icmpYes X0.here hx rfl (pc0 := 51) (pc' := 71) rfl (hb hby d13_51) rfl (flt (by decide : ¬ ((((0 : Int32) + (1 : Int32)) + (1 : Int32)) < (2 : Int32)))).2.1 (by decide) (by decide) k_) ?_
    refine own_st (S' := s₁.setTop (mkF m 72 #[.val (.ref b), .val (.ref d), .val (.int (2 : Int32)), .val (.int (((0 : Int32) + (1 : Int32)) + (1 : Int32)))] [(.int (-1 : Int32))])) (fun t_ k_ => XS.iconst X0.here hx rfl (hb hby d13_71) k_) ?_
    obtain ⟨fs, hr, hrun, hended, hW, hsame⟩ := X0.leave (v := some (.int (-1 : Int32))) (fun h => by rw [Bd.returns] at h; cases h)
    refine ⟨_, _, retI X0 hx Bd.returns (hb hby d13_72) hr, hrun, hended, _, _, rfl, ?_, ⟨_, rfl⟩, hW, hsame.mono (by decide) (by decide)⟩
    show Q13 Z b d n k kd w h0 n0 _ s₁.heap _
    rw [e0]
    exact ⟨rfl, N0, rfl⟩
  · refine own_cast (S' := s₁.setTop (mkF m 0 #[.val (.ref b), .val (.ref d), .val (.int (3 : Int32)), .unset] [])) (by rw [hq]) ?_
    have P0q : Arv Z h0 b k .byte (3 : Int32) [(.int (w.toInt8.toInt32)), (.int (((w.toUInt32 >>> ((8 : Int32) &&& 31).toUInt32).toInt32).toInt8.toInt32)), (.int (((w.toUInt32 >>> ((16 : Int32) &&& 31).toUInt32).toInt32).toInt8.toInt32))] (.int (0 : Int32)) := own_from hq rfl P0
    have P1q : Arv Z h0 d kd .byte (3 : Int32) [(.int (w.toInt8.toInt32)), (.int (((w.toUInt32 >>> ((8 : Int32) &&& 31).toUInt32).toInt32).toInt8.toInt32)), (.int (((w.toUInt32 >>> ((16 : Int32) &&& 31).toUInt32).toInt32).toInt8.toInt32))] (.int (0 : Int32)) := own_from hq rfl P1
    refine own_st (S' := s₁.setTop (mkF m 1 #[.val (.ref b), .val (.ref d), .val (.int (3 : Int32)), .unset] [(.int (0 : Int32))])) (fun t_ k_ => XS.iconst X0.here hx rfl (hb hby d13_0) k_) ?_
    refine own_st (S' := s₁.setTop (mkF m 2 #[.val (.ref b), .val (.ref d), .val (.int (3 : Int32)), .val (.int (0 : Int32))] [])) (fun t_ k_ => XS.istoreN X0.here hx rfl (hb hby d13_1) rfl (l' := #[.val (.ref b), .val (.ref d), .val (.int (3 : Int32)), .val (.int (0 : Int32))]) rfl k_) ?_
    refine own_st (S' := s₁.setTop (mkF m 3 #[.val (.ref b), .val (.ref d), .val (.int (3 : Int32)), .val (.int (0 : Int32))] [(.int (3 : Int32))])) (fun t_ k_ => XS.iloadN X0.here hx rfl (hb hby d13_2) rfl k_) ?_
    refine own_st (S' := s₁.setTop (mkF m 5 #[.val (.ref b), .val (.ref d), .val (.int (3 : Int32)), .val (.int (0 : Int32))] [(.int (7 : Int32)), (.int (3 : Int32))])) (fun t_ k_ => XS.bipush X0.here hx rfl (hb hby d13_3) k_) ?_
    refine own_st (S' := s₁.setTop (mkF m 49 #[.val (.ref b), .val (.ref d), .val (.int (3 : Int32)), .val (.int (0 : Int32))] [])) (fun t_ k_ => XS.icmpYes X0.here hx rfl (pc0 := 5) (pc' := 49) rfl (hb hby d13_5) rfl (flt (by decide : ¬ ((7 : Int32) < (3 : Int32)))).2.2.2 (by decide) (by decide) k_) ?_
    refine own_st (S' := s₁.setTop (mkF m 50 #[.val (.ref b), .val (.ref d), .val (.int (3 : Int32)), .val (.int (0 : Int32))] [(.int (0 : Int32))])) (fun t_ k_ => XS.iloadN X0.here hx rfl (hb hby d13_49) rfl k_) ?_
    refine own_st (S' := s₁.setTop (mkF m 51 #[.val (.ref b), .val (.ref d), .val (.int (3 : Int32)), .val (.int (0 : Int32))] [(.int (3 : Int32)), (.int (0 : Int32))])) (fun t_ k_ => XS.iloadN X0.here hx rfl (hb hby d13_50) rfl k_) ?_
    refine own_st (S' := s₁.setTop (mkF m 54 #[.val (.ref b), .val (.ref d), .val (.int (3 : Int32)), .val (.int (0 : Int32))] [])) (fun t_ k_ => XS.icmpNo X0.here hx rfl (hb hby d13_51) rfl (tlt (by decide : (0 : Int32) < (3 : Int32))).2.1 k_) ?_
    refine own_st (S' := s₁.setTop (mkF m 55 #[.val (.ref b), .val (.ref d), .val (.int (3 : Int32)), .val (.int (0 : Int32))] [(.ref b)])) (fun t_ k_ => XS.aloadN X0.here hx rfl (hb hby d13_54) rfl rfl k_) ?_
    refine own_st (S' := s₁.setTop (mkF m 56 #[.val (.ref b), .val (.ref d), .val (.int (3 : Int32)), .val (.int (0 : Int32))] [(.int (0 : Int32)), (.ref b)])) (fun t_ k_ => XS.iloadN X0.here hx rfl (hb hby d13_55) rfl k_) ?_
    obtain ⟨cl_7, Ar_7, q_7, S_7, M_7, H_7, G_7⟩ := id P0q
    have hin_7 : ¬ ((0 : Int32) < 0 ∨ cl_7.slots.size ≤ ((0 : Int32)).toNatClampNeg) := inb_of S_7 ⟨by decide, by decide⟩
    have hat_7 : cl_7.slots[((0 : Int32)).toNatClampNeg]? = some (.int (w.toInt8.toInt32)) := H_7.at hin_7 rfl
    refine own_st (S' := s₁.setTop (mkF m 57 #[.val (.ref b), .val (.ref d), .val (.int (3 : Int32)), .val (.int (0 : Int32))] [(.int (w.toInt8.toInt32))])) (fun t_ k_ => X0.baloadBytes hx (j := (0 : Int32)) (v := (.int (w.toInt8.toInt32))) (by rw [e0]; exact Ar_7.1) (State.isArrayOf_alike hZ.alike Ar_7.2.1) Ar_7.2.2 hin_7 hat_7 (g := (mkF m 56 #[.val (.ref b), .val (.ref d), .val (.int (3 : Int32)), .val (.int (0 : Int32))] [(.int (0 : Int32)), (.ref b)])) rfl rfl (hb hby d13_56) _ k_) ?_
    refine own_st (S' := s₁.setTop (mkF m 58 #[.val (.ref b), .val (.ref d), .val (.int (3 : Int32)), .val (.int (0 : Int32))] [(.ref d), (.int (w.toInt8.toInt32))])) (fun t_ k_ => XS.aloadN X0.here hx rfl (hb hby d13_57) rfl rfl k_) ?_
    refine own_st (S' := s₁.setTop (mkF m 59 #[.val (.ref b), .val (.ref d), .val (.int (3 : Int32)), .val (.int (0 : Int32))] [(.int (0 : Int32)), (.ref d), (.int (w.toInt8.toInt32))])) (fun t_ k_ => XS.iloadN X0.here hx rfl (hb hby d13_58) rfl k_) ?_
    obtain ⟨cl_8, Ar_8, q_8, S_8, M_8, H_8, G_8⟩ := id P1q
    have hin_8 : ¬ ((0 : Int32) < 0 ∨ cl_8.slots.size ≤ ((0 : Int32)).toNatClampNeg) := inb_of S_8 ⟨by decide, by decide⟩
    have hat_8 : cl_8.slots[((0 : Int32)).toNatClampNeg]? = some (.int (w.toInt8.toInt32)) := H_8.at hin_8 rfl
    refine own_st (S' := s₁.setTop (mkF m 60 #[.val (.ref b), .val (.ref d), .val (.int (3 : Int32)), .val (.int (0 : Int32))] [(.int (w.toInt8.toInt32)), (.int (w.toInt8.toInt32))])) (fun t_ k_ => X0.baloadBytes hx (j := (0 : Int32)) (v := (.int (w.toInt8.toInt32))) (by rw [e0]; exact Ar_8.1) (State.isArrayOf_alike hZ.alike Ar_8.2.1) Ar_8.2.2 hin_8 hat_8 (g := (mkF m 59 #[.val (.ref b), .val (.ref d), .val (.int (3 : Int32)), .val (.int (0 : Int32))] [(.int (0 : Int32)), (.ref d), (.int (w.toInt8.toInt32))])) rfl rfl (hb hby d13_59) _ k_) ?_
    refine own_st (S' := s₁.setTop (mkF m 65 #[.val (.ref b), .val (.ref d), .val (.int (3 : Int32)), .val (.int (0 : Int32))] [])) (fun t_ k_ => XS.icmpYes X0.here hx rfl (pc0 := 60) (pc' := 65) rfl (hb hby d13_60) rfl (teq (rfl : (w.toInt8.toInt32) = (w.toInt8.toInt32))).1 (by decide) (by decide) k_) ?_
    refine own_st (S' := s₁.setTop (mkF m 68 #[.val (.ref b), .val (.ref d), .val (.int (3 : Int32)), .val (.int ((0 : Int32) + (1 : Int32)))] [])) (fun t_ k_ => XS.iinc X0.here hx rfl (hb hby d13_65) rfl (l' := #[.val (.ref b), .val (.ref d), .val (.int (3 : Int32)), .val (.int ((0 : Int32) + (1 : Int32)))]) rfl k_) ?_
    refine own_st (S' := s₁.setTop (mkF m 49 #[.val (.ref b), .val (.ref d), .val (.int (3 : Int32)), .val (.int ((0 : Int32) + (1 : Int32)))] [])) (fun t_ k_ => XS.goto X0.here hx rfl (pc0 := 68) (pc' := 49) rfl (hb hby d13_68) (by decide) (by decide) k_) ?_
    refine own_st (S' := s₁.setTop (mkF m 50 #[.val (.ref b), .val (.ref d), .val (.int (3 : Int32)), .val (.int ((0 : Int32) + (1 : Int32)))] [(.int ((0 : Int32) + (1 : Int32)))])) (fun t_ k_ => XS.iloadN X0.here hx rfl (hb hby d13_49) rfl k_) ?_
    refine own_st (S' := s₁.setTop (mkF m 51 #[.val (.ref b), .val (.ref d), .val (.int (3 : Int32)), .val (.int ((0 : Int32) + (1 : Int32)))] [(.int (3 : Int32)), (.int ((0 : Int32) + (1 : Int32)))])) (fun t_ k_ => XS.iloadN X0.here hx rfl (hb hby d13_50) rfl k_) ?_
    refine own_st (S' := s₁.setTop (mkF m 54 #[.val (.ref b), .val (.ref d), .val (.int (3 : Int32)), .val (.int ((0 : Int32) + (1 : Int32)))] [])) (fun t_ k_ => XS.icmpNo X0.here hx rfl (hb hby d13_51) rfl (tlt (by decide : ((0 : Int32) + (1 : Int32)) < (3 : Int32))).2.1 k_) ?_
    refine own_st (S' := s₁.setTop (mkF m 55 #[.val (.ref b), .val (.ref d), .val (.int (3 : Int32)), .val (.int ((0 : Int32) + (1 : Int32)))] [(.ref b)])) (fun t_ k_ => XS.aloadN X0.here hx rfl (hb hby d13_54) rfl rfl k_) ?_
    refine own_st (S' := s₁.setTop (mkF m 56 #[.val (.ref b), .val (.ref d), .val (.int (3 : Int32)), .val (.int ((0 : Int32) + (1 : Int32)))] [(.int ((0 : Int32) + (1 : Int32))), (.ref b)])) (fun t_ k_ => XS.iloadN X0.here hx rfl (hb hby d13_55) rfl k_) ?_
    obtain ⟨cl_9, Ar_9, q_9, S_9, M_9, H_9, G_9⟩ := id P0q
    have hin_9 : ¬ (((0 : Int32) + (1 : Int32)) < 0 ∨ cl_9.slots.size ≤ (((0 : Int32) + (1 : Int32))).toNatClampNeg) := inb_of S_9 ⟨by decide, by decide⟩
    have hat_9 : cl_9.slots[(((0 : Int32) + (1 : Int32))).toNatClampNeg]? = some (.int (((w.toUInt32 >>> ((8 : Int32) &&& 31).toUInt32).toInt32).toInt8.toInt32)) := H_9.at hin_9 rfl
    refine own_st (S' := s₁.setTop (mkF m 57 #[.val (.ref b), .val (.ref d), .val (.int (3 : Int32)), .val (.int ((0 : Int32) + (1 : Int32)))] [(.int (((w.toUInt32 >>> ((8 : Int32) &&& 31).toUInt32).toInt32).toInt8.toInt32))])) (fun t_ k_ => X0.baloadBytes hx (j := ((0 : Int32) + (1 : Int32))) (v := (.int (((w.toUInt32 >>> ((8 : Int32) &&& 31).toUInt32).toInt32).toInt8.toInt32))) (by rw [e0]; exact Ar_9.1) (State.isArrayOf_alike hZ.alike Ar_9.2.1) Ar_9.2.2 hin_9 hat_9 (g := (mkF m 56 #[.val (.ref b), .val (.ref d), .val (.int (3 : Int32)), .val (.int ((0 : Int32) + (1 : Int32)))] [(.int ((0 : Int32) + (1 : Int32))), (.ref b)])) rfl rfl (hb hby d13_56) _ k_) ?_
    refine own_st (S' := s₁.setTop (mkF m 58 #[.val (.ref b), .val (.ref d), .val (.int (3 : Int32)), .val (.int ((0 : Int32) + (1 : Int32)))] [(.ref d), (.int (((w.toUInt32 >>> ((8 : Int32) &&& 31).toUInt32).toInt32).toInt8.toInt32))])) (fun t_ k_ => XS.aloadN X0.here hx rfl (hb hby d13_57) rfl rfl k_) ?_
    refine own_st (S' := s₁.setTop (mkF m 59 #[.val (.ref b), .val (.ref d), .val (.int (3 : Int32)), .val (.int ((0 : Int32) + (1 : Int32)))] [(.int ((0 : Int32) + (1 : Int32))), (.ref d), (.int (((w.toUInt32 >>> ((8 : Int32) &&& 31).toUInt32).toInt32).toInt8.toInt32))])) (fun t_ k_ => XS.iloadN X0.here hx rfl (hb hby d13_58) rfl k_) ?_
    obtain ⟨cl_10, Ar_10, q_10, S_10, M_10, H_10, G_10⟩ := id P1q
    have hin_10 : ¬ (((0 : Int32) + (1 : Int32)) < 0 ∨ cl_10.slots.size ≤ (((0 : Int32) + (1 : Int32))).toNatClampNeg) := inb_of S_10 ⟨by decide, by decide⟩
    have hat_10 : cl_10.slots[(((0 : Int32) + (1 : Int32))).toNatClampNeg]? = some (.int (((w.toUInt32 >>> ((8 : Int32) &&& 31).toUInt32).toInt32).toInt8.toInt32)) := H_10.at hin_10 rfl
    refine own_st (S' := s₁.setTop (mkF m 60 #[.val (.ref b), .val (.ref d), .val (.int (3 : Int32)), .val (.int ((0 : Int32) + (1 : Int32)))] [(.int (((w.toUInt32 >>> ((8 : Int32) &&& 31).toUInt32).toInt32).toInt8.toInt32)), (.int (((w.toUInt32 >>> ((8 : Int32) &&& 31).toUInt32).toInt32).toInt8.toInt32))])) (fun t_ k_ => X0.baloadBytes hx (j := ((0 : Int32) + (1 : Int32))) (v := (.int (((w.toUInt32 >>> ((8 : Int32) &&& 31).toUInt32).toInt32).toInt8.toInt32))) (by rw [e0]; exact Ar_10.1) (State.isArrayOf_alike hZ.alike Ar_10.2.1) Ar_10.2.2 hin_10 hat_10 (g := (mkF m 59 #[.val (.ref b), .val (.ref d), .val (.int (3 : Int32)), .val (.int ((0 : Int32) + (1 : Int32)))] [(.int ((0 : Int32) + (1 : Int32))), (.ref d), (.int (((w.toUInt32 >>> ((8 : Int32) &&& 31).toUInt32).toInt32).toInt8.toInt32))])) rfl rfl (hb hby d13_59) _ k_) ?_
    refine own_st (S' := s₁.setTop (mkF m 65 #[.val (.ref b), .val (.ref d), .val (.int (3 : Int32)), .val (.int ((0 : Int32) + (1 : Int32)))] [])) (fun t_ k_ => XS.icmpYes X0.here hx rfl (pc0 := 60) (pc' := 65) rfl (hb hby d13_60) rfl (teq (rfl : (((w.toUInt32 >>> ((8 : Int32) &&& 31).toUInt32).toInt32).toInt8.toInt32) = (((w.toUInt32 >>> ((8 : Int32) &&& 31).toUInt32).toInt32).toInt8.toInt32))).1 (by decide) (by decide) k_) ?_
    refine own_st (S' := s₁.setTop (mkF m 68 #[.val (.ref b), .val (.ref d), .val (.int (3 : Int32)), .val (.int (((0 : Int32) + (1 : Int32)) + (1 : Int32)))] [])) (fun t_ k_ => XS.iinc X0.here hx rfl (hb hby d13_65) rfl (l' := #[.val (.ref b), .val (.ref d), .val (.int (3 : Int32)), .val (.int (((0 : Int32) + (1 : Int32)) + (1 : Int32)))]) rfl k_) ?_
    refine own_st (S' := s₁.setTop (mkF m 49 #[.val (.ref b), .val (.ref d), .val (.int (3 : Int32)), .val (.int (((0 : Int32) + (1 : Int32)) + (1 : Int32)))] [])) (fun t_ k_ => XS.goto X0.here hx rfl (pc0 := 68) (pc' := 49) rfl (hb hby d13_68) (by decide) (by decide) k_) ?_
    refine own_st (S' := s₁.setTop (mkF m 50 #[.val (.ref b), .val (.ref d), .val (.int (3 : Int32)), .val (.int (((0 : Int32) + (1 : Int32)) + (1 : Int32)))] [(.int (((0 : Int32) + (1 : Int32)) + (1 : Int32)))])) (fun t_ k_ => XS.iloadN X0.here hx rfl (hb hby d13_49) rfl k_) ?_
    refine own_st (S' := s₁.setTop (mkF m 51 #[.val (.ref b), .val (.ref d), .val (.int (3 : Int32)), .val (.int (((0 : Int32) + (1 : Int32)) + (1 : Int32)))] [(.int (3 : Int32)), (.int (((0 : Int32) + (1 : Int32)) + (1 : Int32)))])) (fun t_ k_ => XS.iloadN X0.here hx rfl (hb hby d13_50) rfl k_) ?_
    refine own_st (S' := s₁.setTop (mkF m 54 #[.val (.ref b), .val (.ref d), .val (.int (3 : Int32)), .val (.int (((0 : Int32) + (1 : Int32)) + (1 : Int32)))] [])) (fun t_ k_ => XS.icmpNo X0.here hx rfl (hb hby d13_51) rfl (tlt (by decide : (((0 : Int32) + (1 : Int32)) + (1 : Int32)) < (3 : Int32))).2.1 k_) ?_
    refine own_st (S' := s₁.setTop (mkF m 55 #[.val (.ref b), .val (.ref d), .val (.int (3 : Int32)), .val (.int (((0 : Int32) + (1 : Int32)) + (1 : Int32)))] [(.ref b)])) (fun t_ k_ => XS.aloadN X0.here hx rfl (hb hby d13_54) rfl rfl k_) ?_
    refine own_st (S' := s₁.setTop (mkF m 56 #[.val (.ref b), .val (.ref d), .val (.int (3 : Int32)), .val (.int (((0 : Int32) + (1 : Int32)) + (1 : Int32)))] [(.int (((0 : Int32) + (1 : Int32)) + (1 : Int32))), (.ref b)])) (fun t_ k_ => XS.iloadN X0.here hx rfl (hb hby d13_55) rfl k_) ?_
    obtain ⟨cl_11, Ar_11, q_11, S_11, M_11, H_11, G_11⟩ := id P0q
    have hin_11 : ¬ ((((0 : Int32) + (1 : Int32)) + (1 : Int32)) < 0 ∨ cl_11.slots.size ≤ ((((0 : Int32) + (1 : Int32)) + (1 : Int32))).toNatClampNeg) := inb_of S_11 ⟨by decide, by decide⟩
    have hat_11 : cl_11.slots[((((0 : Int32) + (1 : Int32)) + (1 : Int32))).toNatClampNeg]? = some (.int (((w.toUInt32 >>> ((16 : Int32) &&& 31).toUInt32).toInt32).toInt8.toInt32)) := H_11.at hin_11 rfl
    refine own_st (S' := s₁.setTop (mkF m 57 #[.val (.ref b), .val (.ref d), .val (.int (3 : Int32)), .val (.int (((0 : Int32) + (1 : Int32)) + (1 : Int32)))] [(.int (((w.toUInt32 >>> ((16 : Int32) &&& 31).toUInt32).toInt32).toInt8.toInt32))])) (fun t_ k_ => X0.baloadBytes hx (j := (((0 : Int32) + (1 : Int32)) + (1 : Int32))) (v := (.int (((w.toUInt32 >>> ((16 : Int32) &&& 31).toUInt32).toInt32).toInt8.toInt32))) (by rw [e0]; exact Ar_11.1) (State.isArrayOf_alike hZ.alike Ar_11.2.1) Ar_11.2.2 hin_11 hat_11 (g := (mkF m 56 #[.val (.ref b), .val (.ref d), .val (.int (3 : Int32)), .val (.int (((0 : Int32) + (1 : Int32)) + (1 : Int32)))] [(.int (((0 : Int32) + (1 : Int32)) + (1 : Int32))), (.ref b)])) rfl rfl (hb hby d13_56) _ k_) ?_
    refine own_st (S' := s₁.setTop (mkF m 58 #[.val (.ref b), .val (.ref d), .val (.int (3 : Int32)), .val (.int (((0 : Int32) + (1 : Int32)) + (1 : Int32)))] [(.ref d), (.int (((w.toUInt32 >>> ((16 : Int32) &&& 31).toUInt32).toInt32).toInt8.toInt32))])) (fun t_ k_ => XS.aloadN X0.here hx rfl (hb hby d13_57) rfl rfl k_) ?_
    refine own_st (S' := s₁.setTop (mkF m 59 #[.val (.ref b), .val (.ref d), .val (.int (3 : Int32)), .val (.int (((0 : Int32) + (1 : Int32)) + (1 : Int32)))] [(.int (((0 : Int32) + (1 : Int32)) + (1 : Int32))), (.ref d), (.int (((w.toUInt32 >>> ((16 : Int32) &&& 31).toUInt32).toInt32).toInt8.toInt32))])) (fun t_ k_ => XS.iloadN X0.here hx rfl (hb hby d13_58) rfl k_) ?_
    obtain ⟨cl_12, Ar_12, q_12, S_12, M_12, H_12, G_12⟩ := id P1q
    have hin_12 : ¬ ((((0 : Int32) + (1 : Int32)) + (1 : Int32)) < 0 ∨ cl_12.slots.size ≤ ((((0 : Int32) + (1 : Int32)) + (1 : Int32))).toNatClampNeg) := inb_of S_12 ⟨by decide, by decide⟩
    have hat_12 : cl_12.slots[((((0 : Int32) + (1 : Int32)) + (1 : Int32))).toNatClampNeg]? = some (.int (((w.toUInt32 >>> ((16 : Int32) &&& 31).toUInt32).toInt32).toInt8.toInt32)) := H_12.at hin_12 rfl
    refine own_st (S' := s₁.setTop (mkF m 60 #[.val (.ref b), .val (.ref d), .val (.int (3 : Int32)), .val (.int (((0 : Int32) + (1 : Int32)) + (1 : Int32)))] [(.int (((w.toUInt32 >>> ((16 : Int32) &&& 31).toUInt32).toInt32).toInt8.toInt32)), (.int (((w.toUInt32 >>> ((16 : Int32) &&& 31).toUInt32).toInt32).toInt8.toInt32))])) (fun t_ k_ => X0.baloadBytes hx (j := (((0 : Int32) + (1 : Int32)) + (1 : Int32))) (v := (.int (((w.toUInt32 >>> ((16 : Int32) &&& 31).toUInt32).toInt32).toInt8.toInt32))) (by rw [e0]; exact Ar_12.1) (State.isArrayOf_alike hZ.alike Ar_12.2.1) Ar_12.2.2 hin_12 hat_12 (g := (mkF m 59 #[.val (.ref b), .val (.ref d), .val (.int (3 : Int32)), .val (.int (((0 : Int32) + (1 : Int32)) + (1 : Int32)))] [(.int (((0 : Int32) + (1 : Int32)) + (1 : Int32))), (.ref d), (.int (((w.toUInt32 >>> ((16 : Int32) &&& 31).toUInt32).toInt32).toInt8.toInt32))])) rfl rfl (hb hby d13_59) _ k_) ?_
    refine own_st (S' := s₁.setTop (mkF m 65 #[.val (.ref b), .val (.ref d), .val (.int (3 : Int32)), .val (.int (((0 : Int32) + (1 : Int32)) + (1 : Int32)))] [])) (fun t_ k_ => XS.icmpYes X0.here hx rfl (pc0 := 60) (pc' := 65) rfl (hb hby d13_60) rfl (teq (rfl : (((w.toUInt32 >>> ((16 : Int32) &&& 31).toUInt32).toInt32).toInt8.toInt32) = (((w.toUInt32 >>> ((16 : Int32) &&& 31).toUInt32).toInt32).toInt8.toInt32))).1 (by decide) (by decide) k_) ?_
    refine own_st (S' := s₁.setTop (mkF m 68 #[.val (.ref b), .val (.ref d), .val (.int (3 : Int32)), .val (.int ((((0 : Int32) + (1 : Int32)) + (1 : Int32)) + (1 : Int32)))] [])) (fun t_ k_ => XS.iinc X0.here hx rfl (hb hby d13_65) rfl (l' := #[.val (.ref b), .val (.ref d), .val (.int (3 : Int32)), .val (.int ((((0 : Int32) + (1 : Int32)) + (1 : Int32)) + (1 : Int32)))]) rfl k_) ?_
    refine own_st (S' := s₁.setTop (mkF m 49 #[.val (.ref b), .val (.ref d), .val (.int (3 : Int32)), .val (.int ((((0 : Int32) + (1 : Int32)) + (1 : Int32)) + (1 : Int32)))] [])) (fun t_ k_ => XS.goto X0.here hx rfl (pc0 := 68) (pc' := 49) rfl (hb hby d13_68) (by decide) (by decide) k_) ?_
    refine own_st (S' := s₁.setTop (mkF m 50 #[.val (.ref b), .val (.ref d), .val (.int (3 : Int32)), .val (.int ((((0 : Int32) + (1 : Int32)) + (1 : Int32)) + (1 : Int32)))] [(.int ((((0 : Int32) + (1 : Int32)) + (1 : Int32)) + (1 : Int32)))])) (fun t_ k_ => XS.iloadN X0.here hx rfl (hb hby d13_49) rfl k_) ?_
    refine own_st (S' := s₁.setTop (mkF m 51 #[.val (.ref b), .val (.ref d), .val (.int (3 : Int32)), .val (.int ((((0 : Int32) + (1 : Int32)) + (1 : Int32)) + (1 : Int32)))] [(.int (3 : Int32)), (.int ((((0 : Int32) + (1 : Int32)) + (1 : Int32)) + (1 : Int32)))])) (fun t_ k_ => XS.iloadN X0.here hx rfl (hb hby d13_50) rfl k_) ?_
    refine own_st (S' := s₁.setTop (mkF m 71 #[.val (.ref b), .val (.ref d), .val (.int (3 : Int32)), .val (.int ((((0 : Int32) + (1 : Int32)) + (1 : Int32)) + (1 : Int32)))] [])) (fun t_ k_ => XS.icmpYes X0.here hx rfl (pc0 := 51) (pc' := 71) rfl (hb hby d13_51) rfl (flt (by decide : ¬ (((((0 : Int32) + (1 : Int32)) + (1 : Int32)) + (1 : Int32)) < (3 : Int32)))).2.1 (by decide) (by decide) k_) ?_
    refine own_st (S' := s₁.setTop (mkF m 72 #[.val (.ref b), .val (.ref d), .val (.int (3 : Int32)), .val (.int ((((0 : Int32) + (1 : Int32)) + (1 : Int32)) + (1 : Int32)))] [(.int (-1 : Int32))])) (fun t_ k_ => XS.iconst X0.here hx rfl (hb hby d13_71) k_) ?_
    obtain ⟨fs, hr, hrun, hended, hW, hsame⟩ := X0.leave (v := some (.int (-1 : Int32))) (fun h => by rw [Bd.returns] at h; cases h)
    refine ⟨_, _, retI X0 hx Bd.returns (hb hby d13_72) hr, hrun, hended, _, _, rfl, ?_, ⟨_, rfl⟩, hW, hsame.mono (by decide) (by decide)⟩
    show Q13 Z b d n k kd w h0 n0 _ s₁.heap _
    rw [e0]
    exact ⟨rfl, N0, rfl⟩
theorem d14_0 : decode jdk_65_method_89_code 0 = .ok (.aload_n 0, 1) := by decide +kernel
theorem d14_1 : decode jdk_65_method_89_code 1 = .ok (.aload_n 1, 1) := by decide +kernel
theorem d14_2 : decode jdk_65_method_89_code 2 = .ok (.if_acmp .ne 5, 3) := by decide +kernel
theorem d14_7 : decode jdk_65_method_89_code 7 = .ok (.aload_n 0, 1) := by decide +kernel
theorem d14_8 : decode jdk_65_method_89_code 8 = .ok (.ifnull 7, 3) := by decide +kernel
theorem d14_11 : decode jdk_65_method_89_code 11 = .ok (.aload_n 1, 1) := by decide +kernel
theorem d14_12 : decode jdk_65_method_89_code 12 = .ok (.ifnonnull 5, 3) := by decide +kernel
theorem d14_17 : decode jdk_65_method_89_code 17 = .ok (.aload_n 0, 1) := by decide +kernel
theorem d14_18 : decode jdk_65_method_89_code 18 = .ok (.arraylength, 1) := by decide +kernel
theorem d14_19 : decode jdk_65_method_89_code 19 = .ok (.istore_n 2, 1) := by decide +kernel
theorem d14_20 : decode jdk_65_method_89_code 20 = .ok (.aload_n 1, 1) := by decide +kernel
theorem d14_21 : decode jdk_65_method_89_code 21 = .ok (.arraylength, 1) := by decide +kernel
theorem d14_22 : decode jdk_65_method_89_code 22 = .ok (.iload_n 2, 1) := by decide +kernel
theorem d14_23 : decode jdk_65_method_89_code 23 = .ok (.if_icmp .eq 5, 3) := by decide +kernel
theorem d14_28 : decode jdk_65_method_89_code 28 = .ok (.aload_n 0, 1) := by decide +kernel
theorem d14_29 : decode jdk_65_method_89_code 29 = .ok (.aload_n 1, 1) := by decide +kernel
theorem d14_30 : decode jdk_65_method_89_code 30 = .ok (.iload_n 2, 1) := by decide +kernel
theorem d14_31 : decode jdk_65_method_89_code 31 = .ok (.invokestatic 272, 3) := by decide +kernel
theorem d14_34 : decode jdk_65_method_89_code 34 = .ok (.ifCond .ge 7, 3) := by decide +kernel
theorem d14_37 : decode jdk_65_method_89_code 37 = .ok (.iconst 1, 1) := by decide +kernel
theorem d14_38 : decode jdk_65_method_89_code 38 = .ok (.goto 4, 3) := by decide +kernel
theorem d14_42 : decode jdk_65_method_89_code 42 = .ok (.ireturn, 1) := by decide +kernel
theorem pn_6 : plainName "java/util/Arrays" = true := by first | (simp [plainName, overriddenIn]; done) | decide +kernel
theorem ef_14 (m : MethodId) (b : Addr) (d : Addr) : entryFrame m #[(.ref b), (.ref d)] 3 = mkF m 0 #[.val (.ref b), .val (.ref d), .unset] [] := by first | (simp [entryFrame, mkF, argsToLocals, Value.category]; done) | rfl
theorem pd_3 : parseMethodDescriptor "([B[BI)I" = some ⟨[(.array .byte), (.array .byte), .int], some .int⟩ := by decide +kernel
def Q14 (Z : State) (b : Addr) (d : Addr) (k : ClassId) (kd : ClassId) (n : Int32) (w : Int32) (h0 : Heap) (n0 : Nat) (v_ : Option Value) (h_ : Heap) (L_ : List Loc) : Prop := v_ = some (.int (1 : Int32)) ∧ Fr n0 L_ ∧ h_ = h0
set_option maxRecDepth 65536 in
set_option maxHeartbeats 40000000 in
theorem rm14 (l : Launch) (Z : State) (a0 : Array Value) (hw : ∀ d ∈ tables_1, d.before a0 Z = true) (ws : List Jvm.Cond) (b : Addr) (d : Addr) (k : ClassId) (kd : ClassId) (n : Int32) (w : Int32) (h0 : Heap) (n0 : Nat) (Z0 : n0 ≤ h0.size) (P0 : Arv Z h0 b k .byte n (own_bs n w) (.int (0 : Int32))) (P1 : Arv Z h0 d kd .byte n (own_bs n w) (.int (0 : Int32))) (ne_b_d : b ≠ d) (hn : n = (0 : Int32) ∨ n = (1 : Int32) ∨ n = (2 : Int32) ∨ n = (3 : Int32)) :
    MetFree l (⟨"java/util/Arrays", "equals", "([B[B)Z"⟩ : MethodName) (head1 (Jvm.Cond.code (⟨"java/util/Arrays", "equals", "([B[B)Z"⟩ : MethodName) jdk_65_method_89_code 3 (some .boolean) :: ws) ({ frames := 1, cells := 0, slots := 0, locals := 15 } : Room)) (fun ar_ U_ => ar_ = #[(.ref b), (.ref d)] ∧ Z.Warmed39 U_.vm ∧ U_.heap = h0) (fun _ _ _ _ _ => True) (fun _ U_ o_ U2_ => ∃ v_ L_, o_ = .returned v_ ∧ Q14 Z b d k kd n w h0 n0 v_ U2_.heap L_ ∧ FrameEnd U_ o_ U2_ L_ ({ frames := 1, cells := 0, slots := 0, locals := 15 } : Room).cells ({ frames := 1, cells := 0, slots := 0, locals := 15 } : Room).slots) := by
  refine MetFree.of_bodySF (plainFor_of_name pn_6) hisR ?_
  intro p e s m args below meth c s₁ Bd hml0 hP hK
  obtain ⟨rfl, hZ, hh⟩ := hP
  have hx := Bd.exec
  have hby := Bd.bytes
  have hml : c.maxLocals = 3 := hml0
  have hown : s.vm.findClass "java/util/Arrays" = some m.cls := findClass_of_methodNamed Bd.named
  have hnm := (name_of_methodNamed Bd.named Bd.method).1
  have X0 : Stand p l e ({ frames := 1, cells := 0, slots := 0, locals := 15 } : Room) s m #[(.ref b), (.ref d)] below meth c s₁ [] 0 0 := Stand.of_body Bd
  have e0 : s₁.heap = h0 := by rw [← hh, Bd.state]; rfl
  have N0 := Fr.nil n0
  refine own_gl ?_
  refine own_st (S' := s₁.setTop (mkF m 0 #[.val (.ref b), .val (.ref d), .unset] [])) (fun t_ k_ => castTop (ef_14 m b d) k_) ?_
  refine own_st (S' := s₁.setTop (mkF m 1 #[.val (.ref b), .val (.ref d), .unset] [(.ref b)])) (fun t_ k_ => XS.aloadN X0.here hx rfl (hb hby d14_0) rfl rfl k_) ?_
  refine own_st (S' := s₁.setTop (mkF m 2 #[.val (.ref b), .val (.ref d), .unset] [(.ref d), (.ref b)])) (fun t_ k_ => XS.aloadN X0.here hx rfl (hb hby d14_1) rfl rfl k_) ?_
  refine own_st (S' := s₁.setTop (mkF m 7 #[.val (.ref b), .val (.ref d), .unset] [])) (fun t_ k_ => Jvm.RoadKit.acmp (g := (mkF m 2 #[.val (.ref b), .val (.ref d), .unset] [(.ref d), (.ref b)])) X0 hx rfl rfl rfl (pc0 := 2) (pc' := 7) (same := false) rfl (hb hby d14_2) rfl (decide_eq_false fun q => ne_b_d (Value.ref.inj q)) (by decide) (by decide) k_) ?_
  refine own_st (S' := s₁.setTop (mkF m 8 #[.val (.ref b), .val (.ref d), .unset] [(.ref b)])) (fun t_ k_ => XS.aloadN X0.here hx rfl (hb hby d14_7) rfl rfl k_) ?_
  refine own_st (S' := s₁.setTop (mkF m 11 #[.val (.ref b), .val (.ref d), .unset] [])) (fun t_ k_ => XS.ifnullNo X0.here hx rfl (hb hby d14_8) rfl k_) ?_
  refine own_st (S' := s₁.setTop (mkF m 12 #[.val (.ref b), .val (.ref d), .unset] [(.ref d)])) (fun t_ k_ => XS.aloadN X0.here hx rfl (hb hby d14_11) rfl rfl k_) ?_
  refine own_st (S' := s₁.setTop (mkF m 17 #[.val (.ref b), .val (.ref d), .unset] [])) (fun t_ k_ => XS.ifnonnullYes X0.here hx rfl (pc0 := 12) (pc' := 17) rfl (hb hby d14_12) rfl (by decide) (by decide) k_) ?_
  refine own_st (S' := s₁.setTop (mkF m 18 #[.val (.ref b), .val (.ref d), .unset] [(.ref b)])) (fun t_ k_ => XS.aloadN X0.here hx rfl (hb hby d14_17) rfl rfl k_) ?_
  obtain ⟨cl_1, Ar_1, q_1, S_1, M_1, H_1, G_1⟩ := id P0
  refine own_st (S' := s₁.setTop (mkF m 19 #[.val (.ref b), .val (.ref d), .unset] [(.int n)])) (fun t_ k_ => X0.arraylength hx (by rw [e0]; exact Ar_1.1) (State.isArrayOf_alike hZ.alike Ar_1.2.1) (g := (mkF m 18 #[.val (.ref b), .val (.ref d), .unset] [(.ref b)])) rfl rfl (hb hby d14_18) _ (by rw [len_of S_1 M_1]; exact k_)) ?_
  refine own_st (S' := s₁.setTop (mkF m 20 #[.val (.ref b), .val (.ref d), .val (.int n)] [])) (fun t_ k_ => XS.istoreN X0.here hx rfl (hb hby d14_19) rfl (l' := #[.val (.ref b), .val (.ref d), .val (.int n)]) rfl k_) ?_
  refine own_st (S' := s₁.setTop (mkF m 21 #[.val (.ref b), .val (.ref d), .val (.int n)] [(.ref d)])) (fun t_ k_ => XS.aloadN X0.here hx rfl (hb hby d14_20) rfl rfl k_) ?_
  obtain ⟨cl_2, Ar_2, q_2, S_2, M_2, H_2, G_2⟩ := id P1
  refine own_st (S' := s₁.setTop (mkF m 22 #[.val (.ref b), .val (.ref d), .val (.int n)] [(.int n)])) (fun t_ k_ => X0.arraylength hx (by rw [e0]; exact Ar_2.1) (State.isArrayOf_alike hZ.alike Ar_2.2.1) (g := (mkF m 21 #[.val (.ref b), .val (.ref d), .val (.int n)] [(.ref d)])) rfl rfl (hb hby d14_21) _ (by rw [len_of S_2 M_2]; exact k_)) ?_
  refine own_st (S' := s₁.setTop (mkF m 23 #[.val (.ref b), .val (.ref d), .val (.int n)] [(.int n), (.int n)])) (fun t_ k_ => XS.iloadN X0.here hx rfl (hb hby d14_22) rfl k_) ?_
  refine own_st (S' := s₁.setTop (mkF m 28 #[.val (.ref b), .val (.ref d), .val (.int n)] [])) (fun t_ k_ => XS.icmpYes X0.here hx rfl (pc0 := 23) (pc' := 28) rfl (hb hby d14_23) rfl (teq (rfl : n = n)).1 (by decide) (by decide) k_) ?_
  refine own_st (S' := s₁.setTop (mkF m 29 #[.val (.ref b), .val (.ref d), .val (.int n)] [(.ref b)])) (fun t_ k_ => XS.aloadN X0.here hx rfl (hb hby d14_28) rfl rfl k_) ?_
  refine own_st (S' := s₁.setTop (mkF m 30 #[.val (.ref b), .val (.ref d), .val (.int n)] [(.ref d), (.ref b)])) (fun t_ k_ => XS.aloadN X0.here hx rfl (hb hby d14_29) rfl rfl k_) ?_
  refine own_st (S' := s₁.setTop (mkF m 31 #[.val (.ref b), .val (.ref d), .val (.int n)] [(.int n), (.ref d), (.ref b)])) (fun t_ k_ => XS.iloadN X0.here hx rfl (hb hby d14_30) rfl k_) ?_
  obtain ⟨_, _, ⟨T_3, L_3, k_3, n_3⟩, -, X_3, ⟨Lc_3, hQ_3, l_3, y_3, z_3⟩, st_3⟩ := Jvm.LawKit.callS X0 hx (y := (⟨"jdk/internal/util/ArraysSupport", "mismatch", "([B[BI)I"⟩ : MethodName)) hown (mvT hZ (hw _ (List.mem_of_getElem? (i := 110) rfl))) (mvT hZ (hw _ (List.mem_of_getElem? (i := 111) rfl))) (mvT hZ (hw _ (List.mem_of_getElem? (i := 112) rfl))) (mvT hZ (hw _ (List.mem_of_getElem? (i := 113) rfl))) (by decide) (backOf (W := 0) (rm13 l Z a0 hw [] b d n k kd w h0 n0 Z0 P0 P1 hn) hZ (hw _ (List.mem_of_getElem? (i := 113) rfl)) (hw _ (List.mem_of_getElem? (i := 112) rfl)) (by decide) (by decide)) (g := (mkF m 31 #[.val (.ref b), .val (.ref d), .val (.int n)] [(.int n), (.ref d), (.ref b)])) rfl (by rw [hml]; rfl) (argsL := [(.ref b), (.ref d), (.int n)]) (rest := []) (lenOf pd_3 rfl) rfl (by show 2 * 0 + _ ≤ _; exact Nat.le_of_eq rfl) (hb hby d14_31) (fun _ _ => ⟨rfl, e0, (by decide : 0 + 0 ≤ _), (by decide : 0 + 0 ≤ _)⟩)
  dsimp only [Pt.U, Pt.locs, Pt.cells, Pt.slots] at X_3 l_3 y_3 z_3 st_3 hQ_3
  subst l_3 y_3 z_3
  obtain ⟨rfl, M_3, q_3⟩ := hQ_3
  have N_3 := Fr.app N0 M_3
  refine own_st (S' := T_3.setTop (mkF m 34 #[.val (.ref b), .val (.ref d), .val (.int n)] [(.int (-1 : Int32))])) st_3 ?_
  refine own_st (S' := T_3.setTop (mkF m 37 #[.val (.ref b), .val (.ref d), .val (.int n)] [])) (fun t_ k_ => XS.ifNo X_3.here hx rfl (hb hby d14_34) rfl ((if0 _ _).trans (tlt (by decide : (-1 : Int32) < (0 : Int32))).2.1) k_) ?_
  refine own_st (S' := T_3.setTop (mkF m 38 #[.val (.ref b), .val (.ref d), .val (.int n)] [(.int (1 : Int32))])) (fun t_ k_ => XS.iconst X_3.here hx rfl (hb hby d14_37) k_) ?_
  refine own_st (S' := T_3.setTop (mkF m 42 #[.val (.ref b), .val (.ref d), .val (.int n)] [(.int (1 : Int32))])) (fun t_ k_ => XS.goto X_3.here hx rfl (pc0 := 38) (pc' := 42) rfl (hb hby d14_38) (by decide) (by decide) k_) ?_
  obtain ⟨fs, hr, hrun, hended, hW, hsame⟩ := X_3.leave (v := some (.int (1 : Int32))) (fun h => by rw [Bd.returns] at h; cases h)
  refine ⟨_, _, retN X_3 hx (t := .boolean) Bd.returns (by simp) (hb hby d14_42) hr, hrun, hended, _, _, rfl, ?_, ⟨_, rfl⟩, hW, hsame.mono (by decide) (by decide)⟩
  show Q14 Z b d k kd n w h0 n0 _ T_3.heap _
  rw [q_3]
  exact ⟨rfl, N_3, rfl⟩
theorem d15_0 : decode prog_12_method_3_code 0 = .ok (.aload_n 1, 1) := by decide +kernel
theorem d15_1 : decode prog_12_method_3_code 1 = .ok (.instanceof 8, 3) := by decide +kernel
theorem d15_4 : decode prog_12_method_3_code 4 = .ok (.ifCond .eq 40, 3) := by decide +kernel
theorem d15_7 : decode prog_12_method_3_code 7 = .ok (.aload_n 1, 1) := by decide +kernel
theorem d15_8 : decode prog_12_method_3_code 8 = .ok (.checkcast 8, 3) := by decide +kernel
theorem d15_11 : decode prog_12_method_3_code 11 = .ok (.astore_n 2, 1) := by decide +kernel
theorem d15_12 : decode prog_12_method_3_code 12 = .ok (.aload_n 0, 1) := by decide +kernel
theorem d15_13 : decode prog_12_method_3_code 13 = .ok (.getfield 7, 3) := by decide +kernel
theorem d15_16 : decode prog_12_method_3_code 16 = .ok (.aload_n 2, 1) := by decide +kernel
theorem d15_17 : decode prog_12_method_3_code 17 = .ok (.getfield 7, 3) := by decide +kernel
theorem d15_20 : decode prog_12_method_3_code 20 = .ok (.invokevirtual 29, 3) := by decide +kernel
theorem d15_23 : decode prog_12_method_3_code 23 = .ok (.ifCond .eq 21, 3) := by decide +kernel
theorem d15_26 : decode prog_12_method_3_code 26 = .ok (.aload_n 0, 1) := by decide +kernel
theorem d15_27 : decode prog_12_method_3_code 27 = .ok (.getfield 13, 3) := by decide +kernel
theorem d15_30 : decode prog_12_method_3_code 30 = .ok (.aload_n 2, 1) := by decide +kernel
theorem d15_31 : decode prog_12_method_3_code 31 = .ok (.getfield 13, 3) := by decide +kernel
theorem d15_34 : decode prog_12_method_3_code 34 = .ok (.invokestatic 33, 3) := by decide +kernel
theorem d15_37 : decode prog_12_method_3_code 37 = .ok (.ifCond .eq 7, 3) := by decide +kernel
theorem d15_40 : decode prog_12_method_3_code 40 = .ok (.iconst 1, 1) := by decide +kernel
theorem d15_41 : decode prog_12_method_3_code 41 = .ok (.goto 4, 3) := by decide +kernel
theorem d15_45 : decode prog_12_method_3_code 45 = .ok (.ireturn, 1) := by decide +kernel
theorem ef_15 (m : MethodId) (q : Addr) (o : Addr) : entryFrame m #[(.ref q), (.ref o)] 3 = mkF m 0 #[.val (.ref q), .val (.ref o), .unset] [] := by first | (simp [entryFrame, mkF, argsToLocals, Value.category]; done) | rfl
theorem pd_4 : parseMethodDescriptor "(Ljava/lang/Object;)Z" = some ⟨[(.object "java/lang/Object")], some .boolean⟩ := by decide +kernel
theorem pd_5 : parseMethodDescriptor "([B[B)Z" = some ⟨[(.array .byte), (.array .byte)], some .boolean⟩ := by decide +kernel
def Q15 (Z : State) (q : Addr) (o : Addr) (t : Addr) (b : Addr) (d : Addr) (k : ClassId) (kd : ClassId) (n : Int32) (w : Int32) (h0 : Heap) (n0 : Nat) (v_ : Option Value) (h_ : Heap) (L_ : List Loc) : Prop := v_ = some (.int (1 : Int32)) ∧ Fr n0 L_ ∧ h_ = h0
set_option maxRecDepth 65536 in
set_option maxHeartbeats 40000000 in
theorem rm15 (l : Launch) (Z : State) (a0 : Array Value) (hw : ∀ d ∈ tables_1, d.before a0 Z = true) (ws : List Jvm.Cond) (q : Addr) (o : Addr) (t : Addr) (b : Addr) (d : Addr) (k : ClassId) (kd : ClassId) (n : Int32) (w : Int32) (h0 : Heap) (n0 : Nat) (Z0 : n0 ≤ h0.size) (P0 : Fld Z h0 q "com/example/westmount/westmount/RowKey" "table" "Ljava/lang/String;" (.ref t)) (P1 : Fld Z h0 q "com/example/westmount/westmount/RowKey" "row" "[B" (.ref b)) (P2 : Exa Z h0 o "com/example/westmount/westmount/RowKey") (P3 : Fld Z h0 o "com/example/westmount/westmount/RowKey" "table" "Ljava/lang/String;" (.ref t)) (P4 : Fld Z h0 o "com/example/westmount/westmount/RowKey" "row" "[B" (.ref d)) (P5 : Exa Z h0 t "java/lang/String") (P6 : Arv Z h0 b k .byte n (own_bs n w) (.int (0 : Int32))) (P7 : Arv Z h0 d kd .byte n (own_bs n w) (.int (0 : Int32))) (ne_b_d : b ≠ d) (hn : n = (0 : Int32) ∨ n = (1 : Int32) ∨ n = (2 : Int32) ∨ n = (3 : Int32)) :
    MetFree l (⟨"com/example/westmount/westmount/RowKey", "equals", "(Ljava/lang/Object;)Z"⟩ : MethodName) (head1 (Jvm.Cond.code (⟨"com/example/westmount/westmount/RowKey", "equals", "(Ljava/lang/Object;)Z"⟩ : MethodName) prog_12_method_3_code 3 (some .boolean) :: ws) ({ frames := 2, cells := 0, slots := 0, locals := 29 } : Room)) (fun ar_ U_ => ar_ = #[(.ref q), (.ref o)] ∧ Z.Warmed39 U_.vm ∧ U_.heap = h0) (fun _ _ _ _ _ => True) (fun _ U_ o_ U2_ => ∃ v_ L_, o_ = .returned v_ ∧ Q15 Z q o t b d k kd n w h0 n0 v_ U2_.heap L_ ∧ FrameEnd U_ o_ U2_ L_ ({ frames := 2, cells := 0, slots := 0, locals := 29 } : Room).cells ({ frames := 2, cells := 0, slots := 0, locals := 29 } : Room).slots) := by
  refine MetFree.of_bodySF (plainFor_of_name pn_4) hisR ?_
  intro p e s m args below meth c s₁ Bd hml0 hP hK
  obtain ⟨rfl, hZ, hh⟩ := hP
  have hx := Bd.exec
  have hby := Bd.bytes
  have hml : c.maxLocals = 3 := hml0
  have hown : s.vm.findClass "com/example/westmount/westmount/RowKey" = some m.cls := findClass_of_methodNamed Bd.named
  have hnm := (name_of_methodNamed Bd.named Bd.method).1
  have X0 : Stand p l e ({ frames := 2, cells := 0, slots := 0, locals := 29 } : Room) s m #[(.ref q), (.ref o)] below meth c s₁ [] 0 0 := Stand.of_body Bd
  have e0 : s₁.heap = h0 := by rw [← hh, Bd.state]; rfl
  have N0 := Fr.nil n0
  refine own_gl ?_
  refine own_st (S' := s₁.setTop (mkF m 0 #[.val (.ref q), .val (.ref o), .unset] [])) (fun t_ k_ => castTop (ef_15 m q o) k_) ?_
  refine own_st (S' := s₁.setTop (mkF m 1 #[.val (.ref q), .val (.ref o), .unset] [(.ref o)])) (fun t_ k_ => XS.aloadN X0.here hx rfl (hb hby d15_0) rfl rfl k_) ?_
  obtain ⟨T_1, X_1, e_1, st_1⟩ := instY X0 hx hZ hown (hw _ (List.mem_of_getElem? (i := 103) rfl)) e0 (Ins.self P2) (g := (mkF m 1 #[.val (.ref q), .val (.ref o), .unset] [(.ref o)])) rfl rfl (hb hby d15_1)
  refine own_st (S' := T_1.setTop (mkF m 4 #[.val (.ref q), .val (.ref o), .unset] [(.int (1 : Int32))])) st_1 ?_
  refine own_st (S' := T_1.setTop (mkF m 7 #[.val (.ref q), .val (.ref o), .unset] [])) (fun t_ k_ => XS.ifNo X_1.here hx rfl (hb hby d15_4) rfl ((if0 _ _).trans (feq (by decide : ¬ ((1 : Int32) = (0 : Int32)))).1) k_) ?_
  refine own_st (S' := T_1.setTop (mkF m 8 #[.val (.ref q), .val (.ref o), .unset] [(.ref o)])) (fun t_ k_ => XS.aloadN X_1.here hx rfl (hb hby d15_7) rfl rfl k_) ?_
  obtain ⟨T_2, X_2, e_2, st_2⟩ := castY X_1 hx hZ hown (hw _ (List.mem_of_getElem? (i := 103) rfl)) e_1 (Ins.self P2) (g := (mkF m 8 #[.val (.ref q), .val (.ref o), .unset] [(.ref o)])) rfl rfl (hb hby d15_8)
  refine own_st (S' := T_2.setTop (mkF m 11 #[.val (.ref q), .val (.ref o), .unset] [(.ref o)])) st_2 ?_
  refine own_st (S' := T_2.setTop (mkF m 12 #[.val (.ref q), .val (.ref o), .val (.ref o)] [])) (fun t_ k_ => XS.astoreN X_2.here hx rfl (hb hby d15_11) rfl rfl (l' := #[.val (.ref q), .val (.ref o), .val (.ref o)]) rfl k_) ?_
  refine own_st (S' := T_2.setTop (mkF m 13 #[.val (.ref q), .val (.ref o), .val (.ref o)] [(.ref q)])) (fun t_ k_ => XS.aloadN X_2.here hx rfl (hb hby d15_12) rfl rfl k_) ?_
  obtain ⟨T_3, X_3, e_3, st_3⟩ := getF X_2 hx hZ hown (host := "") (Or.inl (hw _ (List.mem_of_getElem? (i := 68) rfl))) Via.refl e_2 P0 (g := (mkF m 13 #[.val (.ref q), .val (.ref o), .val (.ref o)] [(.ref q)])) rfl rfl (hb hby d15_13)
  refine own_st (S' := T_3.setTop (mkF m 16 #[.val (.ref q), .val (.ref o), .val (.ref o)] [(.ref t)])) st_3 ?_
  refine own_st (S' := T_3.setTop (mkF m 17 #[.val (.ref q), .val (.ref o), .val (.ref o)] [(.ref o), (.ref t)])) (fun t_ k_ => XS.aloadN X_3.here hx rfl (hb hby d15_16) rfl rfl k_) ?_
  obtain ⟨T_4, X_4, e_4, st_4⟩ := getF X_3 hx hZ hown (host := "") (Or.inl (hw _ (List.mem_of_getElem? (i := 68) rfl))) Via.refl e_3 P3 (g := (mkF m 17 #[.val (.ref q), .val (.ref o), .val (.ref o)] [(.ref o), (.ref t)])) rfl rfl (hb hby d15_17)
  refine own_st (S' := T_4.setTop (mkF m 20 #[.val (.ref q), .val (.ref o), .val (.ref o)] [(.ref t), (.ref t)])) st_4 ?_
  obtain ⟨cq_5, kq_5, q_5a, q_5b, q_5c⟩ := isOf hZ e_4 P5
  obtain ⟨_, _, ⟨T_5, L_5, k_5, n_5⟩, -, X_5, ⟨Lc_5, hQ_5, l_5, y_5, z_5⟩, st_5⟩ := X_4.virtualBack hx (y := (⟨"java/lang/String", "equals", "(Ljava/lang/Object;)Z"⟩ : MethodName)) (z := (⟨"java/lang/String", "equals", "(Ljava/lang/Object;)Z"⟩ : MethodName)) hown (mvT hZ (hw _ (List.mem_of_getElem? (i := 105) rfl))) (mvT hZ (hw _ (List.mem_of_getElem? (i := 78) rfl))) (notFace_of_selects (args := #[]) (mvT hZ (hw _ (List.mem_of_getElem? (i := 80) rfl)))) (mvT hZ (hw _ (List.mem_of_getElem? (i := 80) rfl))) (mvT hZ (hw _ (List.mem_of_getElem? (i := 79) rfl))) (by decide) (backOf (W := 0) (rm12 l Z a0 hw [] t t h0 n0 Z0 rfl) hZ (hw _ (List.mem_of_getElem? (i := 81) rfl)) (hw _ (List.mem_of_getElem? (i := 3) rfl)) (by decide) (by decide)) q_5a q_5c (g := (mkF m 20 #[.val (.ref q), .val (.ref o), .val (.ref o)] [(.ref t), (.ref t)])) rfl (by rw [hml]; rfl) (Steps.refl _) (argsL := [(.ref t)]) (rest := []) (lenOf pd_4 rfl) rfl (by show 2 * 0 + _ ≤ _; exact Nat.le_of_eq rfl) (hb hby d15_20) (fun _ _ => ⟨rfl, e_4, (by decide : 0 + 0 ≤ _), (by decide : 0 + 0 ≤ _)⟩)
  dsimp only [Pt.U, Pt.locs, Pt.cells, Pt.slots] at X_5 l_5 y_5 z_5 st_5 hQ_5
  subst l_5 y_5 z_5
  obtain ⟨rfl, M_5, q_5⟩ := hQ_5
  have N_5 := Fr.app N0 M_5
  refine own_st (S' := T_5.setTop (mkF m 23 #[.val (.ref q), .val (.ref o), .val (.ref o)] [(.int (1 : Int32))])) (fun t_ k_ => st_5.trans k_) ?_
  refine own_st (S' := T_5.setTop (mkF m 26 #[.val (.ref q), .val (.ref o), .val (.ref o)] [])) (fun t_ k_ => XS.ifNo X_5.here hx rfl (hb hby d15_23) rfl ((if0 _ _).trans (feq (by decide : ¬ ((1 : Int32) = (0 : Int32)))).1) k_) ?_
  refine own_st (S' := T_5.setTop (mkF m 27 #[.val (.ref q), .val (.ref o), .val (.ref o)] [(.ref q)])) (fun t_ k_ => XS.aloadN X_5.here hx rfl (hb hby d15_26) rfl rfl k_) ?_
  obtain ⟨T_6, X_6, e_6, st_6⟩ := getF X_5 hx hZ hown (host := "") (Or.inl (hw _ (List.mem_of_getElem? (i := 70) rfl))) Via.refl q_5 P1 (g := (mkF m 27 #[.val (.ref q), .val (.ref o), .val (.ref o)] [(.ref q)])) rfl rfl (hb hby d15_27)
  refine own_st (S' := T_6.setTop (mkF m 30 #[.val (.ref q), .val (.ref o), .val (.ref o)] [(.ref b)])) st_6 ?_
  refine own_st (S' := T_6.setTop (mkF m 31 #[.val (.ref q), .val (.ref o), .val (.ref o)] [(.ref o), (.ref b)])) (fun t_ k_ => XS.aloadN X_6.here hx rfl (hb hby d15_30) rfl rfl k_) ?_
  obtain ⟨T_7, X_7, e_7, st_7⟩ := getF X_6 hx hZ hown (host := "") (Or.inl (hw _ (List.mem_of_getElem? (i := 70) rfl))) Via.refl e_6 P4 (g := (mkF m 31 #[.val (.ref q), .val (.ref o), .val (.ref o)] [(.ref o), (.ref b)])) rfl rfl (hb hby d15_31)
  refine own_st (S' := T_7.setTop (mkF m 34 #[.val (.ref q), .val (.ref o), .val (.ref o)] [(.ref d), (.ref b)])) st_7 ?_
  obtain ⟨_, _, ⟨T_8, L_8, k_8, n_8⟩, -, X_8, ⟨Lc_8, hQ_8, l_8, y_8, z_8⟩, st_8⟩ := Jvm.LawKit.callS X_7 hx (y := (⟨"java/util/Arrays", "equals", "([B[B)Z"⟩ : MethodName)) hown (mvT hZ (hw _ (List.mem_of_getElem? (i := 106) rfl))) (mvT hZ (hw _ (List.mem_of_getElem? (i := 107) rfl))) (mvT hZ (hw _ (List.mem_of_getElem? (i := 108) rfl))) (mvT hZ (hw _ (List.mem_of_getElem? (i := 109) rfl))) (by decide) (backOf (W := 0) (rm14 l Z a0 hw [] b d k kd n w h0 n0 Z0 P6 P7 ne_b_d hn) hZ (hw _ (List.mem_of_getElem? (i := 109) rfl)) (hw _ (List.mem_of_getElem? (i := 108) rfl)) (by decide) (by decide)) (g := (mkF m 34 #[.val (.ref q), .val (.ref o), .val (.ref o)] [(.ref d), (.ref b)])) rfl (by rw [hml]; rfl) (argsL := [(.ref b), (.ref d)]) (rest := []) (lenOf pd_5 rfl) rfl (by show 2 * 0 + _ ≤ _; exact Nat.le_of_eq rfl) (hb hby d15_34) (fun _ _ => ⟨rfl, e_7, (by decide : 0 + 0 ≤ _), (by decide : 0 + 0 ≤ _)⟩)
  dsimp only [Pt.U, Pt.locs, Pt.cells, Pt.slots] at X_8 l_8 y_8 z_8 st_8 hQ_8
  subst l_8 y_8 z_8
  obtain ⟨rfl, M_8, q_8⟩ := hQ_8
  have N_8 := Fr.app N_5 M_8
  refine own_st (S' := T_8.setTop (mkF m 37 #[.val (.ref q), .val (.ref o), .val (.ref o)] [(.int (1 : Int32))])) st_8 ?_
  refine own_st (S' := T_8.setTop (mkF m 40 #[.val (.ref q), .val (.ref o), .val (.ref o)] [])) (fun t_ k_ => XS.ifNo X_8.here hx rfl (hb hby d15_37) rfl ((if0 _ _).trans (feq (by decide : ¬ ((1 : Int32) = (0 : Int32)))).1) k_) ?_
  refine own_st (S' := T_8.setTop (mkF m 41 #[.val (.ref q), .val (.ref o), .val (.ref o)] [(.int (1 : Int32))])) (fun t_ k_ => XS.iconst X_8.here hx rfl (hb hby d15_40) k_) ?_
  refine own_st (S' := T_8.setTop (mkF m 45 #[.val (.ref q), .val (.ref o), .val (.ref o)] [(.int (1 : Int32))])) (fun t_ k_ => XS.goto X_8.here hx rfl (pc0 := 41) (pc' := 45) rfl (hb hby d15_41) (by decide) (by decide) k_) ?_
  obtain ⟨fs, hr, hrun, hended, hW, hsame⟩ := X_8.leave (v := some (.int (1 : Int32))) (fun h => by rw [Bd.returns] at h; cases h)
  refine ⟨_, _, retN X_8 hx (t := .boolean) Bd.returns (by simp) (hb hby d15_45) hr, hrun, hended, _, _, rfl, ?_, ⟨_, rfl⟩, hW, hsame.mono (by decide) (by decide)⟩
  show Q15 Z q o t b d k kd n w h0 n0 _ T_8.heap _
  rw [q_8]
  exact ⟨rfl, N_8, rfl⟩
theorem ef_0 (m : MethodId) (p0 : Int32) (p1 : Int32) (p2 : Int32) (p3 : Int32) : entryFrame m #[(.int p0), (.int p1), (.int p2), (.int p3)] maxLocals = mkF m 0 #[.val (.int p0), .val (.int p1), .val (.int p2), .val (.int p3), .unset, .unset, .unset, .unset, .unset, .unset, .unset, .unset, .unset, .unset, .unset, .unset, .unset] [] := by first | (simp [entryFrame, mkF, argsToLocals, Value.category, maxLocals]; done) | rfl
theorem pd_6 : parseMethodDescriptor "([C)V" = some ⟨[(.array .char)], none⟩ := by decide +kernel
theorem pd_7 : parseMethodDescriptor "(II)[B" = some ⟨[.int, .int], some (.array .byte)⟩ := by decide +kernel
theorem pd_8 : parseMethodDescriptor "(Ljava/lang/String;[BZ[BZ)V" = some ⟨[(.object "java/lang/String"), (.array .byte), .boolean, (.array .byte), .boolean], none⟩ := by decide +kernel
theorem pd_9 : parseMethodDescriptor "()Lcom/example/westmount/westmount/RowKey;" = some ⟨[], some (.object "com/example/westmount/westmount/RowKey")⟩ := by decide +kernel
theorem pd_10 : parseMethodDescriptor "()Ljava/lang/String;" = some ⟨[], some (.object "java/lang/String")⟩ := by decide +kernel
theorem pd_11 : parseMethodDescriptor "()[B" = some ⟨[], some (.array .byte)⟩ := by decide +kernel
theorem pd_12 : parseMethodDescriptor "([BII)Z" = some ⟨[(.array .byte), .int, .int], some .boolean⟩ := by decide +kernel
def Q0 (Z : State) (p0 : Int32) (p1 : Int32) (p2 : Int32) (p3 : Int32) (cz : Int32) (h0 : Heap) (n0 : Nat) (v_ : Option Value) (h_ : Heap) (L_ : List Loc) : Prop := v_ = some (.int (1 : Int32)) ∧ Fr n0 L_
set_option maxRecDepth 65536 in
set_option maxHeartbeats 40000000 in
theorem rm0 (l : Launch) (Z : State) (a0 : Array Value) (hw : ∀ d ∈ tables_1, d.before a0 Z = true) (ws : List Jvm.Cond) (p0 : Int32) (p1 : Int32) (p2 : Int32) (p3 : Int32) (cz : Int32) (h0 : Heap) (n0 : Nat) (Z0 : n0 ≤ h0.size) (Y0 : Sta Z Z.heap "java/lang/String" "COMPACT_STRINGS" "Z" (.int cz)) (O0 : Old Z n0 h0) (hcz : ¬ cz = (0 : Int32)) (hcH : Jvm.Lit.constHeld Z "java/lang/String" 7) (hcw : Jvm.Lit.compactW.before a0 Z = true) :
    MetFree l x (head1 (Jvm.Cond.code x code maxLocals ret :: ws) room_1) (fun ar_ U_ => ar_ = #[(.int p0), (.int p1), (.int p2), (.int p3)] ∧ Z.Warmed39 U_.vm ∧ U_.heap = h0 ∧ IB Z U_.vm []) (fun _ _ _ _ _ => True) (fun _ U_ o_ U2_ => ∃ v_ L_, o_ = .returned v_ ∧ Q0 Z p0 p1 p2 p3 cz h0 n0 v_ U2_.heap L_ ∧ ReturnedEndW U_ o_ U2_ L_ room_1.cells room_1.slots) := by
  refine MetFree.of_bodySF (plainFor_of_name pn_1) hisR ?_
  intro p e s m args below meth c s₁ Bd hml0 hP hK
  obtain ⟨rfl, hZ, hh, hI⟩ := hP
  have hx := Bd.exec
  have hby := Bd.bytes
  have hml : c.maxLocals = 17 := hml0
  have hown : s.vm.findClass "com/example/westmount/westmount/RowRangeFirstPinLaw" = some m.cls := findClass_of_methodNamed Bd.named
  have hnm := (name_of_methodNamed Bd.named Bd.method).1
  have X0 : Stand p l e room_1 s m #[(.int p0), (.int p1), (.int p2), (.int p3)] below meth c s₁ [] 0 0 := Stand.of_body Bd
  have e0 : s₁.heap = h0 := by rw [← hh, Bd.state]; rfl
  have N0 := Fr.nil n0
  have wS := own_wS hw
  refine own_gl ?_
  refine own_st (S' := s₁.setTop (mkF m 0 #[.val (.int p0), .val (.int p1), .val (.int p2), .val (.int p3), .unset, .unset, .unset, .unset, .unset, .unset, .unset, .unset, .unset, .unset, .unset, .unset, .unset] [])) (fun t_ k_ => castTop (ef_0 m p0 p1 p2 p3) k_) ?_
  refine own_st (S' := s₁.setTop (mkF m 1 #[.val (.int p0), .val (.int p1), .val (.int p2), .val (.int p3), .unset, .unset, .unset, .unset, .unset, .unset, .unset, .unset, .unset, .unset, .unset, .unset, .unset] [(.int p3)])) (fun t_ k_ => XS.iloadN X0.here hx rfl (hb hby at_0) rfl k_) ?_
  refine own_st (S' := s₁.setTop (mkF m 2 #[.val (.int p0), .val (.int p1), .val (.int p2), .val (.int p3), .unset, .unset, .unset, .unset, .unset, .unset, .unset, .unset, .unset, .unset, .unset, .unset, .unset] [(.int (3 : Int32)), (.int p3)])) (fun t_ k_ => XS.iconst X0.here hx rfl (hb hby at_1) k_) ?_
  refine own_st (S' := s₁.setTop (mkF m 3 #[.val (.int p0), .val (.int p1), .val (.int p2), .val (.int p3), .unset, .unset, .unset, .unset, .unset, .unset, .unset, .unset, .unset, .unset, .unset, .unset, .unset] [(.int (p3 &&& (3 : Int32)))])) (fun t_ k_ => XS.iand X0.here hx rfl (hb hby at_2) rfl k_) ?_
  refine own_st (S' := s₁.setTop (mkF m 5 #[.val (.int p0), .val (.int p1), .val (.int p2), .val (.int p3), .val (.int (p3 &&& (3 : Int32))), .unset, .unset, .unset, .unset, .unset, .unset, .unset, .unset, .unset, .unset, .unset, .unset] [])) (fun t_ k_ => XS.istore X0.here hx rfl (hb hby at_3) rfl (l' := #[.val (.int p0), .val (.int p1), .val (.int p2), .val (.int p3), .val (.int (p3 &&& (3 : Int32))), .unset, .unset, .unset, .unset, .unset, .unset, .unset, .unset, .unset, .unset, .unset, .unset]) rfl k_) ?_
  refine own_st (S' := s₁.setTop (mkF m 6 #[.val (.int p0), .val (.int p1), .val (.int p2), .val (.int p3), .val (.int (p3 &&& (3 : Int32))), .unset, .unset, .unset, .unset, .unset, .unset, .unset, .unset, .unset, .unset, .unset, .unset] [(.int p3)])) (fun t_ k_ => XS.iloadN X0.here hx rfl (hb hby at_5) rfl k_) ?_
  refine own_st (S' := s₁.setTop (mkF m 7 #[.val (.int p0), .val (.int p1), .val (.int p2), .val (.int p3), .val (.int (p3 &&& (3 : Int32))), .unset, .unset, .unset, .unset, .unset, .unset, .unset, .unset, .unset, .unset, .unset, .unset] [(.int (2 : Int32)), (.int p3)])) (fun t_ k_ => XS.iconst X0.here hx rfl (hb hby at_6) k_) ?_
  refine own_st (S' := s₁.setTop (mkF m 8 #[.val (.int p0), .val (.int p1), .val (.int p2), .val (.int p3), .val (.int (p3 &&& (3 : Int32))), .unset, .unset, .unset, .unset, .unset, .unset, .unset, .unset, .unset, .unset, .unset, .unset] [(.int ((p3.toUInt32 >>> ((2 : Int32) &&& 31).toUInt32).toInt32))])) (fun t_ k_ => XS.iushr X0.here hx rfl (hb hby at_7) rfl k_) ?_
  refine own_st (S' := s₁.setTop (mkF m 9 #[.val (.int p0), .val (.int p1), .val (.int p2), .val (.int p3), .val (.int (p3 &&& (3 : Int32))), .unset, .unset, .unset, .unset, .unset, .unset, .unset, .unset, .unset, .unset, .unset, .unset] [(.int (3 : Int32)), (.int ((p3.toUInt32 >>> ((2 : Int32) &&& 31).toUInt32).toInt32))])) (fun t_ k_ => XS.iconst X0.here hx rfl (hb hby at_8) k_) ?_
  refine own_st (S' := s₁.setTop (mkF m 10 #[.val (.int p0), .val (.int p1), .val (.int p2), .val (.int p3), .val (.int (p3 &&& (3 : Int32))), .unset, .unset, .unset, .unset, .unset, .unset, .unset, .unset, .unset, .unset, .unset, .unset] [(.int (((p3.toUInt32 >>> ((2 : Int32) &&& 31).toUInt32).toInt32) &&& (3 : Int32)))])) (fun t_ k_ => XS.iand X0.here hx rfl (hb hby at_9) rfl k_) ?_
  obtain ⟨v_1, hv_1⟩ : ∃ z : Int32, z = (((p3.toUInt32 >>> ((2 : Int32) &&& 31).toUInt32).toInt32) &&& (3 : Int32)) := ⟨_, rfl⟩
  refine own_cast (S' := s₁.setTop (mkF m 10 #[.val (.int p0), .val (.int p1), .val (.int p2), .val (.int p3), .val (.int (p3 &&& (3 : Int32))), .unset, .unset, .unset, .unset, .unset, .unset, .unset, .unset, .unset, .unset, .unset, .unset] [(.int v_1)])) (by rw [hv_1]) ?_
  refine own_st (S' := s₁.setTop (mkF m 12 #[.val (.int p0), .val (.int p1), .val (.int p2), .val (.int p3), .val (.int (p3 &&& (3 : Int32))), .val (.int v_1), .unset, .unset, .unset, .unset, .unset, .unset, .unset, .unset, .unset, .unset, .unset] [])) (fun t_ k_ => XS.istore X0.here hx rfl (hb hby at_10) rfl (l' := #[.val (.int p0), .val (.int p1), .val (.int p2), .val (.int p3), .val (.int (p3 &&& (3 : Int32))), .val (.int v_1), .unset, .unset, .unset, .unset, .unset, .unset, .unset, .unset, .unset, .unset, .unset]) rfl k_) ?_
  refine own_st (S' := s₁.setTop (mkF m 13 #[.val (.int p0), .val (.int p1), .val (.int p2), .val (.int p3), .val (.int (p3 &&& (3 : Int32))), .val (.int v_1), .unset, .unset, .unset, .unset, .unset, .unset, .unset, .unset, .unset, .unset, .unset] [(.int p3)])) (fun t_ k_ => XS.iloadN X0.here hx rfl (hb hby at_12) rfl k_) ?_
  refine own_st (S' := s₁.setTop (mkF m 14 #[.val (.int p0), .val (.int p1), .val (.int p2), .val (.int p3), .val (.int (p3 &&& (3 : Int32))), .val (.int v_1), .unset, .unset, .unset, .unset, .unset, .unset, .unset, .unset, .unset, .unset, .unset] [(.int (4 : Int32)), (.int p3)])) (fun t_ k_ => XS.iconst X0.here hx rfl (hb hby at_13) k_) ?_
  refine own_st (S' := s₁.setTop (mkF m 15 #[.val (.int p0), .val (.int p1), .val (.int p2), .val (.int p3), .val (.int (p3 &&& (3 : Int32))), .val (.int v_1), .unset, .unset, .unset, .unset, .unset, .unset, .unset, .unset, .unset, .unset, .unset] [(.int ((p3.toUInt32 >>> ((4 : Int32) &&& 31).toUInt32).toInt32))])) (fun t_ k_ => XS.iushr X0.here hx rfl (hb hby at_14) rfl k_) ?_
  refine own_st (S' := s₁.setTop (mkF m 16 #[.val (.int p0), .val (.int p1), .val (.int p2), .val (.int p3), .val (.int (p3 &&& (3 : Int32))), .val (.int v_1), .unset, .unset, .unset, .unset, .unset, .unset, .unset, .unset, .unset, .unset, .unset] [(.int (3 : Int32)), (.int ((p3.toUInt32 >>> ((4 : Int32) &&& 31).toUInt32).toInt32))])) (fun t_ k_ => XS.iconst X0.here hx rfl (hb hby at_15) k_) ?_
  refine own_st (S' := s₁.setTop (mkF m 17 #[.val (.int p0), .val (.int p1), .val (.int p2), .val (.int p3), .val (.int (p3 &&& (3 : Int32))), .val (.int v_1), .unset, .unset, .unset, .unset, .unset, .unset, .unset, .unset, .unset, .unset, .unset] [(.int (((p3.toUInt32 >>> ((4 : Int32) &&& 31).toUInt32).toInt32) &&& (3 : Int32)))])) (fun t_ k_ => XS.iand X0.here hx rfl (hb hby at_16) rfl k_) ?_
  obtain ⟨v_2, hv_2⟩ : ∃ z : Int32, z = (((p3.toUInt32 >>> ((4 : Int32) &&& 31).toUInt32).toInt32) &&& (3 : Int32)) := ⟨_, rfl⟩
  refine own_cast (S' := s₁.setTop (mkF m 17 #[.val (.int p0), .val (.int p1), .val (.int p2), .val (.int p3), .val (.int (p3 &&& (3 : Int32))), .val (.int v_1), .unset, .unset, .unset, .unset, .unset, .unset, .unset, .unset, .unset, .unset, .unset] [(.int v_2)])) (by rw [hv_2]) ?_
  refine own_st (S' := s₁.setTop (mkF m 19 #[.val (.int p0), .val (.int p1), .val (.int p2), .val (.int p3), .val (.int (p3 &&& (3 : Int32))), .val (.int v_1), .val (.int v_2), .unset, .unset, .unset, .unset, .unset, .unset, .unset, .unset, .unset, .unset] [])) (fun t_ k_ => XS.istore X0.here hx rfl (hb hby at_17) rfl (l' := #[.val (.int p0), .val (.int p1), .val (.int p2), .val (.int p3), .val (.int (p3 &&& (3 : Int32))), .val (.int v_1), .val (.int v_2), .unset, .unset, .unset, .unset, .unset, .unset, .unset, .unset, .unset, .unset]) rfl k_) ?_
  refine own_st (S' := s₁.setTop (mkF m 20 #[.val (.int p0), .val (.int p1), .val (.int p2), .val (.int p3), .val (.int (p3 &&& (3 : Int32))), .val (.int v_1), .val (.int v_2), .unset, .unset, .unset, .unset, .unset, .unset, .unset, .unset, .unset, .unset] [(.int p3)])) (fun t_ k_ => XS.iloadN X0.here hx rfl (hb hby at_19) rfl k_) ?_
  refine own_st (S' := s₁.setTop (mkF m 22 #[.val (.int p0), .val (.int p1), .val (.int p2), .val (.int p3), .val (.int (p3 &&& (3 : Int32))), .val (.int v_1), .val (.int v_2), .unset, .unset, .unset, .unset, .unset, .unset, .unset, .unset, .unset, .unset] [(.int (6 : Int32)), (.int p3)])) (fun t_ k_ => XS.bipush X0.here hx rfl (hb hby at_20) k_) ?_
  refine own_st (S' := s₁.setTop (mkF m 23 #[.val (.int p0), .val (.int p1), .val (.int p2), .val (.int p3), .val (.int (p3 &&& (3 : Int32))), .val (.int v_1), .val (.int v_2), .unset, .unset, .unset, .unset, .unset, .unset, .unset, .unset, .unset, .unset] [(.int ((p3.toUInt32 >>> ((6 : Int32) &&& 31).toUInt32).toInt32))])) (fun t_ k_ => XS.iushr X0.here hx rfl (hb hby at_22) rfl k_) ?_
  refine own_st (S' := s₁.setTop (mkF m 24 #[.val (.int p0), .val (.int p1), .val (.int p2), .val (.int p3), .val (.int (p3 &&& (3 : Int32))), .val (.int v_1), .val (.int v_2), .unset, .unset, .unset, .unset, .unset, .unset, .unset, .unset, .unset, .unset] [(.int (1 : Int32)), (.int ((p3.toUInt32 >>> ((6 : Int32) &&& 31).toUInt32).toInt32))])) (fun t_ k_ => XS.iconst X0.here hx rfl (hb hby at_23) k_) ?_
  refine own_st (S' := s₁.setTop (mkF m 25 #[.val (.int p0), .val (.int p1), .val (.int p2), .val (.int p3), .val (.int (p3 &&& (3 : Int32))), .val (.int v_1), .val (.int v_2), .unset, .unset, .unset, .unset, .unset, .unset, .unset, .unset, .unset, .unset] [(.int (((p3.toUInt32 >>> ((6 : Int32) &&& 31).toUInt32).toInt32) &&& (1 : Int32)))])) (fun t_ k_ => XS.iand X0.here hx rfl (hb hby at_24) rfl k_) ?_
  refine own_join (F := fun (x : Int32) => s₁.setTop (mkF m 33 #[.val (.int p0), .val (.int p1), .val (.int p2), .val (.int p3), .val (.int (p3 &&& (3 : Int32))), .val (.int v_1), .val (.int v_2), .unset, .unset, .unset, .unset, .unset, .unset, .unset, .unset, .unset, .unset] [(.int x)])) (H := fun (x : Int32) => True) (fun zb hJ33 => ?_) (fun J33 => ?_)
  · show own_Gl p e below _ (s₁.setTop (mkF m 33 #[.val (.int p0), .val (.int p1), .val (.int p2), .val (.int p3), .val (.int (p3 &&& (3 : Int32))), .val (.int v_1), .val (.int v_2), .unset, .unset, .unset, .unset, .unset, .unset, .unset, .unset, .unset, .unset] [(.int zb)]))
    try dsimp only at hJ33
    refine own_st (S' := s₁.setTop (mkF m 35 #[.val (.int p0), .val (.int p1), .val (.int p2), .val (.int p3), .val (.int (p3 &&& (3 : Int32))), .val (.int v_1), .val (.int v_2), .val (.int zb), .unset, .unset, .unset, .unset, .unset, .unset, .unset, .unset, .unset] [])) (fun t_ k_ => XS.istore X0.here hx rfl (hb hby at_33) rfl (l' := #[.val (.int p0), .val (.int p1), .val (.int p2), .val (.int p3), .val (.int (p3 &&& (3 : Int32))), .val (.int v_1), .val (.int v_2), .val (.int zb), .unset, .unset, .unset, .unset, .unset, .unset, .unset, .unset, .unset]) rfl k_) ?_
    refine own_st (S' := s₁.setTop (mkF m 36 #[.val (.int p0), .val (.int p1), .val (.int p2), .val (.int p3), .val (.int (p3 &&& (3 : Int32))), .val (.int v_1), .val (.int v_2), .val (.int zb), .unset, .unset, .unset, .unset, .unset, .unset, .unset, .unset, .unset] [(.int p3)])) (fun t_ k_ => XS.iloadN X0.here hx rfl (hb hby at_35) rfl k_) ?_
    refine own_st (S' := s₁.setTop (mkF m 38 #[.val (.int p0), .val (.int p1), .val (.int p2), .val (.int p3), .val (.int (p3 &&& (3 : Int32))), .val (.int v_1), .val (.int v_2), .val (.int zb), .unset, .unset, .unset, .unset, .unset, .unset, .unset, .unset, .unset] [(.int (7 : Int32)), (.int p3)])) (fun t_ k_ => XS.bipush X0.here hx rfl (hb hby at_36) k_) ?_
    refine own_st (S' := s₁.setTop (mkF m 39 #[.val (.int p0), .val (.int p1), .val (.int p2), .val (.int p3), .val (.int (p3 &&& (3 : Int32))), .val (.int v_1), .val (.int v_2), .val (.int zb), .unset, .unset, .unset, .unset, .unset, .unset, .unset, .unset, .unset] [(.int ((p3.toUInt32 >>> ((7 : Int32) &&& 31).toUInt32).toInt32))])) (fun t_ k_ => XS.iushr X0.here hx rfl (hb hby at_38) rfl k_) ?_
    refine own_st (S' := s₁.setTop (mkF m 40 #[.val (.int p0), .val (.int p1), .val (.int p2), .val (.int p3), .val (.int (p3 &&& (3 : Int32))), .val (.int v_1), .val (.int v_2), .val (.int zb), .unset, .unset, .unset, .unset, .unset, .unset, .unset, .unset, .unset] [(.int (1 : Int32)), (.int ((p3.toUInt32 >>> ((7 : Int32) &&& 31).toUInt32).toInt32))])) (fun t_ k_ => XS.iconst X0.here hx rfl (hb hby at_39) k_) ?_
    refine own_st (S' := s₁.setTop (mkF m 41 #[.val (.int p0), .val (.int p1), .val (.int p2), .val (.int p3), .val (.int (p3 &&& (3 : Int32))), .val (.int v_1), .val (.int v_2), .val (.int zb), .unset, .unset, .unset, .unset, .unset, .unset, .unset, .unset, .unset] [(.int (((p3.toUInt32 >>> ((7 : Int32) &&& 31).toUInt32).toInt32) &&& (1 : Int32)))])) (fun t_ k_ => XS.iand X0.here hx rfl (hb hby at_40) rfl k_) ?_
    refine own_join (F := fun (x : Int32) => s₁.setTop (mkF m 49 #[.val (.int p0), .val (.int p1), .val (.int p2), .val (.int p3), .val (.int (p3 &&& (3 : Int32))), .val (.int v_1), .val (.int v_2), .val (.int zb), .unset, .unset, .unset, .unset, .unset, .unset, .unset, .unset, .unset] [(.int x)])) (H := fun (x : Int32) => True) (fun zc hJ49 => ?_) (fun J49 => ?_)
    · show own_Gl p e below _ (s₁.setTop (mkF m 49 #[.val (.int p0), .val (.int p1), .val (.int p2), .val (.int p3), .val (.int (p3 &&& (3 : Int32))), .val (.int v_1), .val (.int v_2), .val (.int zb), .unset, .unset, .unset, .unset, .unset, .unset, .unset, .unset, .unset] [(.int zc)]))
      try dsimp only at hJ49
      refine own_st (S' := s₁.setTop (mkF m 51 #[.val (.int p0), .val (.int p1), .val (.int p2), .val (.int p3), .val (.int (p3 &&& (3 : Int32))), .val (.int v_1), .val (.int v_2), .val (.int zb), .val (.int zc), .unset, .unset, .unset, .unset, .unset, .unset, .unset, .unset] [])) (fun t_ k_ => XS.istore X0.here hx rfl (hb hby at_49) rfl (l' := #[.val (.int p0), .val (.int p1), .val (.int p2), .val (.int p3), .val (.int (p3 &&& (3 : Int32))), .val (.int v_1), .val (.int v_2), .val (.int zb), .val (.int zc), .unset, .unset, .unset, .unset, .unset, .unset, .unset, .unset]) rfl k_) ?_
      refine own_st (S' := s₁.setTop (mkF m 52 #[.val (.int p0), .val (.int p1), .val (.int p2), .val (.int p3), .val (.int (p3 &&& (3 : Int32))), .val (.int v_1), .val (.int v_2), .val (.int zb), .val (.int zc), .unset, .unset, .unset, .unset, .unset, .unset, .unset, .unset] [(.int p3)])) (fun t_ k_ => XS.iloadN X0.here hx rfl (hb hby at_51) rfl k_) ?_
      refine own_st (S' := s₁.setTop (mkF m 54 #[.val (.int p0), .val (.int p1), .val (.int p2), .val (.int p3), .val (.int (p3 &&& (3 : Int32))), .val (.int v_1), .val (.int v_2), .val (.int zb), .val (.int zc), .unset, .unset, .unset, .unset, .unset, .unset, .unset, .unset] [(.int (8 : Int32)), (.int p3)])) (fun t_ k_ => XS.bipush X0.here hx rfl (hb hby at_52) k_) ?_
      refine own_st (S' := s₁.setTop (mkF m 55 #[.val (.int p0), .val (.int p1), .val (.int p2), .val (.int p3), .val (.int (p3 &&& (3 : Int32))), .val (.int v_1), .val (.int v_2), .val (.int zb), .val (.int zc), .unset, .unset, .unset, .unset, .unset, .unset, .unset, .unset] [(.int ((p3.toUInt32 >>> ((8 : Int32) &&& 31).toUInt32).toInt32))])) (fun t_ k_ => XS.iushr X0.here hx rfl (hb hby at_54) rfl k_) ?_
      refine own_st (S' := s₁.setTop (mkF m 56 #[.val (.int p0), .val (.int p1), .val (.int p2), .val (.int p3), .val (.int (p3 &&& (3 : Int32))), .val (.int v_1), .val (.int v_2), .val (.int zb), .val (.int zc), .unset, .unset, .unset, .unset, .unset, .unset, .unset, .unset] [(.int (1 : Int32)), (.int ((p3.toUInt32 >>> ((8 : Int32) &&& 31).toUInt32).toInt32))])) (fun t_ k_ => XS.iconst X0.here hx rfl (hb hby at_55) k_) ?_
      refine own_st (S' := s₁.setTop (mkF m 57 #[.val (.int p0), .val (.int p1), .val (.int p2), .val (.int p3), .val (.int (p3 &&& (3 : Int32))), .val (.int v_1), .val (.int v_2), .val (.int zb), .val (.int zc), .unset, .unset, .unset, .unset, .unset, .unset, .unset, .unset] [(.int (((p3.toUInt32 >>> ((8 : Int32) &&& 31).toUInt32).toInt32) &&& (1 : Int32)))])) (fun t_ k_ => XS.iand X0.here hx rfl (hb hby at_56) rfl k_) ?_
      refine own_join (F := fun (x : Int32) => s₁.setTop (mkF m 65 #[.val (.int p0), .val (.int p1), .val (.int p2), .val (.int p3), .val (.int (p3 &&& (3 : Int32))), .val (.int v_1), .val (.int v_2), .val (.int zb), .val (.int zc), .unset, .unset, .unset, .unset, .unset, .unset, .unset, .unset] [(.int x)])) (H := fun (x : Int32) => True) (fun zd hJ65 => ?_) (fun J65 => ?_)
      · show own_Gl p e below _ (s₁.setTop (mkF m 65 #[.val (.int p0), .val (.int p1), .val (.int p2), .val (.int p3), .val (.int (p3 &&& (3 : Int32))), .val (.int v_1), .val (.int v_2), .val (.int zb), .val (.int zc), .unset, .unset, .unset, .unset, .unset, .unset, .unset, .unset] [(.int zd)]))
        try dsimp only at hJ65
        refine own_st (S' := s₁.setTop (mkF m 67 #[.val (.int p0), .val (.int p1), .val (.int p2), .val (.int p3), .val (.int (p3 &&& (3 : Int32))), .val (.int v_1), .val (.int v_2), .val (.int zb), .val (.int zc), .val (.int zd), .unset, .unset, .unset, .unset, .unset, .unset, .unset] [])) (fun t_ k_ => XS.istore X0.here hx rfl (hb hby at_65) rfl (l' := #[.val (.int p0), .val (.int p1), .val (.int p2), .val (.int p3), .val (.int (p3 &&& (3 : Int32))), .val (.int v_1), .val (.int v_2), .val (.int zb), .val (.int zc), .val (.int zd), .unset, .unset, .unset, .unset, .unset, .unset, .unset]) rfl k_) ?_
        rcases own_four p3 with hq | hq | hq | hq
        · refine own_cast (S' := s₁.setTop (mkF m 67 #[.val (.int p0), .val (.int p1), .val (.int p2), .val (.int p3), .val (.int (0 : Int32)), .val (.int v_1), .val (.int v_2), .val (.int zb), .val (.int zc), .val (.int zd), .unset, .unset, .unset, .unset, .unset, .unset, .unset] [])) (by rw [hq]) ?_
          refine own_st (S' := s₁.setTop (mkF m 69 #[.val (.int p0), .val (.int p1), .val (.int p2), .val (.int p3), .val (.int (0 : Int32)), .val (.int v_1), .val (.int v_2), .val (.int zb), .val (.int zc), .val (.int zd), .unset, .unset, .unset, .unset, .unset, .unset, .unset] [(.int (0 : Int32))])) (fun t_ k_ => XS.iload X0.here hx rfl (hb hby at_67) rfl k_) ?_
          obtain ⟨T_3, h_3, k_3, X_3, e_3, E_3, A_3, st_3⟩ := newP X0 hx hZ (hw _ (List.mem_of_getElem? (i := 0) rfl)) e0 (g := (mkF m 69 #[.val (.int p0), .val (.int p1), .val (.int p2), .val (.int p3), .val (.int (0 : Int32)), .val (.int v_1), .val (.int v_2), .val (.int zb), .val (.int zc), .val (.int zd), .unset, .unset, .unset, .unset, .unset, .unset, .unset] [(.int (0 : Int32))])) rfl (hb hby at_69) rfl (by decide) (cap := 0) (by decide) (by decide) (by decide) (by decide)
          obtain ⟨b_3, gg_3⟩ : ∃ z, z = h0.size := ⟨_, rfl⟩
          rw [← gg_3] at A_3 st_3
          have g_b_3 : n0 ≤ b_3 := Nat.le_trans Z0 (Nat.le_of_eq gg_3.symm)
          have Z_3 : n0 ≤ h_3.size := Nat.le_trans Z0 E_3.1
          have V_3 : Arv Z h_3 b_3 k_3 .char (0 : Int32) [] (.int (0 : Int32)) := Arv.new A_3 (by decide)
          refine own_st (S' := T_3.setTop (mkF m 71 #[.val (.int p0), .val (.int p1), .val (.int p2), .val (.int p3), .val (.int (0 : Int32)), .val (.int v_1), .val (.int v_2), .val (.int zb), .val (.int zc), .val (.int zd), .unset, .unset, .unset, .unset, .unset, .unset, .unset] [(.ref b_3)])) st_3 ?_
          refine own_st (S' := T_3.setTop (mkF m 73 #[.val (.int p0), .val (.int p1), .val (.int p2), .val (.int p3), .val (.int (0 : Int32)), .val (.int v_1), .val (.int v_2), .val (.int zb), .val (.int zc), .val (.int zd), .val (.ref b_3), .unset, .unset, .unset, .unset, .unset, .unset] [])) (fun t_ k_ => XS.astore X_3.here hx rfl (hb hby at_71) rfl rfl (l' := #[.val (.int p0), .val (.int p1), .val (.int p2), .val (.int p3), .val (.int (0 : Int32)), .val (.int v_1), .val (.int v_2), .val (.int zb), .val (.int zc), .val (.int zd), .val (.ref b_3), .unset, .unset, .unset, .unset, .unset, .unset]) rfl k_) ?_
          refine own_st (S' := T_3.setTop (mkF m 75 #[.val (.int p0), .val (.int p1), .val (.int p2), .val (.int p3), .val (.int (0 : Int32)), .val (.int v_1), .val (.int v_2), .val (.int zb), .val (.int zc), .val (.int zd), .val (.ref b_3), .unset, .unset, .unset, .unset, .unset, .unset] [(.int (0 : Int32))])) (fun t_ k_ => XS.iload X_3.here hx rfl (hb hby at_73) rfl k_) ?_
          refine own_st (S' := T_3.setTop (mkF m 88 #[.val (.int p0), .val (.int p1), .val (.int p2), .val (.int p3), .val (.int (0 : Int32)), .val (.int v_1), .val (.int v_2), .val (.int zb), .val (.int zc), .val (.int zd), .val (.ref b_3), .unset, .unset, .unset, .unset, .unset, .unset] [])) (fun t_ k_ => XS.ifYes X_3.here hx rfl (pc0 := 75) (pc' := 88) rfl (hb hby at_75) rfl ((if0 _ _).trans (flt (by decide : ¬ ((0 : Int32) < (0 : Int32)))).2.2.2) (by decide) (by decide) k_) ?_
          refine own_st (S' := T_3.setTop (mkF m 90 #[.val (.int p0), .val (.int p1), .val (.int p2), .val (.int p3), .val (.int (0 : Int32)), .val (.int v_1), .val (.int v_2), .val (.int zb), .val (.int zc), .val (.int zd), .val (.ref b_3), .unset, .unset, .unset, .unset, .unset, .unset] [(.int (0 : Int32))])) (fun t_ k_ => XS.iload X_3.here hx rfl (hb hby at_88) rfl k_) ?_
          refine own_st (S' := T_3.setTop (mkF m 91 #[.val (.int p0), .val (.int p1), .val (.int p2), .val (.int p3), .val (.int (0 : Int32)), .val (.int v_1), .val (.int v_2), .val (.int zb), .val (.int zc), .val (.int zd), .val (.ref b_3), .unset, .unset, .unset, .unset, .unset, .unset] [(.int (1 : Int32)), (.int (0 : Int32))])) (fun t_ k_ => XS.iconst X_3.here hx rfl (hb hby at_90) k_) ?_
          refine own_st (S' := T_3.setTop (mkF m 107 #[.val (.int p0), .val (.int p1), .val (.int p2), .val (.int p3), .val (.int (0 : Int32)), .val (.int v_1), .val (.int v_2), .val (.int zb), .val (.int zc), .val (.int zd), .val (.ref b_3), .unset, .unset, .unset, .unset, .unset, .unset] [])) (fun t_ k_ => XS.icmpYes X_3.here hx rfl (pc0 := 91) (pc' := 107) rfl (hb hby at_91) rfl (flt (by decide : ¬ ((1 : Int32) < (0 : Int32)))).2.2.2 (by decide) (by decide) k_) ?_
          refine own_st (S' := T_3.setTop (mkF m 109 #[.val (.int p0), .val (.int p1), .val (.int p2), .val (.int p3), .val (.int (0 : Int32)), .val (.int v_1), .val (.int v_2), .val (.int zb), .val (.int zc), .val (.int zd), .val (.ref b_3), .unset, .unset, .unset, .unset, .unset, .unset] [(.int (0 : Int32))])) (fun t_ k_ => XS.iload X_3.here hx rfl (hb hby at_107) rfl k_) ?_
          refine own_st (S' := T_3.setTop (mkF m 110 #[.val (.int p0), .val (.int p1), .val (.int p2), .val (.int p3), .val (.int (0 : Int32)), .val (.int v_1), .val (.int v_2), .val (.int zb), .val (.int zc), .val (.int zd), .val (.ref b_3), .unset, .unset, .unset, .unset, .unset, .unset] [(.int (2 : Int32)), (.int (0 : Int32))])) (fun t_ k_ => XS.iconst X_3.here hx rfl (hb hby at_109) k_) ?_
          refine own_st (S' := T_3.setTop (mkF m 126 #[.val (.int p0), .val (.int p1), .val (.int p2), .val (.int p3), .val (.int (0 : Int32)), .val (.int v_1), .val (.int v_2), .val (.int zb), .val (.int zc), .val (.int zd), .val (.ref b_3), .unset, .unset, .unset, .unset, .unset, .unset] [])) (fun t_ k_ => XS.icmpYes X_3.here hx rfl (pc0 := 110) (pc' := 126) rfl (hb hby at_110) rfl (flt (by decide : ¬ ((2 : Int32) < (0 : Int32)))).2.2.2 (by decide) (by decide) k_) ?_
          obtain ⟨T_4, h_4, X_4, e_4, E_4, A_4, D_4, -, st_4⟩ := newO X_3 hx hZ hown (hw _ (List.mem_of_getElem? (i := 1) rfl)) (hw _ (List.mem_of_getElem? (i := 2) rfl)) (hw _ (List.mem_of_getElem? (i := 3) rfl)) e_3 (g := (mkF m 126 #[.val (.int p0), .val (.int p1), .val (.int p2), .val (.int p3), .val (.int (0 : Int32)), .val (.int v_1), .val (.int v_2), .val (.int zb), .val (.int zc), .val (.int zd), .val (.ref b_3), .unset, .unset, .unset, .unset, .unset, .unset] [])) rfl (hb hby at_126) (by decide) (by decide)
          obtain ⟨b_4, gg_4⟩ : ∃ z, z = h_3.size := ⟨_, rfl⟩
          rw [← gg_4] at A_4 D_4 st_4
          have ne_b_3_b_4 : b_3 ≠ b_4 := Nat.ne_of_lt (Nat.lt_of_lt_of_le V_3.lt (Nat.le_of_eq gg_4.symm))
          have g_b_4 : n0 ≤ b_4 := Nat.le_trans Z_3 (Nat.le_of_eq gg_4.symm)
          have Z_4 : n0 ≤ h_4.size := Nat.le_trans Z_3 E_4.1
          have F_4_coder : Fld Z h_4 b_4 "java/lang/String" "coder" "B" (.int (0 : Int32)) := D_4 (Or.inr (hw _ (List.mem_of_getElem? (i := 27) rfl))) (ty := .byte) (by decide)
          have F_4_value : Fld Z h_4 b_4 "java/lang/String" "value" "[B" .null := D_4 (Or.inr (hw _ (List.mem_of_getElem? (i := 29) rfl))) (ty := (.array .byte)) (by decide)
          refine own_st (S' := T_4.setTop (mkF m 129 #[.val (.int p0), .val (.int p1), .val (.int p2), .val (.int p3), .val (.int (0 : Int32)), .val (.int v_1), .val (.int v_2), .val (.int zb), .val (.int zc), .val (.int zd), .val (.ref b_3), .unset, .unset, .unset, .unset, .unset, .unset] [(.ref b_4)])) st_4 ?_
          refine own_st (S' := T_4.setTop (mkF m 130 #[.val (.int p0), .val (.int p1), .val (.int p2), .val (.int p3), .val (.int (0 : Int32)), .val (.int v_1), .val (.int v_2), .val (.int zb), .val (.int zc), .val (.int zd), .val (.ref b_3), .unset, .unset, .unset, .unset, .unset, .unset] [(.ref b_4), (.ref b_4)])) (fun t_ k_ => XS.dup X_4.here hx rfl (hb hby at_129) rfl rfl k_) ?_
          refine own_st (S' := T_4.setTop (mkF m 132 #[.val (.int p0), .val (.int p1), .val (.int p2), .val (.int p3), .val (.int (0 : Int32)), .val (.int v_1), .val (.int v_2), .val (.int zb), .val (.int zc), .val (.int zd), .val (.ref b_3), .unset, .unset, .unset, .unset, .unset, .unset] [(.ref b_3), (.ref b_4), (.ref b_4)])) (fun t_ k_ => XS.aload X_4.here hx rfl (hb hby at_130) rfl rfl k_) ?_
          have f_5 : Arv Z h_4 b_3 k_3 .char (0 : Int32) [] (.int (0 : Int32)) := (V_3.ext E_4)
          have f_6 : Old Z n0 h_4 := ((O0.ext E_3).ext E_4)
          obtain ⟨_, _, ⟨T_7, L_7, k_7, n_7⟩, -, X_7, hS_7, hg_7, ⟨Lc_7, hQ_7, l_7, y_7, z_7⟩, st_7⟩ := X_4.specialBackS hx (y := (⟨"java/lang/String", "<init>", "([C)V"⟩ : MethodName)) rfl hown (mvT hZ (hw _ (List.mem_of_getElem? (i := 4) rfl))) (mvT hZ (hw _ (List.mem_of_getElem? (i := 5) rfl))) (mvT hZ (hw _ (List.mem_of_getElem? (i := 6) rfl))) (by decide) (own_backIB (W := 1) (rm2 l Z a0 hw [] b_4 b_3 cz k_3 h_4 n0 Z_4 A_4 F_4_value F_4_coder f_5 Y0 f_6 g_b_4 hcH hcw) hZ hI (hw _ (List.mem_of_getElem? (i := 6) rfl)) (hw _ (List.mem_of_getElem? (i := 3) rfl)) (by decide) (by decide)) (g := (mkF m 132 #[.val (.int p0), .val (.int p1), .val (.int p2), .val (.int p3), .val (.int (0 : Int32)), .val (.int v_1), .val (.int v_2), .val (.int zb), .val (.int zc), .val (.int zd), .val (.ref b_3), .unset, .unset, .unset, .unset, .unset, .unset] [(.ref b_3), (.ref b_4), (.ref b_4)])) rfl (by rw [hml]; rfl) (Steps.refl _) (a := b_4) (argsL := [(.ref b_3)]) (rest := [(.ref b_4)]) (lenOf pd_6 rfl) rfl (by show 2 * 0 + _ ≤ _; exact Nat.le_of_eq rfl) (hb hby at_132) (fun _ _ => ⟨rfl, e_4, (by decide : 2 + 2 ≤ _), (by decide : 4 + 4 ≤ _)⟩)
          dsimp only [Pt.U, Pt.locs, Pt.cells, Pt.slots] at X_7 l_7 y_7 z_7 st_7 hQ_7 hS_7
          subst l_7 y_7 z_7
          have hZ_7 : Z.Warmed39 (s.setVm T_7.vm).vm := State.Warmed39.trans (t := s) hZ hS_7.1
          have ho_7 : (s.setVm T_7.vm).vm.findClass "com/example/westmount/westmount/RowRangeFirstPinLaw" = some m.cls := by rw [show (s.setVm T_7.vm).vm = T_7.vm from rfl, hS_7.1.alike.findClass]; exact hown
          obtain ⟨rfl, M_7, K_7c, c_7_0⟩ := hQ_7
          have N_7 := Fr.app N0 M_7
          have Z_7 : n0 ≤ T_7.heap.size := Nat.le_trans Z_4 K_7c.1
          refine own_st (S' := T_7.setTop (mkF m 135 #[.val (.int p0), .val (.int p1), .val (.int p2), .val (.int p3), .val (.int (0 : Int32)), .val (.int v_1), .val (.int v_2), .val (.int zb), .val (.int zc), .val (.int zd), .val (.ref b_3), .unset, .unset, .unset, .unset, .unset, .unset] [(.ref b_4)])) (fun t_ k_ => st_7.trans k_) ?_
          refine own_st (S' := T_7.setTop (mkF m 137 #[.val (.int p0), .val (.int p1), .val (.int p2), .val (.int p3), .val (.int (0 : Int32)), .val (.int v_1), .val (.int v_2), .val (.int zb), .val (.int zc), .val (.int zd), .val (.ref b_3), .val (.ref b_4), .unset, .unset, .unset, .unset, .unset] [])) (fun t_ k_ => XS.astore X_7.here hx rfl (hb hby at_135) rfl rfl (l' := #[.val (.int p0), .val (.int p1), .val (.int p2), .val (.int p3), .val (.int (0 : Int32)), .val (.int v_1), .val (.int v_2), .val (.int zb), .val (.int zc), .val (.int zd), .val (.ref b_3), .val (.ref b_4), .unset, .unset, .unset, .unset, .unset]) rfl k_) ?_
          refine own_st (S' := T_7.setTop (mkF m 139 #[.val (.int p0), .val (.int p1), .val (.int p2), .val (.int p3), .val (.int (0 : Int32)), .val (.int v_1), .val (.int v_2), .val (.int zb), .val (.int zc), .val (.int zd), .val (.ref b_3), .val (.ref b_4), .unset, .unset, .unset, .unset, .unset] [(.int v_1)])) (fun t_ k_ => XS.iload X_7.here hx rfl (hb hby at_137) rfl k_) ?_
          refine own_st (S' := T_7.setTop (mkF m 140 #[.val (.int p0), .val (.int p1), .val (.int p2), .val (.int p3), .val (.int (0 : Int32)), .val (.int v_1), .val (.int v_2), .val (.int zb), .val (.int zc), .val (.int zd), .val (.ref b_3), .val (.ref b_4), .unset, .unset, .unset, .unset, .unset] [(.int p1), (.int v_1)])) (fun t_ k_ => XS.iloadN X_7.here hx rfl (hb hby at_139) rfl k_) ?_
          have f_8 : Arv Z T_7.heap b_3 k_3 .char (0 : Int32) [] (.int (0 : Int32)) := (f_5.keep K_7c (ninS ne_b_3_b_4 nin0))
          obtain ⟨_, _, ⟨T_9, L_9, k_9, n_9⟩, -, X_9, ⟨Lc_9, hQ_9, l_9, y_9, z_9⟩, st_9⟩ := Jvm.LawKit.callS X_7 hx (y := (⟨"com/example/westmount/westmount/RowRangeFirstPinLaw", "bytes", "(II)[B"⟩ : MethodName)) ho_7 (mvT hZ_7 (hw _ (List.mem_of_getElem? (i := 30) rfl))) (mvT hZ_7 (hw _ (List.mem_of_getElem? (i := 31) rfl))) (mvT hZ_7 (hw _ (List.mem_of_getElem? (i := 32) rfl))) (mvT hZ_7 (hw _ (List.mem_of_getElem? (i := 33) rfl))) (by decide) (backOf (W := 0) (rm3 l Z a0 hw [] v_1 p1 T_7.heap n0 Z_7 (hv_1 ▸ own_four _)) hZ_7 (hw _ (List.mem_of_getElem? (i := 33) rfl)) (hw _ (List.mem_of_getElem? (i := 32) rfl)) (by decide) (by decide)) (g := (mkF m 140 #[.val (.int p0), .val (.int p1), .val (.int p2), .val (.int p3), .val (.int (0 : Int32)), .val (.int v_1), .val (.int v_2), .val (.int zb), .val (.int zc), .val (.int zd), .val (.ref b_3), .val (.ref b_4), .unset, .unset, .unset, .unset, .unset] [(.int p1), (.int v_1)])) rfl (by rw [hml]; rfl) (argsL := [(.int v_1), (.int p1)]) (rest := []) (lenOf pd_7 rfl) rfl (by show 2 * 0 + _ ≤ _; exact Nat.le_of_eq rfl) (hb hby at_140) (fun _ _ => ⟨rfl, rfl, (by decide : 4 + 1 ≤ _), (by decide : 8 + 3 ≤ _)⟩)
          dsimp only [Pt.U, Pt.locs, Pt.cells, Pt.slots] at X_9 l_9 y_9 z_9 st_9 hQ_9
          subst l_9 y_9 z_9
          obtain ⟨x_9_b, x_9_k, rfl, M_9, K_9c, z_9_0, c_9_0⟩ := hQ_9
          have N_9 := Fr.app N_7 M_9
          have ne_b_3_x_9_b : b_3 ≠ x_9_b := Nat.ne_of_lt (Nat.lt_of_lt_of_le f_8.lt z_9_0)
          have ne_b_4_x_9_b : b_4 ≠ x_9_b := Nat.ne_of_lt (Nat.lt_of_lt_of_le c_7_0.lt z_9_0)
          have g_x_9_b : n0 ≤ x_9_b := Nat.le_trans Z_7 z_9_0
          have Z_9 : n0 ≤ T_9.heap.size := Nat.le_trans Z_7 K_9c.1
          have hs_9 : T_7.heap.size ≤ T_9.heap.size := Nat.le_trans (Nat.le_refl _) K_9c.1
          refine own_st (S' := T_9.setTop (mkF m 143 #[.val (.int p0), .val (.int p1), .val (.int p2), .val (.int p3), .val (.int (0 : Int32)), .val (.int v_1), .val (.int v_2), .val (.int zb), .val (.int zc), .val (.int zd), .val (.ref b_3), .val (.ref b_4), .unset, .unset, .unset, .unset, .unset] [(.ref x_9_b)])) st_9 ?_
          refine own_st (S' := T_9.setTop (mkF m 145 #[.val (.int p0), .val (.int p1), .val (.int p2), .val (.int p3), .val (.int (0 : Int32)), .val (.int v_1), .val (.int v_2), .val (.int zb), .val (.int zc), .val (.int zd), .val (.ref b_3), .val (.ref b_4), .val (.ref x_9_b), .unset, .unset, .unset, .unset] [])) (fun t_ k_ => XS.astore X_9.here hx rfl (hb hby at_143) rfl rfl (l' := #[.val (.int p0), .val (.int p1), .val (.int p2), .val (.int p3), .val (.int (0 : Int32)), .val (.int v_1), .val (.int v_2), .val (.int zb), .val (.int zc), .val (.int zd), .val (.ref b_3), .val (.ref b_4), .val (.ref x_9_b), .unset, .unset, .unset, .unset]) rfl k_) ?_
          refine own_st (S' := T_9.setTop (mkF m 147 #[.val (.int p0), .val (.int p1), .val (.int p2), .val (.int p3), .val (.int (0 : Int32)), .val (.int v_1), .val (.int v_2), .val (.int zb), .val (.int zc), .val (.int zd), .val (.ref b_3), .val (.ref b_4), .val (.ref x_9_b), .unset, .unset, .unset, .unset] [(.int zd)])) (fun t_ k_ => XS.iload X_9.here hx rfl (hb hby at_145) rfl k_) ?_
          by_cases hc147 : zd = (0 : Int32)
          · refine own_st (S' := T_9.setTop (mkF m 159 #[.val (.int p0), .val (.int p1), .val (.int p2), .val (.int p3), .val (.int (0 : Int32)), .val (.int v_1), .val (.int v_2), .val (.int zb), .val (.int zc), .val (.int zd), .val (.ref b_3), .val (.ref b_4), .val (.ref x_9_b), .unset, .unset, .unset, .unset] [])) (fun t_ k_ => XS.ifYes X_9.here hx rfl (pc0 := 147) (pc' := 159) rfl (hb hby at_147) rfl ((if0 _ _).trans (teq hc147).1) (by decide) (by decide) k_) ?_
            refine own_st (S' := T_9.setTop (mkF m 161 #[.val (.int p0), .val (.int p1), .val (.int p2), .val (.int p3), .val (.int (0 : Int32)), .val (.int v_1), .val (.int v_2), .val (.int zb), .val (.int zc), .val (.int zd), .val (.ref b_3), .val (.ref b_4), .val (.ref x_9_b), .unset, .unset, .unset, .unset] [(.int v_2)])) (fun t_ k_ => XS.iload X_9.here hx rfl (hb hby at_159) rfl k_) ?_
            refine own_st (S' := T_9.setTop (mkF m 162 #[.val (.int p0), .val (.int p1), .val (.int p2), .val (.int p3), .val (.int (0 : Int32)), .val (.int v_1), .val (.int v_2), .val (.int zb), .val (.int zc), .val (.int zd), .val (.ref b_3), .val (.ref b_4), .val (.ref x_9_b), .unset, .unset, .unset, .unset] [(.int p2), (.int v_2)])) (fun t_ k_ => XS.iloadN X_9.here hx rfl (hb hby at_161) rfl k_) ?_
            have f_10 : Arv Z T_9.heap b_3 k_3 .char (0 : Int32) [] (.int (0 : Int32)) := (f_8.keep K_9c nin0)
            have f_11 : Exa Z T_9.heap b_4 "java/lang/String" := (c_7_0.keep K_9c)
            obtain ⟨_, _, ⟨T_12, L_12, k_12, n_12⟩, -, X_12, ⟨Lc_12, hQ_12, l_12, y_12, z_12⟩, st_12⟩ := Jvm.LawKit.callS X_9 hx (y := (⟨"com/example/westmount/westmount/RowRangeFirstPinLaw", "bytes", "(II)[B"⟩ : MethodName)) ho_7 (mvT hZ_7 (hw _ (List.mem_of_getElem? (i := 30) rfl))) (mvT hZ_7 (hw _ (List.mem_of_getElem? (i := 31) rfl))) (mvT hZ_7 (hw _ (List.mem_of_getElem? (i := 32) rfl))) (mvT hZ_7 (hw _ (List.mem_of_getElem? (i := 33) rfl))) (by decide) (backOf (W := 0) (rm3 l Z a0 hw [] v_2 p2 T_9.heap n0 Z_9 (hv_2 ▸ own_four _)) hZ_7 (hw _ (List.mem_of_getElem? (i := 33) rfl)) (hw _ (List.mem_of_getElem? (i := 32) rfl)) (by decide) (by decide)) (g := (mkF m 162 #[.val (.int p0), .val (.int p1), .val (.int p2), .val (.int p3), .val (.int (0 : Int32)), .val (.int v_1), .val (.int v_2), .val (.int zb), .val (.int zc), .val (.int zd), .val (.ref b_3), .val (.ref b_4), .val (.ref x_9_b), .unset, .unset, .unset, .unset] [(.int p2), (.int v_2)])) rfl (by rw [hml]; rfl) (argsL := [(.int v_2), (.int p2)]) (rest := []) (lenOf pd_7 rfl) rfl (by show 2 * 0 + _ ≤ _; exact Nat.le_of_eq rfl) (hb hby at_162) (fun _ _ => ⟨rfl, rfl, (by decide : 5 + 1 ≤ _), (by decide : 11 + 3 ≤ _)⟩)
            dsimp only [Pt.U, Pt.locs, Pt.cells, Pt.slots] at X_12 l_12 y_12 z_12 st_12 hQ_12
            subst l_12 y_12 z_12
            obtain ⟨x_12_b, x_12_k, rfl, M_12, K_12c, z_12_0, c_12_0⟩ := hQ_12
            have N_12 := Fr.app N_9 M_12
            have ne_b_3_x_12_b : b_3 ≠ x_12_b := Nat.ne_of_lt (Nat.lt_of_lt_of_le f_10.lt z_12_0)
            have ne_b_4_x_12_b : b_4 ≠ x_12_b := Nat.ne_of_lt (Nat.lt_of_lt_of_le f_11.lt z_12_0)
            have ne_x_9_b_x_12_b : x_9_b ≠ x_12_b := Nat.ne_of_lt (Nat.lt_of_lt_of_le c_9_0.lt z_12_0)
            have g_x_12_b : n0 ≤ x_12_b := Nat.le_trans Z_9 z_12_0
            have Z_12 : n0 ≤ T_12.heap.size := Nat.le_trans Z_9 K_12c.1
            have hs_12 : T_7.heap.size ≤ T_12.heap.size := Nat.le_trans hs_9 K_12c.1
            refine own_st (S' := T_12.setTop (mkF m 165 #[.val (.int p0), .val (.int p1), .val (.int p2), .val (.int p3), .val (.int (0 : Int32)), .val (.int v_1), .val (.int v_2), .val (.int zb), .val (.int zc), .val (.int zd), .val (.ref b_3), .val (.ref b_4), .val (.ref x_9_b), .unset, .unset, .unset, .unset] [(.ref x_12_b)])) st_12 ?_
            refine own_st (S' := T_12.setTop (mkF m 167 #[.val (.int p0), .val (.int p1), .val (.int p2), .val (.int p3), .val (.int (0 : Int32)), .val (.int v_1), .val (.int v_2), .val (.int zb), .val (.int zc), .val (.int zd), .val (.ref b_3), .val (.ref b_4), .val (.ref x_9_b), .val (.ref x_12_b), .unset, .unset, .unset] [])) (fun t_ k_ => XS.astore X_12.here hx rfl (hb hby at_165) rfl rfl (l' := #[.val (.int p0), .val (.int p1), .val (.int p2), .val (.int p3), .val (.int (0 : Int32)), .val (.int v_1), .val (.int v_2), .val (.int zb), .val (.int zc), .val (.int zd), .val (.ref b_3), .val (.ref b_4), .val (.ref x_9_b), .val (.ref x_12_b), .unset, .unset, .unset]) rfl k_) ?_
            have f_13 : Arv Z T_12.heap b_3 k_3 .char (0 : Int32) [] (.int (0 : Int32)) := (f_10.keep K_12c nin0)
            have f_14 : Exa Z T_12.heap b_4 "java/lang/String" := (f_11.keep K_12c)
            have f_15 : Arv Z T_12.heap x_9_b x_9_k .byte v_1 (own_bs v_1 p1) (.int (0 : Int32)) := (c_9_0.keep K_12c nin0)
            obtain ⟨T_16, h_16, X_16, e_16, E_16, A_16, D_16, -, st_16⟩ := newO X_12 hx hZ_7 ho_7 (hw _ (List.mem_of_getElem? (i := 34) rfl)) (hw _ (List.mem_of_getElem? (i := 35) rfl)) (hw _ (List.mem_of_getElem? (i := 36) rfl)) rfl (g := (mkF m 167 #[.val (.int p0), .val (.int p1), .val (.int p2), .val (.int p3), .val (.int (0 : Int32)), .val (.int v_1), .val (.int v_2), .val (.int zb), .val (.int zc), .val (.int zd), .val (.ref b_3), .val (.ref b_4), .val (.ref x_9_b), .val (.ref x_12_b), .unset, .unset, .unset] [])) rfl (hb hby at_167) (by decide) (by decide)
            obtain ⟨b_16, gg_16⟩ : ∃ z, z = T_12.heap.size := ⟨_, rfl⟩
            rw [← gg_16] at A_16 D_16 st_16
            have ne_b_3_b_16 : b_3 ≠ b_16 := Nat.ne_of_lt (Nat.lt_of_lt_of_le f_13.lt (Nat.le_of_eq gg_16.symm))
            have ne_b_4_b_16 : b_4 ≠ b_16 := Nat.ne_of_lt (Nat.lt_of_lt_of_le f_14.lt (Nat.le_of_eq gg_16.symm))
            have ne_x_12_b_b_16 : x_12_b ≠ b_16 := Nat.ne_of_lt (Nat.lt_of_lt_of_le c_12_0.lt (Nat.le_of_eq gg_16.symm))
            have ne_x_9_b_b_16 : x_9_b ≠ b_16 := Nat.ne_of_lt (Nat.lt_of_lt_of_le f_15.lt (Nat.le_of_eq gg_16.symm))
            have g_b_16 : n0 ≤ b_16 := Nat.le_trans Z_12 (Nat.le_of_eq gg_16.symm)
            have Z_16 : n0 ≤ h_16.size := Nat.le_trans Z_12 E_16.1
            have hs_16 : T_7.heap.size ≤ h_16.size := Nat.le_trans hs_12 E_16.1
            have F_16_table : Fld Z h_16 b_16 "com/example/westmount/westmount/RowRange" "table" "Ljava/lang/String;" .null := D_16 (Or.inr (hw _ (List.mem_of_getElem? (i := 47) rfl))) (ty := (.object "java/lang/String")) (by decide)
            have F_16_start : Fld Z h_16 b_16 "com/example/westmount/westmount/RowRange" "start" "[B" .null := D_16 (Or.inr (hw _ (List.mem_of_getElem? (i := 49) rfl))) (ty := (.array .byte)) (by decide)
            have F_16_startIncluded : Fld Z h_16 b_16 "com/example/westmount/westmount/RowRange" "startIncluded" "Z" (.int (0 : Int32)) := D_16 (Or.inr (hw _ (List.mem_of_getElem? (i := 51) rfl))) (ty := .boolean) (by decide)
            have F_16_stop : Fld Z h_16 b_16 "com/example/westmount/westmount/RowRange" "stop" "[B" .null := D_16 (Or.inr (hw _ (List.mem_of_getElem? (i := 53) rfl))) (ty := (.array .byte)) (by decide)
            have F_16_stopIncluded : Fld Z h_16 b_16 "com/example/westmount/westmount/RowRange" "stopIncluded" "Z" (.int (0 : Int32)) := D_16 (Or.inr (hw _ (List.mem_of_getElem? (i := 55) rfl))) (ty := .boolean) (by decide)
            refine own_st (S' := T_16.setTop (mkF m 170 #[.val (.int p0), .val (.int p1), .val (.int p2), .val (.int p3), .val (.int (0 : Int32)), .val (.int v_1), .val (.int v_2), .val (.int zb), .val (.int zc), .val (.int zd), .val (.ref b_3), .val (.ref b_4), .val (.ref x_9_b), .val (.ref x_12_b), .unset, .unset, .unset] [(.ref b_16)])) st_16 ?_
            refine own_st (S' := T_16.setTop (mkF m 171 #[.val (.int p0), .val (.int p1), .val (.int p2), .val (.int p3), .val (.int (0 : Int32)), .val (.int v_1), .val (.int v_2), .val (.int zb), .val (.int zc), .val (.int zd), .val (.ref b_3), .val (.ref b_4), .val (.ref x_9_b), .val (.ref x_12_b), .unset, .unset, .unset] [(.ref b_16), (.ref b_16)])) (fun t_ k_ => XS.dup X_16.here hx rfl (hb hby at_170) rfl rfl k_) ?_
            refine own_st (S' := T_16.setTop (mkF m 173 #[.val (.int p0), .val (.int p1), .val (.int p2), .val (.int p3), .val (.int (0 : Int32)), .val (.int v_1), .val (.int v_2), .val (.int zb), .val (.int zc), .val (.int zd), .val (.ref b_3), .val (.ref b_4), .val (.ref x_9_b), .val (.ref x_12_b), .unset, .unset, .unset] [(.ref b_4), (.ref b_16), (.ref b_16)])) (fun t_ k_ => XS.aload X_16.here hx rfl (hb hby at_171) rfl rfl k_) ?_
            refine own_st (S' := T_16.setTop (mkF m 175 #[.val (.int p0), .val (.int p1), .val (.int p2), .val (.int p3), .val (.int (0 : Int32)), .val (.int v_1), .val (.int v_2), .val (.int zb), .val (.int zc), .val (.int zd), .val (.ref b_3), .val (.ref b_4), .val (.ref x_9_b), .val (.ref x_12_b), .unset, .unset, .unset] [(.ref x_9_b), (.ref b_4), (.ref b_16), (.ref b_16)])) (fun t_ k_ => XS.aload X_16.here hx rfl (hb hby at_173) rfl rfl k_) ?_
            refine own_st (S' := T_16.setTop (mkF m 177 #[.val (.int p0), .val (.int p1), .val (.int p2), .val (.int p3), .val (.int (0 : Int32)), .val (.int v_1), .val (.int v_2), .val (.int zb), .val (.int zc), .val (.int zd), .val (.ref b_3), .val (.ref b_4), .val (.ref x_9_b), .val (.ref x_12_b), .unset, .unset, .unset] [(.int zb), (.ref x_9_b), (.ref b_4), (.ref b_16), (.ref b_16)])) (fun t_ k_ => XS.iload X_16.here hx rfl (hb hby at_175) rfl k_) ?_
            refine own_st (S' := T_16.setTop (mkF m 179 #[.val (.int p0), .val (.int p1), .val (.int p2), .val (.int p3), .val (.int (0 : Int32)), .val (.int v_1), .val (.int v_2), .val (.int zb), .val (.int zc), .val (.int zd), .val (.ref b_3), .val (.ref b_4), .val (.ref x_9_b), .val (.ref x_12_b), .unset, .unset, .unset] [(.ref x_12_b), (.int zb), (.ref x_9_b), (.ref b_4), (.ref b_16), (.ref b_16)])) (fun t_ k_ => XS.aload X_16.here hx rfl (hb hby at_177) rfl rfl k_) ?_
            refine own_st (S' := T_16.setTop (mkF m 181 #[.val (.int p0), .val (.int p1), .val (.int p2), .val (.int p3), .val (.int (0 : Int32)), .val (.int v_1), .val (.int v_2), .val (.int zb), .val (.int zc), .val (.int zd), .val (.ref b_3), .val (.ref b_4), .val (.ref x_9_b), .val (.ref x_12_b), .unset, .unset, .unset] [(.int zc), (.ref x_12_b), (.int zb), (.ref x_9_b), (.ref b_4), (.ref b_16), (.ref b_16)])) (fun t_ k_ => XS.iload X_16.here hx rfl (hb hby at_179) rfl k_) ?_
            obtain ⟨_, _, ⟨T_17, L_17, k_17, n_17⟩, -, X_17, ⟨Lc_17, hQ_17, l_17, y_17, z_17⟩, st_17⟩ := X_16.specialBack hx (y := (⟨"com/example/westmount/westmount/RowRange", "<init>", "(Ljava/lang/String;[BZ[BZ)V"⟩ : MethodName)) rfl ho_7 (mvT hZ_7 (hw _ (List.mem_of_getElem? (i := 37) rfl))) (mvT hZ_7 (hw _ (List.mem_of_getElem? (i := 38) rfl))) (mvT hZ_7 (hw _ (List.mem_of_getElem? (i := 39) rfl))) (by decide) (backOf (W := 1) (rm6 l Z a0 hw [] b_16 b_4 x_9_b zb x_12_b zc h_16 n0 Z_16 A_16 F_16_table F_16_start F_16_startIncluded F_16_stop F_16_stopIncluded g_b_16) hZ_7 (hw _ (List.mem_of_getElem? (i := 39) rfl)) (hw _ (List.mem_of_getElem? (i := 36) rfl)) (by decide) (by decide)) (g := (mkF m 181 #[.val (.int p0), .val (.int p1), .val (.int p2), .val (.int p3), .val (.int (0 : Int32)), .val (.int v_1), .val (.int v_2), .val (.int zb), .val (.int zc), .val (.int zd), .val (.ref b_3), .val (.ref b_4), .val (.ref x_9_b), .val (.ref x_12_b), .unset, .unset, .unset] [(.int zc), (.ref x_12_b), (.int zb), (.ref x_9_b), (.ref b_4), (.ref b_16), (.ref b_16)])) rfl (by rw [hml]; rfl) (Steps.refl _) (a := b_16) (argsL := [(.ref b_4), (.ref x_9_b), (.int zb), (.ref x_12_b), (.int zc)]) (rest := [(.ref b_16)]) (lenOf pd_8 rfl) rfl (by show 2 * 0 + _ ≤ _; exact Nat.le_of_eq rfl) (hb hby at_181) (fun _ _ => ⟨rfl, e_16, (by decide : 7 + 0 ≤ _), (by decide : 19 + 0 ≤ _)⟩)
            dsimp only [Pt.U, Pt.locs, Pt.cells, Pt.slots] at X_17 l_17 y_17 z_17 st_17 hQ_17
            subst l_17 y_17 z_17
            obtain ⟨rfl, M_17, K_17c, c_17_0, c_17_1, c_17_2, c_17_3⟩ := hQ_17
            have N_17 := Fr.app N_12 M_17
            have Z_17 : n0 ≤ T_17.heap.size := Nat.le_trans Z_16 K_17c.1
            have hs_17 : T_7.heap.size ≤ T_17.heap.size := Nat.le_trans hs_16 K_17c.1
            refine own_st (S' := T_17.setTop (mkF m 184 #[.val (.int p0), .val (.int p1), .val (.int p2), .val (.int p3), .val (.int (0 : Int32)), .val (.int v_1), .val (.int v_2), .val (.int zb), .val (.int zc), .val (.int zd), .val (.ref b_3), .val (.ref b_4), .val (.ref x_9_b), .val (.ref x_12_b), .unset, .unset, .unset] [(.ref b_16)])) (fun t_ k_ => st_17.trans k_) ?_
            refine own_st (S' := T_17.setTop (mkF m 186 #[.val (.int p0), .val (.int p1), .val (.int p2), .val (.int p3), .val (.int (0 : Int32)), .val (.int v_1), .val (.int v_2), .val (.int zb), .val (.int zc), .val (.int zd), .val (.ref b_3), .val (.ref b_4), .val (.ref x_9_b), .val (.ref x_12_b), .val (.ref b_16), .unset, .unset] [])) (fun t_ k_ => XS.astore X_17.here hx rfl (hb hby at_184) rfl rfl (l' := #[.val (.int p0), .val (.int p1), .val (.int p2), .val (.int p3), .val (.int (0 : Int32)), .val (.int v_1), .val (.int v_2), .val (.int zb), .val (.int zc), .val (.int zd), .val (.ref b_3), .val (.ref b_4), .val (.ref x_9_b), .val (.ref x_12_b), .val (.ref b_16), .unset, .unset]) rfl k_) ?_
            refine own_st (S' := T_17.setTop (mkF m 188 #[.val (.int p0), .val (.int p1), .val (.int p2), .val (.int p3), .val (.int (0 : Int32)), .val (.int v_1), .val (.int v_2), .val (.int zb), .val (.int zc), .val (.int zd), .val (.ref b_3), .val (.ref b_4), .val (.ref x_9_b), .val (.ref x_12_b), .val (.ref b_16), .unset, .unset] [(.ref b_16)])) (fun t_ k_ => XS.aload X_17.here hx rfl (hb hby at_186) rfl rfl k_) ?_
            have f_18 : Arv Z T_17.heap b_3 k_3 .char (0 : Int32) [] (.int (0 : Int32)) := ((f_13.ext E_16).keep K_17c (ninS ne_b_3_b_16 nin0))
            have f_19 : Exa Z T_17.heap b_4 "java/lang/String" := ((Exa.ext E_16 f_14).keep K_17c)
            have f_20 : Arv Z T_17.heap x_12_b x_12_k .byte v_2 (own_bs v_2 p2) (.int (0 : Int32)) := ((c_12_0.ext E_16).keep K_17c (ninS ne_x_12_b_b_16 nin0))
            have f_21 : Arv Z T_17.heap x_9_b x_9_k .byte v_1 (own_bs v_1 p1) (.int (0 : Int32)) := ((f_15.ext E_16).keep K_17c (ninS ne_x_9_b_b_16 nin0))
            obtain ⟨cq_22, kq_22, q_22a, q_22b, q_22c⟩ := isOf hZ_7 rfl c_17_0
            obtain ⟨_, _, ⟨T_22, L_22, k_22, n_22⟩, -, X_22, ⟨Lc_22, hQ_22, l_22, y_22, z_22⟩, st_22⟩ := X_17.virtualBack hx (y := (⟨"com/example/westmount/westmount/RowRange", "first", "()Lcom/example/westmount/westmount/RowKey;"⟩ : MethodName)) (z := (⟨"com/example/westmount/westmount/RowRange", "first", "()Lcom/example/westmount/westmount/RowKey;"⟩ : MethodName)) ho_7 (mvT hZ_7 (hw _ (List.mem_of_getElem? (i := 56) rfl))) (mvT hZ_7 (hw _ (List.mem_of_getElem? (i := 57) rfl))) (notFace_of_selects (args := #[]) (mvT hZ_7 (hw _ (List.mem_of_getElem? (i := 59) rfl)))) (mvT hZ_7 (hw _ (List.mem_of_getElem? (i := 59) rfl))) (mvT hZ_7 (hw _ (List.mem_of_getElem? (i := 58) rfl))) (by decide) (backOf (W := 0) (rm8 l Z a0 hw [] b_16 b_4 x_9_b T_17.heap n0 Z_17 c_17_1 c_17_2) hZ_7 (hw _ (List.mem_of_getElem? (i := 60) rfl)) (hw _ (List.mem_of_getElem? (i := 36) rfl)) (by decide) (by decide)) q_22a q_22c (g := (mkF m 188 #[.val (.int p0), .val (.int p1), .val (.int p2), .val (.int p3), .val (.int (0 : Int32)), .val (.int v_1), .val (.int v_2), .val (.int zb), .val (.int zc), .val (.int zd), .val (.ref b_3), .val (.ref b_4), .val (.ref x_9_b), .val (.ref x_12_b), .val (.ref b_16), .unset, .unset] [(.ref b_16)])) rfl (by rw [hml]; rfl) (Steps.refl _) (argsL := []) (rest := []) (lenOf pd_9 rfl) rfl (by show 2 * 0 + _ ≤ _; exact Nat.le_of_eq rfl) (hb hby at_188) (fun _ _ => ⟨rfl, rfl, (by decide : 7 + 1 ≤ _), (by decide : 19 + 2 ≤ _)⟩)
            dsimp only [Pt.U, Pt.locs, Pt.cells, Pt.slots] at X_22 l_22 y_22 z_22 st_22 hQ_22
            subst l_22 y_22 z_22
            obtain ⟨x_22_q, rfl, M_22, K_22c, z_22_0, c_22_0, c_22_1, c_22_2⟩ := hQ_22
            have N_22 := Fr.app N_17 M_22
            have ne_b_16_x_22_q : b_16 ≠ x_22_q := Nat.ne_of_lt (Nat.lt_of_lt_of_le c_17_0.lt z_22_0)
            have ne_b_3_x_22_q : b_3 ≠ x_22_q := Nat.ne_of_lt (Nat.lt_of_lt_of_le f_18.lt z_22_0)
            have ne_b_4_x_22_q : b_4 ≠ x_22_q := Nat.ne_of_lt (Nat.lt_of_lt_of_le f_19.lt z_22_0)
            have ne_x_12_b_x_22_q : x_12_b ≠ x_22_q := Nat.ne_of_lt (Nat.lt_of_lt_of_le f_20.lt z_22_0)
            have ne_x_9_b_x_22_q : x_9_b ≠ x_22_q := Nat.ne_of_lt (Nat.lt_of_lt_of_le f_21.lt z_22_0)
            have g_x_22_q : n0 ≤ x_22_q := Nat.le_trans Z_17 z_22_0
            have Z_22 : n0 ≤ T_22.heap.size := Nat.le_trans Z_17 K_22c.1
            have hs_22 : T_7.heap.size ≤ T_22.heap.size := Nat.le_trans hs_17 K_22c.1
            refine own_st (S' := T_22.setTop (mkF m 191 #[.val (.int p0), .val (.int p1), .val (.int p2), .val (.int p3), .val (.int (0 : Int32)), .val (.int v_1), .val (.int v_2), .val (.int zb), .val (.int zc), .val (.int zd), .val (.ref b_3), .val (.ref b_4), .val (.ref x_9_b), .val (.ref x_12_b), .val (.ref b_16), .unset, .unset] [(.ref x_22_q)])) (fun t_ k_ => st_22.trans k_) ?_
            refine own_st (S' := T_22.setTop (mkF m 193 #[.val (.int p0), .val (.int p1), .val (.int p2), .val (.int p3), .val (.int (0 : Int32)), .val (.int v_1), .val (.int v_2), .val (.int zb), .val (.int zc), .val (.int zd), .val (.ref b_3), .val (.ref b_4), .val (.ref x_9_b), .val (.ref x_12_b), .val (.ref b_16), .val (.ref x_22_q), .unset] [])) (fun t_ k_ => XS.astore X_22.here hx rfl (hb hby at_191) rfl rfl (l' := #[.val (.int p0), .val (.int p1), .val (.int p2), .val (.int p3), .val (.int (0 : Int32)), .val (.int v_1), .val (.int v_2), .val (.int zb), .val (.int zc), .val (.int zd), .val (.ref b_3), .val (.ref b_4), .val (.ref x_9_b), .val (.ref x_12_b), .val (.ref b_16), .val (.ref x_22_q), .unset]) rfl k_) ?_
            refine own_st (S' := T_22.setTop (mkF m 195 #[.val (.int p0), .val (.int p1), .val (.int p2), .val (.int p3), .val (.int (0 : Int32)), .val (.int v_1), .val (.int v_2), .val (.int zb), .val (.int zc), .val (.int zd), .val (.ref b_3), .val (.ref b_4), .val (.ref x_9_b), .val (.ref x_12_b), .val (.ref b_16), .val (.ref x_22_q), .unset] [(.ref x_22_q)])) (fun t_ k_ => XS.aload X_22.here hx rfl (hb hby at_193) rfl rfl k_) ?_
            obtain ⟨cq_23, kq_23, q_23a, q_23b, q_23c⟩ := isOf hZ_7 rfl c_22_0
            obtain ⟨_, _, ⟨T_23, L_23, k_23, n_23⟩, -, X_23, ⟨Lc_23, hQ_23, l_23, y_23, z_23⟩, st_23⟩ := X_22.virtualBack hx (y := (⟨"com/example/westmount/westmount/RowKey", "table", "()Ljava/lang/String;"⟩ : MethodName)) (z := (⟨"com/example/westmount/westmount/RowKey", "table", "()Ljava/lang/String;"⟩ : MethodName)) ho_7 (mvT hZ_7 (hw _ (List.mem_of_getElem? (i := 72) rfl))) (mvT hZ_7 (hw _ (List.mem_of_getElem? (i := 73) rfl))) (notFace_of_selects (args := #[]) (mvT hZ_7 (hw _ (List.mem_of_getElem? (i := 75) rfl)))) (mvT hZ_7 (hw _ (List.mem_of_getElem? (i := 75) rfl))) (mvT hZ_7 (hw _ (List.mem_of_getElem? (i := 74) rfl))) (by decide) (backOf (W := 0) (rm10 l Z a0 hw [] x_22_q b_4 T_22.heap n0 Z_22 c_22_1) hZ_7 (hw _ (List.mem_of_getElem? (i := 76) rfl)) (hw _ (List.mem_of_getElem? (i := 63) rfl)) (by decide) (by decide)) q_23a q_23c (g := (mkF m 195 #[.val (.int p0), .val (.int p1), .val (.int p2), .val (.int p3), .val (.int (0 : Int32)), .val (.int v_1), .val (.int v_2), .val (.int zb), .val (.int zc), .val (.int zd), .val (.ref b_3), .val (.ref b_4), .val (.ref x_9_b), .val (.ref x_12_b), .val (.ref b_16), .val (.ref x_22_q), .unset] [(.ref x_22_q)])) rfl (by rw [hml]; rfl) (Steps.refl _) (argsL := []) (rest := []) (lenOf pd_10 rfl) rfl (by show 2 * 0 + _ ≤ _; exact Nat.le_of_eq rfl) (hb hby at_195) (fun _ _ => ⟨rfl, rfl, (by decide : 8 + 0 ≤ _), (by decide : 21 + 0 ≤ _)⟩)
            dsimp only [Pt.U, Pt.locs, Pt.cells, Pt.slots] at X_23 l_23 y_23 z_23 st_23 hQ_23
            subst l_23 y_23 z_23
            obtain ⟨rfl, M_23, q_23⟩ := hQ_23
            have N_23 := Fr.app N_22 M_23
            refine own_st (S' := T_23.setTop (mkF m 198 #[.val (.int p0), .val (.int p1), .val (.int p2), .val (.int p3), .val (.int (0 : Int32)), .val (.int v_1), .val (.int v_2), .val (.int zb), .val (.int zc), .val (.int zd), .val (.ref b_3), .val (.ref b_4), .val (.ref x_9_b), .val (.ref x_12_b), .val (.ref b_16), .val (.ref x_22_q), .unset] [(.ref b_4)])) (fun t_ k_ => st_23.trans k_) ?_
            refine own_st (S' := T_23.setTop (mkF m 200 #[.val (.int p0), .val (.int p1), .val (.int p2), .val (.int p3), .val (.int (0 : Int32)), .val (.int v_1), .val (.int v_2), .val (.int zb), .val (.int zc), .val (.int zd), .val (.ref b_3), .val (.ref b_4), .val (.ref x_9_b), .val (.ref x_12_b), .val (.ref b_16), .val (.ref x_22_q), .unset] [(.ref b_4), (.ref b_4)])) (fun t_ k_ => XS.aload X_23.here hx rfl (hb hby at_198) rfl rfl k_) ?_
            have f_25 : Exa Z T_22.heap b_4 "java/lang/String" := (f_19.keep K_22c)
            obtain ⟨cq_24, kq_24, q_24a, q_24b, q_24c⟩ := isOf hZ_7 q_23 f_25
            obtain ⟨_, _, ⟨T_24, L_24, k_24, n_24⟩, -, X_24, ⟨Lc_24, hQ_24, l_24, y_24, z_24⟩, st_24⟩ := X_23.virtualBack hx (y := (⟨"java/lang/String", "equals", "(Ljava/lang/Object;)Z"⟩ : MethodName)) (z := (⟨"java/lang/String", "equals", "(Ljava/lang/Object;)Z"⟩ : MethodName)) ho_7 (mvT hZ_7 (hw _ (List.mem_of_getElem? (i := 77) rfl))) (mvT hZ_7 (hw _ (List.mem_of_getElem? (i := 78) rfl))) (notFace_of_selects (args := #[]) (mvT hZ_7 (hw _ (List.mem_of_getElem? (i := 80) rfl)))) (mvT hZ_7 (hw _ (List.mem_of_getElem? (i := 80) rfl))) (mvT hZ_7 (hw _ (List.mem_of_getElem? (i := 79) rfl))) (by decide) (backOf (W := 0) (rm12 l Z a0 hw [] b_4 b_4 T_22.heap n0 Z_22 rfl) hZ_7 (hw _ (List.mem_of_getElem? (i := 81) rfl)) (hw _ (List.mem_of_getElem? (i := 3) rfl)) (by decide) (by decide)) q_24a q_24c (g := (mkF m 200 #[.val (.int p0), .val (.int p1), .val (.int p2), .val (.int p3), .val (.int (0 : Int32)), .val (.int v_1), .val (.int v_2), .val (.int zb), .val (.int zc), .val (.int zd), .val (.ref b_3), .val (.ref b_4), .val (.ref x_9_b), .val (.ref x_12_b), .val (.ref b_16), .val (.ref x_22_q), .unset] [(.ref b_4), (.ref b_4)])) rfl (by rw [hml]; rfl) (Steps.refl _) (argsL := [(.ref b_4)]) (rest := []) (lenOf pd_4 rfl) rfl (by show 2 * 0 + _ ≤ _; exact Nat.le_of_eq rfl) (hb hby at_200) (fun _ _ => ⟨rfl, q_23, (by decide : 8 + 0 ≤ _), (by decide : 21 + 0 ≤ _)⟩)
            dsimp only [Pt.U, Pt.locs, Pt.cells, Pt.slots] at X_24 l_24 y_24 z_24 st_24 hQ_24
            subst l_24 y_24 z_24
            obtain ⟨rfl, M_24, q_24⟩ := hQ_24
            have N_24 := Fr.app N_23 M_24
            refine own_st (S' := T_24.setTop (mkF m 203 #[.val (.int p0), .val (.int p1), .val (.int p2), .val (.int p3), .val (.int (0 : Int32)), .val (.int v_1), .val (.int v_2), .val (.int zb), .val (.int zc), .val (.int zd), .val (.ref b_3), .val (.ref b_4), .val (.ref x_9_b), .val (.ref x_12_b), .val (.ref b_16), .val (.ref x_22_q), .unset] [(.int (1 : Int32))])) (fun t_ k_ => st_24.trans k_) ?_
            refine own_st (S' := T_24.setTop (mkF m 206 #[.val (.int p0), .val (.int p1), .val (.int p2), .val (.int p3), .val (.int (0 : Int32)), .val (.int v_1), .val (.int v_2), .val (.int zb), .val (.int zc), .val (.int zd), .val (.ref b_3), .val (.ref b_4), .val (.ref x_9_b), .val (.ref x_12_b), .val (.ref b_16), .val (.ref x_22_q), .unset] [])) (fun t_ k_ => XS.ifNo X_24.here hx rfl (hb hby at_203) rfl ((if0 _ _).trans (feq (by decide : ¬ ((1 : Int32) = (0 : Int32)))).1) k_) ?_
            refine own_st (S' := T_24.setTop (mkF m 208 #[.val (.int p0), .val (.int p1), .val (.int p2), .val (.int p3), .val (.int (0 : Int32)), .val (.int v_1), .val (.int v_2), .val (.int zb), .val (.int zc), .val (.int zd), .val (.ref b_3), .val (.ref b_4), .val (.ref x_9_b), .val (.ref x_12_b), .val (.ref b_16), .val (.ref x_22_q), .unset] [(.ref x_22_q)])) (fun t_ k_ => XS.aload X_24.here hx rfl (hb hby at_206) rfl rfl k_) ?_
            obtain ⟨cq_26, kq_26, q_26a, q_26b, q_26c⟩ := isOf hZ_7 q_24 c_22_0
            obtain ⟨_, _, ⟨T_26, L_26, k_26, n_26⟩, -, X_26, ⟨Lc_26, hQ_26, l_26, y_26, z_26⟩, st_26⟩ := X_24.virtualBack hx (y := (⟨"com/example/westmount/westmount/RowKey", "row", "()[B"⟩ : MethodName)) (z := (⟨"com/example/westmount/westmount/RowKey", "row", "()[B"⟩ : MethodName)) ho_7 (mvT hZ_7 (hw _ (List.mem_of_getElem? (i := 82) rfl))) (mvT hZ_7 (hw _ (List.mem_of_getElem? (i := 83) rfl))) (notFace_of_selects (args := #[]) (mvT hZ_7 (hw _ (List.mem_of_getElem? (i := 85) rfl)))) (mvT hZ_7 (hw _ (List.mem_of_getElem? (i := 85) rfl))) (mvT hZ_7 (hw _ (List.mem_of_getElem? (i := 84) rfl))) (by decide) (backOf (W := 0) (rm11 l Z a0 hw [] x_22_q x_9_b T_22.heap n0 Z_22 c_22_2) hZ_7 (hw _ (List.mem_of_getElem? (i := 86) rfl)) (hw _ (List.mem_of_getElem? (i := 63) rfl)) (by decide) (by decide)) q_26a q_26c (g := (mkF m 208 #[.val (.int p0), .val (.int p1), .val (.int p2), .val (.int p3), .val (.int (0 : Int32)), .val (.int v_1), .val (.int v_2), .val (.int zb), .val (.int zc), .val (.int zd), .val (.ref b_3), .val (.ref b_4), .val (.ref x_9_b), .val (.ref x_12_b), .val (.ref b_16), .val (.ref x_22_q), .unset] [(.ref x_22_q)])) rfl (by rw [hml]; rfl) (Steps.refl _) (argsL := []) (rest := []) (lenOf pd_11 rfl) rfl (by show 2 * 0 + _ ≤ _; exact Nat.le_of_eq rfl) (hb hby at_208) (fun _ _ => ⟨rfl, q_24, (by decide : 8 + 0 ≤ _), (by decide : 21 + 0 ≤ _)⟩)
            dsimp only [Pt.U, Pt.locs, Pt.cells, Pt.slots] at X_26 l_26 y_26 z_26 st_26 hQ_26
            subst l_26 y_26 z_26
            obtain ⟨rfl, M_26, q_26⟩ := hQ_26
            have N_26 := Fr.app N_24 M_26
            refine own_st (S' := T_26.setTop (mkF m 211 #[.val (.int p0), .val (.int p1), .val (.int p2), .val (.int p3), .val (.int (0 : Int32)), .val (.int v_1), .val (.int v_2), .val (.int zb), .val (.int zc), .val (.int zd), .val (.ref b_3), .val (.ref b_4), .val (.ref x_9_b), .val (.ref x_12_b), .val (.ref b_16), .val (.ref x_22_q), .unset] [(.ref x_9_b)])) (fun t_ k_ => st_26.trans k_) ?_
            refine own_st (S' := T_26.setTop (mkF m 213 #[.val (.int p0), .val (.int p1), .val (.int p2), .val (.int p3), .val (.int (0 : Int32)), .val (.int v_1), .val (.int v_2), .val (.int zb), .val (.int zc), .val (.int zd), .val (.ref b_3), .val (.ref b_4), .val (.ref x_9_b), .val (.ref x_12_b), .val (.ref b_16), .val (.ref x_22_q), .unset] [(.int v_1), (.ref x_9_b)])) (fun t_ k_ => XS.iload X_26.here hx rfl (hb hby at_211) rfl k_) ?_
            refine own_st (S' := T_26.setTop (mkF m 214 #[.val (.int p0), .val (.int p1), .val (.int p2), .val (.int p3), .val (.int (0 : Int32)), .val (.int v_1), .val (.int v_2), .val (.int zb), .val (.int zc), .val (.int zd), .val (.ref b_3), .val (.ref b_4), .val (.ref x_9_b), .val (.ref x_12_b), .val (.ref b_16), .val (.ref x_22_q), .unset] [(.int p1), (.int v_1), (.ref x_9_b)])) (fun t_ k_ => XS.iloadN X_26.here hx rfl (hb hby at_213) rfl k_) ?_
            have f_27 : Arv Z T_22.heap x_9_b x_9_k .byte v_1 (own_bs v_1 p1) (.int (0 : Int32)) := (f_21.keep K_22c nin0)
            obtain ⟨_, _, ⟨T_28, L_28, k_28, n_28⟩, -, X_28, ⟨Lc_28, hQ_28, l_28, y_28, z_28⟩, st_28⟩ := Jvm.LawKit.callS X_26 hx (y := (⟨"com/example/westmount/westmount/RowRangeFirstPinLaw", "sameBytes", "([BII)Z"⟩ : MethodName)) ho_7 (mvT hZ_7 (hw _ (List.mem_of_getElem? (i := 87) rfl))) (mvT hZ_7 (hw _ (List.mem_of_getElem? (i := 88) rfl))) (mvT hZ_7 (hw _ (List.mem_of_getElem? (i := 32) rfl))) (mvT hZ_7 (hw _ (List.mem_of_getElem? (i := 89) rfl))) (by decide) (backOf (W := 0) (rm4 l Z a0 hw [] x_9_b v_1 p1 x_9_k T_22.heap n0 Z_22 f_27 (hv_1 ▸ own_four _)) hZ_7 (hw _ (List.mem_of_getElem? (i := 89) rfl)) (hw _ (List.mem_of_getElem? (i := 32) rfl)) (by decide) (by decide)) (g := (mkF m 214 #[.val (.int p0), .val (.int p1), .val (.int p2), .val (.int p3), .val (.int (0 : Int32)), .val (.int v_1), .val (.int v_2), .val (.int zb), .val (.int zc), .val (.int zd), .val (.ref b_3), .val (.ref b_4), .val (.ref x_9_b), .val (.ref x_12_b), .val (.ref b_16), .val (.ref x_22_q), .unset] [(.int p1), (.int v_1), (.ref x_9_b)])) rfl (by rw [hml]; rfl) (argsL := [(.ref x_9_b), (.int v_1), (.int p1)]) (rest := []) (lenOf pd_12 rfl) rfl (by show 2 * 0 + _ ≤ _; exact Nat.le_of_eq rfl) (hb hby at_214) (fun _ _ => ⟨rfl, q_26, (by decide : 8 + 0 ≤ _), (by decide : 21 + 0 ≤ _)⟩)
            dsimp only [Pt.U, Pt.locs, Pt.cells, Pt.slots] at X_28 l_28 y_28 z_28 st_28 hQ_28
            subst l_28 y_28 z_28
            obtain ⟨rfl, M_28, q_28⟩ := hQ_28
            have N_28 := Fr.app N_26 M_28
            refine own_st (S' := T_28.setTop (mkF m 217 #[.val (.int p0), .val (.int p1), .val (.int p2), .val (.int p3), .val (.int (0 : Int32)), .val (.int v_1), .val (.int v_2), .val (.int zb), .val (.int zc), .val (.int zd), .val (.ref b_3), .val (.ref b_4), .val (.ref x_9_b), .val (.ref x_12_b), .val (.ref b_16), .val (.ref x_22_q), .unset] [(.int (1 : Int32))])) st_28 ?_
            refine own_st (S' := T_28.setTop (mkF m 220 #[.val (.int p0), .val (.int p1), .val (.int p2), .val (.int p3), .val (.int (0 : Int32)), .val (.int v_1), .val (.int v_2), .val (.int zb), .val (.int zc), .val (.int zd), .val (.ref b_3), .val (.ref b_4), .val (.ref x_9_b), .val (.ref x_12_b), .val (.ref b_16), .val (.ref x_22_q), .unset] [])) (fun t_ k_ => XS.ifNo X_28.here hx rfl (hb hby at_217) rfl ((if0 _ _).trans (feq (by decide : ¬ ((1 : Int32) = (0 : Int32)))).1) k_) ?_
            refine own_st (S' := T_28.setTop (mkF m 221 #[.val (.int p0), .val (.int p1), .val (.int p2), .val (.int p3), .val (.int (0 : Int32)), .val (.int v_1), .val (.int v_2), .val (.int zb), .val (.int zc), .val (.int zd), .val (.ref b_3), .val (.ref b_4), .val (.ref x_9_b), .val (.ref x_12_b), .val (.ref b_16), .val (.ref x_22_q), .unset] [(.int (1 : Int32))])) (fun t_ k_ => XS.iconst X_28.here hx rfl (hb hby at_220) k_) ?_
            refine own_st (S' := T_28.setTop (mkF m 225 #[.val (.int p0), .val (.int p1), .val (.int p2), .val (.int p3), .val (.int (0 : Int32)), .val (.int v_1), .val (.int v_2), .val (.int zb), .val (.int zc), .val (.int zd), .val (.ref b_3), .val (.ref b_4), .val (.ref x_9_b), .val (.ref x_12_b), .val (.ref b_16), .val (.ref x_22_q), .unset] [(.int (1 : Int32))])) (fun t_ k_ => XS.goto X_28.here hx rfl (pc0 := 221) (pc' := 225) rfl (hb hby at_221) (by decide) (by decide) k_) ?_
            refine own_st (S' := T_28.setTop (mkF m 227 #[.val (.int p0), .val (.int p1), .val (.int p2), .val (.int p3), .val (.int (0 : Int32)), .val (.int v_1), .val (.int v_2), .val (.int zb), .val (.int zc), .val (.int zd), .val (.ref b_3), .val (.ref b_4), .val (.ref x_9_b), .val (.ref x_12_b), .val (.ref b_16), .val (.ref x_22_q), .val (.int (1 : Int32))] [])) (fun t_ k_ => XS.istore X_28.here hx rfl (hb hby at_225) rfl (l' := #[.val (.int p0), .val (.int p1), .val (.int p2), .val (.int p3), .val (.int (0 : Int32)), .val (.int v_1), .val (.int v_2), .val (.int zb), .val (.int zc), .val (.int zd), .val (.ref b_3), .val (.ref b_4), .val (.ref x_9_b), .val (.ref x_12_b), .val (.ref b_16), .val (.ref x_22_q), .val (.int (1 : Int32))]) rfl k_) ?_
            refine own_st (S' := T_28.setTop (mkF m 229 #[.val (.int p0), .val (.int p1), .val (.int p2), .val (.int p3), .val (.int (0 : Int32)), .val (.int v_1), .val (.int v_2), .val (.int zb), .val (.int zc), .val (.int zd), .val (.ref b_3), .val (.ref b_4), .val (.ref x_9_b), .val (.ref x_12_b), .val (.ref b_16), .val (.ref x_22_q), .val (.int (1 : Int32))] [(.int (1 : Int32))])) (fun t_ k_ => XS.iload X_28.here hx rfl (hb hby at_227) rfl k_) ?_
            refine own_st (S' := T_28.setTop (mkF m 232 #[.val (.int p0), .val (.int p1), .val (.int p2), .val (.int p3), .val (.int (0 : Int32)), .val (.int v_1), .val (.int v_2), .val (.int zb), .val (.int zc), .val (.int zd), .val (.ref b_3), .val (.ref b_4), .val (.ref x_9_b), .val (.ref x_12_b), .val (.ref b_16), .val (.ref x_22_q), .val (.int (1 : Int32))] [])) (fun t_ k_ => XS.ifNo X_28.here hx rfl (hb hby at_229) rfl ((if0 _ _).trans (feq (by decide : ¬ ((1 : Int32) = (0 : Int32)))).1) k_) ?_
            refine own_st (S' := T_28.setTop (mkF m 234 #[.val (.int p0), .val (.int p1), .val (.int p2), .val (.int p3), .val (.int (0 : Int32)), .val (.int v_1), .val (.int v_2), .val (.int zb), .val (.int zc), .val (.int zd), .val (.ref b_3), .val (.ref b_4), .val (.ref x_9_b), .val (.ref x_12_b), .val (.ref b_16), .val (.ref x_22_q), .val (.int (1 : Int32))] [(.int zd)])) (fun t_ k_ => XS.iload X_28.here hx rfl (hb hby at_232) rfl k_) ?_
            refine own_st (S' := T_28.setTop (mkF m 254 #[.val (.int p0), .val (.int p1), .val (.int p2), .val (.int p3), .val (.int (0 : Int32)), .val (.int v_1), .val (.int v_2), .val (.int zb), .val (.int zc), .val (.int zd), .val (.ref b_3), .val (.ref b_4), .val (.ref x_9_b), .val (.ref x_12_b), .val (.ref b_16), .val (.ref x_22_q), .val (.int (1 : Int32))] [])) (fun t_ k_ => XS.ifYes X_28.here hx rfl (pc0 := 234) (pc' := 254) rfl (hb hby at_234) rfl ((if0 _ _).trans (teq hc147).1) (by decide) (by decide) k_) ?_
            refine own_st (S' := T_28.setTop (mkF m 256 #[.val (.int p0), .val (.int p1), .val (.int p2), .val (.int p3), .val (.int (0 : Int32)), .val (.int v_1), .val (.int v_2), .val (.int zb), .val (.int zc), .val (.int zd), .val (.ref b_3), .val (.ref b_4), .val (.ref x_9_b), .val (.ref x_12_b), .val (.ref b_16), .val (.ref x_22_q), .val (.int (1 : Int32))] [(.int (1 : Int32))])) (fun t_ k_ => XS.iload X_28.here hx rfl (hb hby at_254) rfl k_) ?_
            obtain ⟨fs, hr, hrun, hended, hRW⟩ := Stand.leaveW (s := s) (vm₁ := T_7.vm) X_28 (n := T_7.heap.size) hS_7 (by rw [q_28]; exact hs_22) (v := some (.int (1 : Int32))) (fun h => by rw [Bd.returns] at h; cases h)
            refine ⟨_, _, retN X_28 hx (t := .boolean) Bd.returns (by simp) (hb hby at_256) hr, hrun, hended, _, _, rfl, ?_, ⟨_, rfl⟩, hRW.2.1, hRW.2.2.1, hRW.2.2.2.mono (by decide) (by decide)⟩
            show Q0 Z p0 p1 p2 p3 cz h0 n0 _ T_28.heap _
            rw [q_28]
            exact ⟨rfl, N_28⟩
          · refine own_st (S' := T_9.setTop (mkF m 150 #[.val (.int p0), .val (.int p1), .val (.int p2), .val (.int p3), .val (.int (0 : Int32)), .val (.int v_1), .val (.int v_2), .val (.int zb), .val (.int zc), .val (.int zd), .val (.ref b_3), .val (.ref b_4), .val (.ref x_9_b), .unset, .unset, .unset, .unset] [])) (fun t_ k_ => XS.ifNo X_9.here hx rfl (hb hby at_147) rfl ((if0 _ _).trans (feq hc147).1) k_) ?_
            refine own_st (S' := T_9.setTop (mkF m 152 #[.val (.int p0), .val (.int p1), .val (.int p2), .val (.int p3), .val (.int (0 : Int32)), .val (.int v_1), .val (.int v_2), .val (.int zb), .val (.int zc), .val (.int zd), .val (.ref b_3), .val (.ref b_4), .val (.ref x_9_b), .unset, .unset, .unset, .unset] [(.int v_1)])) (fun t_ k_ => XS.iload X_9.here hx rfl (hb hby at_150) rfl k_) ?_
            refine own_st (S' := T_9.setTop (mkF m 153 #[.val (.int p0), .val (.int p1), .val (.int p2), .val (.int p3), .val (.int (0 : Int32)), .val (.int v_1), .val (.int v_2), .val (.int zb), .val (.int zc), .val (.int zd), .val (.ref b_3), .val (.ref b_4), .val (.ref x_9_b), .unset, .unset, .unset, .unset] [(.int p1), (.int v_1)])) (fun t_ k_ => XS.iloadN X_9.here hx rfl (hb hby at_152) rfl k_) ?_
            have f_29 : Arv Z T_9.heap b_3 k_3 .char (0 : Int32) [] (.int (0 : Int32)) := (f_8.keep K_9c nin0)
            have f_30 : Exa Z T_9.heap b_4 "java/lang/String" := (c_7_0.keep K_9c)
            obtain ⟨_, _, ⟨T_31, L_31, k_31, n_31⟩, -, X_31, ⟨Lc_31, hQ_31, l_31, y_31, z_31⟩, st_31⟩ := Jvm.LawKit.callS X_9 hx (y := (⟨"com/example/westmount/westmount/RowRangeFirstPinLaw", "bytes", "(II)[B"⟩ : MethodName)) ho_7 (mvT hZ_7 (hw _ (List.mem_of_getElem? (i := 30) rfl))) (mvT hZ_7 (hw _ (List.mem_of_getElem? (i := 31) rfl))) (mvT hZ_7 (hw _ (List.mem_of_getElem? (i := 32) rfl))) (mvT hZ_7 (hw _ (List.mem_of_getElem? (i := 33) rfl))) (by decide) (backOf (W := 0) (rm3 l Z a0 hw [] v_1 p1 T_9.heap n0 Z_9 (hv_1 ▸ own_four _)) hZ_7 (hw _ (List.mem_of_getElem? (i := 33) rfl)) (hw _ (List.mem_of_getElem? (i := 32) rfl)) (by decide) (by decide)) (g := (mkF m 153 #[.val (.int p0), .val (.int p1), .val (.int p2), .val (.int p3), .val (.int (0 : Int32)), .val (.int v_1), .val (.int v_2), .val (.int zb), .val (.int zc), .val (.int zd), .val (.ref b_3), .val (.ref b_4), .val (.ref x_9_b), .unset, .unset, .unset, .unset] [(.int p1), (.int v_1)])) rfl (by rw [hml]; rfl) (argsL := [(.int v_1), (.int p1)]) (rest := []) (lenOf pd_7 rfl) rfl (by show 2 * 0 + _ ≤ _; exact Nat.le_of_eq rfl) (hb hby at_153) (fun _ _ => ⟨rfl, rfl, (by decide : 5 + 1 ≤ _), (by decide : 11 + 3 ≤ _)⟩)
            dsimp only [Pt.U, Pt.locs, Pt.cells, Pt.slots] at X_31 l_31 y_31 z_31 st_31 hQ_31
            subst l_31 y_31 z_31
            obtain ⟨x_31_b, x_31_k, rfl, M_31, K_31c, z_31_0, c_31_0⟩ := hQ_31
            have N_31 := Fr.app N_9 M_31
            have ne_b_3_x_31_b : b_3 ≠ x_31_b := Nat.ne_of_lt (Nat.lt_of_lt_of_le f_29.lt z_31_0)
            have ne_b_4_x_31_b : b_4 ≠ x_31_b := Nat.ne_of_lt (Nat.lt_of_lt_of_le f_30.lt z_31_0)
            have ne_x_9_b_x_31_b : x_9_b ≠ x_31_b := Nat.ne_of_lt (Nat.lt_of_lt_of_le c_9_0.lt z_31_0)
            have g_x_31_b : n0 ≤ x_31_b := Nat.le_trans Z_9 z_31_0
            have Z_31 : n0 ≤ T_31.heap.size := Nat.le_trans Z_9 K_31c.1
            have hs_31 : T_7.heap.size ≤ T_31.heap.size := Nat.le_trans hs_9 K_31c.1
            refine own_st (S' := T_31.setTop (mkF m 156 #[.val (.int p0), .val (.int p1), .val (.int p2), .val (.int p3), .val (.int (0 : Int32)), .val (.int v_1), .val (.int v_2), .val (.int zb), .val (.int zc), .val (.int zd), .val (.ref b_3), .val (.ref b_4), .val (.ref x_9_b), .unset, .unset, .unset, .unset] [(.ref x_31_b)])) st_31 ?_
            refine own_st (S' := T_31.setTop (mkF m 165 #[.val (.int p0), .val (.int p1), .val (.int p2), .val (.int p3), .val (.int (0 : Int32)), .val (.int v_1), .val (.int v_2), .val (.int zb), .val (.int zc), .val (.int zd), .val (.ref b_3), .val (.ref b_4), .val (.ref x_9_b), .unset, .unset, .unset, .unset] [(.ref x_31_b)])) (fun t_ k_ => XS.goto X_31.here hx rfl (pc0 := 156) (pc' := 165) rfl (hb hby at_156) (by decide) (by decide) k_) ?_
            refine own_st (S' := T_31.setTop (mkF m 167 #[.val (.int p0), .val (.int p1), .val (.int p2), .val (.int p3), .val (.int (0 : Int32)), .val (.int v_1), .val (.int v_2), .val (.int zb), .val (.int zc), .val (.int zd), .val (.ref b_3), .val (.ref b_4), .val (.ref x_9_b), .val (.ref x_31_b), .unset, .unset, .unset] [])) (fun t_ k_ => XS.astore X_31.here hx rfl (hb hby at_165) rfl rfl (l' := #[.val (.int p0), .val (.int p1), .val (.int p2), .val (.int p3), .val (.int (0 : Int32)), .val (.int v_1), .val (.int v_2), .val (.int zb), .val (.int zc), .val (.int zd), .val (.ref b_3), .val (.ref b_4), .val (.ref x_9_b), .val (.ref x_31_b), .unset, .unset, .unset]) rfl k_) ?_
            have f_32 : Arv Z T_31.heap b_3 k_3 .char (0 : Int32) [] (.int (0 : Int32)) := (f_29.keep K_31c nin0)
            have f_33 : Exa Z T_31.heap b_4 "java/lang/String" := (f_30.keep K_31c)
            have f_34 : Arv Z T_31.heap x_9_b x_9_k .byte v_1 (own_bs v_1 p1) (.int (0 : Int32)) := (c_9_0.keep K_31c nin0)
            obtain ⟨T_35, h_35, X_35, e_35, E_35, A_35, D_35, -, st_35⟩ := newO X_31 hx hZ_7 ho_7 (hw _ (List.mem_of_getElem? (i := 34) rfl)) (hw _ (List.mem_of_getElem? (i := 35) rfl)) (hw _ (List.mem_of_getElem? (i := 36) rfl)) rfl (g := (mkF m 167 #[.val (.int p0), .val (.int p1), .val (.int p2), .val (.int p3), .val (.int (0 : Int32)), .val (.int v_1), .val (.int v_2), .val (.int zb), .val (.int zc), .val (.int zd), .val (.ref b_3), .val (.ref b_4), .val (.ref x_9_b), .val (.ref x_31_b), .unset, .unset, .unset] [])) rfl (hb hby at_167) (by decide) (by decide)
            obtain ⟨b_35, gg_35⟩ : ∃ z, z = T_31.heap.size := ⟨_, rfl⟩
            rw [← gg_35] at A_35 D_35 st_35
            have ne_b_3_b_35 : b_3 ≠ b_35 := Nat.ne_of_lt (Nat.lt_of_lt_of_le f_32.lt (Nat.le_of_eq gg_35.symm))
            have ne_b_4_b_35 : b_4 ≠ b_35 := Nat.ne_of_lt (Nat.lt_of_lt_of_le f_33.lt (Nat.le_of_eq gg_35.symm))
            have ne_x_31_b_b_35 : x_31_b ≠ b_35 := Nat.ne_of_lt (Nat.lt_of_lt_of_le c_31_0.lt (Nat.le_of_eq gg_35.symm))
            have ne_x_9_b_b_35 : x_9_b ≠ b_35 := Nat.ne_of_lt (Nat.lt_of_lt_of_le f_34.lt (Nat.le_of_eq gg_35.symm))
            have g_b_35 : n0 ≤ b_35 := Nat.le_trans Z_31 (Nat.le_of_eq gg_35.symm)
            have Z_35 : n0 ≤ h_35.size := Nat.le_trans Z_31 E_35.1
            have hs_35 : T_7.heap.size ≤ h_35.size := Nat.le_trans hs_31 E_35.1
            have F_35_table : Fld Z h_35 b_35 "com/example/westmount/westmount/RowRange" "table" "Ljava/lang/String;" .null := D_35 (Or.inr (hw _ (List.mem_of_getElem? (i := 47) rfl))) (ty := (.object "java/lang/String")) (by decide)
            have F_35_start : Fld Z h_35 b_35 "com/example/westmount/westmount/RowRange" "start" "[B" .null := D_35 (Or.inr (hw _ (List.mem_of_getElem? (i := 49) rfl))) (ty := (.array .byte)) (by decide)
            have F_35_startIncluded : Fld Z h_35 b_35 "com/example/westmount/westmount/RowRange" "startIncluded" "Z" (.int (0 : Int32)) := D_35 (Or.inr (hw _ (List.mem_of_getElem? (i := 51) rfl))) (ty := .boolean) (by decide)
            have F_35_stop : Fld Z h_35 b_35 "com/example/westmount/westmount/RowRange" "stop" "[B" .null := D_35 (Or.inr (hw _ (List.mem_of_getElem? (i := 53) rfl))) (ty := (.array .byte)) (by decide)
            have F_35_stopIncluded : Fld Z h_35 b_35 "com/example/westmount/westmount/RowRange" "stopIncluded" "Z" (.int (0 : Int32)) := D_35 (Or.inr (hw _ (List.mem_of_getElem? (i := 55) rfl))) (ty := .boolean) (by decide)
            refine own_st (S' := T_35.setTop (mkF m 170 #[.val (.int p0), .val (.int p1), .val (.int p2), .val (.int p3), .val (.int (0 : Int32)), .val (.int v_1), .val (.int v_2), .val (.int zb), .val (.int zc), .val (.int zd), .val (.ref b_3), .val (.ref b_4), .val (.ref x_9_b), .val (.ref x_31_b), .unset, .unset, .unset] [(.ref b_35)])) st_35 ?_
            refine own_st (S' := T_35.setTop (mkF m 171 #[.val (.int p0), .val (.int p1), .val (.int p2), .val (.int p3), .val (.int (0 : Int32)), .val (.int v_1), .val (.int v_2), .val (.int zb), .val (.int zc), .val (.int zd), .val (.ref b_3), .val (.ref b_4), .val (.ref x_9_b), .val (.ref x_31_b), .unset, .unset, .unset] [(.ref b_35), (.ref b_35)])) (fun t_ k_ => XS.dup X_35.here hx rfl (hb hby at_170) rfl rfl k_) ?_
            refine own_st (S' := T_35.setTop (mkF m 173 #[.val (.int p0), .val (.int p1), .val (.int p2), .val (.int p3), .val (.int (0 : Int32)), .val (.int v_1), .val (.int v_2), .val (.int zb), .val (.int zc), .val (.int zd), .val (.ref b_3), .val (.ref b_4), .val (.ref x_9_b), .val (.ref x_31_b), .unset, .unset, .unset] [(.ref b_4), (.ref b_35), (.ref b_35)])) (fun t_ k_ => XS.aload X_35.here hx rfl (hb hby at_171) rfl rfl k_) ?_
            refine own_st (S' := T_35.setTop (mkF m 175 #[.val (.int p0), .val (.int p1), .val (.int p2), .val (.int p3), .val (.int (0 : Int32)), .val (.int v_1), .val (.int v_2), .val (.int zb), .val (.int zc), .val (.int zd), .val (.ref b_3), .val (.ref b_4), .val (.ref x_9_b), .val (.ref x_31_b), .unset, .unset, .unset] [(.ref x_9_b), (.ref b_4), (.ref b_35), (.ref b_35)])) (fun t_ k_ => XS.aload X_35.here hx rfl (hb hby at_173) rfl rfl k_) ?_
            refine own_st (S' := T_35.setTop (mkF m 177 #[.val (.int p0), .val (.int p1), .val (.int p2), .val (.int p3), .val (.int (0 : Int32)), .val (.int v_1), .val (.int v_2), .val (.int zb), .val (.int zc), .val (.int zd), .val (.ref b_3), .val (.ref b_4), .val (.ref x_9_b), .val (.ref x_31_b), .unset, .unset, .unset] [(.int zb), (.ref x_9_b), (.ref b_4), (.ref b_35), (.ref b_35)])) (fun t_ k_ => XS.iload X_35.here hx rfl (hb hby at_175) rfl k_) ?_
            refine own_st (S' := T_35.setTop (mkF m 179 #[.val (.int p0), .val (.int p1), .val (.int p2), .val (.int p3), .val (.int (0 : Int32)), .val (.int v_1), .val (.int v_2), .val (.int zb), .val (.int zc), .val (.int zd), .val (.ref b_3), .val (.ref b_4), .val (.ref x_9_b), .val (.ref x_31_b), .unset, .unset, .unset] [(.ref x_31_b), (.int zb), (.ref x_9_b), (.ref b_4), (.ref b_35), (.ref b_35)])) (fun t_ k_ => XS.aload X_35.here hx rfl (hb hby at_177) rfl rfl k_) ?_
            refine own_st (S' := T_35.setTop (mkF m 181 #[.val (.int p0), .val (.int p1), .val (.int p2), .val (.int p3), .val (.int (0 : Int32)), .val (.int v_1), .val (.int v_2), .val (.int zb), .val (.int zc), .val (.int zd), .val (.ref b_3), .val (.ref b_4), .val (.ref x_9_b), .val (.ref x_31_b), .unset, .unset, .unset] [(.int zc), (.ref x_31_b), (.int zb), (.ref x_9_b), (.ref b_4), (.ref b_35), (.ref b_35)])) (fun t_ k_ => XS.iload X_35.here hx rfl (hb hby at_179) rfl k_) ?_
            obtain ⟨_, _, ⟨T_36, L_36, k_36, n_36⟩, -, X_36, ⟨Lc_36, hQ_36, l_36, y_36, z_36⟩, st_36⟩ := X_35.specialBack hx (y := (⟨"com/example/westmount/westmount/RowRange", "<init>", "(Ljava/lang/String;[BZ[BZ)V"⟩ : MethodName)) rfl ho_7 (mvT hZ_7 (hw _ (List.mem_of_getElem? (i := 37) rfl))) (mvT hZ_7 (hw _ (List.mem_of_getElem? (i := 38) rfl))) (mvT hZ_7 (hw _ (List.mem_of_getElem? (i := 39) rfl))) (by decide) (backOf (W := 1) (rm6 l Z a0 hw [] b_35 b_4 x_9_b zb x_31_b zc h_35 n0 Z_35 A_35 F_35_table F_35_start F_35_startIncluded F_35_stop F_35_stopIncluded g_b_35) hZ_7 (hw _ (List.mem_of_getElem? (i := 39) rfl)) (hw _ (List.mem_of_getElem? (i := 36) rfl)) (by decide) (by decide)) (g := (mkF m 181 #[.val (.int p0), .val (.int p1), .val (.int p2), .val (.int p3), .val (.int (0 : Int32)), .val (.int v_1), .val (.int v_2), .val (.int zb), .val (.int zc), .val (.int zd), .val (.ref b_3), .val (.ref b_4), .val (.ref x_9_b), .val (.ref x_31_b), .unset, .unset, .unset] [(.int zc), (.ref x_31_b), (.int zb), (.ref x_9_b), (.ref b_4), (.ref b_35), (.ref b_35)])) rfl (by rw [hml]; rfl) (Steps.refl _) (a := b_35) (argsL := [(.ref b_4), (.ref x_9_b), (.int zb), (.ref x_31_b), (.int zc)]) (rest := [(.ref b_35)]) (lenOf pd_8 rfl) rfl (by show 2 * 0 + _ ≤ _; exact Nat.le_of_eq rfl) (hb hby at_181) (fun _ _ => ⟨rfl, e_35, (by decide : 7 + 0 ≤ _), (by decide : 19 + 0 ≤ _)⟩)
            dsimp only [Pt.U, Pt.locs, Pt.cells, Pt.slots] at X_36 l_36 y_36 z_36 st_36 hQ_36
            subst l_36 y_36 z_36
            obtain ⟨rfl, M_36, K_36c, c_36_0, c_36_1, c_36_2, c_36_3⟩ := hQ_36
            have N_36 := Fr.app N_31 M_36
            have Z_36 : n0 ≤ T_36.heap.size := Nat.le_trans Z_35 K_36c.1
            have hs_36 : T_7.heap.size ≤ T_36.heap.size := Nat.le_trans hs_35 K_36c.1
            refine own_st (S' := T_36.setTop (mkF m 184 #[.val (.int p0), .val (.int p1), .val (.int p2), .val (.int p3), .val (.int (0 : Int32)), .val (.int v_1), .val (.int v_2), .val (.int zb), .val (.int zc), .val (.int zd), .val (.ref b_3), .val (.ref b_4), .val (.ref x_9_b), .val (.ref x_31_b), .unset, .unset, .unset] [(.ref b_35)])) (fun t_ k_ => st_36.trans k_) ?_
            refine own_st (S' := T_36.setTop (mkF m 186 #[.val (.int p0), .val (.int p1), .val (.int p2), .val (.int p3), .val (.int (0 : Int32)), .val (.int v_1), .val (.int v_2), .val (.int zb), .val (.int zc), .val (.int zd), .val (.ref b_3), .val (.ref b_4), .val (.ref x_9_b), .val (.ref x_31_b), .val (.ref b_35), .unset, .unset] [])) (fun t_ k_ => XS.astore X_36.here hx rfl (hb hby at_184) rfl rfl (l' := #[.val (.int p0), .val (.int p1), .val (.int p2), .val (.int p3), .val (.int (0 : Int32)), .val (.int v_1), .val (.int v_2), .val (.int zb), .val (.int zc), .val (.int zd), .val (.ref b_3), .val (.ref b_4), .val (.ref x_9_b), .val (.ref x_31_b), .val (.ref b_35), .unset, .unset]) rfl k_) ?_
            refine own_st (S' := T_36.setTop (mkF m 188 #[.val (.int p0), .val (.int p1), .val (.int p2), .val (.int p3), .val (.int (0 : Int32)), .val (.int v_1), .val (.int v_2), .val (.int zb), .val (.int zc), .val (.int zd), .val (.ref b_3), .val (.ref b_4), .val (.ref x_9_b), .val (.ref x_31_b), .val (.ref b_35), .unset, .unset] [(.ref b_35)])) (fun t_ k_ => XS.aload X_36.here hx rfl (hb hby at_186) rfl rfl k_) ?_
            have f_37 : Arv Z T_36.heap b_3 k_3 .char (0 : Int32) [] (.int (0 : Int32)) := ((f_32.ext E_35).keep K_36c (ninS ne_b_3_b_35 nin0))
            have f_38 : Exa Z T_36.heap b_4 "java/lang/String" := ((Exa.ext E_35 f_33).keep K_36c)
            have f_39 : Arv Z T_36.heap x_31_b x_31_k .byte v_1 (own_bs v_1 p1) (.int (0 : Int32)) := ((c_31_0.ext E_35).keep K_36c (ninS ne_x_31_b_b_35 nin0))
            have f_40 : Arv Z T_36.heap x_9_b x_9_k .byte v_1 (own_bs v_1 p1) (.int (0 : Int32)) := ((f_34.ext E_35).keep K_36c (ninS ne_x_9_b_b_35 nin0))
            obtain ⟨cq_41, kq_41, q_41a, q_41b, q_41c⟩ := isOf hZ_7 rfl c_36_0
            obtain ⟨_, _, ⟨T_41, L_41, k_41, n_41⟩, -, X_41, ⟨Lc_41, hQ_41, l_41, y_41, z_41⟩, st_41⟩ := X_36.virtualBack hx (y := (⟨"com/example/westmount/westmount/RowRange", "first", "()Lcom/example/westmount/westmount/RowKey;"⟩ : MethodName)) (z := (⟨"com/example/westmount/westmount/RowRange", "first", "()Lcom/example/westmount/westmount/RowKey;"⟩ : MethodName)) ho_7 (mvT hZ_7 (hw _ (List.mem_of_getElem? (i := 56) rfl))) (mvT hZ_7 (hw _ (List.mem_of_getElem? (i := 57) rfl))) (notFace_of_selects (args := #[]) (mvT hZ_7 (hw _ (List.mem_of_getElem? (i := 59) rfl)))) (mvT hZ_7 (hw _ (List.mem_of_getElem? (i := 59) rfl))) (mvT hZ_7 (hw _ (List.mem_of_getElem? (i := 58) rfl))) (by decide) (backOf (W := 0) (rm8 l Z a0 hw [] b_35 b_4 x_9_b T_36.heap n0 Z_36 c_36_1 c_36_2) hZ_7 (hw _ (List.mem_of_getElem? (i := 60) rfl)) (hw _ (List.mem_of_getElem? (i := 36) rfl)) (by decide) (by decide)) q_41a q_41c (g := (mkF m 188 #[.val (.int p0), .val (.int p1), .val (.int p2), .val (.int p3), .val (.int (0 : Int32)), .val (.int v_1), .val (.int v_2), .val (.int zb), .val (.int zc), .val (.int zd), .val (.ref b_3), .val (.ref b_4), .val (.ref x_9_b), .val (.ref x_31_b), .val (.ref b_35), .unset, .unset] [(.ref b_35)])) rfl (by rw [hml]; rfl) (Steps.refl _) (argsL := []) (rest := []) (lenOf pd_9 rfl) rfl (by show 2 * 0 + _ ≤ _; exact Nat.le_of_eq rfl) (hb hby at_188) (fun _ _ => ⟨rfl, rfl, (by decide : 7 + 1 ≤ _), (by decide : 19 + 2 ≤ _)⟩)
            dsimp only [Pt.U, Pt.locs, Pt.cells, Pt.slots] at X_41 l_41 y_41 z_41 st_41 hQ_41
            subst l_41 y_41 z_41
            obtain ⟨x_41_q, rfl, M_41, K_41c, z_41_0, c_41_0, c_41_1, c_41_2⟩ := hQ_41
            have N_41 := Fr.app N_36 M_41
            have ne_b_3_x_41_q : b_3 ≠ x_41_q := Nat.ne_of_lt (Nat.lt_of_lt_of_le f_37.lt z_41_0)
            have ne_b_35_x_41_q : b_35 ≠ x_41_q := Nat.ne_of_lt (Nat.lt_of_lt_of_le c_36_0.lt z_41_0)
            have ne_b_4_x_41_q : b_4 ≠ x_41_q := Nat.ne_of_lt (Nat.lt_of_lt_of_le f_38.lt z_41_0)
            have ne_x_31_b_x_41_q : x_31_b ≠ x_41_q := Nat.ne_of_lt (Nat.lt_of_lt_of_le f_39.lt z_41_0)
            have ne_x_9_b_x_41_q : x_9_b ≠ x_41_q := Nat.ne_of_lt (Nat.lt_of_lt_of_le f_40.lt z_41_0)
            have g_x_41_q : n0 ≤ x_41_q := Nat.le_trans Z_36 z_41_0
            have Z_41 : n0 ≤ T_41.heap.size := Nat.le_trans Z_36 K_41c.1
            have hs_41 : T_7.heap.size ≤ T_41.heap.size := Nat.le_trans hs_36 K_41c.1
            refine own_st (S' := T_41.setTop (mkF m 191 #[.val (.int p0), .val (.int p1), .val (.int p2), .val (.int p3), .val (.int (0 : Int32)), .val (.int v_1), .val (.int v_2), .val (.int zb), .val (.int zc), .val (.int zd), .val (.ref b_3), .val (.ref b_4), .val (.ref x_9_b), .val (.ref x_31_b), .val (.ref b_35), .unset, .unset] [(.ref x_41_q)])) (fun t_ k_ => st_41.trans k_) ?_
            refine own_st (S' := T_41.setTop (mkF m 193 #[.val (.int p0), .val (.int p1), .val (.int p2), .val (.int p3), .val (.int (0 : Int32)), .val (.int v_1), .val (.int v_2), .val (.int zb), .val (.int zc), .val (.int zd), .val (.ref b_3), .val (.ref b_4), .val (.ref x_9_b), .val (.ref x_31_b), .val (.ref b_35), .val (.ref x_41_q), .unset] [])) (fun t_ k_ => XS.astore X_41.here hx rfl (hb hby at_191) rfl rfl (l' := #[.val (.int p0), .val (.int p1), .val (.int p2), .val (.int p3), .val (.int (0 : Int32)), .val (.int v_1), .val (.int v_2), .val (.int zb), .val (.int zc), .val (.int zd), .val (.ref b_3), .val (.ref b_4), .val (.ref x_9_b), .val (.ref x_31_b), .val (.ref b_35), .val (.ref x_41_q), .unset]) rfl k_) ?_
            refine own_st (S' := T_41.setTop (mkF m 195 #[.val (.int p0), .val (.int p1), .val (.int p2), .val (.int p3), .val (.int (0 : Int32)), .val (.int v_1), .val (.int v_2), .val (.int zb), .val (.int zc), .val (.int zd), .val (.ref b_3), .val (.ref b_4), .val (.ref x_9_b), .val (.ref x_31_b), .val (.ref b_35), .val (.ref x_41_q), .unset] [(.ref x_41_q)])) (fun t_ k_ => XS.aload X_41.here hx rfl (hb hby at_193) rfl rfl k_) ?_
            obtain ⟨cq_42, kq_42, q_42a, q_42b, q_42c⟩ := isOf hZ_7 rfl c_41_0
            obtain ⟨_, _, ⟨T_42, L_42, k_42, n_42⟩, -, X_42, ⟨Lc_42, hQ_42, l_42, y_42, z_42⟩, st_42⟩ := X_41.virtualBack hx (y := (⟨"com/example/westmount/westmount/RowKey", "table", "()Ljava/lang/String;"⟩ : MethodName)) (z := (⟨"com/example/westmount/westmount/RowKey", "table", "()Ljava/lang/String;"⟩ : MethodName)) ho_7 (mvT hZ_7 (hw _ (List.mem_of_getElem? (i := 72) rfl))) (mvT hZ_7 (hw _ (List.mem_of_getElem? (i := 73) rfl))) (notFace_of_selects (args := #[]) (mvT hZ_7 (hw _ (List.mem_of_getElem? (i := 75) rfl)))) (mvT hZ_7 (hw _ (List.mem_of_getElem? (i := 75) rfl))) (mvT hZ_7 (hw _ (List.mem_of_getElem? (i := 74) rfl))) (by decide) (backOf (W := 0) (rm10 l Z a0 hw [] x_41_q b_4 T_41.heap n0 Z_41 c_41_1) hZ_7 (hw _ (List.mem_of_getElem? (i := 76) rfl)) (hw _ (List.mem_of_getElem? (i := 63) rfl)) (by decide) (by decide)) q_42a q_42c (g := (mkF m 195 #[.val (.int p0), .val (.int p1), .val (.int p2), .val (.int p3), .val (.int (0 : Int32)), .val (.int v_1), .val (.int v_2), .val (.int zb), .val (.int zc), .val (.int zd), .val (.ref b_3), .val (.ref b_4), .val (.ref x_9_b), .val (.ref x_31_b), .val (.ref b_35), .val (.ref x_41_q), .unset] [(.ref x_41_q)])) rfl (by rw [hml]; rfl) (Steps.refl _) (argsL := []) (rest := []) (lenOf pd_10 rfl) rfl (by show 2 * 0 + _ ≤ _; exact Nat.le_of_eq rfl) (hb hby at_195) (fun _ _ => ⟨rfl, rfl, (by decide : 8 + 0 ≤ _), (by decide : 21 + 0 ≤ _)⟩)
            dsimp only [Pt.U, Pt.locs, Pt.cells, Pt.slots] at X_42 l_42 y_42 z_42 st_42 hQ_42
            subst l_42 y_42 z_42
            obtain ⟨rfl, M_42, q_42⟩ := hQ_42
            have N_42 := Fr.app N_41 M_42
            refine own_st (S' := T_42.setTop (mkF m 198 #[.val (.int p0), .val (.int p1), .val (.int p2), .val (.int p3), .val (.int (0 : Int32)), .val (.int v_1), .val (.int v_2), .val (.int zb), .val (.int zc), .val (.int zd), .val (.ref b_3), .val (.ref b_4), .val (.ref x_9_b), .val (.ref x_31_b), .val (.ref b_35), .val (.ref x_41_q), .unset] [(.ref b_4)])) (fun t_ k_ => st_42.trans k_) ?_
            refine own_st (S' := T_42.setTop (mkF m 200 #[.val (.int p0), .val (.int p1), .val (.int p2), .val (.int p3), .val (.int (0 : Int32)), .val (.int v_1), .val (.int v_2), .val (.int zb), .val (.int zc), .val (.int zd), .val (.ref b_3), .val (.ref b_4), .val (.ref x_9_b), .val (.ref x_31_b), .val (.ref b_35), .val (.ref x_41_q), .unset] [(.ref b_4), (.ref b_4)])) (fun t_ k_ => XS.aload X_42.here hx rfl (hb hby at_198) rfl rfl k_) ?_
            have f_44 : Exa Z T_41.heap b_4 "java/lang/String" := (f_38.keep K_41c)
            obtain ⟨cq_43, kq_43, q_43a, q_43b, q_43c⟩ := isOf hZ_7 q_42 f_44
            obtain ⟨_, _, ⟨T_43, L_43, k_43, n_43⟩, -, X_43, ⟨Lc_43, hQ_43, l_43, y_43, z_43⟩, st_43⟩ := X_42.virtualBack hx (y := (⟨"java/lang/String", "equals", "(Ljava/lang/Object;)Z"⟩ : MethodName)) (z := (⟨"java/lang/String", "equals", "(Ljava/lang/Object;)Z"⟩ : MethodName)) ho_7 (mvT hZ_7 (hw _ (List.mem_of_getElem? (i := 77) rfl))) (mvT hZ_7 (hw _ (List.mem_of_getElem? (i := 78) rfl))) (notFace_of_selects (args := #[]) (mvT hZ_7 (hw _ (List.mem_of_getElem? (i := 80) rfl)))) (mvT hZ_7 (hw _ (List.mem_of_getElem? (i := 80) rfl))) (mvT hZ_7 (hw _ (List.mem_of_getElem? (i := 79) rfl))) (by decide) (backOf (W := 0) (rm12 l Z a0 hw [] b_4 b_4 T_41.heap n0 Z_41 rfl) hZ_7 (hw _ (List.mem_of_getElem? (i := 81) rfl)) (hw _ (List.mem_of_getElem? (i := 3) rfl)) (by decide) (by decide)) q_43a q_43c (g := (mkF m 200 #[.val (.int p0), .val (.int p1), .val (.int p2), .val (.int p3), .val (.int (0 : Int32)), .val (.int v_1), .val (.int v_2), .val (.int zb), .val (.int zc), .val (.int zd), .val (.ref b_3), .val (.ref b_4), .val (.ref x_9_b), .val (.ref x_31_b), .val (.ref b_35), .val (.ref x_41_q), .unset] [(.ref b_4), (.ref b_4)])) rfl (by rw [hml]; rfl) (Steps.refl _) (argsL := [(.ref b_4)]) (rest := []) (lenOf pd_4 rfl) rfl (by show 2 * 0 + _ ≤ _; exact Nat.le_of_eq rfl) (hb hby at_200) (fun _ _ => ⟨rfl, q_42, (by decide : 8 + 0 ≤ _), (by decide : 21 + 0 ≤ _)⟩)
            dsimp only [Pt.U, Pt.locs, Pt.cells, Pt.slots] at X_43 l_43 y_43 z_43 st_43 hQ_43
            subst l_43 y_43 z_43
            obtain ⟨rfl, M_43, q_43⟩ := hQ_43
            have N_43 := Fr.app N_42 M_43
            refine own_st (S' := T_43.setTop (mkF m 203 #[.val (.int p0), .val (.int p1), .val (.int p2), .val (.int p3), .val (.int (0 : Int32)), .val (.int v_1), .val (.int v_2), .val (.int zb), .val (.int zc), .val (.int zd), .val (.ref b_3), .val (.ref b_4), .val (.ref x_9_b), .val (.ref x_31_b), .val (.ref b_35), .val (.ref x_41_q), .unset] [(.int (1 : Int32))])) (fun t_ k_ => st_43.trans k_) ?_
            refine own_st (S' := T_43.setTop (mkF m 206 #[.val (.int p0), .val (.int p1), .val (.int p2), .val (.int p3), .val (.int (0 : Int32)), .val (.int v_1), .val (.int v_2), .val (.int zb), .val (.int zc), .val (.int zd), .val (.ref b_3), .val (.ref b_4), .val (.ref x_9_b), .val (.ref x_31_b), .val (.ref b_35), .val (.ref x_41_q), .unset] [])) (fun t_ k_ => XS.ifNo X_43.here hx rfl (hb hby at_203) rfl ((if0 _ _).trans (feq (by decide : ¬ ((1 : Int32) = (0 : Int32)))).1) k_) ?_
            refine own_st (S' := T_43.setTop (mkF m 208 #[.val (.int p0), .val (.int p1), .val (.int p2), .val (.int p3), .val (.int (0 : Int32)), .val (.int v_1), .val (.int v_2), .val (.int zb), .val (.int zc), .val (.int zd), .val (.ref b_3), .val (.ref b_4), .val (.ref x_9_b), .val (.ref x_31_b), .val (.ref b_35), .val (.ref x_41_q), .unset] [(.ref x_41_q)])) (fun t_ k_ => XS.aload X_43.here hx rfl (hb hby at_206) rfl rfl k_) ?_
            obtain ⟨cq_45, kq_45, q_45a, q_45b, q_45c⟩ := isOf hZ_7 q_43 c_41_0
            obtain ⟨_, _, ⟨T_45, L_45, k_45, n_45⟩, -, X_45, ⟨Lc_45, hQ_45, l_45, y_45, z_45⟩, st_45⟩ := X_43.virtualBack hx (y := (⟨"com/example/westmount/westmount/RowKey", "row", "()[B"⟩ : MethodName)) (z := (⟨"com/example/westmount/westmount/RowKey", "row", "()[B"⟩ : MethodName)) ho_7 (mvT hZ_7 (hw _ (List.mem_of_getElem? (i := 82) rfl))) (mvT hZ_7 (hw _ (List.mem_of_getElem? (i := 83) rfl))) (notFace_of_selects (args := #[]) (mvT hZ_7 (hw _ (List.mem_of_getElem? (i := 85) rfl)))) (mvT hZ_7 (hw _ (List.mem_of_getElem? (i := 85) rfl))) (mvT hZ_7 (hw _ (List.mem_of_getElem? (i := 84) rfl))) (by decide) (backOf (W := 0) (rm11 l Z a0 hw [] x_41_q x_9_b T_41.heap n0 Z_41 c_41_2) hZ_7 (hw _ (List.mem_of_getElem? (i := 86) rfl)) (hw _ (List.mem_of_getElem? (i := 63) rfl)) (by decide) (by decide)) q_45a q_45c (g := (mkF m 208 #[.val (.int p0), .val (.int p1), .val (.int p2), .val (.int p3), .val (.int (0 : Int32)), .val (.int v_1), .val (.int v_2), .val (.int zb), .val (.int zc), .val (.int zd), .val (.ref b_3), .val (.ref b_4), .val (.ref x_9_b), .val (.ref x_31_b), .val (.ref b_35), .val (.ref x_41_q), .unset] [(.ref x_41_q)])) rfl (by rw [hml]; rfl) (Steps.refl _) (argsL := []) (rest := []) (lenOf pd_11 rfl) rfl (by show 2 * 0 + _ ≤ _; exact Nat.le_of_eq rfl) (hb hby at_208) (fun _ _ => ⟨rfl, q_43, (by decide : 8 + 0 ≤ _), (by decide : 21 + 0 ≤ _)⟩)
            dsimp only [Pt.U, Pt.locs, Pt.cells, Pt.slots] at X_45 l_45 y_45 z_45 st_45 hQ_45
            subst l_45 y_45 z_45
            obtain ⟨rfl, M_45, q_45⟩ := hQ_45
            have N_45 := Fr.app N_43 M_45
            refine own_st (S' := T_45.setTop (mkF m 211 #[.val (.int p0), .val (.int p1), .val (.int p2), .val (.int p3), .val (.int (0 : Int32)), .val (.int v_1), .val (.int v_2), .val (.int zb), .val (.int zc), .val (.int zd), .val (.ref b_3), .val (.ref b_4), .val (.ref x_9_b), .val (.ref x_31_b), .val (.ref b_35), .val (.ref x_41_q), .unset] [(.ref x_9_b)])) (fun t_ k_ => st_45.trans k_) ?_
            refine own_st (S' := T_45.setTop (mkF m 213 #[.val (.int p0), .val (.int p1), .val (.int p2), .val (.int p3), .val (.int (0 : Int32)), .val (.int v_1), .val (.int v_2), .val (.int zb), .val (.int zc), .val (.int zd), .val (.ref b_3), .val (.ref b_4), .val (.ref x_9_b), .val (.ref x_31_b), .val (.ref b_35), .val (.ref x_41_q), .unset] [(.int v_1), (.ref x_9_b)])) (fun t_ k_ => XS.iload X_45.here hx rfl (hb hby at_211) rfl k_) ?_
            refine own_st (S' := T_45.setTop (mkF m 214 #[.val (.int p0), .val (.int p1), .val (.int p2), .val (.int p3), .val (.int (0 : Int32)), .val (.int v_1), .val (.int v_2), .val (.int zb), .val (.int zc), .val (.int zd), .val (.ref b_3), .val (.ref b_4), .val (.ref x_9_b), .val (.ref x_31_b), .val (.ref b_35), .val (.ref x_41_q), .unset] [(.int p1), (.int v_1), (.ref x_9_b)])) (fun t_ k_ => XS.iloadN X_45.here hx rfl (hb hby at_213) rfl k_) ?_
            have f_46 : Arv Z T_41.heap x_9_b x_9_k .byte v_1 (own_bs v_1 p1) (.int (0 : Int32)) := (f_40.keep K_41c nin0)
            obtain ⟨_, _, ⟨T_47, L_47, k_47, n_47⟩, -, X_47, ⟨Lc_47, hQ_47, l_47, y_47, z_47⟩, st_47⟩ := Jvm.LawKit.callS X_45 hx (y := (⟨"com/example/westmount/westmount/RowRangeFirstPinLaw", "sameBytes", "([BII)Z"⟩ : MethodName)) ho_7 (mvT hZ_7 (hw _ (List.mem_of_getElem? (i := 87) rfl))) (mvT hZ_7 (hw _ (List.mem_of_getElem? (i := 88) rfl))) (mvT hZ_7 (hw _ (List.mem_of_getElem? (i := 32) rfl))) (mvT hZ_7 (hw _ (List.mem_of_getElem? (i := 89) rfl))) (by decide) (backOf (W := 0) (rm4 l Z a0 hw [] x_9_b v_1 p1 x_9_k T_41.heap n0 Z_41 f_46 (hv_1 ▸ own_four _)) hZ_7 (hw _ (List.mem_of_getElem? (i := 89) rfl)) (hw _ (List.mem_of_getElem? (i := 32) rfl)) (by decide) (by decide)) (g := (mkF m 214 #[.val (.int p0), .val (.int p1), .val (.int p2), .val (.int p3), .val (.int (0 : Int32)), .val (.int v_1), .val (.int v_2), .val (.int zb), .val (.int zc), .val (.int zd), .val (.ref b_3), .val (.ref b_4), .val (.ref x_9_b), .val (.ref x_31_b), .val (.ref b_35), .val (.ref x_41_q), .unset] [(.int p1), (.int v_1), (.ref x_9_b)])) rfl (by rw [hml]; rfl) (argsL := [(.ref x_9_b), (.int v_1), (.int p1)]) (rest := []) (lenOf pd_12 rfl) rfl (by show 2 * 0 + _ ≤ _; exact Nat.le_of_eq rfl) (hb hby at_214) (fun _ _ => ⟨rfl, q_45, (by decide : 8 + 0 ≤ _), (by decide : 21 + 0 ≤ _)⟩)
            dsimp only [Pt.U, Pt.locs, Pt.cells, Pt.slots] at X_47 l_47 y_47 z_47 st_47 hQ_47
            subst l_47 y_47 z_47
            obtain ⟨rfl, M_47, q_47⟩ := hQ_47
            have N_47 := Fr.app N_45 M_47
            refine own_st (S' := T_47.setTop (mkF m 217 #[.val (.int p0), .val (.int p1), .val (.int p2), .val (.int p3), .val (.int (0 : Int32)), .val (.int v_1), .val (.int v_2), .val (.int zb), .val (.int zc), .val (.int zd), .val (.ref b_3), .val (.ref b_4), .val (.ref x_9_b), .val (.ref x_31_b), .val (.ref b_35), .val (.ref x_41_q), .unset] [(.int (1 : Int32))])) st_47 ?_
            refine own_st (S' := T_47.setTop (mkF m 220 #[.val (.int p0), .val (.int p1), .val (.int p2), .val (.int p3), .val (.int (0 : Int32)), .val (.int v_1), .val (.int v_2), .val (.int zb), .val (.int zc), .val (.int zd), .val (.ref b_3), .val (.ref b_4), .val (.ref x_9_b), .val (.ref x_31_b), .val (.ref b_35), .val (.ref x_41_q), .unset] [])) (fun t_ k_ => XS.ifNo X_47.here hx rfl (hb hby at_217) rfl ((if0 _ _).trans (feq (by decide : ¬ ((1 : Int32) = (0 : Int32)))).1) k_) ?_
            refine own_st (S' := T_47.setTop (mkF m 221 #[.val (.int p0), .val (.int p1), .val (.int p2), .val (.int p3), .val (.int (0 : Int32)), .val (.int v_1), .val (.int v_2), .val (.int zb), .val (.int zc), .val (.int zd), .val (.ref b_3), .val (.ref b_4), .val (.ref x_9_b), .val (.ref x_31_b), .val (.ref b_35), .val (.ref x_41_q), .unset] [(.int (1 : Int32))])) (fun t_ k_ => XS.iconst X_47.here hx rfl (hb hby at_220) k_) ?_
            refine own_st (S' := T_47.setTop (mkF m 225 #[.val (.int p0), .val (.int p1), .val (.int p2), .val (.int p3), .val (.int (0 : Int32)), .val (.int v_1), .val (.int v_2), .val (.int zb), .val (.int zc), .val (.int zd), .val (.ref b_3), .val (.ref b_4), .val (.ref x_9_b), .val (.ref x_31_b), .val (.ref b_35), .val (.ref x_41_q), .unset] [(.int (1 : Int32))])) (fun t_ k_ => XS.goto X_47.here hx rfl (pc0 := 221) (pc' := 225) rfl (hb hby at_221) (by decide) (by decide) k_) ?_
            refine own_st (S' := T_47.setTop (mkF m 227 #[.val (.int p0), .val (.int p1), .val (.int p2), .val (.int p3), .val (.int (0 : Int32)), .val (.int v_1), .val (.int v_2), .val (.int zb), .val (.int zc), .val (.int zd), .val (.ref b_3), .val (.ref b_4), .val (.ref x_9_b), .val (.ref x_31_b), .val (.ref b_35), .val (.ref x_41_q), .val (.int (1 : Int32))] [])) (fun t_ k_ => XS.istore X_47.here hx rfl (hb hby at_225) rfl (l' := #[.val (.int p0), .val (.int p1), .val (.int p2), .val (.int p3), .val (.int (0 : Int32)), .val (.int v_1), .val (.int v_2), .val (.int zb), .val (.int zc), .val (.int zd), .val (.ref b_3), .val (.ref b_4), .val (.ref x_9_b), .val (.ref x_31_b), .val (.ref b_35), .val (.ref x_41_q), .val (.int (1 : Int32))]) rfl k_) ?_
            refine own_st (S' := T_47.setTop (mkF m 229 #[.val (.int p0), .val (.int p1), .val (.int p2), .val (.int p3), .val (.int (0 : Int32)), .val (.int v_1), .val (.int v_2), .val (.int zb), .val (.int zc), .val (.int zd), .val (.ref b_3), .val (.ref b_4), .val (.ref x_9_b), .val (.ref x_31_b), .val (.ref b_35), .val (.ref x_41_q), .val (.int (1 : Int32))] [(.int (1 : Int32))])) (fun t_ k_ => XS.iload X_47.here hx rfl (hb hby at_227) rfl k_) ?_
            refine own_st (S' := T_47.setTop (mkF m 232 #[.val (.int p0), .val (.int p1), .val (.int p2), .val (.int p3), .val (.int (0 : Int32)), .val (.int v_1), .val (.int v_2), .val (.int zb), .val (.int zc), .val (.int zd), .val (.ref b_3), .val (.ref b_4), .val (.ref x_9_b), .val (.ref x_31_b), .val (.ref b_35), .val (.ref x_41_q), .val (.int (1 : Int32))] [])) (fun t_ k_ => XS.ifNo X_47.here hx rfl (hb hby at_229) rfl ((if0 _ _).trans (feq (by decide : ¬ ((1 : Int32) = (0 : Int32)))).1) k_) ?_
            refine own_st (S' := T_47.setTop (mkF m 234 #[.val (.int p0), .val (.int p1), .val (.int p2), .val (.int p3), .val (.int (0 : Int32)), .val (.int v_1), .val (.int v_2), .val (.int zb), .val (.int zc), .val (.int zd), .val (.ref b_3), .val (.ref b_4), .val (.ref x_9_b), .val (.ref x_31_b), .val (.ref b_35), .val (.ref x_41_q), .val (.int (1 : Int32))] [(.int zd)])) (fun t_ k_ => XS.iload X_47.here hx rfl (hb hby at_232) rfl k_) ?_
            refine own_st (S' := T_47.setTop (mkF m 237 #[.val (.int p0), .val (.int p1), .val (.int p2), .val (.int p3), .val (.int (0 : Int32)), .val (.int v_1), .val (.int v_2), .val (.int zb), .val (.int zc), .val (.int zd), .val (.ref b_3), .val (.ref b_4), .val (.ref x_9_b), .val (.ref x_31_b), .val (.ref b_35), .val (.ref x_41_q), .val (.int (1 : Int32))] [])) (fun t_ k_ => XS.ifNo X_47.here hx rfl (hb hby at_234) rfl ((if0 _ _).trans (feq hc147).1) k_) ?_
            refine own_st (S' := T_47.setTop (mkF m 239 #[.val (.int p0), .val (.int p1), .val (.int p2), .val (.int p3), .val (.int (0 : Int32)), .val (.int v_1), .val (.int v_2), .val (.int zb), .val (.int zc), .val (.int zd), .val (.ref b_3), .val (.ref b_4), .val (.ref x_9_b), .val (.ref x_31_b), .val (.ref b_35), .val (.ref x_41_q), .val (.int (1 : Int32))] [(.int v_1)])) (fun t_ k_ => XS.iload X_47.here hx rfl (hb hby at_237) rfl k_) ?_
            by_cases hc239 : (0 : Int32) < v_1
            · refine own_st (S' := T_47.setTop (mkF m 242 #[.val (.int p0), .val (.int p1), .val (.int p2), .val (.int p3), .val (.int (0 : Int32)), .val (.int v_1), .val (.int v_2), .val (.int zb), .val (.int zc), .val (.int zd), .val (.ref b_3), .val (.ref b_4), .val (.ref x_9_b), .val (.ref x_31_b), .val (.ref b_35), .val (.ref x_41_q), .val (.int (1 : Int32))] [])) (fun t_ k_ => XS.ifNo X_47.here hx rfl (hb hby at_239) rfl ((if0 _ _).trans (tlt hc239).2.2.2) k_) ?_
              refine own_st (S' := T_47.setTop (mkF m 244 #[.val (.int p0), .val (.int p1), .val (.int p2), .val (.int p3), .val (.int (0 : Int32)), .val (.int v_1), .val (.int v_2), .val (.int zb), .val (.int zc), .val (.int zd), .val (.ref b_3), .val (.ref b_4), .val (.ref x_9_b), .val (.ref x_31_b), .val (.ref b_35), .val (.ref x_41_q), .val (.int (1 : Int32))] [(.ref x_41_q)])) (fun t_ k_ => XS.aload X_47.here hx rfl (hb hby at_242) rfl rfl k_) ?_
              refine own_st (S' := T_47.setTop (mkF m 246 #[.val (.int p0), .val (.int p1), .val (.int p2), .val (.int p3), .val (.int (0 : Int32)), .val (.int v_1), .val (.int v_2), .val (.int zb), .val (.int zc), .val (.int zd), .val (.ref b_3), .val (.ref b_4), .val (.ref x_9_b), .val (.ref x_31_b), .val (.ref b_35), .val (.ref x_41_q), .val (.int (1 : Int32))] [(.ref b_35), (.ref x_41_q)])) (fun t_ k_ => XS.aload X_47.here hx rfl (hb hby at_244) rfl rfl k_) ?_
              have f_48 : Fld Z T_41.heap b_35 "com/example/westmount/westmount/RowRange" "table" "Ljava/lang/String;" (.ref b_4) := (c_36_1.keep K_41c nin0)
              have f_49 : Fld Z T_41.heap b_35 "com/example/westmount/westmount/RowRange" "stop" "[B" (.ref x_31_b) := (c_36_3.keep K_41c nin0)
              have f_50 : Arv Z T_41.heap x_31_b x_31_k .byte v_1 (own_bs v_1 p1) (.int (0 : Int32)) := (f_39.keep K_41c nin0)
              have f_51 : Arv Z T_41.heap b_3 k_3 .char (0 : Int32) [] (.int (0 : Int32)) := (f_37.keep K_41c nin0)
              have f_53 : Exa Z T_41.heap b_35 "com/example/westmount/westmount/RowRange" := (c_36_0.keep K_41c)
              obtain ⟨cq_52, kq_52, q_52a, q_52b, q_52c⟩ := isOf hZ_7 q_47 f_53
              obtain ⟨_, _, ⟨T_52, L_52, k_52, n_52⟩, -, X_52, ⟨Lc_52, hQ_52, l_52, y_52, z_52⟩, st_52⟩ := X_47.virtualBack hx (y := (⟨"com/example/westmount/westmount/RowRange", "last", "()Lcom/example/westmount/westmount/RowKey;"⟩ : MethodName)) (z := (⟨"com/example/westmount/westmount/RowRange", "last", "()Lcom/example/westmount/westmount/RowKey;"⟩ : MethodName)) ho_7 (mvT hZ_7 (hw _ (List.mem_of_getElem? (i := 93) rfl))) (mvT hZ_7 (hw _ (List.mem_of_getElem? (i := 94) rfl))) (notFace_of_selects (args := #[]) (mvT hZ_7 (hw _ (List.mem_of_getElem? (i := 96) rfl)))) (mvT hZ_7 (hw _ (List.mem_of_getElem? (i := 96) rfl))) (mvT hZ_7 (hw _ (List.mem_of_getElem? (i := 95) rfl))) (by decide) (backOf (W := 1) (rm9 l Z a0 hw [] b_35 b_4 x_31_b x_31_k v_1 (own_bs v_1 p1) T_41.heap n0 Z_41 f_48 f_49 f_50 hc239) hZ_7 (hw _ (List.mem_of_getElem? (i := 97) rfl)) (hw _ (List.mem_of_getElem? (i := 36) rfl)) (by decide) (by decide)) q_52a q_52c (g := (mkF m 246 #[.val (.int p0), .val (.int p1), .val (.int p2), .val (.int p3), .val (.int (0 : Int32)), .val (.int v_1), .val (.int v_2), .val (.int zb), .val (.int zc), .val (.int zd), .val (.ref b_3), .val (.ref b_4), .val (.ref x_9_b), .val (.ref x_31_b), .val (.ref b_35), .val (.ref x_41_q), .val (.int (1 : Int32))] [(.ref b_35), (.ref x_41_q)])) rfl (by rw [hml]; rfl) (Steps.refl _) (argsL := []) (rest := [(.ref x_41_q)]) (lenOf pd_9 rfl) rfl (by show 2 * 0 + _ ≤ _; exact Nat.le_of_eq rfl) (hb hby at_246) (fun _ _ => ⟨rfl, q_47, (by decide : 8 + 1 ≤ _), (by decide : 21 + 2 ≤ _)⟩)
              dsimp only [Pt.U, Pt.locs, Pt.cells, Pt.slots] at X_52 l_52 y_52 z_52 st_52 hQ_52
              subst l_52 y_52 z_52
              obtain ⟨x_52_q, rfl, M_52, K_52c, z_52_0, c_52_0, c_52_1, c_52_2⟩ := hQ_52
              have N_52 := Fr.app N_47 M_52
              have ne_b_3_x_52_q : b_3 ≠ x_52_q := Nat.ne_of_lt (Nat.lt_of_lt_of_le f_51.lt z_52_0)
              have ne_b_35_x_52_q : b_35 ≠ x_52_q := Nat.ne_of_lt (Nat.lt_of_lt_of_le f_48.lt z_52_0)
              have ne_b_4_x_52_q : b_4 ≠ x_52_q := Nat.ne_of_lt (Nat.lt_of_lt_of_le f_44.lt z_52_0)
              have ne_x_31_b_x_52_q : x_31_b ≠ x_52_q := Nat.ne_of_lt (Nat.lt_of_lt_of_le f_50.lt z_52_0)
              have ne_x_41_q_x_52_q : x_41_q ≠ x_52_q := Nat.ne_of_lt (Nat.lt_of_lt_of_le c_41_0.lt z_52_0)
              have ne_x_9_b_x_52_q : x_9_b ≠ x_52_q := Nat.ne_of_lt (Nat.lt_of_lt_of_le f_46.lt z_52_0)
              have g_x_52_q : n0 ≤ x_52_q := Nat.le_trans Z_41 z_52_0
              have Z_52 : n0 ≤ T_52.heap.size := Nat.le_trans Z_41 K_52c.1
              have hs_52 : T_7.heap.size ≤ T_52.heap.size := Nat.le_trans hs_41 K_52c.1
              refine own_st (S' := T_52.setTop (mkF m 249 #[.val (.int p0), .val (.int p1), .val (.int p2), .val (.int p3), .val (.int (0 : Int32)), .val (.int v_1), .val (.int v_2), .val (.int zb), .val (.int zc), .val (.int zd), .val (.ref b_3), .val (.ref b_4), .val (.ref x_9_b), .val (.ref x_31_b), .val (.ref b_35), .val (.ref x_41_q), .val (.int (1 : Int32))] [(.ref x_52_q), (.ref x_41_q)])) (fun t_ k_ => st_52.trans k_) ?_
              have f_54 : Fld Z T_52.heap x_41_q "com/example/westmount/westmount/RowKey" "table" "Ljava/lang/String;" (.ref b_4) := (c_41_1.keep K_52c nin0)
              have f_55 : Fld Z T_52.heap x_41_q "com/example/westmount/westmount/RowKey" "row" "[B" (.ref x_9_b) := (c_41_2.keep K_52c nin0)
              have f_56 : Exa Z T_52.heap b_4 "java/lang/String" := (f_44.keep K_52c)
              have f_57 : Arv Z T_52.heap x_9_b x_9_k .byte v_1 (own_bs v_1 p1) (.int (0 : Int32)) := (f_46.keep K_52c nin0)
              have f_58 : Arv Z T_52.heap x_31_b x_31_k .byte v_1 (own_bs v_1 p1) (.int (0 : Int32)) := (f_50.keep K_52c nin0)
              have f_60 : Exa Z T_52.heap x_41_q "com/example/westmount/westmount/RowKey" := (c_41_0.keep K_52c)
              obtain ⟨cq_59, kq_59, q_59a, q_59b, q_59c⟩ := isOf hZ_7 rfl f_60
              obtain ⟨_, _, ⟨T_59, L_59, k_59, n_59⟩, -, X_59, ⟨Lc_59, hQ_59, l_59, y_59, z_59⟩, st_59⟩ := X_52.virtualBack hx (y := (⟨"com/example/westmount/westmount/RowKey", "equals", "(Ljava/lang/Object;)Z"⟩ : MethodName)) (z := (⟨"com/example/westmount/westmount/RowKey", "equals", "(Ljava/lang/Object;)Z"⟩ : MethodName)) ho_7 (mvT hZ_7 (hw _ (List.mem_of_getElem? (i := 98) rfl))) (mvT hZ_7 (hw _ (List.mem_of_getElem? (i := 99) rfl))) (notFace_of_selects (args := #[]) (mvT hZ_7 (hw _ (List.mem_of_getElem? (i := 101) rfl)))) (mvT hZ_7 (hw _ (List.mem_of_getElem? (i := 101) rfl))) (mvT hZ_7 (hw _ (List.mem_of_getElem? (i := 100) rfl))) (by decide) (backOf (W := 0) (rm15 l Z a0 hw [] x_41_q x_52_q b_4 x_9_b x_31_b x_9_k x_31_k v_1 p1 T_52.heap n0 Z_52 f_54 f_55 c_52_0 c_52_1 c_52_2 f_56 f_57 f_58 ne_x_9_b_x_31_b (hv_1 ▸ own_four _)) hZ_7 (hw _ (List.mem_of_getElem? (i := 102) rfl)) (hw _ (List.mem_of_getElem? (i := 63) rfl)) (by decide) (by decide)) q_59a q_59c (g := (mkF m 249 #[.val (.int p0), .val (.int p1), .val (.int p2), .val (.int p3), .val (.int (0 : Int32)), .val (.int v_1), .val (.int v_2), .val (.int zb), .val (.int zc), .val (.int zd), .val (.ref b_3), .val (.ref b_4), .val (.ref x_9_b), .val (.ref x_31_b), .val (.ref b_35), .val (.ref x_41_q), .val (.int (1 : Int32))] [(.ref x_52_q), (.ref x_41_q)])) rfl (by rw [hml]; rfl) (Steps.refl _) (argsL := [(.ref x_52_q)]) (rest := []) (lenOf pd_4 rfl) rfl (by show 2 * 0 + _ ≤ _; exact Nat.le_of_eq rfl) (hb hby at_249) (fun _ _ => ⟨rfl, rfl, (by decide : 9 + 0 ≤ _), (by decide : 23 + 0 ≤ _)⟩)
              dsimp only [Pt.U, Pt.locs, Pt.cells, Pt.slots] at X_59 l_59 y_59 z_59 st_59 hQ_59
              subst l_59 y_59 z_59
              obtain ⟨rfl, M_59, q_59⟩ := hQ_59
              have N_59 := Fr.app N_52 M_59
              refine own_st (S' := T_59.setTop (mkF m 252 #[.val (.int p0), .val (.int p1), .val (.int p2), .val (.int p3), .val (.int (0 : Int32)), .val (.int v_1), .val (.int v_2), .val (.int zb), .val (.int zc), .val (.int zd), .val (.ref b_3), .val (.ref b_4), .val (.ref x_9_b), .val (.ref x_31_b), .val (.ref b_35), .val (.ref x_41_q), .val (.int (1 : Int32))] [(.int (1 : Int32))])) (fun t_ k_ => st_59.trans k_) ?_
              refine own_st (S' := T_59.setTop (mkF m 254 #[.val (.int p0), .val (.int p1), .val (.int p2), .val (.int p3), .val (.int (0 : Int32)), .val (.int v_1), .val (.int v_2), .val (.int zb), .val (.int zc), .val (.int zd), .val (.ref b_3), .val (.ref b_4), .val (.ref x_9_b), .val (.ref x_31_b), .val (.ref b_35), .val (.ref x_41_q), .val (.int (1 : Int32))] [])) (fun t_ k_ => XS.istore X_59.here hx rfl (hb hby at_252) rfl (l' := #[.val (.int p0), .val (.int p1), .val (.int p2), .val (.int p3), .val (.int (0 : Int32)), .val (.int v_1), .val (.int v_2), .val (.int zb), .val (.int zc), .val (.int zd), .val (.ref b_3), .val (.ref b_4), .val (.ref x_9_b), .val (.ref x_31_b), .val (.ref b_35), .val (.ref x_41_q), .val (.int (1 : Int32))]) rfl k_) ?_
              refine own_st (S' := T_59.setTop (mkF m 256 #[.val (.int p0), .val (.int p1), .val (.int p2), .val (.int p3), .val (.int (0 : Int32)), .val (.int v_1), .val (.int v_2), .val (.int zb), .val (.int zc), .val (.int zd), .val (.ref b_3), .val (.ref b_4), .val (.ref x_9_b), .val (.ref x_31_b), .val (.ref b_35), .val (.ref x_41_q), .val (.int (1 : Int32))] [(.int (1 : Int32))])) (fun t_ k_ => XS.iload X_59.here hx rfl (hb hby at_254) rfl k_) ?_
              obtain ⟨fs, hr, hrun, hended, hRW⟩ := Stand.leaveW (s := s) (vm₁ := T_7.vm) X_59 (n := T_7.heap.size) hS_7 (by rw [q_59]; exact hs_52) (v := some (.int (1 : Int32))) (fun h => by rw [Bd.returns] at h; cases h)
              refine ⟨_, _, retN X_59 hx (t := .boolean) Bd.returns (by simp) (hb hby at_256) hr, hrun, hended, _, _, rfl, ?_, ⟨_, rfl⟩, hRW.2.1, hRW.2.2.1, hRW.2.2.2.mono (by decide) (by decide)⟩
              show Q0 Z p0 p1 p2 p3 cz h0 n0 _ T_59.heap _
              rw [q_59]
              exact ⟨rfl, N_59⟩
            · refine own_st (S' := T_47.setTop (mkF m 254 #[.val (.int p0), .val (.int p1), .val (.int p2), .val (.int p3), .val (.int (0 : Int32)), .val (.int v_1), .val (.int v_2), .val (.int zb), .val (.int zc), .val (.int zd), .val (.ref b_3), .val (.ref b_4), .val (.ref x_9_b), .val (.ref x_31_b), .val (.ref b_35), .val (.ref x_41_q), .val (.int (1 : Int32))] [])) (fun t_ k_ => XS.ifYes X_47.here hx rfl (pc0 := 239) (pc' := 254) rfl (hb hby at_239) rfl ((if0 _ _).trans (flt hc239).2.2.2) (by decide) (by decide) k_) ?_
              refine own_st (S' := T_47.setTop (mkF m 256 #[.val (.int p0), .val (.int p1), .val (.int p2), .val (.int p3), .val (.int (0 : Int32)), .val (.int v_1), .val (.int v_2), .val (.int zb), .val (.int zc), .val (.int zd), .val (.ref b_3), .val (.ref b_4), .val (.ref x_9_b), .val (.ref x_31_b), .val (.ref b_35), .val (.ref x_41_q), .val (.int (1 : Int32))] [(.int (1 : Int32))])) (fun t_ k_ => XS.iload X_47.here hx rfl (hb hby at_254) rfl k_) ?_
              obtain ⟨fs, hr, hrun, hended, hRW⟩ := Stand.leaveW (s := s) (vm₁ := T_7.vm) X_47 (n := T_7.heap.size) hS_7 (by rw [q_47]; exact hs_41) (v := some (.int (1 : Int32))) (fun h => by rw [Bd.returns] at h; cases h)
              refine ⟨_, _, retN X_47 hx (t := .boolean) Bd.returns (by simp) (hb hby at_256) hr, hrun, hended, _, _, rfl, ?_, ⟨_, rfl⟩, hRW.2.1, hRW.2.2.1, hRW.2.2.2.mono (by decide) (by decide)⟩
              show Q0 Z p0 p1 p2 p3 cz h0 n0 _ T_47.heap _
              rw [q_47]
              exact ⟨rfl, N_47⟩
        · refine own_cast (S' := s₁.setTop (mkF m 67 #[.val (.int p0), .val (.int p1), .val (.int p2), .val (.int p3), .val (.int (1 : Int32)), .val (.int v_1), .val (.int v_2), .val (.int zb), .val (.int zc), .val (.int zd), .unset, .unset, .unset, .unset, .unset, .unset, .unset] [])) (by rw [hq]) ?_
          refine own_st (S' := s₁.setTop (mkF m 69 #[.val (.int p0), .val (.int p1), .val (.int p2), .val (.int p3), .val (.int (1 : Int32)), .val (.int v_1), .val (.int v_2), .val (.int zb), .val (.int zc), .val (.int zd), .unset, .unset, .unset, .unset, .unset, .unset, .unset] [(.int (1 : Int32))])) (fun t_ k_ => XS.iload X0.here hx rfl (hb hby at_67) rfl k_) ?_
          obtain ⟨T_61, h_61, k_61, X_61, e_61, E_61, A_61, st_61⟩ := newP X0 hx hZ (hw _ (List.mem_of_getElem? (i := 0) rfl)) e0 (g := (mkF m 69 #[.val (.int p0), .val (.int p1), .val (.int p2), .val (.int p3), .val (.int (1 : Int32)), .val (.int v_1), .val (.int v_2), .val (.int zb), .val (.int zc), .val (.int zd), .unset, .unset, .unset, .unset, .unset, .unset, .unset] [(.int (1 : Int32))])) rfl (hb hby at_69) rfl (by decide) (cap := 1) (by decide) (by decide) (by decide) (by decide)
          obtain ⟨b_61, gg_61⟩ : ∃ z, z = h0.size := ⟨_, rfl⟩
          rw [← gg_61] at A_61 st_61
          have g_b_61 : n0 ≤ b_61 := Nat.le_trans Z0 (Nat.le_of_eq gg_61.symm)
          have Z_61 : n0 ≤ h_61.size := Nat.le_trans Z0 E_61.1
          have V_61 : Arv Z h_61 b_61 k_61 .char (1 : Int32) [(.int (0 : Int32))] (.int (0 : Int32)) := (Arv.new A_61 (by decide)).pad (pad_rep [] (.int (0 : Int32)) 1)
          refine own_st (S' := T_61.setTop (mkF m 71 #[.val (.int p0), .val (.int p1), .val (.int p2), .val (.int p3), .val (.int (1 : Int32)), .val (.int v_1), .val (.int v_2), .val (.int zb), .val (.int zc), .val (.int zd), .unset, .unset, .unset, .unset, .unset, .unset, .unset] [(.ref b_61)])) st_61 ?_
          refine own_st (S' := T_61.setTop (mkF m 73 #[.val (.int p0), .val (.int p1), .val (.int p2), .val (.int p3), .val (.int (1 : Int32)), .val (.int v_1), .val (.int v_2), .val (.int zb), .val (.int zc), .val (.int zd), .val (.ref b_61), .unset, .unset, .unset, .unset, .unset, .unset] [])) (fun t_ k_ => XS.astore X_61.here hx rfl (hb hby at_71) rfl rfl (l' := #[.val (.int p0), .val (.int p1), .val (.int p2), .val (.int p3), .val (.int (1 : Int32)), .val (.int v_1), .val (.int v_2), .val (.int zb), .val (.int zc), .val (.int zd), .val (.ref b_61), .unset, .unset, .unset, .unset, .unset, .unset]) rfl k_) ?_
          refine own_st (S' := T_61.setTop (mkF m 75 #[.val (.int p0), .val (.int p1), .val (.int p2), .val (.int p3), .val (.int (1 : Int32)), .val (.int v_1), .val (.int v_2), .val (.int zb), .val (.int zc), .val (.int zd), .val (.ref b_61), .unset, .unset, .unset, .unset, .unset, .unset] [(.int (1 : Int32))])) (fun t_ k_ => XS.iload X_61.here hx rfl (hb hby at_73) rfl k_) ?_
          refine own_st (S' := T_61.setTop (mkF m 78 #[.val (.int p0), .val (.int p1), .val (.int p2), .val (.int p3), .val (.int (1 : Int32)), .val (.int v_1), .val (.int v_2), .val (.int zb), .val (.int zc), .val (.int zd), .val (.ref b_61), .unset, .unset, .unset, .unset, .unset, .unset] [])) (fun t_ k_ => XS.ifNo X_61.here hx rfl (hb hby at_75) rfl ((if0 _ _).trans (tlt (by decide : (0 : Int32) < (1 : Int32))).2.2.2) k_) ?_
          refine own_st (S' := T_61.setTop (mkF m 80 #[.val (.int p0), .val (.int p1), .val (.int p2), .val (.int p3), .val (.int (1 : Int32)), .val (.int v_1), .val (.int v_2), .val (.int zb), .val (.int zc), .val (.int zd), .val (.ref b_61), .unset, .unset, .unset, .unset, .unset, .unset] [(.ref b_61)])) (fun t_ k_ => XS.aload X_61.here hx rfl (hb hby at_78) rfl rfl k_) ?_
          refine own_st (S' := T_61.setTop (mkF m 81 #[.val (.int p0), .val (.int p1), .val (.int p2), .val (.int p3), .val (.int (1 : Int32)), .val (.int v_1), .val (.int v_2), .val (.int zb), .val (.int zc), .val (.int zd), .val (.ref b_61), .unset, .unset, .unset, .unset, .unset, .unset] [(.int (0 : Int32)), (.ref b_61)])) (fun t_ k_ => XS.iconst X_61.here hx rfl (hb hby at_80) k_) ?_
          refine own_st (S' := T_61.setTop (mkF m 82 #[.val (.int p0), .val (.int p1), .val (.int p2), .val (.int p3), .val (.int (1 : Int32)), .val (.int v_1), .val (.int v_2), .val (.int zb), .val (.int zc), .val (.int zd), .val (.ref b_61), .unset, .unset, .unset, .unset, .unset, .unset] [(.int p0), (.int (0 : Int32)), (.ref b_61)])) (fun t_ k_ => XS.iloadN X_61.here hx rfl (hb hby at_81) rfl k_) ?_
          refine own_st (S' := T_61.setTop (mkF m 85 #[.val (.int p0), .val (.int p1), .val (.int p2), .val (.int p3), .val (.int (1 : Int32)), .val (.int v_1), .val (.int v_2), .val (.int zb), .val (.int zc), .val (.int zd), .val (.ref b_61), .unset, .unset, .unset, .unset, .unset, .unset] [(.int (255 : Int32)), (.int p0), (.int (0 : Int32)), (.ref b_61)])) (fun t_ k_ => XS.sipush X_61.here hx rfl (hb hby at_82) k_) ?_
          refine own_st (S' := T_61.setTop (mkF m 86 #[.val (.int p0), .val (.int p1), .val (.int p2), .val (.int p3), .val (.int (1 : Int32)), .val (.int v_1), .val (.int v_2), .val (.int zb), .val (.int zc), .val (.int zd), .val (.ref b_61), .unset, .unset, .unset, .unset, .unset, .unset] [(.int (p0 &&& (255 : Int32))), (.int (0 : Int32)), (.ref b_61)])) (fun t_ k_ => XS.iand X_61.here hx rfl (hb hby at_85) rfl k_) ?_
          refine own_st (S' := T_61.setTop (mkF m 87 #[.val (.int p0), .val (.int p1), .val (.int p2), .val (.int p3), .val (.int (1 : Int32)), .val (.int v_1), .val (.int v_2), .val (.int zb), .val (.int zc), .val (.int zd), .val (.ref b_61), .unset, .unset, .unset, .unset, .unset, .unset] [(.int ((p0 &&& (255 : Int32)).toUInt32.toUInt16.toUInt32.toInt32)), (.int (0 : Int32)), (.ref b_61)])) (fun t_ k_ => XS.i2c X_61.here hx rfl (hb hby at_86) rfl k_) ?_
          obtain ⟨cl_62, Ar_62, q_62, S_62, M_62, H_62, G_62⟩ := id V_61
          have hin_62 : ¬ ((0 : Int32) < 0 ∨ cl_62.slots.size ≤ ((0 : Int32)).toNatClampNeg) := inb_of S_62 ⟨by decide, by decide⟩
          obtain ⟨T_62, h_62, X_62, e_62, W_62, st_62⟩ := stC X_61 hx hZ e_61 Ar_62 (j := (0 : Int32)) hin_62 (g := (mkF m 87 #[.val (.int p0), .val (.int p1), .val (.int p2), .val (.int p3), .val (.int (1 : Int32)), .val (.int v_1), .val (.int v_2), .val (.int zb), .val (.int zc), .val (.int zd), .val (.ref b_61), .unset, .unset, .unset, .unset, .unset, .unset] [(.int ((p0 &&& (255 : Int32)).toUInt32.toUInt16.toUInt32.toInt32)), (.int (0 : Int32)), (.ref b_61)])) rfl rfl (hb hby at_87)
          have Z_62 : n0 ≤ h_62.size := Nat.le_trans Z_61 (Keep.of_wr W_62).1
          have N_62 := Fr.snoc X_62 N0 g_b_61
          have V_62 : Arv Z h_62 b_61 k_61 .char (1 : Int32) [(.int (nar .char ((p0 &&& (255 : Int32)).toUInt32.toUInt16.toUInt32.toInt32)))] (.int (0 : Int32)) := Arv.set Ar_62 q_62 S_62 M_62 H_62 G_62 (fits_nar_char _) W_62 0 rfl (Nat.le_of_ble_eq_true rfl)
          refine own_st (S' := T_62.setTop (mkF m 88 #[.val (.int p0), .val (.int p1), .val (.int p2), .val (.int p3), .val (.int (1 : Int32)), .val (.int v_1), .val (.int v_2), .val (.int zb), .val (.int zc), .val (.int zd), .val (.ref b_61), .unset, .unset, .unset, .unset, .unset, .unset] [])) st_62 ?_
          refine own_st (S' := T_62.setTop (mkF m 90 #[.val (.int p0), .val (.int p1), .val (.int p2), .val (.int p3), .val (.int (1 : Int32)), .val (.int v_1), .val (.int v_2), .val (.int zb), .val (.int zc), .val (.int zd), .val (.ref b_61), .unset, .unset, .unset, .unset, .unset, .unset] [(.int (1 : Int32))])) (fun t_ k_ => XS.iload X_62.here hx rfl (hb hby at_88) rfl k_) ?_
          refine own_st (S' := T_62.setTop (mkF m 91 #[.val (.int p0), .val (.int p1), .val (.int p2), .val (.int p3), .val (.int (1 : Int32)), .val (.int v_1), .val (.int v_2), .val (.int zb), .val (.int zc), .val (.int zd), .val (.ref b_61), .unset, .unset, .unset, .unset, .unset, .unset] [(.int (1 : Int32)), (.int (1 : Int32))])) (fun t_ k_ => XS.iconst X_62.here hx rfl (hb hby at_90) k_) ?_
          refine own_st (S' := T_62.setTop (mkF m 107 #[.val (.int p0), .val (.int p1), .val (.int p2), .val (.int p3), .val (.int (1 : Int32)), .val (.int v_1), .val (.int v_2), .val (.int zb), .val (.int zc), .val (.int zd), .val (.ref b_61), .unset, .unset, .unset, .unset, .unset, .unset] [])) (fun t_ k_ => XS.icmpYes X_62.here hx rfl (pc0 := 91) (pc' := 107) rfl (hb hby at_91) rfl (flt (by decide : ¬ ((1 : Int32) < (1 : Int32)))).2.2.2 (by decide) (by decide) k_) ?_
          refine own_st (S' := T_62.setTop (mkF m 109 #[.val (.int p0), .val (.int p1), .val (.int p2), .val (.int p3), .val (.int (1 : Int32)), .val (.int v_1), .val (.int v_2), .val (.int zb), .val (.int zc), .val (.int zd), .val (.ref b_61), .unset, .unset, .unset, .unset, .unset, .unset] [(.int (1 : Int32))])) (fun t_ k_ => XS.iload X_62.here hx rfl (hb hby at_107) rfl k_) ?_
          refine own_st (S' := T_62.setTop (mkF m 110 #[.val (.int p0), .val (.int p1), .val (.int p2), .val (.int p3), .val (.int (1 : Int32)), .val (.int v_1), .val (.int v_2), .val (.int zb), .val (.int zc), .val (.int zd), .val (.ref b_61), .unset, .unset, .unset, .unset, .unset, .unset] [(.int (2 : Int32)), (.int (1 : Int32))])) (fun t_ k_ => XS.iconst X_62.here hx rfl (hb hby at_109) k_) ?_
          refine own_st (S' := T_62.setTop (mkF m 126 #[.val (.int p0), .val (.int p1), .val (.int p2), .val (.int p3), .val (.int (1 : Int32)), .val (.int v_1), .val (.int v_2), .val (.int zb), .val (.int zc), .val (.int zd), .val (.ref b_61), .unset, .unset, .unset, .unset, .unset, .unset] [])) (fun t_ k_ => XS.icmpYes X_62.here hx rfl (pc0 := 110) (pc' := 126) rfl (hb hby at_110) rfl (flt (by decide : ¬ ((2 : Int32) < (1 : Int32)))).2.2.2 (by decide) (by decide) k_) ?_
          obtain ⟨T_63, h_63, X_63, e_63, E_63, A_63, D_63, -, st_63⟩ := newO X_62 hx hZ hown (hw _ (List.mem_of_getElem? (i := 1) rfl)) (hw _ (List.mem_of_getElem? (i := 2) rfl)) (hw _ (List.mem_of_getElem? (i := 3) rfl)) e_62 (g := (mkF m 126 #[.val (.int p0), .val (.int p1), .val (.int p2), .val (.int p3), .val (.int (1 : Int32)), .val (.int v_1), .val (.int v_2), .val (.int zb), .val (.int zc), .val (.int zd), .val (.ref b_61), .unset, .unset, .unset, .unset, .unset, .unset] [])) rfl (hb hby at_126) (by decide) (by decide)
          obtain ⟨b_63, gg_63⟩ : ∃ z, z = h_62.size := ⟨_, rfl⟩
          rw [← gg_63] at A_63 D_63 st_63
          have ne_b_61_b_63 : b_61 ≠ b_63 := Nat.ne_of_lt (Nat.lt_of_lt_of_le V_62.lt (Nat.le_of_eq gg_63.symm))
          have g_b_63 : n0 ≤ b_63 := Nat.le_trans Z_62 (Nat.le_of_eq gg_63.symm)
          have Z_63 : n0 ≤ h_63.size := Nat.le_trans Z_62 E_63.1
          have F_63_coder : Fld Z h_63 b_63 "java/lang/String" "coder" "B" (.int (0 : Int32)) := D_63 (Or.inr (hw _ (List.mem_of_getElem? (i := 27) rfl))) (ty := .byte) (by decide)
          have F_63_value : Fld Z h_63 b_63 "java/lang/String" "value" "[B" .null := D_63 (Or.inr (hw _ (List.mem_of_getElem? (i := 29) rfl))) (ty := (.array .byte)) (by decide)
          refine own_st (S' := T_63.setTop (mkF m 129 #[.val (.int p0), .val (.int p1), .val (.int p2), .val (.int p3), .val (.int (1 : Int32)), .val (.int v_1), .val (.int v_2), .val (.int zb), .val (.int zc), .val (.int zd), .val (.ref b_61), .unset, .unset, .unset, .unset, .unset, .unset] [(.ref b_63)])) st_63 ?_
          refine own_st (S' := T_63.setTop (mkF m 130 #[.val (.int p0), .val (.int p1), .val (.int p2), .val (.int p3), .val (.int (1 : Int32)), .val (.int v_1), .val (.int v_2), .val (.int zb), .val (.int zc), .val (.int zd), .val (.ref b_61), .unset, .unset, .unset, .unset, .unset, .unset] [(.ref b_63), (.ref b_63)])) (fun t_ k_ => XS.dup X_63.here hx rfl (hb hby at_129) rfl rfl k_) ?_
          refine own_st (S' := T_63.setTop (mkF m 132 #[.val (.int p0), .val (.int p1), .val (.int p2), .val (.int p3), .val (.int (1 : Int32)), .val (.int v_1), .val (.int v_2), .val (.int zb), .val (.int zc), .val (.int zd), .val (.ref b_61), .unset, .unset, .unset, .unset, .unset, .unset] [(.ref b_61), (.ref b_63), (.ref b_63)])) (fun t_ k_ => XS.aload X_63.here hx rfl (hb hby at_130) rfl rfl k_) ?_
          have f_64 : Arv Z h_63 b_61 k_61 .char (1 : Int32) [(.int (nar .char ((p0 &&& (255 : Int32)).toUInt32.toUInt16.toUInt32.toInt32)))] (.int (0 : Int32)) := (V_62.ext E_63)
          have f_66 : Old Z n0 h_63 := (((O0.ext E_61).wr W_62 g_b_61).ext E_63)
          have f_65 : Sta Z h_63 "java/lang/String" "COMPACT_STRINGS" "Z" (.int cz) := Sta.ext f_66.2 Y0
          have hws_67 : ∀ d ∈ StrChars.Road.words, d.before a0 Z = true := fun d hd => hw d ((by decide +kernel : ∀ d ∈ StrChars.Road.words, d ∈ tables_1) d hd)
          have hp_67 : ∀ c ∈ ([(nar .char ((p0 &&& (255 : Int32)).toUInt32.toUInt16.toUInt32.toInt32))] : List Int32), ¬ c < 0 ∧ ¬ (255 : Int32) < c := by
              intro c hc
              simp only [List.mem_cons, List.not_mem_nil, or_false] at hc
              rcases hc with rfl
              exact own_ch _
          obtain ⟨_, _, ⟨T_67, L_67, k_67, n_67⟩, -, X_67, ⟨Lc_67, hQ_67, l_67, y_67, z_67⟩, st_67⟩ := X_63.specialBack hx (y := (⟨"java/lang/String", "<init>", "([C)V"⟩ : MethodName)) rfl hown (mvT hZ (hw _ (List.mem_of_getElem? (i := 4) rfl))) (mvT hZ (hw _ (List.mem_of_getElem? (i := 5) rfl))) (mvT hZ (hw _ (List.mem_of_getElem? (i := 6) rfl))) (by decide) (StrChars.Road.backV (W := 1) hZ hws_67 (kI := 4) (hw _ (List.mem_of_getElem? (i := 2) rfl)) (cs := ([(nar .char ((p0 &&& (255 : Int32)).toUInt32.toUInt16.toUInt32.toInt32))] : List Int32)) (bs := ([(nar .char ((p0 &&& (255 : Int32)).toUInt32.toUInt16.toUInt32.toInt32))] : List Int32).map (fun c => c.toInt8.toInt32)) (n := 1) g_b_63 Z_63 A_63 F_63_value F_63_coder f_64 f_65 hcz rfl rfl (by decide) (by decide) hp_67 rfl (by decide) (by decide)) (g := (mkF m 132 #[.val (.int p0), .val (.int p1), .val (.int p2), .val (.int p3), .val (.int (1 : Int32)), .val (.int v_1), .val (.int v_2), .val (.int zb), .val (.int zc), .val (.int zd), .val (.ref b_61), .unset, .unset, .unset, .unset, .unset, .unset] [(.ref b_61), (.ref b_63), (.ref b_63)])) rfl (by rw [hml]; rfl) (Steps.refl _) (a := b_63) (argsL := [(.ref b_61)]) (rest := [(.ref b_63)]) (lenOf pd_6 rfl) rfl (by show 2 * 0 + _ ≤ _; exact Nat.le_of_eq rfl) (hb hby at_132) (fun _ _ => ⟨rfl, e_63, (by decide : 2 + 1 ≤ _), (by decide : 5 + 1 ≤ _)⟩)
          dsimp only [Pt.U, Pt.locs, Pt.cells, Pt.slots] at X_67 l_67 y_67 z_67 st_67 hQ_67
          subst l_67 y_67 z_67
          obtain ⟨rfl, M_67, K_67c, A_67, C_67, t_67, kb_67, u_67, uz_67, uv_67, F_67, V_67⟩ := hQ_67
          have N_67 := Fr.app N_62 M_67
          have ne_b_61_t_67 : b_61 ≠ t_67 := Nat.ne_of_lt (Nat.lt_of_lt_of_le f_64.lt uz_67)
          have ne_b_63_t_67 : b_63 ≠ t_67 := fun q => uv_67 q.symm
          have Z_67 : n0 ≤ T_67.heap.size := Nat.le_trans Z_63 K_67c.1
          refine own_st (S' := T_67.setTop (mkF m 135 #[.val (.int p0), .val (.int p1), .val (.int p2), .val (.int p3), .val (.int (1 : Int32)), .val (.int v_1), .val (.int v_2), .val (.int zb), .val (.int zc), .val (.int zd), .val (.ref b_61), .unset, .unset, .unset, .unset, .unset, .unset] [(.ref b_63)])) (fun t_ k_ => st_67.trans k_) ?_
          refine own_st (S' := T_67.setTop (mkF m 137 #[.val (.int p0), .val (.int p1), .val (.int p2), .val (.int p3), .val (.int (1 : Int32)), .val (.int v_1), .val (.int v_2), .val (.int zb), .val (.int zc), .val (.int zd), .val (.ref b_61), .val (.ref b_63), .unset, .unset, .unset, .unset, .unset] [])) (fun t_ k_ => XS.astore X_67.here hx rfl (hb hby at_135) rfl rfl (l' := #[.val (.int p0), .val (.int p1), .val (.int p2), .val (.int p3), .val (.int (1 : Int32)), .val (.int v_1), .val (.int v_2), .val (.int zb), .val (.int zc), .val (.int zd), .val (.ref b_61), .val (.ref b_63), .unset, .unset, .unset, .unset, .unset]) rfl k_) ?_
          refine own_st (S' := T_67.setTop (mkF m 139 #[.val (.int p0), .val (.int p1), .val (.int p2), .val (.int p3), .val (.int (1 : Int32)), .val (.int v_1), .val (.int v_2), .val (.int zb), .val (.int zc), .val (.int zd), .val (.ref b_61), .val (.ref b_63), .unset, .unset, .unset, .unset, .unset] [(.int v_1)])) (fun t_ k_ => XS.iload X_67.here hx rfl (hb hby at_137) rfl k_) ?_
          refine own_st (S' := T_67.setTop (mkF m 140 #[.val (.int p0), .val (.int p1), .val (.int p2), .val (.int p3), .val (.int (1 : Int32)), .val (.int v_1), .val (.int v_2), .val (.int zb), .val (.int zc), .val (.int zd), .val (.ref b_61), .val (.ref b_63), .unset, .unset, .unset, .unset, .unset] [(.int p1), (.int v_1)])) (fun t_ k_ => XS.iloadN X_67.here hx rfl (hb hby at_139) rfl k_) ?_
          have f_68 : Arv Z T_67.heap b_61 k_61 .char (1 : Int32) [(.int (nar .char ((p0 &&& (255 : Int32)).toUInt32.toUInt16.toUInt32.toInt32)))] (.int (0 : Int32)) := (f_64.keep K_67c (ninS ne_b_61_b_63 nin0))
          obtain ⟨_, _, ⟨T_69, L_69, k_69, n_69⟩, -, X_69, ⟨Lc_69, hQ_69, l_69, y_69, z_69⟩, st_69⟩ := Jvm.LawKit.callS X_67 hx (y := (⟨"com/example/westmount/westmount/RowRangeFirstPinLaw", "bytes", "(II)[B"⟩ : MethodName)) hown (mvT hZ (hw _ (List.mem_of_getElem? (i := 30) rfl))) (mvT hZ (hw _ (List.mem_of_getElem? (i := 31) rfl))) (mvT hZ (hw _ (List.mem_of_getElem? (i := 32) rfl))) (mvT hZ (hw _ (List.mem_of_getElem? (i := 33) rfl))) (by decide) (backOf (W := 0) (rm3 l Z a0 hw [] v_1 p1 T_67.heap n0 Z_67 (hv_1 ▸ own_four _)) hZ (hw _ (List.mem_of_getElem? (i := 33) rfl)) (hw _ (List.mem_of_getElem? (i := 32) rfl)) (by decide) (by decide)) (g := (mkF m 140 #[.val (.int p0), .val (.int p1), .val (.int p2), .val (.int p3), .val (.int (1 : Int32)), .val (.int v_1), .val (.int v_2), .val (.int zb), .val (.int zc), .val (.int zd), .val (.ref b_61), .val (.ref b_63), .unset, .unset, .unset, .unset, .unset] [(.int p1), (.int v_1)])) rfl (by rw [hml]; rfl) (argsL := [(.int v_1), (.int p1)]) (rest := []) (lenOf pd_7 rfl) rfl (by show 2 * 0 + _ ≤ _; exact Nat.le_of_eq rfl) (hb hby at_140) (fun _ _ => ⟨rfl, rfl, (by decide : 3 + 1 ≤ _), (by decide : 6 + 3 ≤ _)⟩)
          dsimp only [Pt.U, Pt.locs, Pt.cells, Pt.slots] at X_69 l_69 y_69 z_69 st_69 hQ_69
          subst l_69 y_69 z_69
          obtain ⟨x_69_b, x_69_k, rfl, M_69, K_69c, z_69_0, c_69_0⟩ := hQ_69
          have N_69 := Fr.app N_67 M_69
          have ne_b_61_x_69_b : b_61 ≠ x_69_b := Nat.ne_of_lt (Nat.lt_of_lt_of_le f_68.lt z_69_0)
          have ne_b_63_x_69_b : b_63 ≠ x_69_b := Nat.ne_of_lt (Nat.lt_of_lt_of_le A_67.lt z_69_0)
          have ne_t_67_x_69_b : t_67 ≠ x_69_b := Nat.ne_of_lt (Nat.lt_of_lt_of_le V_67.lt z_69_0)
          have g_x_69_b : n0 ≤ x_69_b := Nat.le_trans Z_67 z_69_0
          have Z_69 : n0 ≤ T_69.heap.size := Nat.le_trans Z_67 K_69c.1
          refine own_st (S' := T_69.setTop (mkF m 143 #[.val (.int p0), .val (.int p1), .val (.int p2), .val (.int p3), .val (.int (1 : Int32)), .val (.int v_1), .val (.int v_2), .val (.int zb), .val (.int zc), .val (.int zd), .val (.ref b_61), .val (.ref b_63), .unset, .unset, .unset, .unset, .unset] [(.ref x_69_b)])) st_69 ?_
          refine own_st (S' := T_69.setTop (mkF m 145 #[.val (.int p0), .val (.int p1), .val (.int p2), .val (.int p3), .val (.int (1 : Int32)), .val (.int v_1), .val (.int v_2), .val (.int zb), .val (.int zc), .val (.int zd), .val (.ref b_61), .val (.ref b_63), .val (.ref x_69_b), .unset, .unset, .unset, .unset] [])) (fun t_ k_ => XS.astore X_69.here hx rfl (hb hby at_143) rfl rfl (l' := #[.val (.int p0), .val (.int p1), .val (.int p2), .val (.int p3), .val (.int (1 : Int32)), .val (.int v_1), .val (.int v_2), .val (.int zb), .val (.int zc), .val (.int zd), .val (.ref b_61), .val (.ref b_63), .val (.ref x_69_b), .unset, .unset, .unset, .unset]) rfl k_) ?_
          refine own_st (S' := T_69.setTop (mkF m 147 #[.val (.int p0), .val (.int p1), .val (.int p2), .val (.int p3), .val (.int (1 : Int32)), .val (.int v_1), .val (.int v_2), .val (.int zb), .val (.int zc), .val (.int zd), .val (.ref b_61), .val (.ref b_63), .val (.ref x_69_b), .unset, .unset, .unset, .unset] [(.int zd)])) (fun t_ k_ => XS.iload X_69.here hx rfl (hb hby at_145) rfl k_) ?_
          by_cases hc147 : zd = (0 : Int32)
          · refine own_st (S' := T_69.setTop (mkF m 159 #[.val (.int p0), .val (.int p1), .val (.int p2), .val (.int p3), .val (.int (1 : Int32)), .val (.int v_1), .val (.int v_2), .val (.int zb), .val (.int zc), .val (.int zd), .val (.ref b_61), .val (.ref b_63), .val (.ref x_69_b), .unset, .unset, .unset, .unset] [])) (fun t_ k_ => XS.ifYes X_69.here hx rfl (pc0 := 147) (pc' := 159) rfl (hb hby at_147) rfl ((if0 _ _).trans (teq hc147).1) (by decide) (by decide) k_) ?_
            refine own_st (S' := T_69.setTop (mkF m 161 #[.val (.int p0), .val (.int p1), .val (.int p2), .val (.int p3), .val (.int (1 : Int32)), .val (.int v_1), .val (.int v_2), .val (.int zb), .val (.int zc), .val (.int zd), .val (.ref b_61), .val (.ref b_63), .val (.ref x_69_b), .unset, .unset, .unset, .unset] [(.int v_2)])) (fun t_ k_ => XS.iload X_69.here hx rfl (hb hby at_159) rfl k_) ?_
            refine own_st (S' := T_69.setTop (mkF m 162 #[.val (.int p0), .val (.int p1), .val (.int p2), .val (.int p3), .val (.int (1 : Int32)), .val (.int v_1), .val (.int v_2), .val (.int zb), .val (.int zc), .val (.int zd), .val (.ref b_61), .val (.ref b_63), .val (.ref x_69_b), .unset, .unset, .unset, .unset] [(.int p2), (.int v_2)])) (fun t_ k_ => XS.iloadN X_69.here hx rfl (hb hby at_161) rfl k_) ?_
            have f_70 : Arv Z T_69.heap b_61 k_61 .char (1 : Int32) [(.int (nar .char ((p0 &&& (255 : Int32)).toUInt32.toUInt16.toUInt32.toInt32)))] (.int (0 : Int32)) := (f_68.keep K_69c nin0)
            have f_71 : Exa Z T_69.heap b_63 "java/lang/String" := (A_67.keep K_69c)
            have f_72 : Arv Z T_69.heap t_67 kb_67 .byte (1 : Int32) ((([(nar .char ((p0 &&& (255 : Int32)).toUInt32.toUInt16.toUInt32.toInt32))] : List Int32).map (fun c => c.toInt8.toInt32)).map Value.int) (.int 0) := (V_67.keep K_69c nin0)
            obtain ⟨_, _, ⟨T_73, L_73, k_73, n_73⟩, -, X_73, ⟨Lc_73, hQ_73, l_73, y_73, z_73⟩, st_73⟩ := Jvm.LawKit.callS X_69 hx (y := (⟨"com/example/westmount/westmount/RowRangeFirstPinLaw", "bytes", "(II)[B"⟩ : MethodName)) hown (mvT hZ (hw _ (List.mem_of_getElem? (i := 30) rfl))) (mvT hZ (hw _ (List.mem_of_getElem? (i := 31) rfl))) (mvT hZ (hw _ (List.mem_of_getElem? (i := 32) rfl))) (mvT hZ (hw _ (List.mem_of_getElem? (i := 33) rfl))) (by decide) (backOf (W := 0) (rm3 l Z a0 hw [] v_2 p2 T_69.heap n0 Z_69 (hv_2 ▸ own_four _)) hZ (hw _ (List.mem_of_getElem? (i := 33) rfl)) (hw _ (List.mem_of_getElem? (i := 32) rfl)) (by decide) (by decide)) (g := (mkF m 162 #[.val (.int p0), .val (.int p1), .val (.int p2), .val (.int p3), .val (.int (1 : Int32)), .val (.int v_1), .val (.int v_2), .val (.int zb), .val (.int zc), .val (.int zd), .val (.ref b_61), .val (.ref b_63), .val (.ref x_69_b), .unset, .unset, .unset, .unset] [(.int p2), (.int v_2)])) rfl (by rw [hml]; rfl) (argsL := [(.int v_2), (.int p2)]) (rest := []) (lenOf pd_7 rfl) rfl (by show 2 * 0 + _ ≤ _; exact Nat.le_of_eq rfl) (hb hby at_162) (fun _ _ => ⟨rfl, rfl, (by decide : 4 + 1 ≤ _), (by decide : 9 + 3 ≤ _)⟩)
            dsimp only [Pt.U, Pt.locs, Pt.cells, Pt.slots] at X_73 l_73 y_73 z_73 st_73 hQ_73
            subst l_73 y_73 z_73
            obtain ⟨x_73_b, x_73_k, rfl, M_73, K_73c, z_73_0, c_73_0⟩ := hQ_73
            have N_73 := Fr.app N_69 M_73
            have ne_b_61_x_73_b : b_61 ≠ x_73_b := Nat.ne_of_lt (Nat.lt_of_lt_of_le f_70.lt z_73_0)
            have ne_b_63_x_73_b : b_63 ≠ x_73_b := Nat.ne_of_lt (Nat.lt_of_lt_of_le f_71.lt z_73_0)
            have ne_t_67_x_73_b : t_67 ≠ x_73_b := Nat.ne_of_lt (Nat.lt_of_lt_of_le f_72.lt z_73_0)
            have ne_x_69_b_x_73_b : x_69_b ≠ x_73_b := Nat.ne_of_lt (Nat.lt_of_lt_of_le c_69_0.lt z_73_0)
            have g_x_73_b : n0 ≤ x_73_b := Nat.le_trans Z_69 z_73_0
            have Z_73 : n0 ≤ T_73.heap.size := Nat.le_trans Z_69 K_73c.1
            refine own_st (S' := T_73.setTop (mkF m 165 #[.val (.int p0), .val (.int p1), .val (.int p2), .val (.int p3), .val (.int (1 : Int32)), .val (.int v_1), .val (.int v_2), .val (.int zb), .val (.int zc), .val (.int zd), .val (.ref b_61), .val (.ref b_63), .val (.ref x_69_b), .unset, .unset, .unset, .unset] [(.ref x_73_b)])) st_73 ?_
            refine own_st (S' := T_73.setTop (mkF m 167 #[.val (.int p0), .val (.int p1), .val (.int p2), .val (.int p3), .val (.int (1 : Int32)), .val (.int v_1), .val (.int v_2), .val (.int zb), .val (.int zc), .val (.int zd), .val (.ref b_61), .val (.ref b_63), .val (.ref x_69_b), .val (.ref x_73_b), .unset, .unset, .unset] [])) (fun t_ k_ => XS.astore X_73.here hx rfl (hb hby at_165) rfl rfl (l' := #[.val (.int p0), .val (.int p1), .val (.int p2), .val (.int p3), .val (.int (1 : Int32)), .val (.int v_1), .val (.int v_2), .val (.int zb), .val (.int zc), .val (.int zd), .val (.ref b_61), .val (.ref b_63), .val (.ref x_69_b), .val (.ref x_73_b), .unset, .unset, .unset]) rfl k_) ?_
            have f_74 : Arv Z T_73.heap b_61 k_61 .char (1 : Int32) [(.int (nar .char ((p0 &&& (255 : Int32)).toUInt32.toUInt16.toUInt32.toInt32)))] (.int (0 : Int32)) := (f_70.keep K_73c nin0)
            have f_75 : Exa Z T_73.heap b_63 "java/lang/String" := (f_71.keep K_73c)
            have f_76 : Arv Z T_73.heap t_67 kb_67 .byte (1 : Int32) ((([(nar .char ((p0 &&& (255 : Int32)).toUInt32.toUInt16.toUInt32.toInt32))] : List Int32).map (fun c => c.toInt8.toInt32)).map Value.int) (.int 0) := (f_72.keep K_73c nin0)
            have f_77 : Arv Z T_73.heap x_69_b x_69_k .byte v_1 (own_bs v_1 p1) (.int (0 : Int32)) := (c_69_0.keep K_73c nin0)
            obtain ⟨T_78, h_78, X_78, e_78, E_78, A_78, D_78, -, st_78⟩ := newO X_73 hx hZ hown (hw _ (List.mem_of_getElem? (i := 34) rfl)) (hw _ (List.mem_of_getElem? (i := 35) rfl)) (hw _ (List.mem_of_getElem? (i := 36) rfl)) rfl (g := (mkF m 167 #[.val (.int p0), .val (.int p1), .val (.int p2), .val (.int p3), .val (.int (1 : Int32)), .val (.int v_1), .val (.int v_2), .val (.int zb), .val (.int zc), .val (.int zd), .val (.ref b_61), .val (.ref b_63), .val (.ref x_69_b), .val (.ref x_73_b), .unset, .unset, .unset] [])) rfl (hb hby at_167) (by decide) (by decide)
            obtain ⟨b_78, gg_78⟩ : ∃ z, z = T_73.heap.size := ⟨_, rfl⟩
            rw [← gg_78] at A_78 D_78 st_78
            have ne_b_61_b_78 : b_61 ≠ b_78 := Nat.ne_of_lt (Nat.lt_of_lt_of_le f_74.lt (Nat.le_of_eq gg_78.symm))
            have ne_b_63_b_78 : b_63 ≠ b_78 := Nat.ne_of_lt (Nat.lt_of_lt_of_le f_75.lt (Nat.le_of_eq gg_78.symm))
            have ne_t_67_b_78 : t_67 ≠ b_78 := Nat.ne_of_lt (Nat.lt_of_lt_of_le f_76.lt (Nat.le_of_eq gg_78.symm))
            have ne_x_69_b_b_78 : x_69_b ≠ b_78 := Nat.ne_of_lt (Nat.lt_of_lt_of_le f_77.lt (Nat.le_of_eq gg_78.symm))
            have ne_x_73_b_b_78 : x_73_b ≠ b_78 := Nat.ne_of_lt (Nat.lt_of_lt_of_le c_73_0.lt (Nat.le_of_eq gg_78.symm))
            have g_b_78 : n0 ≤ b_78 := Nat.le_trans Z_73 (Nat.le_of_eq gg_78.symm)
            have Z_78 : n0 ≤ h_78.size := Nat.le_trans Z_73 E_78.1
            have F_78_table : Fld Z h_78 b_78 "com/example/westmount/westmount/RowRange" "table" "Ljava/lang/String;" .null := D_78 (Or.inr (hw _ (List.mem_of_getElem? (i := 47) rfl))) (ty := (.object "java/lang/String")) (by decide)
            have F_78_start : Fld Z h_78 b_78 "com/example/westmount/westmount/RowRange" "start" "[B" .null := D_78 (Or.inr (hw _ (List.mem_of_getElem? (i := 49) rfl))) (ty := (.array .byte)) (by decide)
            have F_78_startIncluded : Fld Z h_78 b_78 "com/example/westmount/westmount/RowRange" "startIncluded" "Z" (.int (0 : Int32)) := D_78 (Or.inr (hw _ (List.mem_of_getElem? (i := 51) rfl))) (ty := .boolean) (by decide)
            have F_78_stop : Fld Z h_78 b_78 "com/example/westmount/westmount/RowRange" "stop" "[B" .null := D_78 (Or.inr (hw _ (List.mem_of_getElem? (i := 53) rfl))) (ty := (.array .byte)) (by decide)
            have F_78_stopIncluded : Fld Z h_78 b_78 "com/example/westmount/westmount/RowRange" "stopIncluded" "Z" (.int (0 : Int32)) := D_78 (Or.inr (hw _ (List.mem_of_getElem? (i := 55) rfl))) (ty := .boolean) (by decide)
            refine own_st (S' := T_78.setTop (mkF m 170 #[.val (.int p0), .val (.int p1), .val (.int p2), .val (.int p3), .val (.int (1 : Int32)), .val (.int v_1), .val (.int v_2), .val (.int zb), .val (.int zc), .val (.int zd), .val (.ref b_61), .val (.ref b_63), .val (.ref x_69_b), .val (.ref x_73_b), .unset, .unset, .unset] [(.ref b_78)])) st_78 ?_
            refine own_st (S' := T_78.setTop (mkF m 171 #[.val (.int p0), .val (.int p1), .val (.int p2), .val (.int p3), .val (.int (1 : Int32)), .val (.int v_1), .val (.int v_2), .val (.int zb), .val (.int zc), .val (.int zd), .val (.ref b_61), .val (.ref b_63), .val (.ref x_69_b), .val (.ref x_73_b), .unset, .unset, .unset] [(.ref b_78), (.ref b_78)])) (fun t_ k_ => XS.dup X_78.here hx rfl (hb hby at_170) rfl rfl k_) ?_
            refine own_st (S' := T_78.setTop (mkF m 173 #[.val (.int p0), .val (.int p1), .val (.int p2), .val (.int p3), .val (.int (1 : Int32)), .val (.int v_1), .val (.int v_2), .val (.int zb), .val (.int zc), .val (.int zd), .val (.ref b_61), .val (.ref b_63), .val (.ref x_69_b), .val (.ref x_73_b), .unset, .unset, .unset] [(.ref b_63), (.ref b_78), (.ref b_78)])) (fun t_ k_ => XS.aload X_78.here hx rfl (hb hby at_171) rfl rfl k_) ?_
            refine own_st (S' := T_78.setTop (mkF m 175 #[.val (.int p0), .val (.int p1), .val (.int p2), .val (.int p3), .val (.int (1 : Int32)), .val (.int v_1), .val (.int v_2), .val (.int zb), .val (.int zc), .val (.int zd), .val (.ref b_61), .val (.ref b_63), .val (.ref x_69_b), .val (.ref x_73_b), .unset, .unset, .unset] [(.ref x_69_b), (.ref b_63), (.ref b_78), (.ref b_78)])) (fun t_ k_ => XS.aload X_78.here hx rfl (hb hby at_173) rfl rfl k_) ?_
            refine own_st (S' := T_78.setTop (mkF m 177 #[.val (.int p0), .val (.int p1), .val (.int p2), .val (.int p3), .val (.int (1 : Int32)), .val (.int v_1), .val (.int v_2), .val (.int zb), .val (.int zc), .val (.int zd), .val (.ref b_61), .val (.ref b_63), .val (.ref x_69_b), .val (.ref x_73_b), .unset, .unset, .unset] [(.int zb), (.ref x_69_b), (.ref b_63), (.ref b_78), (.ref b_78)])) (fun t_ k_ => XS.iload X_78.here hx rfl (hb hby at_175) rfl k_) ?_
            refine own_st (S' := T_78.setTop (mkF m 179 #[.val (.int p0), .val (.int p1), .val (.int p2), .val (.int p3), .val (.int (1 : Int32)), .val (.int v_1), .val (.int v_2), .val (.int zb), .val (.int zc), .val (.int zd), .val (.ref b_61), .val (.ref b_63), .val (.ref x_69_b), .val (.ref x_73_b), .unset, .unset, .unset] [(.ref x_73_b), (.int zb), (.ref x_69_b), (.ref b_63), (.ref b_78), (.ref b_78)])) (fun t_ k_ => XS.aload X_78.here hx rfl (hb hby at_177) rfl rfl k_) ?_
            refine own_st (S' := T_78.setTop (mkF m 181 #[.val (.int p0), .val (.int p1), .val (.int p2), .val (.int p3), .val (.int (1 : Int32)), .val (.int v_1), .val (.int v_2), .val (.int zb), .val (.int zc), .val (.int zd), .val (.ref b_61), .val (.ref b_63), .val (.ref x_69_b), .val (.ref x_73_b), .unset, .unset, .unset] [(.int zc), (.ref x_73_b), (.int zb), (.ref x_69_b), (.ref b_63), (.ref b_78), (.ref b_78)])) (fun t_ k_ => XS.iload X_78.here hx rfl (hb hby at_179) rfl k_) ?_
            obtain ⟨_, _, ⟨T_79, L_79, k_79, n_79⟩, -, X_79, ⟨Lc_79, hQ_79, l_79, y_79, z_79⟩, st_79⟩ := X_78.specialBack hx (y := (⟨"com/example/westmount/westmount/RowRange", "<init>", "(Ljava/lang/String;[BZ[BZ)V"⟩ : MethodName)) rfl hown (mvT hZ (hw _ (List.mem_of_getElem? (i := 37) rfl))) (mvT hZ (hw _ (List.mem_of_getElem? (i := 38) rfl))) (mvT hZ (hw _ (List.mem_of_getElem? (i := 39) rfl))) (by decide) (backOf (W := 1) (rm6 l Z a0 hw [] b_78 b_63 x_69_b zb x_73_b zc h_78 n0 Z_78 A_78 F_78_table F_78_start F_78_startIncluded F_78_stop F_78_stopIncluded g_b_78) hZ (hw _ (List.mem_of_getElem? (i := 39) rfl)) (hw _ (List.mem_of_getElem? (i := 36) rfl)) (by decide) (by decide)) (g := (mkF m 181 #[.val (.int p0), .val (.int p1), .val (.int p2), .val (.int p3), .val (.int (1 : Int32)), .val (.int v_1), .val (.int v_2), .val (.int zb), .val (.int zc), .val (.int zd), .val (.ref b_61), .val (.ref b_63), .val (.ref x_69_b), .val (.ref x_73_b), .unset, .unset, .unset] [(.int zc), (.ref x_73_b), (.int zb), (.ref x_69_b), (.ref b_63), (.ref b_78), (.ref b_78)])) rfl (by rw [hml]; rfl) (Steps.refl _) (a := b_78) (argsL := [(.ref b_63), (.ref x_69_b), (.int zb), (.ref x_73_b), (.int zc)]) (rest := [(.ref b_78)]) (lenOf pd_8 rfl) rfl (by show 2 * 0 + _ ≤ _; exact Nat.le_of_eq rfl) (hb hby at_181) (fun _ _ => ⟨rfl, e_78, (by decide : 6 + 0 ≤ _), (by decide : 17 + 0 ≤ _)⟩)
            dsimp only [Pt.U, Pt.locs, Pt.cells, Pt.slots] at X_79 l_79 y_79 z_79 st_79 hQ_79
            subst l_79 y_79 z_79
            obtain ⟨rfl, M_79, K_79c, c_79_0, c_79_1, c_79_2, c_79_3⟩ := hQ_79
            have N_79 := Fr.app N_73 M_79
            have Z_79 : n0 ≤ T_79.heap.size := Nat.le_trans Z_78 K_79c.1
            refine own_st (S' := T_79.setTop (mkF m 184 #[.val (.int p0), .val (.int p1), .val (.int p2), .val (.int p3), .val (.int (1 : Int32)), .val (.int v_1), .val (.int v_2), .val (.int zb), .val (.int zc), .val (.int zd), .val (.ref b_61), .val (.ref b_63), .val (.ref x_69_b), .val (.ref x_73_b), .unset, .unset, .unset] [(.ref b_78)])) (fun t_ k_ => st_79.trans k_) ?_
            refine own_st (S' := T_79.setTop (mkF m 186 #[.val (.int p0), .val (.int p1), .val (.int p2), .val (.int p3), .val (.int (1 : Int32)), .val (.int v_1), .val (.int v_2), .val (.int zb), .val (.int zc), .val (.int zd), .val (.ref b_61), .val (.ref b_63), .val (.ref x_69_b), .val (.ref x_73_b), .val (.ref b_78), .unset, .unset] [])) (fun t_ k_ => XS.astore X_79.here hx rfl (hb hby at_184) rfl rfl (l' := #[.val (.int p0), .val (.int p1), .val (.int p2), .val (.int p3), .val (.int (1 : Int32)), .val (.int v_1), .val (.int v_2), .val (.int zb), .val (.int zc), .val (.int zd), .val (.ref b_61), .val (.ref b_63), .val (.ref x_69_b), .val (.ref x_73_b), .val (.ref b_78), .unset, .unset]) rfl k_) ?_
            refine own_st (S' := T_79.setTop (mkF m 188 #[.val (.int p0), .val (.int p1), .val (.int p2), .val (.int p3), .val (.int (1 : Int32)), .val (.int v_1), .val (.int v_2), .val (.int zb), .val (.int zc), .val (.int zd), .val (.ref b_61), .val (.ref b_63), .val (.ref x_69_b), .val (.ref x_73_b), .val (.ref b_78), .unset, .unset] [(.ref b_78)])) (fun t_ k_ => XS.aload X_79.here hx rfl (hb hby at_186) rfl rfl k_) ?_
            have f_80 : Arv Z T_79.heap b_61 k_61 .char (1 : Int32) [(.int (nar .char ((p0 &&& (255 : Int32)).toUInt32.toUInt16.toUInt32.toInt32)))] (.int (0 : Int32)) := ((f_74.ext E_78).keep K_79c (ninS ne_b_61_b_78 nin0))
            have f_81 : Exa Z T_79.heap b_63 "java/lang/String" := ((Exa.ext E_78 f_75).keep K_79c)
            have f_82 : Arv Z T_79.heap t_67 kb_67 .byte (1 : Int32) ((([(nar .char ((p0 &&& (255 : Int32)).toUInt32.toUInt16.toUInt32.toInt32))] : List Int32).map (fun c => c.toInt8.toInt32)).map Value.int) (.int 0) := ((f_76.ext E_78).keep K_79c (ninS ne_t_67_b_78 nin0))
            have f_83 : Arv Z T_79.heap x_69_b x_69_k .byte v_1 (own_bs v_1 p1) (.int (0 : Int32)) := ((f_77.ext E_78).keep K_79c (ninS ne_x_69_b_b_78 nin0))
            have f_84 : Arv Z T_79.heap x_73_b x_73_k .byte v_2 (own_bs v_2 p2) (.int (0 : Int32)) := ((c_73_0.ext E_78).keep K_79c (ninS ne_x_73_b_b_78 nin0))
            obtain ⟨cq_85, kq_85, q_85a, q_85b, q_85c⟩ := isOf hZ rfl c_79_0
            obtain ⟨_, _, ⟨T_85, L_85, k_85, n_85⟩, -, X_85, ⟨Lc_85, hQ_85, l_85, y_85, z_85⟩, st_85⟩ := X_79.virtualBack hx (y := (⟨"com/example/westmount/westmount/RowRange", "first", "()Lcom/example/westmount/westmount/RowKey;"⟩ : MethodName)) (z := (⟨"com/example/westmount/westmount/RowRange", "first", "()Lcom/example/westmount/westmount/RowKey;"⟩ : MethodName)) hown (mvT hZ (hw _ (List.mem_of_getElem? (i := 56) rfl))) (mvT hZ (hw _ (List.mem_of_getElem? (i := 57) rfl))) (notFace_of_selects (args := #[]) (mvT hZ (hw _ (List.mem_of_getElem? (i := 59) rfl)))) (mvT hZ (hw _ (List.mem_of_getElem? (i := 59) rfl))) (mvT hZ (hw _ (List.mem_of_getElem? (i := 58) rfl))) (by decide) (backOf (W := 0) (rm8 l Z a0 hw [] b_78 b_63 x_69_b T_79.heap n0 Z_79 c_79_1 c_79_2) hZ (hw _ (List.mem_of_getElem? (i := 60) rfl)) (hw _ (List.mem_of_getElem? (i := 36) rfl)) (by decide) (by decide)) q_85a q_85c (g := (mkF m 188 #[.val (.int p0), .val (.int p1), .val (.int p2), .val (.int p3), .val (.int (1 : Int32)), .val (.int v_1), .val (.int v_2), .val (.int zb), .val (.int zc), .val (.int zd), .val (.ref b_61), .val (.ref b_63), .val (.ref x_69_b), .val (.ref x_73_b), .val (.ref b_78), .unset, .unset] [(.ref b_78)])) rfl (by rw [hml]; rfl) (Steps.refl _) (argsL := []) (rest := []) (lenOf pd_9 rfl) rfl (by show 2 * 0 + _ ≤ _; exact Nat.le_of_eq rfl) (hb hby at_188) (fun _ _ => ⟨rfl, rfl, (by decide : 6 + 1 ≤ _), (by decide : 17 + 2 ≤ _)⟩)
            dsimp only [Pt.U, Pt.locs, Pt.cells, Pt.slots] at X_85 l_85 y_85 z_85 st_85 hQ_85
            subst l_85 y_85 z_85
            obtain ⟨x_85_q, rfl, M_85, K_85c, z_85_0, c_85_0, c_85_1, c_85_2⟩ := hQ_85
            have N_85 := Fr.app N_79 M_85
            have ne_b_61_x_85_q : b_61 ≠ x_85_q := Nat.ne_of_lt (Nat.lt_of_lt_of_le f_80.lt z_85_0)
            have ne_b_63_x_85_q : b_63 ≠ x_85_q := Nat.ne_of_lt (Nat.lt_of_lt_of_le f_81.lt z_85_0)
            have ne_b_78_x_85_q : b_78 ≠ x_85_q := Nat.ne_of_lt (Nat.lt_of_lt_of_le c_79_0.lt z_85_0)
            have ne_t_67_x_85_q : t_67 ≠ x_85_q := Nat.ne_of_lt (Nat.lt_of_lt_of_le f_82.lt z_85_0)
            have ne_x_69_b_x_85_q : x_69_b ≠ x_85_q := Nat.ne_of_lt (Nat.lt_of_lt_of_le f_83.lt z_85_0)
            have ne_x_73_b_x_85_q : x_73_b ≠ x_85_q := Nat.ne_of_lt (Nat.lt_of_lt_of_le f_84.lt z_85_0)
            have g_x_85_q : n0 ≤ x_85_q := Nat.le_trans Z_79 z_85_0
            have Z_85 : n0 ≤ T_85.heap.size := Nat.le_trans Z_79 K_85c.1
            refine own_st (S' := T_85.setTop (mkF m 191 #[.val (.int p0), .val (.int p1), .val (.int p2), .val (.int p3), .val (.int (1 : Int32)), .val (.int v_1), .val (.int v_2), .val (.int zb), .val (.int zc), .val (.int zd), .val (.ref b_61), .val (.ref b_63), .val (.ref x_69_b), .val (.ref x_73_b), .val (.ref b_78), .unset, .unset] [(.ref x_85_q)])) (fun t_ k_ => st_85.trans k_) ?_
            refine own_st (S' := T_85.setTop (mkF m 193 #[.val (.int p0), .val (.int p1), .val (.int p2), .val (.int p3), .val (.int (1 : Int32)), .val (.int v_1), .val (.int v_2), .val (.int zb), .val (.int zc), .val (.int zd), .val (.ref b_61), .val (.ref b_63), .val (.ref x_69_b), .val (.ref x_73_b), .val (.ref b_78), .val (.ref x_85_q), .unset] [])) (fun t_ k_ => XS.astore X_85.here hx rfl (hb hby at_191) rfl rfl (l' := #[.val (.int p0), .val (.int p1), .val (.int p2), .val (.int p3), .val (.int (1 : Int32)), .val (.int v_1), .val (.int v_2), .val (.int zb), .val (.int zc), .val (.int zd), .val (.ref b_61), .val (.ref b_63), .val (.ref x_69_b), .val (.ref x_73_b), .val (.ref b_78), .val (.ref x_85_q), .unset]) rfl k_) ?_
            refine own_st (S' := T_85.setTop (mkF m 195 #[.val (.int p0), .val (.int p1), .val (.int p2), .val (.int p3), .val (.int (1 : Int32)), .val (.int v_1), .val (.int v_2), .val (.int zb), .val (.int zc), .val (.int zd), .val (.ref b_61), .val (.ref b_63), .val (.ref x_69_b), .val (.ref x_73_b), .val (.ref b_78), .val (.ref x_85_q), .unset] [(.ref x_85_q)])) (fun t_ k_ => XS.aload X_85.here hx rfl (hb hby at_193) rfl rfl k_) ?_
            obtain ⟨cq_86, kq_86, q_86a, q_86b, q_86c⟩ := isOf hZ rfl c_85_0
            obtain ⟨_, _, ⟨T_86, L_86, k_86, n_86⟩, -, X_86, ⟨Lc_86, hQ_86, l_86, y_86, z_86⟩, st_86⟩ := X_85.virtualBack hx (y := (⟨"com/example/westmount/westmount/RowKey", "table", "()Ljava/lang/String;"⟩ : MethodName)) (z := (⟨"com/example/westmount/westmount/RowKey", "table", "()Ljava/lang/String;"⟩ : MethodName)) hown (mvT hZ (hw _ (List.mem_of_getElem? (i := 72) rfl))) (mvT hZ (hw _ (List.mem_of_getElem? (i := 73) rfl))) (notFace_of_selects (args := #[]) (mvT hZ (hw _ (List.mem_of_getElem? (i := 75) rfl)))) (mvT hZ (hw _ (List.mem_of_getElem? (i := 75) rfl))) (mvT hZ (hw _ (List.mem_of_getElem? (i := 74) rfl))) (by decide) (backOf (W := 0) (rm10 l Z a0 hw [] x_85_q b_63 T_85.heap n0 Z_85 c_85_1) hZ (hw _ (List.mem_of_getElem? (i := 76) rfl)) (hw _ (List.mem_of_getElem? (i := 63) rfl)) (by decide) (by decide)) q_86a q_86c (g := (mkF m 195 #[.val (.int p0), .val (.int p1), .val (.int p2), .val (.int p3), .val (.int (1 : Int32)), .val (.int v_1), .val (.int v_2), .val (.int zb), .val (.int zc), .val (.int zd), .val (.ref b_61), .val (.ref b_63), .val (.ref x_69_b), .val (.ref x_73_b), .val (.ref b_78), .val (.ref x_85_q), .unset] [(.ref x_85_q)])) rfl (by rw [hml]; rfl) (Steps.refl _) (argsL := []) (rest := []) (lenOf pd_10 rfl) rfl (by show 2 * 0 + _ ≤ _; exact Nat.le_of_eq rfl) (hb hby at_195) (fun _ _ => ⟨rfl, rfl, (by decide : 7 + 0 ≤ _), (by decide : 19 + 0 ≤ _)⟩)
            dsimp only [Pt.U, Pt.locs, Pt.cells, Pt.slots] at X_86 l_86 y_86 z_86 st_86 hQ_86
            subst l_86 y_86 z_86
            obtain ⟨rfl, M_86, q_86⟩ := hQ_86
            have N_86 := Fr.app N_85 M_86
            refine own_st (S' := T_86.setTop (mkF m 198 #[.val (.int p0), .val (.int p1), .val (.int p2), .val (.int p3), .val (.int (1 : Int32)), .val (.int v_1), .val (.int v_2), .val (.int zb), .val (.int zc), .val (.int zd), .val (.ref b_61), .val (.ref b_63), .val (.ref x_69_b), .val (.ref x_73_b), .val (.ref b_78), .val (.ref x_85_q), .unset] [(.ref b_63)])) (fun t_ k_ => st_86.trans k_) ?_
            refine own_st (S' := T_86.setTop (mkF m 200 #[.val (.int p0), .val (.int p1), .val (.int p2), .val (.int p3), .val (.int (1 : Int32)), .val (.int v_1), .val (.int v_2), .val (.int zb), .val (.int zc), .val (.int zd), .val (.ref b_61), .val (.ref b_63), .val (.ref x_69_b), .val (.ref x_73_b), .val (.ref b_78), .val (.ref x_85_q), .unset] [(.ref b_63), (.ref b_63)])) (fun t_ k_ => XS.aload X_86.here hx rfl (hb hby at_198) rfl rfl k_) ?_
            have f_88 : Exa Z T_85.heap b_63 "java/lang/String" := (f_81.keep K_85c)
            obtain ⟨cq_87, kq_87, q_87a, q_87b, q_87c⟩ := isOf hZ q_86 f_88
            obtain ⟨_, _, ⟨T_87, L_87, k_87, n_87⟩, -, X_87, ⟨Lc_87, hQ_87, l_87, y_87, z_87⟩, st_87⟩ := X_86.virtualBack hx (y := (⟨"java/lang/String", "equals", "(Ljava/lang/Object;)Z"⟩ : MethodName)) (z := (⟨"java/lang/String", "equals", "(Ljava/lang/Object;)Z"⟩ : MethodName)) hown (mvT hZ (hw _ (List.mem_of_getElem? (i := 77) rfl))) (mvT hZ (hw _ (List.mem_of_getElem? (i := 78) rfl))) (notFace_of_selects (args := #[]) (mvT hZ (hw _ (List.mem_of_getElem? (i := 80) rfl)))) (mvT hZ (hw _ (List.mem_of_getElem? (i := 80) rfl))) (mvT hZ (hw _ (List.mem_of_getElem? (i := 79) rfl))) (by decide) (backOf (W := 0) (rm12 l Z a0 hw [] b_63 b_63 T_85.heap n0 Z_85 rfl) hZ (hw _ (List.mem_of_getElem? (i := 81) rfl)) (hw _ (List.mem_of_getElem? (i := 3) rfl)) (by decide) (by decide)) q_87a q_87c (g := (mkF m 200 #[.val (.int p0), .val (.int p1), .val (.int p2), .val (.int p3), .val (.int (1 : Int32)), .val (.int v_1), .val (.int v_2), .val (.int zb), .val (.int zc), .val (.int zd), .val (.ref b_61), .val (.ref b_63), .val (.ref x_69_b), .val (.ref x_73_b), .val (.ref b_78), .val (.ref x_85_q), .unset] [(.ref b_63), (.ref b_63)])) rfl (by rw [hml]; rfl) (Steps.refl _) (argsL := [(.ref b_63)]) (rest := []) (lenOf pd_4 rfl) rfl (by show 2 * 0 + _ ≤ _; exact Nat.le_of_eq rfl) (hb hby at_200) (fun _ _ => ⟨rfl, q_86, (by decide : 7 + 0 ≤ _), (by decide : 19 + 0 ≤ _)⟩)
            dsimp only [Pt.U, Pt.locs, Pt.cells, Pt.slots] at X_87 l_87 y_87 z_87 st_87 hQ_87
            subst l_87 y_87 z_87
            obtain ⟨rfl, M_87, q_87⟩ := hQ_87
            have N_87 := Fr.app N_86 M_87
            refine own_st (S' := T_87.setTop (mkF m 203 #[.val (.int p0), .val (.int p1), .val (.int p2), .val (.int p3), .val (.int (1 : Int32)), .val (.int v_1), .val (.int v_2), .val (.int zb), .val (.int zc), .val (.int zd), .val (.ref b_61), .val (.ref b_63), .val (.ref x_69_b), .val (.ref x_73_b), .val (.ref b_78), .val (.ref x_85_q), .unset] [(.int (1 : Int32))])) (fun t_ k_ => st_87.trans k_) ?_
            refine own_st (S' := T_87.setTop (mkF m 206 #[.val (.int p0), .val (.int p1), .val (.int p2), .val (.int p3), .val (.int (1 : Int32)), .val (.int v_1), .val (.int v_2), .val (.int zb), .val (.int zc), .val (.int zd), .val (.ref b_61), .val (.ref b_63), .val (.ref x_69_b), .val (.ref x_73_b), .val (.ref b_78), .val (.ref x_85_q), .unset] [])) (fun t_ k_ => XS.ifNo X_87.here hx rfl (hb hby at_203) rfl ((if0 _ _).trans (feq (by decide : ¬ ((1 : Int32) = (0 : Int32)))).1) k_) ?_
            refine own_st (S' := T_87.setTop (mkF m 208 #[.val (.int p0), .val (.int p1), .val (.int p2), .val (.int p3), .val (.int (1 : Int32)), .val (.int v_1), .val (.int v_2), .val (.int zb), .val (.int zc), .val (.int zd), .val (.ref b_61), .val (.ref b_63), .val (.ref x_69_b), .val (.ref x_73_b), .val (.ref b_78), .val (.ref x_85_q), .unset] [(.ref x_85_q)])) (fun t_ k_ => XS.aload X_87.here hx rfl (hb hby at_206) rfl rfl k_) ?_
            obtain ⟨cq_89, kq_89, q_89a, q_89b, q_89c⟩ := isOf hZ q_87 c_85_0
            obtain ⟨_, _, ⟨T_89, L_89, k_89, n_89⟩, -, X_89, ⟨Lc_89, hQ_89, l_89, y_89, z_89⟩, st_89⟩ := X_87.virtualBack hx (y := (⟨"com/example/westmount/westmount/RowKey", "row", "()[B"⟩ : MethodName)) (z := (⟨"com/example/westmount/westmount/RowKey", "row", "()[B"⟩ : MethodName)) hown (mvT hZ (hw _ (List.mem_of_getElem? (i := 82) rfl))) (mvT hZ (hw _ (List.mem_of_getElem? (i := 83) rfl))) (notFace_of_selects (args := #[]) (mvT hZ (hw _ (List.mem_of_getElem? (i := 85) rfl)))) (mvT hZ (hw _ (List.mem_of_getElem? (i := 85) rfl))) (mvT hZ (hw _ (List.mem_of_getElem? (i := 84) rfl))) (by decide) (backOf (W := 0) (rm11 l Z a0 hw [] x_85_q x_69_b T_85.heap n0 Z_85 c_85_2) hZ (hw _ (List.mem_of_getElem? (i := 86) rfl)) (hw _ (List.mem_of_getElem? (i := 63) rfl)) (by decide) (by decide)) q_89a q_89c (g := (mkF m 208 #[.val (.int p0), .val (.int p1), .val (.int p2), .val (.int p3), .val (.int (1 : Int32)), .val (.int v_1), .val (.int v_2), .val (.int zb), .val (.int zc), .val (.int zd), .val (.ref b_61), .val (.ref b_63), .val (.ref x_69_b), .val (.ref x_73_b), .val (.ref b_78), .val (.ref x_85_q), .unset] [(.ref x_85_q)])) rfl (by rw [hml]; rfl) (Steps.refl _) (argsL := []) (rest := []) (lenOf pd_11 rfl) rfl (by show 2 * 0 + _ ≤ _; exact Nat.le_of_eq rfl) (hb hby at_208) (fun _ _ => ⟨rfl, q_87, (by decide : 7 + 0 ≤ _), (by decide : 19 + 0 ≤ _)⟩)
            dsimp only [Pt.U, Pt.locs, Pt.cells, Pt.slots] at X_89 l_89 y_89 z_89 st_89 hQ_89
            subst l_89 y_89 z_89
            obtain ⟨rfl, M_89, q_89⟩ := hQ_89
            have N_89 := Fr.app N_87 M_89
            refine own_st (S' := T_89.setTop (mkF m 211 #[.val (.int p0), .val (.int p1), .val (.int p2), .val (.int p3), .val (.int (1 : Int32)), .val (.int v_1), .val (.int v_2), .val (.int zb), .val (.int zc), .val (.int zd), .val (.ref b_61), .val (.ref b_63), .val (.ref x_69_b), .val (.ref x_73_b), .val (.ref b_78), .val (.ref x_85_q), .unset] [(.ref x_69_b)])) (fun t_ k_ => st_89.trans k_) ?_
            refine own_st (S' := T_89.setTop (mkF m 213 #[.val (.int p0), .val (.int p1), .val (.int p2), .val (.int p3), .val (.int (1 : Int32)), .val (.int v_1), .val (.int v_2), .val (.int zb), .val (.int zc), .val (.int zd), .val (.ref b_61), .val (.ref b_63), .val (.ref x_69_b), .val (.ref x_73_b), .val (.ref b_78), .val (.ref x_85_q), .unset] [(.int v_1), (.ref x_69_b)])) (fun t_ k_ => XS.iload X_89.here hx rfl (hb hby at_211) rfl k_) ?_
            refine own_st (S' := T_89.setTop (mkF m 214 #[.val (.int p0), .val (.int p1), .val (.int p2), .val (.int p3), .val (.int (1 : Int32)), .val (.int v_1), .val (.int v_2), .val (.int zb), .val (.int zc), .val (.int zd), .val (.ref b_61), .val (.ref b_63), .val (.ref x_69_b), .val (.ref x_73_b), .val (.ref b_78), .val (.ref x_85_q), .unset] [(.int p1), (.int v_1), (.ref x_69_b)])) (fun t_ k_ => XS.iloadN X_89.here hx rfl (hb hby at_213) rfl k_) ?_
            have f_90 : Arv Z T_85.heap x_69_b x_69_k .byte v_1 (own_bs v_1 p1) (.int (0 : Int32)) := (f_83.keep K_85c nin0)
            obtain ⟨_, _, ⟨T_91, L_91, k_91, n_91⟩, -, X_91, ⟨Lc_91, hQ_91, l_91, y_91, z_91⟩, st_91⟩ := Jvm.LawKit.callS X_89 hx (y := (⟨"com/example/westmount/westmount/RowRangeFirstPinLaw", "sameBytes", "([BII)Z"⟩ : MethodName)) hown (mvT hZ (hw _ (List.mem_of_getElem? (i := 87) rfl))) (mvT hZ (hw _ (List.mem_of_getElem? (i := 88) rfl))) (mvT hZ (hw _ (List.mem_of_getElem? (i := 32) rfl))) (mvT hZ (hw _ (List.mem_of_getElem? (i := 89) rfl))) (by decide) (backOf (W := 0) (rm4 l Z a0 hw [] x_69_b v_1 p1 x_69_k T_85.heap n0 Z_85 f_90 (hv_1 ▸ own_four _)) hZ (hw _ (List.mem_of_getElem? (i := 89) rfl)) (hw _ (List.mem_of_getElem? (i := 32) rfl)) (by decide) (by decide)) (g := (mkF m 214 #[.val (.int p0), .val (.int p1), .val (.int p2), .val (.int p3), .val (.int (1 : Int32)), .val (.int v_1), .val (.int v_2), .val (.int zb), .val (.int zc), .val (.int zd), .val (.ref b_61), .val (.ref b_63), .val (.ref x_69_b), .val (.ref x_73_b), .val (.ref b_78), .val (.ref x_85_q), .unset] [(.int p1), (.int v_1), (.ref x_69_b)])) rfl (by rw [hml]; rfl) (argsL := [(.ref x_69_b), (.int v_1), (.int p1)]) (rest := []) (lenOf pd_12 rfl) rfl (by show 2 * 0 + _ ≤ _; exact Nat.le_of_eq rfl) (hb hby at_214) (fun _ _ => ⟨rfl, q_89, (by decide : 7 + 0 ≤ _), (by decide : 19 + 0 ≤ _)⟩)
            dsimp only [Pt.U, Pt.locs, Pt.cells, Pt.slots] at X_91 l_91 y_91 z_91 st_91 hQ_91
            subst l_91 y_91 z_91
            obtain ⟨rfl, M_91, q_91⟩ := hQ_91
            have N_91 := Fr.app N_89 M_91
            refine own_st (S' := T_91.setTop (mkF m 217 #[.val (.int p0), .val (.int p1), .val (.int p2), .val (.int p3), .val (.int (1 : Int32)), .val (.int v_1), .val (.int v_2), .val (.int zb), .val (.int zc), .val (.int zd), .val (.ref b_61), .val (.ref b_63), .val (.ref x_69_b), .val (.ref x_73_b), .val (.ref b_78), .val (.ref x_85_q), .unset] [(.int (1 : Int32))])) st_91 ?_
            refine own_st (S' := T_91.setTop (mkF m 220 #[.val (.int p0), .val (.int p1), .val (.int p2), .val (.int p3), .val (.int (1 : Int32)), .val (.int v_1), .val (.int v_2), .val (.int zb), .val (.int zc), .val (.int zd), .val (.ref b_61), .val (.ref b_63), .val (.ref x_69_b), .val (.ref x_73_b), .val (.ref b_78), .val (.ref x_85_q), .unset] [])) (fun t_ k_ => XS.ifNo X_91.here hx rfl (hb hby at_217) rfl ((if0 _ _).trans (feq (by decide : ¬ ((1 : Int32) = (0 : Int32)))).1) k_) ?_
            refine own_st (S' := T_91.setTop (mkF m 221 #[.val (.int p0), .val (.int p1), .val (.int p2), .val (.int p3), .val (.int (1 : Int32)), .val (.int v_1), .val (.int v_2), .val (.int zb), .val (.int zc), .val (.int zd), .val (.ref b_61), .val (.ref b_63), .val (.ref x_69_b), .val (.ref x_73_b), .val (.ref b_78), .val (.ref x_85_q), .unset] [(.int (1 : Int32))])) (fun t_ k_ => XS.iconst X_91.here hx rfl (hb hby at_220) k_) ?_
            refine own_st (S' := T_91.setTop (mkF m 225 #[.val (.int p0), .val (.int p1), .val (.int p2), .val (.int p3), .val (.int (1 : Int32)), .val (.int v_1), .val (.int v_2), .val (.int zb), .val (.int zc), .val (.int zd), .val (.ref b_61), .val (.ref b_63), .val (.ref x_69_b), .val (.ref x_73_b), .val (.ref b_78), .val (.ref x_85_q), .unset] [(.int (1 : Int32))])) (fun t_ k_ => XS.goto X_91.here hx rfl (pc0 := 221) (pc' := 225) rfl (hb hby at_221) (by decide) (by decide) k_) ?_
            refine own_st (S' := T_91.setTop (mkF m 227 #[.val (.int p0), .val (.int p1), .val (.int p2), .val (.int p3), .val (.int (1 : Int32)), .val (.int v_1), .val (.int v_2), .val (.int zb), .val (.int zc), .val (.int zd), .val (.ref b_61), .val (.ref b_63), .val (.ref x_69_b), .val (.ref x_73_b), .val (.ref b_78), .val (.ref x_85_q), .val (.int (1 : Int32))] [])) (fun t_ k_ => XS.istore X_91.here hx rfl (hb hby at_225) rfl (l' := #[.val (.int p0), .val (.int p1), .val (.int p2), .val (.int p3), .val (.int (1 : Int32)), .val (.int v_1), .val (.int v_2), .val (.int zb), .val (.int zc), .val (.int zd), .val (.ref b_61), .val (.ref b_63), .val (.ref x_69_b), .val (.ref x_73_b), .val (.ref b_78), .val (.ref x_85_q), .val (.int (1 : Int32))]) rfl k_) ?_
            refine own_st (S' := T_91.setTop (mkF m 229 #[.val (.int p0), .val (.int p1), .val (.int p2), .val (.int p3), .val (.int (1 : Int32)), .val (.int v_1), .val (.int v_2), .val (.int zb), .val (.int zc), .val (.int zd), .val (.ref b_61), .val (.ref b_63), .val (.ref x_69_b), .val (.ref x_73_b), .val (.ref b_78), .val (.ref x_85_q), .val (.int (1 : Int32))] [(.int (1 : Int32))])) (fun t_ k_ => XS.iload X_91.here hx rfl (hb hby at_227) rfl k_) ?_
            refine own_st (S' := T_91.setTop (mkF m 232 #[.val (.int p0), .val (.int p1), .val (.int p2), .val (.int p3), .val (.int (1 : Int32)), .val (.int v_1), .val (.int v_2), .val (.int zb), .val (.int zc), .val (.int zd), .val (.ref b_61), .val (.ref b_63), .val (.ref x_69_b), .val (.ref x_73_b), .val (.ref b_78), .val (.ref x_85_q), .val (.int (1 : Int32))] [])) (fun t_ k_ => XS.ifNo X_91.here hx rfl (hb hby at_229) rfl ((if0 _ _).trans (feq (by decide : ¬ ((1 : Int32) = (0 : Int32)))).1) k_) ?_
            refine own_st (S' := T_91.setTop (mkF m 234 #[.val (.int p0), .val (.int p1), .val (.int p2), .val (.int p3), .val (.int (1 : Int32)), .val (.int v_1), .val (.int v_2), .val (.int zb), .val (.int zc), .val (.int zd), .val (.ref b_61), .val (.ref b_63), .val (.ref x_69_b), .val (.ref x_73_b), .val (.ref b_78), .val (.ref x_85_q), .val (.int (1 : Int32))] [(.int zd)])) (fun t_ k_ => XS.iload X_91.here hx rfl (hb hby at_232) rfl k_) ?_
            refine own_st (S' := T_91.setTop (mkF m 254 #[.val (.int p0), .val (.int p1), .val (.int p2), .val (.int p3), .val (.int (1 : Int32)), .val (.int v_1), .val (.int v_2), .val (.int zb), .val (.int zc), .val (.int zd), .val (.ref b_61), .val (.ref b_63), .val (.ref x_69_b), .val (.ref x_73_b), .val (.ref b_78), .val (.ref x_85_q), .val (.int (1 : Int32))] [])) (fun t_ k_ => XS.ifYes X_91.here hx rfl (pc0 := 234) (pc' := 254) rfl (hb hby at_234) rfl ((if0 _ _).trans (teq hc147).1) (by decide) (by decide) k_) ?_
            refine own_st (S' := T_91.setTop (mkF m 256 #[.val (.int p0), .val (.int p1), .val (.int p2), .val (.int p3), .val (.int (1 : Int32)), .val (.int v_1), .val (.int v_2), .val (.int zb), .val (.int zc), .val (.int zd), .val (.ref b_61), .val (.ref b_63), .val (.ref x_69_b), .val (.ref x_73_b), .val (.ref b_78), .val (.ref x_85_q), .val (.int (1 : Int32))] [(.int (1 : Int32))])) (fun t_ k_ => XS.iload X_91.here hx rfl (hb hby at_254) rfl k_) ?_
            obtain ⟨fs, hr, hrun, hended, hRW⟩ := Stand.leaveW (s := s) (vm₁ := s.vm) X_91 (n := 0) (State.WarmedH.since (State.WarmedH.refl s) 0) (by rw [q_91]; exact (Nat.zero_le _)) (v := some (.int (1 : Int32))) (fun h => by rw [Bd.returns] at h; cases h)
            refine ⟨_, _, retN X_91 hx (t := .boolean) Bd.returns (by simp) (hb hby at_256) hr, hrun, hended, _, _, rfl, ?_, ⟨_, rfl⟩, hRW.2.1, hRW.2.2.1, hRW.2.2.2.mono (by decide) (by decide)⟩
            show Q0 Z p0 p1 p2 p3 cz h0 n0 _ T_91.heap _
            rw [q_91]
            exact ⟨rfl, N_91⟩
          · refine own_st (S' := T_69.setTop (mkF m 150 #[.val (.int p0), .val (.int p1), .val (.int p2), .val (.int p3), .val (.int (1 : Int32)), .val (.int v_1), .val (.int v_2), .val (.int zb), .val (.int zc), .val (.int zd), .val (.ref b_61), .val (.ref b_63), .val (.ref x_69_b), .unset, .unset, .unset, .unset] [])) (fun t_ k_ => XS.ifNo X_69.here hx rfl (hb hby at_147) rfl ((if0 _ _).trans (feq hc147).1) k_) ?_
            refine own_st (S' := T_69.setTop (mkF m 152 #[.val (.int p0), .val (.int p1), .val (.int p2), .val (.int p3), .val (.int (1 : Int32)), .val (.int v_1), .val (.int v_2), .val (.int zb), .val (.int zc), .val (.int zd), .val (.ref b_61), .val (.ref b_63), .val (.ref x_69_b), .unset, .unset, .unset, .unset] [(.int v_1)])) (fun t_ k_ => XS.iload X_69.here hx rfl (hb hby at_150) rfl k_) ?_
            refine own_st (S' := T_69.setTop (mkF m 153 #[.val (.int p0), .val (.int p1), .val (.int p2), .val (.int p3), .val (.int (1 : Int32)), .val (.int v_1), .val (.int v_2), .val (.int zb), .val (.int zc), .val (.int zd), .val (.ref b_61), .val (.ref b_63), .val (.ref x_69_b), .unset, .unset, .unset, .unset] [(.int p1), (.int v_1)])) (fun t_ k_ => XS.iloadN X_69.here hx rfl (hb hby at_152) rfl k_) ?_
            have f_92 : Arv Z T_69.heap b_61 k_61 .char (1 : Int32) [(.int (nar .char ((p0 &&& (255 : Int32)).toUInt32.toUInt16.toUInt32.toInt32)))] (.int (0 : Int32)) := (f_68.keep K_69c nin0)
            have f_93 : Exa Z T_69.heap b_63 "java/lang/String" := (A_67.keep K_69c)
            have f_94 : Arv Z T_69.heap t_67 kb_67 .byte (1 : Int32) ((([(nar .char ((p0 &&& (255 : Int32)).toUInt32.toUInt16.toUInt32.toInt32))] : List Int32).map (fun c => c.toInt8.toInt32)).map Value.int) (.int 0) := (V_67.keep K_69c nin0)
            obtain ⟨_, _, ⟨T_95, L_95, k_95, n_95⟩, -, X_95, ⟨Lc_95, hQ_95, l_95, y_95, z_95⟩, st_95⟩ := Jvm.LawKit.callS X_69 hx (y := (⟨"com/example/westmount/westmount/RowRangeFirstPinLaw", "bytes", "(II)[B"⟩ : MethodName)) hown (mvT hZ (hw _ (List.mem_of_getElem? (i := 30) rfl))) (mvT hZ (hw _ (List.mem_of_getElem? (i := 31) rfl))) (mvT hZ (hw _ (List.mem_of_getElem? (i := 32) rfl))) (mvT hZ (hw _ (List.mem_of_getElem? (i := 33) rfl))) (by decide) (backOf (W := 0) (rm3 l Z a0 hw [] v_1 p1 T_69.heap n0 Z_69 (hv_1 ▸ own_four _)) hZ (hw _ (List.mem_of_getElem? (i := 33) rfl)) (hw _ (List.mem_of_getElem? (i := 32) rfl)) (by decide) (by decide)) (g := (mkF m 153 #[.val (.int p0), .val (.int p1), .val (.int p2), .val (.int p3), .val (.int (1 : Int32)), .val (.int v_1), .val (.int v_2), .val (.int zb), .val (.int zc), .val (.int zd), .val (.ref b_61), .val (.ref b_63), .val (.ref x_69_b), .unset, .unset, .unset, .unset] [(.int p1), (.int v_1)])) rfl (by rw [hml]; rfl) (argsL := [(.int v_1), (.int p1)]) (rest := []) (lenOf pd_7 rfl) rfl (by show 2 * 0 + _ ≤ _; exact Nat.le_of_eq rfl) (hb hby at_153) (fun _ _ => ⟨rfl, rfl, (by decide : 4 + 1 ≤ _), (by decide : 9 + 3 ≤ _)⟩)
            dsimp only [Pt.U, Pt.locs, Pt.cells, Pt.slots] at X_95 l_95 y_95 z_95 st_95 hQ_95
            subst l_95 y_95 z_95
            obtain ⟨x_95_b, x_95_k, rfl, M_95, K_95c, z_95_0, c_95_0⟩ := hQ_95
            have N_95 := Fr.app N_69 M_95
            have ne_b_61_x_95_b : b_61 ≠ x_95_b := Nat.ne_of_lt (Nat.lt_of_lt_of_le f_92.lt z_95_0)
            have ne_b_63_x_95_b : b_63 ≠ x_95_b := Nat.ne_of_lt (Nat.lt_of_lt_of_le f_93.lt z_95_0)
            have ne_t_67_x_95_b : t_67 ≠ x_95_b := Nat.ne_of_lt (Nat.lt_of_lt_of_le f_94.lt z_95_0)
            have ne_x_69_b_x_95_b : x_69_b ≠ x_95_b := Nat.ne_of_lt (Nat.lt_of_lt_of_le c_69_0.lt z_95_0)
            have g_x_95_b : n0 ≤ x_95_b := Nat.le_trans Z_69 z_95_0
            have Z_95 : n0 ≤ T_95.heap.size := Nat.le_trans Z_69 K_95c.1
            refine own_st (S' := T_95.setTop (mkF m 156 #[.val (.int p0), .val (.int p1), .val (.int p2), .val (.int p3), .val (.int (1 : Int32)), .val (.int v_1), .val (.int v_2), .val (.int zb), .val (.int zc), .val (.int zd), .val (.ref b_61), .val (.ref b_63), .val (.ref x_69_b), .unset, .unset, .unset, .unset] [(.ref x_95_b)])) st_95 ?_
            refine own_st (S' := T_95.setTop (mkF m 165 #[.val (.int p0), .val (.int p1), .val (.int p2), .val (.int p3), .val (.int (1 : Int32)), .val (.int v_1), .val (.int v_2), .val (.int zb), .val (.int zc), .val (.int zd), .val (.ref b_61), .val (.ref b_63), .val (.ref x_69_b), .unset, .unset, .unset, .unset] [(.ref x_95_b)])) (fun t_ k_ => XS.goto X_95.here hx rfl (pc0 := 156) (pc' := 165) rfl (hb hby at_156) (by decide) (by decide) k_) ?_
            refine own_st (S' := T_95.setTop (mkF m 167 #[.val (.int p0), .val (.int p1), .val (.int p2), .val (.int p3), .val (.int (1 : Int32)), .val (.int v_1), .val (.int v_2), .val (.int zb), .val (.int zc), .val (.int zd), .val (.ref b_61), .val (.ref b_63), .val (.ref x_69_b), .val (.ref x_95_b), .unset, .unset, .unset] [])) (fun t_ k_ => XS.astore X_95.here hx rfl (hb hby at_165) rfl rfl (l' := #[.val (.int p0), .val (.int p1), .val (.int p2), .val (.int p3), .val (.int (1 : Int32)), .val (.int v_1), .val (.int v_2), .val (.int zb), .val (.int zc), .val (.int zd), .val (.ref b_61), .val (.ref b_63), .val (.ref x_69_b), .val (.ref x_95_b), .unset, .unset, .unset]) rfl k_) ?_
            have f_96 : Arv Z T_95.heap b_61 k_61 .char (1 : Int32) [(.int (nar .char ((p0 &&& (255 : Int32)).toUInt32.toUInt16.toUInt32.toInt32)))] (.int (0 : Int32)) := (f_92.keep K_95c nin0)
            have f_97 : Exa Z T_95.heap b_63 "java/lang/String" := (f_93.keep K_95c)
            have f_98 : Arv Z T_95.heap t_67 kb_67 .byte (1 : Int32) ((([(nar .char ((p0 &&& (255 : Int32)).toUInt32.toUInt16.toUInt32.toInt32))] : List Int32).map (fun c => c.toInt8.toInt32)).map Value.int) (.int 0) := (f_94.keep K_95c nin0)
            have f_99 : Arv Z T_95.heap x_69_b x_69_k .byte v_1 (own_bs v_1 p1) (.int (0 : Int32)) := (c_69_0.keep K_95c nin0)
            obtain ⟨T_100, h_100, X_100, e_100, E_100, A_100, D_100, -, st_100⟩ := newO X_95 hx hZ hown (hw _ (List.mem_of_getElem? (i := 34) rfl)) (hw _ (List.mem_of_getElem? (i := 35) rfl)) (hw _ (List.mem_of_getElem? (i := 36) rfl)) rfl (g := (mkF m 167 #[.val (.int p0), .val (.int p1), .val (.int p2), .val (.int p3), .val (.int (1 : Int32)), .val (.int v_1), .val (.int v_2), .val (.int zb), .val (.int zc), .val (.int zd), .val (.ref b_61), .val (.ref b_63), .val (.ref x_69_b), .val (.ref x_95_b), .unset, .unset, .unset] [])) rfl (hb hby at_167) (by decide) (by decide)
            obtain ⟨b_100, gg_100⟩ : ∃ z, z = T_95.heap.size := ⟨_, rfl⟩
            rw [← gg_100] at A_100 D_100 st_100
            have ne_b_61_b_100 : b_61 ≠ b_100 := Nat.ne_of_lt (Nat.lt_of_lt_of_le f_96.lt (Nat.le_of_eq gg_100.symm))
            have ne_b_63_b_100 : b_63 ≠ b_100 := Nat.ne_of_lt (Nat.lt_of_lt_of_le f_97.lt (Nat.le_of_eq gg_100.symm))
            have ne_t_67_b_100 : t_67 ≠ b_100 := Nat.ne_of_lt (Nat.lt_of_lt_of_le f_98.lt (Nat.le_of_eq gg_100.symm))
            have ne_x_69_b_b_100 : x_69_b ≠ b_100 := Nat.ne_of_lt (Nat.lt_of_lt_of_le f_99.lt (Nat.le_of_eq gg_100.symm))
            have ne_x_95_b_b_100 : x_95_b ≠ b_100 := Nat.ne_of_lt (Nat.lt_of_lt_of_le c_95_0.lt (Nat.le_of_eq gg_100.symm))
            have g_b_100 : n0 ≤ b_100 := Nat.le_trans Z_95 (Nat.le_of_eq gg_100.symm)
            have Z_100 : n0 ≤ h_100.size := Nat.le_trans Z_95 E_100.1
            have F_100_table : Fld Z h_100 b_100 "com/example/westmount/westmount/RowRange" "table" "Ljava/lang/String;" .null := D_100 (Or.inr (hw _ (List.mem_of_getElem? (i := 47) rfl))) (ty := (.object "java/lang/String")) (by decide)
            have F_100_start : Fld Z h_100 b_100 "com/example/westmount/westmount/RowRange" "start" "[B" .null := D_100 (Or.inr (hw _ (List.mem_of_getElem? (i := 49) rfl))) (ty := (.array .byte)) (by decide)
            have F_100_startIncluded : Fld Z h_100 b_100 "com/example/westmount/westmount/RowRange" "startIncluded" "Z" (.int (0 : Int32)) := D_100 (Or.inr (hw _ (List.mem_of_getElem? (i := 51) rfl))) (ty := .boolean) (by decide)
            have F_100_stop : Fld Z h_100 b_100 "com/example/westmount/westmount/RowRange" "stop" "[B" .null := D_100 (Or.inr (hw _ (List.mem_of_getElem? (i := 53) rfl))) (ty := (.array .byte)) (by decide)
            have F_100_stopIncluded : Fld Z h_100 b_100 "com/example/westmount/westmount/RowRange" "stopIncluded" "Z" (.int (0 : Int32)) := D_100 (Or.inr (hw _ (List.mem_of_getElem? (i := 55) rfl))) (ty := .boolean) (by decide)
            refine own_st (S' := T_100.setTop (mkF m 170 #[.val (.int p0), .val (.int p1), .val (.int p2), .val (.int p3), .val (.int (1 : Int32)), .val (.int v_1), .val (.int v_2), .val (.int zb), .val (.int zc), .val (.int zd), .val (.ref b_61), .val (.ref b_63), .val (.ref x_69_b), .val (.ref x_95_b), .unset, .unset, .unset] [(.ref b_100)])) st_100 ?_
            refine own_st (S' := T_100.setTop (mkF m 171 #[.val (.int p0), .val (.int p1), .val (.int p2), .val (.int p3), .val (.int (1 : Int32)), .val (.int v_1), .val (.int v_2), .val (.int zb), .val (.int zc), .val (.int zd), .val (.ref b_61), .val (.ref b_63), .val (.ref x_69_b), .val (.ref x_95_b), .unset, .unset, .unset] [(.ref b_100), (.ref b_100)])) (fun t_ k_ => XS.dup X_100.here hx rfl (hb hby at_170) rfl rfl k_) ?_
            refine own_st (S' := T_100.setTop (mkF m 173 #[.val (.int p0), .val (.int p1), .val (.int p2), .val (.int p3), .val (.int (1 : Int32)), .val (.int v_1), .val (.int v_2), .val (.int zb), .val (.int zc), .val (.int zd), .val (.ref b_61), .val (.ref b_63), .val (.ref x_69_b), .val (.ref x_95_b), .unset, .unset, .unset] [(.ref b_63), (.ref b_100), (.ref b_100)])) (fun t_ k_ => XS.aload X_100.here hx rfl (hb hby at_171) rfl rfl k_) ?_
            refine own_st (S' := T_100.setTop (mkF m 175 #[.val (.int p0), .val (.int p1), .val (.int p2), .val (.int p3), .val (.int (1 : Int32)), .val (.int v_1), .val (.int v_2), .val (.int zb), .val (.int zc), .val (.int zd), .val (.ref b_61), .val (.ref b_63), .val (.ref x_69_b), .val (.ref x_95_b), .unset, .unset, .unset] [(.ref x_69_b), (.ref b_63), (.ref b_100), (.ref b_100)])) (fun t_ k_ => XS.aload X_100.here hx rfl (hb hby at_173) rfl rfl k_) ?_
            refine own_st (S' := T_100.setTop (mkF m 177 #[.val (.int p0), .val (.int p1), .val (.int p2), .val (.int p3), .val (.int (1 : Int32)), .val (.int v_1), .val (.int v_2), .val (.int zb), .val (.int zc), .val (.int zd), .val (.ref b_61), .val (.ref b_63), .val (.ref x_69_b), .val (.ref x_95_b), .unset, .unset, .unset] [(.int zb), (.ref x_69_b), (.ref b_63), (.ref b_100), (.ref b_100)])) (fun t_ k_ => XS.iload X_100.here hx rfl (hb hby at_175) rfl k_) ?_
            refine own_st (S' := T_100.setTop (mkF m 179 #[.val (.int p0), .val (.int p1), .val (.int p2), .val (.int p3), .val (.int (1 : Int32)), .val (.int v_1), .val (.int v_2), .val (.int zb), .val (.int zc), .val (.int zd), .val (.ref b_61), .val (.ref b_63), .val (.ref x_69_b), .val (.ref x_95_b), .unset, .unset, .unset] [(.ref x_95_b), (.int zb), (.ref x_69_b), (.ref b_63), (.ref b_100), (.ref b_100)])) (fun t_ k_ => XS.aload X_100.here hx rfl (hb hby at_177) rfl rfl k_) ?_
            refine own_st (S' := T_100.setTop (mkF m 181 #[.val (.int p0), .val (.int p1), .val (.int p2), .val (.int p3), .val (.int (1 : Int32)), .val (.int v_1), .val (.int v_2), .val (.int zb), .val (.int zc), .val (.int zd), .val (.ref b_61), .val (.ref b_63), .val (.ref x_69_b), .val (.ref x_95_b), .unset, .unset, .unset] [(.int zc), (.ref x_95_b), (.int zb), (.ref x_69_b), (.ref b_63), (.ref b_100), (.ref b_100)])) (fun t_ k_ => XS.iload X_100.here hx rfl (hb hby at_179) rfl k_) ?_
            obtain ⟨_, _, ⟨T_101, L_101, k_101, n_101⟩, -, X_101, ⟨Lc_101, hQ_101, l_101, y_101, z_101⟩, st_101⟩ := X_100.specialBack hx (y := (⟨"com/example/westmount/westmount/RowRange", "<init>", "(Ljava/lang/String;[BZ[BZ)V"⟩ : MethodName)) rfl hown (mvT hZ (hw _ (List.mem_of_getElem? (i := 37) rfl))) (mvT hZ (hw _ (List.mem_of_getElem? (i := 38) rfl))) (mvT hZ (hw _ (List.mem_of_getElem? (i := 39) rfl))) (by decide) (backOf (W := 1) (rm6 l Z a0 hw [] b_100 b_63 x_69_b zb x_95_b zc h_100 n0 Z_100 A_100 F_100_table F_100_start F_100_startIncluded F_100_stop F_100_stopIncluded g_b_100) hZ (hw _ (List.mem_of_getElem? (i := 39) rfl)) (hw _ (List.mem_of_getElem? (i := 36) rfl)) (by decide) (by decide)) (g := (mkF m 181 #[.val (.int p0), .val (.int p1), .val (.int p2), .val (.int p3), .val (.int (1 : Int32)), .val (.int v_1), .val (.int v_2), .val (.int zb), .val (.int zc), .val (.int zd), .val (.ref b_61), .val (.ref b_63), .val (.ref x_69_b), .val (.ref x_95_b), .unset, .unset, .unset] [(.int zc), (.ref x_95_b), (.int zb), (.ref x_69_b), (.ref b_63), (.ref b_100), (.ref b_100)])) rfl (by rw [hml]; rfl) (Steps.refl _) (a := b_100) (argsL := [(.ref b_63), (.ref x_69_b), (.int zb), (.ref x_95_b), (.int zc)]) (rest := [(.ref b_100)]) (lenOf pd_8 rfl) rfl (by show 2 * 0 + _ ≤ _; exact Nat.le_of_eq rfl) (hb hby at_181) (fun _ _ => ⟨rfl, e_100, (by decide : 6 + 0 ≤ _), (by decide : 17 + 0 ≤ _)⟩)
            dsimp only [Pt.U, Pt.locs, Pt.cells, Pt.slots] at X_101 l_101 y_101 z_101 st_101 hQ_101
            subst l_101 y_101 z_101
            obtain ⟨rfl, M_101, K_101c, c_101_0, c_101_1, c_101_2, c_101_3⟩ := hQ_101
            have N_101 := Fr.app N_95 M_101
            have Z_101 : n0 ≤ T_101.heap.size := Nat.le_trans Z_100 K_101c.1
            refine own_st (S' := T_101.setTop (mkF m 184 #[.val (.int p0), .val (.int p1), .val (.int p2), .val (.int p3), .val (.int (1 : Int32)), .val (.int v_1), .val (.int v_2), .val (.int zb), .val (.int zc), .val (.int zd), .val (.ref b_61), .val (.ref b_63), .val (.ref x_69_b), .val (.ref x_95_b), .unset, .unset, .unset] [(.ref b_100)])) (fun t_ k_ => st_101.trans k_) ?_
            refine own_st (S' := T_101.setTop (mkF m 186 #[.val (.int p0), .val (.int p1), .val (.int p2), .val (.int p3), .val (.int (1 : Int32)), .val (.int v_1), .val (.int v_2), .val (.int zb), .val (.int zc), .val (.int zd), .val (.ref b_61), .val (.ref b_63), .val (.ref x_69_b), .val (.ref x_95_b), .val (.ref b_100), .unset, .unset] [])) (fun t_ k_ => XS.astore X_101.here hx rfl (hb hby at_184) rfl rfl (l' := #[.val (.int p0), .val (.int p1), .val (.int p2), .val (.int p3), .val (.int (1 : Int32)), .val (.int v_1), .val (.int v_2), .val (.int zb), .val (.int zc), .val (.int zd), .val (.ref b_61), .val (.ref b_63), .val (.ref x_69_b), .val (.ref x_95_b), .val (.ref b_100), .unset, .unset]) rfl k_) ?_
            refine own_st (S' := T_101.setTop (mkF m 188 #[.val (.int p0), .val (.int p1), .val (.int p2), .val (.int p3), .val (.int (1 : Int32)), .val (.int v_1), .val (.int v_2), .val (.int zb), .val (.int zc), .val (.int zd), .val (.ref b_61), .val (.ref b_63), .val (.ref x_69_b), .val (.ref x_95_b), .val (.ref b_100), .unset, .unset] [(.ref b_100)])) (fun t_ k_ => XS.aload X_101.here hx rfl (hb hby at_186) rfl rfl k_) ?_
            have f_102 : Arv Z T_101.heap b_61 k_61 .char (1 : Int32) [(.int (nar .char ((p0 &&& (255 : Int32)).toUInt32.toUInt16.toUInt32.toInt32)))] (.int (0 : Int32)) := ((f_96.ext E_100).keep K_101c (ninS ne_b_61_b_100 nin0))
            have f_103 : Exa Z T_101.heap b_63 "java/lang/String" := ((Exa.ext E_100 f_97).keep K_101c)
            have f_104 : Arv Z T_101.heap t_67 kb_67 .byte (1 : Int32) ((([(nar .char ((p0 &&& (255 : Int32)).toUInt32.toUInt16.toUInt32.toInt32))] : List Int32).map (fun c => c.toInt8.toInt32)).map Value.int) (.int 0) := ((f_98.ext E_100).keep K_101c (ninS ne_t_67_b_100 nin0))
            have f_105 : Arv Z T_101.heap x_69_b x_69_k .byte v_1 (own_bs v_1 p1) (.int (0 : Int32)) := ((f_99.ext E_100).keep K_101c (ninS ne_x_69_b_b_100 nin0))
            have f_106 : Arv Z T_101.heap x_95_b x_95_k .byte v_1 (own_bs v_1 p1) (.int (0 : Int32)) := ((c_95_0.ext E_100).keep K_101c (ninS ne_x_95_b_b_100 nin0))
            obtain ⟨cq_107, kq_107, q_107a, q_107b, q_107c⟩ := isOf hZ rfl c_101_0
            obtain ⟨_, _, ⟨T_107, L_107, k_107, n_107⟩, -, X_107, ⟨Lc_107, hQ_107, l_107, y_107, z_107⟩, st_107⟩ := X_101.virtualBack hx (y := (⟨"com/example/westmount/westmount/RowRange", "first", "()Lcom/example/westmount/westmount/RowKey;"⟩ : MethodName)) (z := (⟨"com/example/westmount/westmount/RowRange", "first", "()Lcom/example/westmount/westmount/RowKey;"⟩ : MethodName)) hown (mvT hZ (hw _ (List.mem_of_getElem? (i := 56) rfl))) (mvT hZ (hw _ (List.mem_of_getElem? (i := 57) rfl))) (notFace_of_selects (args := #[]) (mvT hZ (hw _ (List.mem_of_getElem? (i := 59) rfl)))) (mvT hZ (hw _ (List.mem_of_getElem? (i := 59) rfl))) (mvT hZ (hw _ (List.mem_of_getElem? (i := 58) rfl))) (by decide) (backOf (W := 0) (rm8 l Z a0 hw [] b_100 b_63 x_69_b T_101.heap n0 Z_101 c_101_1 c_101_2) hZ (hw _ (List.mem_of_getElem? (i := 60) rfl)) (hw _ (List.mem_of_getElem? (i := 36) rfl)) (by decide) (by decide)) q_107a q_107c (g := (mkF m 188 #[.val (.int p0), .val (.int p1), .val (.int p2), .val (.int p3), .val (.int (1 : Int32)), .val (.int v_1), .val (.int v_2), .val (.int zb), .val (.int zc), .val (.int zd), .val (.ref b_61), .val (.ref b_63), .val (.ref x_69_b), .val (.ref x_95_b), .val (.ref b_100), .unset, .unset] [(.ref b_100)])) rfl (by rw [hml]; rfl) (Steps.refl _) (argsL := []) (rest := []) (lenOf pd_9 rfl) rfl (by show 2 * 0 + _ ≤ _; exact Nat.le_of_eq rfl) (hb hby at_188) (fun _ _ => ⟨rfl, rfl, (by decide : 6 + 1 ≤ _), (by decide : 17 + 2 ≤ _)⟩)
            dsimp only [Pt.U, Pt.locs, Pt.cells, Pt.slots] at X_107 l_107 y_107 z_107 st_107 hQ_107
            subst l_107 y_107 z_107
            obtain ⟨x_107_q, rfl, M_107, K_107c, z_107_0, c_107_0, c_107_1, c_107_2⟩ := hQ_107
            have N_107 := Fr.app N_101 M_107
            have ne_b_100_x_107_q : b_100 ≠ x_107_q := Nat.ne_of_lt (Nat.lt_of_lt_of_le c_101_0.lt z_107_0)
            have ne_b_61_x_107_q : b_61 ≠ x_107_q := Nat.ne_of_lt (Nat.lt_of_lt_of_le f_102.lt z_107_0)
            have ne_b_63_x_107_q : b_63 ≠ x_107_q := Nat.ne_of_lt (Nat.lt_of_lt_of_le f_103.lt z_107_0)
            have ne_t_67_x_107_q : t_67 ≠ x_107_q := Nat.ne_of_lt (Nat.lt_of_lt_of_le f_104.lt z_107_0)
            have ne_x_69_b_x_107_q : x_69_b ≠ x_107_q := Nat.ne_of_lt (Nat.lt_of_lt_of_le f_105.lt z_107_0)
            have ne_x_95_b_x_107_q : x_95_b ≠ x_107_q := Nat.ne_of_lt (Nat.lt_of_lt_of_le f_106.lt z_107_0)
            have g_x_107_q : n0 ≤ x_107_q := Nat.le_trans Z_101 z_107_0
            have Z_107 : n0 ≤ T_107.heap.size := Nat.le_trans Z_101 K_107c.1
            refine own_st (S' := T_107.setTop (mkF m 191 #[.val (.int p0), .val (.int p1), .val (.int p2), .val (.int p3), .val (.int (1 : Int32)), .val (.int v_1), .val (.int v_2), .val (.int zb), .val (.int zc), .val (.int zd), .val (.ref b_61), .val (.ref b_63), .val (.ref x_69_b), .val (.ref x_95_b), .val (.ref b_100), .unset, .unset] [(.ref x_107_q)])) (fun t_ k_ => st_107.trans k_) ?_
            refine own_st (S' := T_107.setTop (mkF m 193 #[.val (.int p0), .val (.int p1), .val (.int p2), .val (.int p3), .val (.int (1 : Int32)), .val (.int v_1), .val (.int v_2), .val (.int zb), .val (.int zc), .val (.int zd), .val (.ref b_61), .val (.ref b_63), .val (.ref x_69_b), .val (.ref x_95_b), .val (.ref b_100), .val (.ref x_107_q), .unset] [])) (fun t_ k_ => XS.astore X_107.here hx rfl (hb hby at_191) rfl rfl (l' := #[.val (.int p0), .val (.int p1), .val (.int p2), .val (.int p3), .val (.int (1 : Int32)), .val (.int v_1), .val (.int v_2), .val (.int zb), .val (.int zc), .val (.int zd), .val (.ref b_61), .val (.ref b_63), .val (.ref x_69_b), .val (.ref x_95_b), .val (.ref b_100), .val (.ref x_107_q), .unset]) rfl k_) ?_
            refine own_st (S' := T_107.setTop (mkF m 195 #[.val (.int p0), .val (.int p1), .val (.int p2), .val (.int p3), .val (.int (1 : Int32)), .val (.int v_1), .val (.int v_2), .val (.int zb), .val (.int zc), .val (.int zd), .val (.ref b_61), .val (.ref b_63), .val (.ref x_69_b), .val (.ref x_95_b), .val (.ref b_100), .val (.ref x_107_q), .unset] [(.ref x_107_q)])) (fun t_ k_ => XS.aload X_107.here hx rfl (hb hby at_193) rfl rfl k_) ?_
            obtain ⟨cq_108, kq_108, q_108a, q_108b, q_108c⟩ := isOf hZ rfl c_107_0
            obtain ⟨_, _, ⟨T_108, L_108, k_108, n_108⟩, -, X_108, ⟨Lc_108, hQ_108, l_108, y_108, z_108⟩, st_108⟩ := X_107.virtualBack hx (y := (⟨"com/example/westmount/westmount/RowKey", "table", "()Ljava/lang/String;"⟩ : MethodName)) (z := (⟨"com/example/westmount/westmount/RowKey", "table", "()Ljava/lang/String;"⟩ : MethodName)) hown (mvT hZ (hw _ (List.mem_of_getElem? (i := 72) rfl))) (mvT hZ (hw _ (List.mem_of_getElem? (i := 73) rfl))) (notFace_of_selects (args := #[]) (mvT hZ (hw _ (List.mem_of_getElem? (i := 75) rfl)))) (mvT hZ (hw _ (List.mem_of_getElem? (i := 75) rfl))) (mvT hZ (hw _ (List.mem_of_getElem? (i := 74) rfl))) (by decide) (backOf (W := 0) (rm10 l Z a0 hw [] x_107_q b_63 T_107.heap n0 Z_107 c_107_1) hZ (hw _ (List.mem_of_getElem? (i := 76) rfl)) (hw _ (List.mem_of_getElem? (i := 63) rfl)) (by decide) (by decide)) q_108a q_108c (g := (mkF m 195 #[.val (.int p0), .val (.int p1), .val (.int p2), .val (.int p3), .val (.int (1 : Int32)), .val (.int v_1), .val (.int v_2), .val (.int zb), .val (.int zc), .val (.int zd), .val (.ref b_61), .val (.ref b_63), .val (.ref x_69_b), .val (.ref x_95_b), .val (.ref b_100), .val (.ref x_107_q), .unset] [(.ref x_107_q)])) rfl (by rw [hml]; rfl) (Steps.refl _) (argsL := []) (rest := []) (lenOf pd_10 rfl) rfl (by show 2 * 0 + _ ≤ _; exact Nat.le_of_eq rfl) (hb hby at_195) (fun _ _ => ⟨rfl, rfl, (by decide : 7 + 0 ≤ _), (by decide : 19 + 0 ≤ _)⟩)
            dsimp only [Pt.U, Pt.locs, Pt.cells, Pt.slots] at X_108 l_108 y_108 z_108 st_108 hQ_108
            subst l_108 y_108 z_108
            obtain ⟨rfl, M_108, q_108⟩ := hQ_108
            have N_108 := Fr.app N_107 M_108
            refine own_st (S' := T_108.setTop (mkF m 198 #[.val (.int p0), .val (.int p1), .val (.int p2), .val (.int p3), .val (.int (1 : Int32)), .val (.int v_1), .val (.int v_2), .val (.int zb), .val (.int zc), .val (.int zd), .val (.ref b_61), .val (.ref b_63), .val (.ref x_69_b), .val (.ref x_95_b), .val (.ref b_100), .val (.ref x_107_q), .unset] [(.ref b_63)])) (fun t_ k_ => st_108.trans k_) ?_
            refine own_st (S' := T_108.setTop (mkF m 200 #[.val (.int p0), .val (.int p1), .val (.int p2), .val (.int p3), .val (.int (1 : Int32)), .val (.int v_1), .val (.int v_2), .val (.int zb), .val (.int zc), .val (.int zd), .val (.ref b_61), .val (.ref b_63), .val (.ref x_69_b), .val (.ref x_95_b), .val (.ref b_100), .val (.ref x_107_q), .unset] [(.ref b_63), (.ref b_63)])) (fun t_ k_ => XS.aload X_108.here hx rfl (hb hby at_198) rfl rfl k_) ?_
            have f_110 : Exa Z T_107.heap b_63 "java/lang/String" := (f_103.keep K_107c)
            obtain ⟨cq_109, kq_109, q_109a, q_109b, q_109c⟩ := isOf hZ q_108 f_110
            obtain ⟨_, _, ⟨T_109, L_109, k_109, n_109⟩, -, X_109, ⟨Lc_109, hQ_109, l_109, y_109, z_109⟩, st_109⟩ := X_108.virtualBack hx (y := (⟨"java/lang/String", "equals", "(Ljava/lang/Object;)Z"⟩ : MethodName)) (z := (⟨"java/lang/String", "equals", "(Ljava/lang/Object;)Z"⟩ : MethodName)) hown (mvT hZ (hw _ (List.mem_of_getElem? (i := 77) rfl))) (mvT hZ (hw _ (List.mem_of_getElem? (i := 78) rfl))) (notFace_of_selects (args := #[]) (mvT hZ (hw _ (List.mem_of_getElem? (i := 80) rfl)))) (mvT hZ (hw _ (List.mem_of_getElem? (i := 80) rfl))) (mvT hZ (hw _ (List.mem_of_getElem? (i := 79) rfl))) (by decide) (backOf (W := 0) (rm12 l Z a0 hw [] b_63 b_63 T_107.heap n0 Z_107 rfl) hZ (hw _ (List.mem_of_getElem? (i := 81) rfl)) (hw _ (List.mem_of_getElem? (i := 3) rfl)) (by decide) (by decide)) q_109a q_109c (g := (mkF m 200 #[.val (.int p0), .val (.int p1), .val (.int p2), .val (.int p3), .val (.int (1 : Int32)), .val (.int v_1), .val (.int v_2), .val (.int zb), .val (.int zc), .val (.int zd), .val (.ref b_61), .val (.ref b_63), .val (.ref x_69_b), .val (.ref x_95_b), .val (.ref b_100), .val (.ref x_107_q), .unset] [(.ref b_63), (.ref b_63)])) rfl (by rw [hml]; rfl) (Steps.refl _) (argsL := [(.ref b_63)]) (rest := []) (lenOf pd_4 rfl) rfl (by show 2 * 0 + _ ≤ _; exact Nat.le_of_eq rfl) (hb hby at_200) (fun _ _ => ⟨rfl, q_108, (by decide : 7 + 0 ≤ _), (by decide : 19 + 0 ≤ _)⟩)
            dsimp only [Pt.U, Pt.locs, Pt.cells, Pt.slots] at X_109 l_109 y_109 z_109 st_109 hQ_109
            subst l_109 y_109 z_109
            obtain ⟨rfl, M_109, q_109⟩ := hQ_109
            have N_109 := Fr.app N_108 M_109
            refine own_st (S' := T_109.setTop (mkF m 203 #[.val (.int p0), .val (.int p1), .val (.int p2), .val (.int p3), .val (.int (1 : Int32)), .val (.int v_1), .val (.int v_2), .val (.int zb), .val (.int zc), .val (.int zd), .val (.ref b_61), .val (.ref b_63), .val (.ref x_69_b), .val (.ref x_95_b), .val (.ref b_100), .val (.ref x_107_q), .unset] [(.int (1 : Int32))])) (fun t_ k_ => st_109.trans k_) ?_
            refine own_st (S' := T_109.setTop (mkF m 206 #[.val (.int p0), .val (.int p1), .val (.int p2), .val (.int p3), .val (.int (1 : Int32)), .val (.int v_1), .val (.int v_2), .val (.int zb), .val (.int zc), .val (.int zd), .val (.ref b_61), .val (.ref b_63), .val (.ref x_69_b), .val (.ref x_95_b), .val (.ref b_100), .val (.ref x_107_q), .unset] [])) (fun t_ k_ => XS.ifNo X_109.here hx rfl (hb hby at_203) rfl ((if0 _ _).trans (feq (by decide : ¬ ((1 : Int32) = (0 : Int32)))).1) k_) ?_
            refine own_st (S' := T_109.setTop (mkF m 208 #[.val (.int p0), .val (.int p1), .val (.int p2), .val (.int p3), .val (.int (1 : Int32)), .val (.int v_1), .val (.int v_2), .val (.int zb), .val (.int zc), .val (.int zd), .val (.ref b_61), .val (.ref b_63), .val (.ref x_69_b), .val (.ref x_95_b), .val (.ref b_100), .val (.ref x_107_q), .unset] [(.ref x_107_q)])) (fun t_ k_ => XS.aload X_109.here hx rfl (hb hby at_206) rfl rfl k_) ?_
            obtain ⟨cq_111, kq_111, q_111a, q_111b, q_111c⟩ := isOf hZ q_109 c_107_0
            obtain ⟨_, _, ⟨T_111, L_111, k_111, n_111⟩, -, X_111, ⟨Lc_111, hQ_111, l_111, y_111, z_111⟩, st_111⟩ := X_109.virtualBack hx (y := (⟨"com/example/westmount/westmount/RowKey", "row", "()[B"⟩ : MethodName)) (z := (⟨"com/example/westmount/westmount/RowKey", "row", "()[B"⟩ : MethodName)) hown (mvT hZ (hw _ (List.mem_of_getElem? (i := 82) rfl))) (mvT hZ (hw _ (List.mem_of_getElem? (i := 83) rfl))) (notFace_of_selects (args := #[]) (mvT hZ (hw _ (List.mem_of_getElem? (i := 85) rfl)))) (mvT hZ (hw _ (List.mem_of_getElem? (i := 85) rfl))) (mvT hZ (hw _ (List.mem_of_getElem? (i := 84) rfl))) (by decide) (backOf (W := 0) (rm11 l Z a0 hw [] x_107_q x_69_b T_107.heap n0 Z_107 c_107_2) hZ (hw _ (List.mem_of_getElem? (i := 86) rfl)) (hw _ (List.mem_of_getElem? (i := 63) rfl)) (by decide) (by decide)) q_111a q_111c (g := (mkF m 208 #[.val (.int p0), .val (.int p1), .val (.int p2), .val (.int p3), .val (.int (1 : Int32)), .val (.int v_1), .val (.int v_2), .val (.int zb), .val (.int zc), .val (.int zd), .val (.ref b_61), .val (.ref b_63), .val (.ref x_69_b), .val (.ref x_95_b), .val (.ref b_100), .val (.ref x_107_q), .unset] [(.ref x_107_q)])) rfl (by rw [hml]; rfl) (Steps.refl _) (argsL := []) (rest := []) (lenOf pd_11 rfl) rfl (by show 2 * 0 + _ ≤ _; exact Nat.le_of_eq rfl) (hb hby at_208) (fun _ _ => ⟨rfl, q_109, (by decide : 7 + 0 ≤ _), (by decide : 19 + 0 ≤ _)⟩)
            dsimp only [Pt.U, Pt.locs, Pt.cells, Pt.slots] at X_111 l_111 y_111 z_111 st_111 hQ_111
            subst l_111 y_111 z_111
            obtain ⟨rfl, M_111, q_111⟩ := hQ_111
            have N_111 := Fr.app N_109 M_111
            refine own_st (S' := T_111.setTop (mkF m 211 #[.val (.int p0), .val (.int p1), .val (.int p2), .val (.int p3), .val (.int (1 : Int32)), .val (.int v_1), .val (.int v_2), .val (.int zb), .val (.int zc), .val (.int zd), .val (.ref b_61), .val (.ref b_63), .val (.ref x_69_b), .val (.ref x_95_b), .val (.ref b_100), .val (.ref x_107_q), .unset] [(.ref x_69_b)])) (fun t_ k_ => st_111.trans k_) ?_
            refine own_st (S' := T_111.setTop (mkF m 213 #[.val (.int p0), .val (.int p1), .val (.int p2), .val (.int p3), .val (.int (1 : Int32)), .val (.int v_1), .val (.int v_2), .val (.int zb), .val (.int zc), .val (.int zd), .val (.ref b_61), .val (.ref b_63), .val (.ref x_69_b), .val (.ref x_95_b), .val (.ref b_100), .val (.ref x_107_q), .unset] [(.int v_1), (.ref x_69_b)])) (fun t_ k_ => XS.iload X_111.here hx rfl (hb hby at_211) rfl k_) ?_
            refine own_st (S' := T_111.setTop (mkF m 214 #[.val (.int p0), .val (.int p1), .val (.int p2), .val (.int p3), .val (.int (1 : Int32)), .val (.int v_1), .val (.int v_2), .val (.int zb), .val (.int zc), .val (.int zd), .val (.ref b_61), .val (.ref b_63), .val (.ref x_69_b), .val (.ref x_95_b), .val (.ref b_100), .val (.ref x_107_q), .unset] [(.int p1), (.int v_1), (.ref x_69_b)])) (fun t_ k_ => XS.iloadN X_111.here hx rfl (hb hby at_213) rfl k_) ?_
            have f_112 : Arv Z T_107.heap x_69_b x_69_k .byte v_1 (own_bs v_1 p1) (.int (0 : Int32)) := (f_105.keep K_107c nin0)
            obtain ⟨_, _, ⟨T_113, L_113, k_113, n_113⟩, -, X_113, ⟨Lc_113, hQ_113, l_113, y_113, z_113⟩, st_113⟩ := Jvm.LawKit.callS X_111 hx (y := (⟨"com/example/westmount/westmount/RowRangeFirstPinLaw", "sameBytes", "([BII)Z"⟩ : MethodName)) hown (mvT hZ (hw _ (List.mem_of_getElem? (i := 87) rfl))) (mvT hZ (hw _ (List.mem_of_getElem? (i := 88) rfl))) (mvT hZ (hw _ (List.mem_of_getElem? (i := 32) rfl))) (mvT hZ (hw _ (List.mem_of_getElem? (i := 89) rfl))) (by decide) (backOf (W := 0) (rm4 l Z a0 hw [] x_69_b v_1 p1 x_69_k T_107.heap n0 Z_107 f_112 (hv_1 ▸ own_four _)) hZ (hw _ (List.mem_of_getElem? (i := 89) rfl)) (hw _ (List.mem_of_getElem? (i := 32) rfl)) (by decide) (by decide)) (g := (mkF m 214 #[.val (.int p0), .val (.int p1), .val (.int p2), .val (.int p3), .val (.int (1 : Int32)), .val (.int v_1), .val (.int v_2), .val (.int zb), .val (.int zc), .val (.int zd), .val (.ref b_61), .val (.ref b_63), .val (.ref x_69_b), .val (.ref x_95_b), .val (.ref b_100), .val (.ref x_107_q), .unset] [(.int p1), (.int v_1), (.ref x_69_b)])) rfl (by rw [hml]; rfl) (argsL := [(.ref x_69_b), (.int v_1), (.int p1)]) (rest := []) (lenOf pd_12 rfl) rfl (by show 2 * 0 + _ ≤ _; exact Nat.le_of_eq rfl) (hb hby at_214) (fun _ _ => ⟨rfl, q_111, (by decide : 7 + 0 ≤ _), (by decide : 19 + 0 ≤ _)⟩)
            dsimp only [Pt.U, Pt.locs, Pt.cells, Pt.slots] at X_113 l_113 y_113 z_113 st_113 hQ_113
            subst l_113 y_113 z_113
            obtain ⟨rfl, M_113, q_113⟩ := hQ_113
            have N_113 := Fr.app N_111 M_113
            refine own_st (S' := T_113.setTop (mkF m 217 #[.val (.int p0), .val (.int p1), .val (.int p2), .val (.int p3), .val (.int (1 : Int32)), .val (.int v_1), .val (.int v_2), .val (.int zb), .val (.int zc), .val (.int zd), .val (.ref b_61), .val (.ref b_63), .val (.ref x_69_b), .val (.ref x_95_b), .val (.ref b_100), .val (.ref x_107_q), .unset] [(.int (1 : Int32))])) st_113 ?_
            refine own_st (S' := T_113.setTop (mkF m 220 #[.val (.int p0), .val (.int p1), .val (.int p2), .val (.int p3), .val (.int (1 : Int32)), .val (.int v_1), .val (.int v_2), .val (.int zb), .val (.int zc), .val (.int zd), .val (.ref b_61), .val (.ref b_63), .val (.ref x_69_b), .val (.ref x_95_b), .val (.ref b_100), .val (.ref x_107_q), .unset] [])) (fun t_ k_ => XS.ifNo X_113.here hx rfl (hb hby at_217) rfl ((if0 _ _).trans (feq (by decide : ¬ ((1 : Int32) = (0 : Int32)))).1) k_) ?_
            refine own_st (S' := T_113.setTop (mkF m 221 #[.val (.int p0), .val (.int p1), .val (.int p2), .val (.int p3), .val (.int (1 : Int32)), .val (.int v_1), .val (.int v_2), .val (.int zb), .val (.int zc), .val (.int zd), .val (.ref b_61), .val (.ref b_63), .val (.ref x_69_b), .val (.ref x_95_b), .val (.ref b_100), .val (.ref x_107_q), .unset] [(.int (1 : Int32))])) (fun t_ k_ => XS.iconst X_113.here hx rfl (hb hby at_220) k_) ?_
            refine own_st (S' := T_113.setTop (mkF m 225 #[.val (.int p0), .val (.int p1), .val (.int p2), .val (.int p3), .val (.int (1 : Int32)), .val (.int v_1), .val (.int v_2), .val (.int zb), .val (.int zc), .val (.int zd), .val (.ref b_61), .val (.ref b_63), .val (.ref x_69_b), .val (.ref x_95_b), .val (.ref b_100), .val (.ref x_107_q), .unset] [(.int (1 : Int32))])) (fun t_ k_ => XS.goto X_113.here hx rfl (pc0 := 221) (pc' := 225) rfl (hb hby at_221) (by decide) (by decide) k_) ?_
            refine own_st (S' := T_113.setTop (mkF m 227 #[.val (.int p0), .val (.int p1), .val (.int p2), .val (.int p3), .val (.int (1 : Int32)), .val (.int v_1), .val (.int v_2), .val (.int zb), .val (.int zc), .val (.int zd), .val (.ref b_61), .val (.ref b_63), .val (.ref x_69_b), .val (.ref x_95_b), .val (.ref b_100), .val (.ref x_107_q), .val (.int (1 : Int32))] [])) (fun t_ k_ => XS.istore X_113.here hx rfl (hb hby at_225) rfl (l' := #[.val (.int p0), .val (.int p1), .val (.int p2), .val (.int p3), .val (.int (1 : Int32)), .val (.int v_1), .val (.int v_2), .val (.int zb), .val (.int zc), .val (.int zd), .val (.ref b_61), .val (.ref b_63), .val (.ref x_69_b), .val (.ref x_95_b), .val (.ref b_100), .val (.ref x_107_q), .val (.int (1 : Int32))]) rfl k_) ?_
            refine own_st (S' := T_113.setTop (mkF m 229 #[.val (.int p0), .val (.int p1), .val (.int p2), .val (.int p3), .val (.int (1 : Int32)), .val (.int v_1), .val (.int v_2), .val (.int zb), .val (.int zc), .val (.int zd), .val (.ref b_61), .val (.ref b_63), .val (.ref x_69_b), .val (.ref x_95_b), .val (.ref b_100), .val (.ref x_107_q), .val (.int (1 : Int32))] [(.int (1 : Int32))])) (fun t_ k_ => XS.iload X_113.here hx rfl (hb hby at_227) rfl k_) ?_
            refine own_st (S' := T_113.setTop (mkF m 232 #[.val (.int p0), .val (.int p1), .val (.int p2), .val (.int p3), .val (.int (1 : Int32)), .val (.int v_1), .val (.int v_2), .val (.int zb), .val (.int zc), .val (.int zd), .val (.ref b_61), .val (.ref b_63), .val (.ref x_69_b), .val (.ref x_95_b), .val (.ref b_100), .val (.ref x_107_q), .val (.int (1 : Int32))] [])) (fun t_ k_ => XS.ifNo X_113.here hx rfl (hb hby at_229) rfl ((if0 _ _).trans (feq (by decide : ¬ ((1 : Int32) = (0 : Int32)))).1) k_) ?_
            refine own_st (S' := T_113.setTop (mkF m 234 #[.val (.int p0), .val (.int p1), .val (.int p2), .val (.int p3), .val (.int (1 : Int32)), .val (.int v_1), .val (.int v_2), .val (.int zb), .val (.int zc), .val (.int zd), .val (.ref b_61), .val (.ref b_63), .val (.ref x_69_b), .val (.ref x_95_b), .val (.ref b_100), .val (.ref x_107_q), .val (.int (1 : Int32))] [(.int zd)])) (fun t_ k_ => XS.iload X_113.here hx rfl (hb hby at_232) rfl k_) ?_
            refine own_st (S' := T_113.setTop (mkF m 237 #[.val (.int p0), .val (.int p1), .val (.int p2), .val (.int p3), .val (.int (1 : Int32)), .val (.int v_1), .val (.int v_2), .val (.int zb), .val (.int zc), .val (.int zd), .val (.ref b_61), .val (.ref b_63), .val (.ref x_69_b), .val (.ref x_95_b), .val (.ref b_100), .val (.ref x_107_q), .val (.int (1 : Int32))] [])) (fun t_ k_ => XS.ifNo X_113.here hx rfl (hb hby at_234) rfl ((if0 _ _).trans (feq hc147).1) k_) ?_
            refine own_st (S' := T_113.setTop (mkF m 239 #[.val (.int p0), .val (.int p1), .val (.int p2), .val (.int p3), .val (.int (1 : Int32)), .val (.int v_1), .val (.int v_2), .val (.int zb), .val (.int zc), .val (.int zd), .val (.ref b_61), .val (.ref b_63), .val (.ref x_69_b), .val (.ref x_95_b), .val (.ref b_100), .val (.ref x_107_q), .val (.int (1 : Int32))] [(.int v_1)])) (fun t_ k_ => XS.iload X_113.here hx rfl (hb hby at_237) rfl k_) ?_
            by_cases hc239 : (0 : Int32) < v_1
            · refine own_st (S' := T_113.setTop (mkF m 242 #[.val (.int p0), .val (.int p1), .val (.int p2), .val (.int p3), .val (.int (1 : Int32)), .val (.int v_1), .val (.int v_2), .val (.int zb), .val (.int zc), .val (.int zd), .val (.ref b_61), .val (.ref b_63), .val (.ref x_69_b), .val (.ref x_95_b), .val (.ref b_100), .val (.ref x_107_q), .val (.int (1 : Int32))] [])) (fun t_ k_ => XS.ifNo X_113.here hx rfl (hb hby at_239) rfl ((if0 _ _).trans (tlt hc239).2.2.2) k_) ?_
              refine own_st (S' := T_113.setTop (mkF m 244 #[.val (.int p0), .val (.int p1), .val (.int p2), .val (.int p3), .val (.int (1 : Int32)), .val (.int v_1), .val (.int v_2), .val (.int zb), .val (.int zc), .val (.int zd), .val (.ref b_61), .val (.ref b_63), .val (.ref x_69_b), .val (.ref x_95_b), .val (.ref b_100), .val (.ref x_107_q), .val (.int (1 : Int32))] [(.ref x_107_q)])) (fun t_ k_ => XS.aload X_113.here hx rfl (hb hby at_242) rfl rfl k_) ?_
              refine own_st (S' := T_113.setTop (mkF m 246 #[.val (.int p0), .val (.int p1), .val (.int p2), .val (.int p3), .val (.int (1 : Int32)), .val (.int v_1), .val (.int v_2), .val (.int zb), .val (.int zc), .val (.int zd), .val (.ref b_61), .val (.ref b_63), .val (.ref x_69_b), .val (.ref x_95_b), .val (.ref b_100), .val (.ref x_107_q), .val (.int (1 : Int32))] [(.ref b_100), (.ref x_107_q)])) (fun t_ k_ => XS.aload X_113.here hx rfl (hb hby at_244) rfl rfl k_) ?_
              have f_114 : Fld Z T_107.heap b_100 "com/example/westmount/westmount/RowRange" "table" "Ljava/lang/String;" (.ref b_63) := (c_101_1.keep K_107c nin0)
              have f_115 : Fld Z T_107.heap b_100 "com/example/westmount/westmount/RowRange" "stop" "[B" (.ref x_95_b) := (c_101_3.keep K_107c nin0)
              have f_116 : Arv Z T_107.heap x_95_b x_95_k .byte v_1 (own_bs v_1 p1) (.int (0 : Int32)) := (f_106.keep K_107c nin0)
              have f_117 : Arv Z T_107.heap b_61 k_61 .char (1 : Int32) [(.int (nar .char ((p0 &&& (255 : Int32)).toUInt32.toUInt16.toUInt32.toInt32)))] (.int (0 : Int32)) := (f_102.keep K_107c nin0)
              have f_118 : Arv Z T_107.heap t_67 kb_67 .byte (1 : Int32) ((([(nar .char ((p0 &&& (255 : Int32)).toUInt32.toUInt16.toUInt32.toInt32))] : List Int32).map (fun c => c.toInt8.toInt32)).map Value.int) (.int 0) := (f_104.keep K_107c nin0)
              have f_120 : Exa Z T_107.heap b_100 "com/example/westmount/westmount/RowRange" := (c_101_0.keep K_107c)
              obtain ⟨cq_119, kq_119, q_119a, q_119b, q_119c⟩ := isOf hZ q_113 f_120
              obtain ⟨_, _, ⟨T_119, L_119, k_119, n_119⟩, -, X_119, ⟨Lc_119, hQ_119, l_119, y_119, z_119⟩, st_119⟩ := X_113.virtualBack hx (y := (⟨"com/example/westmount/westmount/RowRange", "last", "()Lcom/example/westmount/westmount/RowKey;"⟩ : MethodName)) (z := (⟨"com/example/westmount/westmount/RowRange", "last", "()Lcom/example/westmount/westmount/RowKey;"⟩ : MethodName)) hown (mvT hZ (hw _ (List.mem_of_getElem? (i := 93) rfl))) (mvT hZ (hw _ (List.mem_of_getElem? (i := 94) rfl))) (notFace_of_selects (args := #[]) (mvT hZ (hw _ (List.mem_of_getElem? (i := 96) rfl)))) (mvT hZ (hw _ (List.mem_of_getElem? (i := 96) rfl))) (mvT hZ (hw _ (List.mem_of_getElem? (i := 95) rfl))) (by decide) (backOf (W := 1) (rm9 l Z a0 hw [] b_100 b_63 x_95_b x_95_k v_1 (own_bs v_1 p1) T_107.heap n0 Z_107 f_114 f_115 f_116 hc239) hZ (hw _ (List.mem_of_getElem? (i := 97) rfl)) (hw _ (List.mem_of_getElem? (i := 36) rfl)) (by decide) (by decide)) q_119a q_119c (g := (mkF m 246 #[.val (.int p0), .val (.int p1), .val (.int p2), .val (.int p3), .val (.int (1 : Int32)), .val (.int v_1), .val (.int v_2), .val (.int zb), .val (.int zc), .val (.int zd), .val (.ref b_61), .val (.ref b_63), .val (.ref x_69_b), .val (.ref x_95_b), .val (.ref b_100), .val (.ref x_107_q), .val (.int (1 : Int32))] [(.ref b_100), (.ref x_107_q)])) rfl (by rw [hml]; rfl) (Steps.refl _) (argsL := []) (rest := [(.ref x_107_q)]) (lenOf pd_9 rfl) rfl (by show 2 * 0 + _ ≤ _; exact Nat.le_of_eq rfl) (hb hby at_246) (fun _ _ => ⟨rfl, q_113, (by decide : 7 + 1 ≤ _), (by decide : 19 + 2 ≤ _)⟩)
              dsimp only [Pt.U, Pt.locs, Pt.cells, Pt.slots] at X_119 l_119 y_119 z_119 st_119 hQ_119
              subst l_119 y_119 z_119
              obtain ⟨x_119_q, rfl, M_119, K_119c, z_119_0, c_119_0, c_119_1, c_119_2⟩ := hQ_119
              have N_119 := Fr.app N_113 M_119
              have ne_b_100_x_119_q : b_100 ≠ x_119_q := Nat.ne_of_lt (Nat.lt_of_lt_of_le f_114.lt z_119_0)
              have ne_b_61_x_119_q : b_61 ≠ x_119_q := Nat.ne_of_lt (Nat.lt_of_lt_of_le f_117.lt z_119_0)
              have ne_b_63_x_119_q : b_63 ≠ x_119_q := Nat.ne_of_lt (Nat.lt_of_lt_of_le f_110.lt z_119_0)
              have ne_t_67_x_119_q : t_67 ≠ x_119_q := Nat.ne_of_lt (Nat.lt_of_lt_of_le f_118.lt z_119_0)
              have ne_x_107_q_x_119_q : x_107_q ≠ x_119_q := Nat.ne_of_lt (Nat.lt_of_lt_of_le c_107_0.lt z_119_0)
              have ne_x_69_b_x_119_q : x_69_b ≠ x_119_q := Nat.ne_of_lt (Nat.lt_of_lt_of_le f_112.lt z_119_0)
              have ne_x_95_b_x_119_q : x_95_b ≠ x_119_q := Nat.ne_of_lt (Nat.lt_of_lt_of_le f_116.lt z_119_0)
              have g_x_119_q : n0 ≤ x_119_q := Nat.le_trans Z_107 z_119_0
              have Z_119 : n0 ≤ T_119.heap.size := Nat.le_trans Z_107 K_119c.1
              refine own_st (S' := T_119.setTop (mkF m 249 #[.val (.int p0), .val (.int p1), .val (.int p2), .val (.int p3), .val (.int (1 : Int32)), .val (.int v_1), .val (.int v_2), .val (.int zb), .val (.int zc), .val (.int zd), .val (.ref b_61), .val (.ref b_63), .val (.ref x_69_b), .val (.ref x_95_b), .val (.ref b_100), .val (.ref x_107_q), .val (.int (1 : Int32))] [(.ref x_119_q), (.ref x_107_q)])) (fun t_ k_ => st_119.trans k_) ?_
              have f_121 : Fld Z T_119.heap x_107_q "com/example/westmount/westmount/RowKey" "table" "Ljava/lang/String;" (.ref b_63) := (c_107_1.keep K_119c nin0)
              have f_122 : Fld Z T_119.heap x_107_q "com/example/westmount/westmount/RowKey" "row" "[B" (.ref x_69_b) := (c_107_2.keep K_119c nin0)
              have f_123 : Exa Z T_119.heap b_63 "java/lang/String" := (f_110.keep K_119c)
              have f_124 : Arv Z T_119.heap x_69_b x_69_k .byte v_1 (own_bs v_1 p1) (.int (0 : Int32)) := (f_112.keep K_119c nin0)
              have f_125 : Arv Z T_119.heap x_95_b x_95_k .byte v_1 (own_bs v_1 p1) (.int (0 : Int32)) := (f_116.keep K_119c nin0)
              have f_127 : Exa Z T_119.heap x_107_q "com/example/westmount/westmount/RowKey" := (c_107_0.keep K_119c)
              obtain ⟨cq_126, kq_126, q_126a, q_126b, q_126c⟩ := isOf hZ rfl f_127
              obtain ⟨_, _, ⟨T_126, L_126, k_126, n_126⟩, -, X_126, ⟨Lc_126, hQ_126, l_126, y_126, z_126⟩, st_126⟩ := X_119.virtualBack hx (y := (⟨"com/example/westmount/westmount/RowKey", "equals", "(Ljava/lang/Object;)Z"⟩ : MethodName)) (z := (⟨"com/example/westmount/westmount/RowKey", "equals", "(Ljava/lang/Object;)Z"⟩ : MethodName)) hown (mvT hZ (hw _ (List.mem_of_getElem? (i := 98) rfl))) (mvT hZ (hw _ (List.mem_of_getElem? (i := 99) rfl))) (notFace_of_selects (args := #[]) (mvT hZ (hw _ (List.mem_of_getElem? (i := 101) rfl)))) (mvT hZ (hw _ (List.mem_of_getElem? (i := 101) rfl))) (mvT hZ (hw _ (List.mem_of_getElem? (i := 100) rfl))) (by decide) (backOf (W := 0) (rm15 l Z a0 hw [] x_107_q x_119_q b_63 x_69_b x_95_b x_69_k x_95_k v_1 p1 T_119.heap n0 Z_119 f_121 f_122 c_119_0 c_119_1 c_119_2 f_123 f_124 f_125 ne_x_69_b_x_95_b (hv_1 ▸ own_four _)) hZ (hw _ (List.mem_of_getElem? (i := 102) rfl)) (hw _ (List.mem_of_getElem? (i := 63) rfl)) (by decide) (by decide)) q_126a q_126c (g := (mkF m 249 #[.val (.int p0), .val (.int p1), .val (.int p2), .val (.int p3), .val (.int (1 : Int32)), .val (.int v_1), .val (.int v_2), .val (.int zb), .val (.int zc), .val (.int zd), .val (.ref b_61), .val (.ref b_63), .val (.ref x_69_b), .val (.ref x_95_b), .val (.ref b_100), .val (.ref x_107_q), .val (.int (1 : Int32))] [(.ref x_119_q), (.ref x_107_q)])) rfl (by rw [hml]; rfl) (Steps.refl _) (argsL := [(.ref x_119_q)]) (rest := []) (lenOf pd_4 rfl) rfl (by show 2 * 0 + _ ≤ _; exact Nat.le_of_eq rfl) (hb hby at_249) (fun _ _ => ⟨rfl, rfl, (by decide : 8 + 0 ≤ _), (by decide : 21 + 0 ≤ _)⟩)
              dsimp only [Pt.U, Pt.locs, Pt.cells, Pt.slots] at X_126 l_126 y_126 z_126 st_126 hQ_126
              subst l_126 y_126 z_126
              obtain ⟨rfl, M_126, q_126⟩ := hQ_126
              have N_126 := Fr.app N_119 M_126
              refine own_st (S' := T_126.setTop (mkF m 252 #[.val (.int p0), .val (.int p1), .val (.int p2), .val (.int p3), .val (.int (1 : Int32)), .val (.int v_1), .val (.int v_2), .val (.int zb), .val (.int zc), .val (.int zd), .val (.ref b_61), .val (.ref b_63), .val (.ref x_69_b), .val (.ref x_95_b), .val (.ref b_100), .val (.ref x_107_q), .val (.int (1 : Int32))] [(.int (1 : Int32))])) (fun t_ k_ => st_126.trans k_) ?_
              refine own_st (S' := T_126.setTop (mkF m 254 #[.val (.int p0), .val (.int p1), .val (.int p2), .val (.int p3), .val (.int (1 : Int32)), .val (.int v_1), .val (.int v_2), .val (.int zb), .val (.int zc), .val (.int zd), .val (.ref b_61), .val (.ref b_63), .val (.ref x_69_b), .val (.ref x_95_b), .val (.ref b_100), .val (.ref x_107_q), .val (.int (1 : Int32))] [])) (fun t_ k_ => XS.istore X_126.here hx rfl (hb hby at_252) rfl (l' := #[.val (.int p0), .val (.int p1), .val (.int p2), .val (.int p3), .val (.int (1 : Int32)), .val (.int v_1), .val (.int v_2), .val (.int zb), .val (.int zc), .val (.int zd), .val (.ref b_61), .val (.ref b_63), .val (.ref x_69_b), .val (.ref x_95_b), .val (.ref b_100), .val (.ref x_107_q), .val (.int (1 : Int32))]) rfl k_) ?_
              refine own_st (S' := T_126.setTop (mkF m 256 #[.val (.int p0), .val (.int p1), .val (.int p2), .val (.int p3), .val (.int (1 : Int32)), .val (.int v_1), .val (.int v_2), .val (.int zb), .val (.int zc), .val (.int zd), .val (.ref b_61), .val (.ref b_63), .val (.ref x_69_b), .val (.ref x_95_b), .val (.ref b_100), .val (.ref x_107_q), .val (.int (1 : Int32))] [(.int (1 : Int32))])) (fun t_ k_ => XS.iload X_126.here hx rfl (hb hby at_254) rfl k_) ?_
              obtain ⟨fs, hr, hrun, hended, hRW⟩ := Stand.leaveW (s := s) (vm₁ := s.vm) X_126 (n := 0) (State.WarmedH.since (State.WarmedH.refl s) 0) (by rw [q_126]; exact (Nat.zero_le _)) (v := some (.int (1 : Int32))) (fun h => by rw [Bd.returns] at h; cases h)
              refine ⟨_, _, retN X_126 hx (t := .boolean) Bd.returns (by simp) (hb hby at_256) hr, hrun, hended, _, _, rfl, ?_, ⟨_, rfl⟩, hRW.2.1, hRW.2.2.1, hRW.2.2.2.mono (by decide) (by decide)⟩
              show Q0 Z p0 p1 p2 p3 cz h0 n0 _ T_126.heap _
              rw [q_126]
              exact ⟨rfl, N_126⟩
            · refine own_st (S' := T_113.setTop (mkF m 254 #[.val (.int p0), .val (.int p1), .val (.int p2), .val (.int p3), .val (.int (1 : Int32)), .val (.int v_1), .val (.int v_2), .val (.int zb), .val (.int zc), .val (.int zd), .val (.ref b_61), .val (.ref b_63), .val (.ref x_69_b), .val (.ref x_95_b), .val (.ref b_100), .val (.ref x_107_q), .val (.int (1 : Int32))] [])) (fun t_ k_ => XS.ifYes X_113.here hx rfl (pc0 := 239) (pc' := 254) rfl (hb hby at_239) rfl ((if0 _ _).trans (flt hc239).2.2.2) (by decide) (by decide) k_) ?_
              refine own_st (S' := T_113.setTop (mkF m 256 #[.val (.int p0), .val (.int p1), .val (.int p2), .val (.int p3), .val (.int (1 : Int32)), .val (.int v_1), .val (.int v_2), .val (.int zb), .val (.int zc), .val (.int zd), .val (.ref b_61), .val (.ref b_63), .val (.ref x_69_b), .val (.ref x_95_b), .val (.ref b_100), .val (.ref x_107_q), .val (.int (1 : Int32))] [(.int (1 : Int32))])) (fun t_ k_ => XS.iload X_113.here hx rfl (hb hby at_254) rfl k_) ?_
              obtain ⟨fs, hr, hrun, hended, hRW⟩ := Stand.leaveW (s := s) (vm₁ := s.vm) X_113 (n := 0) (State.WarmedH.since (State.WarmedH.refl s) 0) (by rw [q_113]; exact (Nat.zero_le _)) (v := some (.int (1 : Int32))) (fun h => by rw [Bd.returns] at h; cases h)
              refine ⟨_, _, retN X_113 hx (t := .boolean) Bd.returns (by simp) (hb hby at_256) hr, hrun, hended, _, _, rfl, ?_, ⟨_, rfl⟩, hRW.2.1, hRW.2.2.1, hRW.2.2.2.mono (by decide) (by decide)⟩
              show Q0 Z p0 p1 p2 p3 cz h0 n0 _ T_113.heap _
              rw [q_113]
              exact ⟨rfl, N_113⟩
        · refine own_cast (S' := s₁.setTop (mkF m 67 #[.val (.int p0), .val (.int p1), .val (.int p2), .val (.int p3), .val (.int (2 : Int32)), .val (.int v_1), .val (.int v_2), .val (.int zb), .val (.int zc), .val (.int zd), .unset, .unset, .unset, .unset, .unset, .unset, .unset] [])) (by rw [hq]) ?_
          refine own_st (S' := s₁.setTop (mkF m 69 #[.val (.int p0), .val (.int p1), .val (.int p2), .val (.int p3), .val (.int (2 : Int32)), .val (.int v_1), .val (.int v_2), .val (.int zb), .val (.int zc), .val (.int zd), .unset, .unset, .unset, .unset, .unset, .unset, .unset] [(.int (2 : Int32))])) (fun t_ k_ => XS.iload X0.here hx rfl (hb hby at_67) rfl k_) ?_
          obtain ⟨T_128, h_128, k_128, X_128, e_128, E_128, A_128, st_128⟩ := newP X0 hx hZ (hw _ (List.mem_of_getElem? (i := 0) rfl)) e0 (g := (mkF m 69 #[.val (.int p0), .val (.int p1), .val (.int p2), .val (.int p3), .val (.int (2 : Int32)), .val (.int v_1), .val (.int v_2), .val (.int zb), .val (.int zc), .val (.int zd), .unset, .unset, .unset, .unset, .unset, .unset, .unset] [(.int (2 : Int32))])) rfl (hb hby at_69) rfl (by decide) (cap := 2) (by decide) (by decide) (by decide) (by decide)
          obtain ⟨b_128, gg_128⟩ : ∃ z, z = h0.size := ⟨_, rfl⟩
          rw [← gg_128] at A_128 st_128
          have g_b_128 : n0 ≤ b_128 := Nat.le_trans Z0 (Nat.le_of_eq gg_128.symm)
          have Z_128 : n0 ≤ h_128.size := Nat.le_trans Z0 E_128.1
          have V_128 : Arv Z h_128 b_128 k_128 .char (2 : Int32) [(.int (0 : Int32)), (.int (0 : Int32))] (.int (0 : Int32)) := (Arv.new A_128 (by decide)).pad (pad_rep [] (.int (0 : Int32)) 2)
          refine own_st (S' := T_128.setTop (mkF m 71 #[.val (.int p0), .val (.int p1), .val (.int p2), .val (.int p3), .val (.int (2 : Int32)), .val (.int v_1), .val (.int v_2), .val (.int zb), .val (.int zc), .val (.int zd), .unset, .unset, .unset, .unset, .unset, .unset, .unset] [(.ref b_128)])) st_128 ?_
          refine own_st (S' := T_128.setTop (mkF m 73 #[.val (.int p0), .val (.int p1), .val (.int p2), .val (.int p3), .val (.int (2 : Int32)), .val (.int v_1), .val (.int v_2), .val (.int zb), .val (.int zc), .val (.int zd), .val (.ref b_128), .unset, .unset, .unset, .unset, .unset, .unset] [])) (fun t_ k_ => XS.astore X_128.here hx rfl (hb hby at_71) rfl rfl (l' := #[.val (.int p0), .val (.int p1), .val (.int p2), .val (.int p3), .val (.int (2 : Int32)), .val (.int v_1), .val (.int v_2), .val (.int zb), .val (.int zc), .val (.int zd), .val (.ref b_128), .unset, .unset, .unset, .unset, .unset, .unset]) rfl k_) ?_
          refine own_st (S' := T_128.setTop (mkF m 75 #[.val (.int p0), .val (.int p1), .val (.int p2), .val (.int p3), .val (.int (2 : Int32)), .val (.int v_1), .val (.int v_2), .val (.int zb), .val (.int zc), .val (.int zd), .val (.ref b_128), .unset, .unset, .unset, .unset, .unset, .unset] [(.int (2 : Int32))])) (fun t_ k_ => XS.iload X_128.here hx rfl (hb hby at_73) rfl k_) ?_
          refine own_st (S' := T_128.setTop (mkF m 78 #[.val (.int p0), .val (.int p1), .val (.int p2), .val (.int p3), .val (.int (2 : Int32)), .val (.int v_1), .val (.int v_2), .val (.int zb), .val (.int zc), .val (.int zd), .val (.ref b_128), .unset, .unset, .unset, .unset, .unset, .unset] [])) (fun t_ k_ => XS.ifNo X_128.here hx rfl (hb hby at_75) rfl ((if0 _ _).trans (tlt (by decide : (0 : Int32) < (2 : Int32))).2.2.2) k_) ?_
          refine own_st (S' := T_128.setTop (mkF m 80 #[.val (.int p0), .val (.int p1), .val (.int p2), .val (.int p3), .val (.int (2 : Int32)), .val (.int v_1), .val (.int v_2), .val (.int zb), .val (.int zc), .val (.int zd), .val (.ref b_128), .unset, .unset, .unset, .unset, .unset, .unset] [(.ref b_128)])) (fun t_ k_ => XS.aload X_128.here hx rfl (hb hby at_78) rfl rfl k_) ?_
          refine own_st (S' := T_128.setTop (mkF m 81 #[.val (.int p0), .val (.int p1), .val (.int p2), .val (.int p3), .val (.int (2 : Int32)), .val (.int v_1), .val (.int v_2), .val (.int zb), .val (.int zc), .val (.int zd), .val (.ref b_128), .unset, .unset, .unset, .unset, .unset, .unset] [(.int (0 : Int32)), (.ref b_128)])) (fun t_ k_ => XS.iconst X_128.here hx rfl (hb hby at_80) k_) ?_
          refine own_st (S' := T_128.setTop (mkF m 82 #[.val (.int p0), .val (.int p1), .val (.int p2), .val (.int p3), .val (.int (2 : Int32)), .val (.int v_1), .val (.int v_2), .val (.int zb), .val (.int zc), .val (.int zd), .val (.ref b_128), .unset, .unset, .unset, .unset, .unset, .unset] [(.int p0), (.int (0 : Int32)), (.ref b_128)])) (fun t_ k_ => XS.iloadN X_128.here hx rfl (hb hby at_81) rfl k_) ?_
          refine own_st (S' := T_128.setTop (mkF m 85 #[.val (.int p0), .val (.int p1), .val (.int p2), .val (.int p3), .val (.int (2 : Int32)), .val (.int v_1), .val (.int v_2), .val (.int zb), .val (.int zc), .val (.int zd), .val (.ref b_128), .unset, .unset, .unset, .unset, .unset, .unset] [(.int (255 : Int32)), (.int p0), (.int (0 : Int32)), (.ref b_128)])) (fun t_ k_ => XS.sipush X_128.here hx rfl (hb hby at_82) k_) ?_
          refine own_st (S' := T_128.setTop (mkF m 86 #[.val (.int p0), .val (.int p1), .val (.int p2), .val (.int p3), .val (.int (2 : Int32)), .val (.int v_1), .val (.int v_2), .val (.int zb), .val (.int zc), .val (.int zd), .val (.ref b_128), .unset, .unset, .unset, .unset, .unset, .unset] [(.int (p0 &&& (255 : Int32))), (.int (0 : Int32)), (.ref b_128)])) (fun t_ k_ => XS.iand X_128.here hx rfl (hb hby at_85) rfl k_) ?_
          refine own_st (S' := T_128.setTop (mkF m 87 #[.val (.int p0), .val (.int p1), .val (.int p2), .val (.int p3), .val (.int (2 : Int32)), .val (.int v_1), .val (.int v_2), .val (.int zb), .val (.int zc), .val (.int zd), .val (.ref b_128), .unset, .unset, .unset, .unset, .unset, .unset] [(.int ((p0 &&& (255 : Int32)).toUInt32.toUInt16.toUInt32.toInt32)), (.int (0 : Int32)), (.ref b_128)])) (fun t_ k_ => XS.i2c X_128.here hx rfl (hb hby at_86) rfl k_) ?_
          obtain ⟨cl_129, Ar_129, q_129, S_129, M_129, H_129, G_129⟩ := id V_128
          have hin_129 : ¬ ((0 : Int32) < 0 ∨ cl_129.slots.size ≤ ((0 : Int32)).toNatClampNeg) := inb_of S_129 ⟨by decide, by decide⟩
          obtain ⟨T_129, h_129, X_129, e_129, W_129, st_129⟩ := stC X_128 hx hZ e_128 Ar_129 (j := (0 : Int32)) hin_129 (g := (mkF m 87 #[.val (.int p0), .val (.int p1), .val (.int p2), .val (.int p3), .val (.int (2 : Int32)), .val (.int v_1), .val (.int v_2), .val (.int zb), .val (.int zc), .val (.int zd), .val (.ref b_128), .unset, .unset, .unset, .unset, .unset, .unset] [(.int ((p0 &&& (255 : Int32)).toUInt32.toUInt16.toUInt32.toInt32)), (.int (0 : Int32)), (.ref b_128)])) rfl rfl (hb hby at_87)
          have Z_129 : n0 ≤ h_129.size := Nat.le_trans Z_128 (Keep.of_wr W_129).1
          have N_129 := Fr.snoc X_129 N0 g_b_128
          have V_129 : Arv Z h_129 b_128 k_128 .char (2 : Int32) [(.int (nar .char ((p0 &&& (255 : Int32)).toUInt32.toUInt16.toUInt32.toInt32))), (.int (0 : Int32))] (.int (0 : Int32)) := Arv.set Ar_129 q_129 S_129 M_129 H_129 G_129 (fits_nar_char _) W_129 0 rfl (Nat.le_of_ble_eq_true rfl)
          refine own_st (S' := T_129.setTop (mkF m 88 #[.val (.int p0), .val (.int p1), .val (.int p2), .val (.int p3), .val (.int (2 : Int32)), .val (.int v_1), .val (.int v_2), .val (.int zb), .val (.int zc), .val (.int zd), .val (.ref b_128), .unset, .unset, .unset, .unset, .unset, .unset] [])) st_129 ?_
          refine own_st (S' := T_129.setTop (mkF m 90 #[.val (.int p0), .val (.int p1), .val (.int p2), .val (.int p3), .val (.int (2 : Int32)), .val (.int v_1), .val (.int v_2), .val (.int zb), .val (.int zc), .val (.int zd), .val (.ref b_128), .unset, .unset, .unset, .unset, .unset, .unset] [(.int (2 : Int32))])) (fun t_ k_ => XS.iload X_129.here hx rfl (hb hby at_88) rfl k_) ?_
          refine own_st (S' := T_129.setTop (mkF m 91 #[.val (.int p0), .val (.int p1), .val (.int p2), .val (.int p3), .val (.int (2 : Int32)), .val (.int v_1), .val (.int v_2), .val (.int zb), .val (.int zc), .val (.int zd), .val (.ref b_128), .unset, .unset, .unset, .unset, .unset, .unset] [(.int (1 : Int32)), (.int (2 : Int32))])) (fun t_ k_ => XS.iconst X_129.here hx rfl (hb hby at_90) k_) ?_
          refine own_st (S' := T_129.setTop (mkF m 94 #[.val (.int p0), .val (.int p1), .val (.int p2), .val (.int p3), .val (.int (2 : Int32)), .val (.int v_1), .val (.int v_2), .val (.int zb), .val (.int zc), .val (.int zd), .val (.ref b_128), .unset, .unset, .unset, .unset, .unset, .unset] [])) (fun t_ k_ => XS.icmpNo X_129.here hx rfl (hb hby at_91) rfl (tlt (by decide : (1 : Int32) < (2 : Int32))).2.2.2 k_) ?_
          refine own_st (S' := T_129.setTop (mkF m 96 #[.val (.int p0), .val (.int p1), .val (.int p2), .val (.int p3), .val (.int (2 : Int32)), .val (.int v_1), .val (.int v_2), .val (.int zb), .val (.int zc), .val (.int zd), .val (.ref b_128), .unset, .unset, .unset, .unset, .unset, .unset] [(.ref b_128)])) (fun t_ k_ => XS.aload X_129.here hx rfl (hb hby at_94) rfl rfl k_) ?_
          refine own_st (S' := T_129.setTop (mkF m 97 #[.val (.int p0), .val (.int p1), .val (.int p2), .val (.int p3), .val (.int (2 : Int32)), .val (.int v_1), .val (.int v_2), .val (.int zb), .val (.int zc), .val (.int zd), .val (.ref b_128), .unset, .unset, .unset, .unset, .unset, .unset] [(.int (1 : Int32)), (.ref b_128)])) (fun t_ k_ => XS.iconst X_129.here hx rfl (hb hby at_96) k_) ?_
          refine own_st (S' := T_129.setTop (mkF m 98 #[.val (.int p0), .val (.int p1), .val (.int p2), .val (.int p3), .val (.int (2 : Int32)), .val (.int v_1), .val (.int v_2), .val (.int zb), .val (.int zc), .val (.int zd), .val (.ref b_128), .unset, .unset, .unset, .unset, .unset, .unset] [(.int p0), (.int (1 : Int32)), (.ref b_128)])) (fun t_ k_ => XS.iloadN X_129.here hx rfl (hb hby at_97) rfl k_) ?_
          refine own_st (S' := T_129.setTop (mkF m 100 #[.val (.int p0), .val (.int p1), .val (.int p2), .val (.int p3), .val (.int (2 : Int32)), .val (.int v_1), .val (.int v_2), .val (.int zb), .val (.int zc), .val (.int zd), .val (.ref b_128), .unset, .unset, .unset, .unset, .unset, .unset] [(.int (8 : Int32)), (.int p0), (.int (1 : Int32)), (.ref b_128)])) (fun t_ k_ => XS.bipush X_129.here hx rfl (hb hby at_98) k_) ?_
          refine own_st (S' := T_129.setTop (mkF m 101 #[.val (.int p0), .val (.int p1), .val (.int p2), .val (.int p3), .val (.int (2 : Int32)), .val (.int v_1), .val (.int v_2), .val (.int zb), .val (.int zc), .val (.int zd), .val (.ref b_128), .unset, .unset, .unset, .unset, .unset, .unset] [(.int ((p0.toUInt32 >>> ((8 : Int32) &&& 31).toUInt32).toInt32)), (.int (1 : Int32)), (.ref b_128)])) (fun t_ k_ => XS.iushr X_129.here hx rfl (hb hby at_100) rfl k_) ?_
          refine own_st (S' := T_129.setTop (mkF m 104 #[.val (.int p0), .val (.int p1), .val (.int p2), .val (.int p3), .val (.int (2 : Int32)), .val (.int v_1), .val (.int v_2), .val (.int zb), .val (.int zc), .val (.int zd), .val (.ref b_128), .unset, .unset, .unset, .unset, .unset, .unset] [(.int (255 : Int32)), (.int ((p0.toUInt32 >>> ((8 : Int32) &&& 31).toUInt32).toInt32)), (.int (1 : Int32)), (.ref b_128)])) (fun t_ k_ => XS.sipush X_129.here hx rfl (hb hby at_101) k_) ?_
          refine own_st (S' := T_129.setTop (mkF m 105 #[.val (.int p0), .val (.int p1), .val (.int p2), .val (.int p3), .val (.int (2 : Int32)), .val (.int v_1), .val (.int v_2), .val (.int zb), .val (.int zc), .val (.int zd), .val (.ref b_128), .unset, .unset, .unset, .unset, .unset, .unset] [(.int (((p0.toUInt32 >>> ((8 : Int32) &&& 31).toUInt32).toInt32) &&& (255 : Int32))), (.int (1 : Int32)), (.ref b_128)])) (fun t_ k_ => XS.iand X_129.here hx rfl (hb hby at_104) rfl k_) ?_
          refine own_st (S' := T_129.setTop (mkF m 106 #[.val (.int p0), .val (.int p1), .val (.int p2), .val (.int p3), .val (.int (2 : Int32)), .val (.int v_1), .val (.int v_2), .val (.int zb), .val (.int zc), .val (.int zd), .val (.ref b_128), .unset, .unset, .unset, .unset, .unset, .unset] [(.int ((((p0.toUInt32 >>> ((8 : Int32) &&& 31).toUInt32).toInt32) &&& (255 : Int32)).toUInt32.toUInt16.toUInt32.toInt32)), (.int (1 : Int32)), (.ref b_128)])) (fun t_ k_ => XS.i2c X_129.here hx rfl (hb hby at_105) rfl k_) ?_
          obtain ⟨cl_130, Ar_130, q_130, S_130, M_130, H_130, G_130⟩ := id V_129
          have hin_130 : ¬ ((1 : Int32) < 0 ∨ cl_130.slots.size ≤ ((1 : Int32)).toNatClampNeg) := inb_of S_130 ⟨by decide, by decide⟩
          obtain ⟨T_130, h_130, X_130, e_130, W_130, st_130⟩ := stC X_129 hx hZ e_129 Ar_130 (j := (1 : Int32)) hin_130 (g := (mkF m 106 #[.val (.int p0), .val (.int p1), .val (.int p2), .val (.int p3), .val (.int (2 : Int32)), .val (.int v_1), .val (.int v_2), .val (.int zb), .val (.int zc), .val (.int zd), .val (.ref b_128), .unset, .unset, .unset, .unset, .unset, .unset] [(.int ((((p0.toUInt32 >>> ((8 : Int32) &&& 31).toUInt32).toInt32) &&& (255 : Int32)).toUInt32.toUInt16.toUInt32.toInt32)), (.int (1 : Int32)), (.ref b_128)])) rfl rfl (hb hby at_106)
          have Z_130 : n0 ≤ h_130.size := Nat.le_trans Z_129 (Keep.of_wr W_130).1
          have N_130 := Fr.snoc X_130 N_129 g_b_128
          have V_130 : Arv Z h_130 b_128 k_128 .char (2 : Int32) [(.int (nar .char ((p0 &&& (255 : Int32)).toUInt32.toUInt16.toUInt32.toInt32))), (.int (nar .char ((((p0.toUInt32 >>> ((8 : Int32) &&& 31).toUInt32).toInt32) &&& (255 : Int32)).toUInt32.toUInt16.toUInt32.toInt32)))] (.int (0 : Int32)) := Arv.set Ar_130 q_130 S_130 M_130 H_130 G_130 (fits_nar_char _) W_130 1 rfl (Nat.le_of_ble_eq_true rfl)
          refine own_st (S' := T_130.setTop (mkF m 107 #[.val (.int p0), .val (.int p1), .val (.int p2), .val (.int p3), .val (.int (2 : Int32)), .val (.int v_1), .val (.int v_2), .val (.int zb), .val (.int zc), .val (.int zd), .val (.ref b_128), .unset, .unset, .unset, .unset, .unset, .unset] [])) st_130 ?_
          refine own_st (S' := T_130.setTop (mkF m 109 #[.val (.int p0), .val (.int p1), .val (.int p2), .val (.int p3), .val (.int (2 : Int32)), .val (.int v_1), .val (.int v_2), .val (.int zb), .val (.int zc), .val (.int zd), .val (.ref b_128), .unset, .unset, .unset, .unset, .unset, .unset] [(.int (2 : Int32))])) (fun t_ k_ => XS.iload X_130.here hx rfl (hb hby at_107) rfl k_) ?_
          refine own_st (S' := T_130.setTop (mkF m 110 #[.val (.int p0), .val (.int p1), .val (.int p2), .val (.int p3), .val (.int (2 : Int32)), .val (.int v_1), .val (.int v_2), .val (.int zb), .val (.int zc), .val (.int zd), .val (.ref b_128), .unset, .unset, .unset, .unset, .unset, .unset] [(.int (2 : Int32)), (.int (2 : Int32))])) (fun t_ k_ => XS.iconst X_130.here hx rfl (hb hby at_109) k_) ?_
          refine own_st (S' := T_130.setTop (mkF m 126 #[.val (.int p0), .val (.int p1), .val (.int p2), .val (.int p3), .val (.int (2 : Int32)), .val (.int v_1), .val (.int v_2), .val (.int zb), .val (.int zc), .val (.int zd), .val (.ref b_128), .unset, .unset, .unset, .unset, .unset, .unset] [])) (fun t_ k_ => XS.icmpYes X_130.here hx rfl (pc0 := 110) (pc' := 126) rfl (hb hby at_110) rfl (flt (by decide : ¬ ((2 : Int32) < (2 : Int32)))).2.2.2 (by decide) (by decide) k_) ?_
          obtain ⟨T_131, h_131, X_131, e_131, E_131, A_131, D_131, -, st_131⟩ := newO X_130 hx hZ hown (hw _ (List.mem_of_getElem? (i := 1) rfl)) (hw _ (List.mem_of_getElem? (i := 2) rfl)) (hw _ (List.mem_of_getElem? (i := 3) rfl)) e_130 (g := (mkF m 126 #[.val (.int p0), .val (.int p1), .val (.int p2), .val (.int p3), .val (.int (2 : Int32)), .val (.int v_1), .val (.int v_2), .val (.int zb), .val (.int zc), .val (.int zd), .val (.ref b_128), .unset, .unset, .unset, .unset, .unset, .unset] [])) rfl (hb hby at_126) (by decide) (by decide)
          obtain ⟨b_131, gg_131⟩ : ∃ z, z = h_130.size := ⟨_, rfl⟩
          rw [← gg_131] at A_131 D_131 st_131
          have ne_b_128_b_131 : b_128 ≠ b_131 := Nat.ne_of_lt (Nat.lt_of_lt_of_le V_130.lt (Nat.le_of_eq gg_131.symm))
          have g_b_131 : n0 ≤ b_131 := Nat.le_trans Z_130 (Nat.le_of_eq gg_131.symm)
          have Z_131 : n0 ≤ h_131.size := Nat.le_trans Z_130 E_131.1
          have F_131_coder : Fld Z h_131 b_131 "java/lang/String" "coder" "B" (.int (0 : Int32)) := D_131 (Or.inr (hw _ (List.mem_of_getElem? (i := 27) rfl))) (ty := .byte) (by decide)
          have F_131_value : Fld Z h_131 b_131 "java/lang/String" "value" "[B" .null := D_131 (Or.inr (hw _ (List.mem_of_getElem? (i := 29) rfl))) (ty := (.array .byte)) (by decide)
          refine own_st (S' := T_131.setTop (mkF m 129 #[.val (.int p0), .val (.int p1), .val (.int p2), .val (.int p3), .val (.int (2 : Int32)), .val (.int v_1), .val (.int v_2), .val (.int zb), .val (.int zc), .val (.int zd), .val (.ref b_128), .unset, .unset, .unset, .unset, .unset, .unset] [(.ref b_131)])) st_131 ?_
          refine own_st (S' := T_131.setTop (mkF m 130 #[.val (.int p0), .val (.int p1), .val (.int p2), .val (.int p3), .val (.int (2 : Int32)), .val (.int v_1), .val (.int v_2), .val (.int zb), .val (.int zc), .val (.int zd), .val (.ref b_128), .unset, .unset, .unset, .unset, .unset, .unset] [(.ref b_131), (.ref b_131)])) (fun t_ k_ => XS.dup X_131.here hx rfl (hb hby at_129) rfl rfl k_) ?_
          refine own_st (S' := T_131.setTop (mkF m 132 #[.val (.int p0), .val (.int p1), .val (.int p2), .val (.int p3), .val (.int (2 : Int32)), .val (.int v_1), .val (.int v_2), .val (.int zb), .val (.int zc), .val (.int zd), .val (.ref b_128), .unset, .unset, .unset, .unset, .unset, .unset] [(.ref b_128), (.ref b_131), (.ref b_131)])) (fun t_ k_ => XS.aload X_131.here hx rfl (hb hby at_130) rfl rfl k_) ?_
          have f_132 : Arv Z h_131 b_128 k_128 .char (2 : Int32) [(.int (nar .char ((p0 &&& (255 : Int32)).toUInt32.toUInt16.toUInt32.toInt32))), (.int (nar .char ((((p0.toUInt32 >>> ((8 : Int32) &&& 31).toUInt32).toInt32) &&& (255 : Int32)).toUInt32.toUInt16.toUInt32.toInt32)))] (.int (0 : Int32)) := (V_130.ext E_131)
          have f_134 : Old Z n0 h_131 := ((((O0.ext E_128).wr W_129 g_b_128).wr W_130 g_b_128).ext E_131)
          have f_133 : Sta Z h_131 "java/lang/String" "COMPACT_STRINGS" "Z" (.int cz) := Sta.ext f_134.2 Y0
          have hws_135 : ∀ d ∈ StrChars.Road.words, d.before a0 Z = true := fun d hd => hw d ((by decide +kernel : ∀ d ∈ StrChars.Road.words, d ∈ tables_1) d hd)
          have hp_135 : ∀ c ∈ ([(nar .char ((p0 &&& (255 : Int32)).toUInt32.toUInt16.toUInt32.toInt32)), (nar .char ((((p0.toUInt32 >>> ((8 : Int32) &&& 31).toUInt32).toInt32) &&& (255 : Int32)).toUInt32.toUInt16.toUInt32.toInt32))] : List Int32), ¬ c < 0 ∧ ¬ (255 : Int32) < c := by
              intro c hc
              simp only [List.mem_cons, List.not_mem_nil, or_false] at hc
              rcases hc with rfl | rfl
              · exact own_ch _
              · exact own_ch _
          obtain ⟨_, _, ⟨T_135, L_135, k_135, n_135⟩, -, X_135, ⟨Lc_135, hQ_135, l_135, y_135, z_135⟩, st_135⟩ := X_131.specialBack hx (y := (⟨"java/lang/String", "<init>", "([C)V"⟩ : MethodName)) rfl hown (mvT hZ (hw _ (List.mem_of_getElem? (i := 4) rfl))) (mvT hZ (hw _ (List.mem_of_getElem? (i := 5) rfl))) (mvT hZ (hw _ (List.mem_of_getElem? (i := 6) rfl))) (by decide) (StrChars.Road.backV (W := 1) hZ hws_135 (kI := 4) (hw _ (List.mem_of_getElem? (i := 2) rfl)) (cs := ([(nar .char ((p0 &&& (255 : Int32)).toUInt32.toUInt16.toUInt32.toInt32)), (nar .char ((((p0.toUInt32 >>> ((8 : Int32) &&& 31).toUInt32).toInt32) &&& (255 : Int32)).toUInt32.toUInt16.toUInt32.toInt32))] : List Int32)) (bs := ([(nar .char ((p0 &&& (255 : Int32)).toUInt32.toUInt16.toUInt32.toInt32)), (nar .char ((((p0.toUInt32 >>> ((8 : Int32) &&& 31).toUInt32).toInt32) &&& (255 : Int32)).toUInt32.toUInt16.toUInt32.toInt32))] : List Int32).map (fun c => c.toInt8.toInt32)) (n := 2) g_b_131 Z_131 A_131 F_131_value F_131_coder f_132 f_133 hcz rfl rfl (by decide) (by decide) hp_135 rfl (by decide) (by decide)) (g := (mkF m 132 #[.val (.int p0), .val (.int p1), .val (.int p2), .val (.int p3), .val (.int (2 : Int32)), .val (.int v_1), .val (.int v_2), .val (.int zb), .val (.int zc), .val (.int zd), .val (.ref b_128), .unset, .unset, .unset, .unset, .unset, .unset] [(.ref b_128), (.ref b_131), (.ref b_131)])) rfl (by rw [hml]; rfl) (Steps.refl _) (a := b_131) (argsL := [(.ref b_128)]) (rest := [(.ref b_131)]) (lenOf pd_6 rfl) rfl (by show 2 * 0 + _ ≤ _; exact Nat.le_of_eq rfl) (hb hby at_132) (fun _ _ => ⟨rfl, e_131, (by decide : 2 + 1 ≤ _), (by decide : 6 + 2 ≤ _)⟩)
          dsimp only [Pt.U, Pt.locs, Pt.cells, Pt.slots] at X_135 l_135 y_135 z_135 st_135 hQ_135
          subst l_135 y_135 z_135
          obtain ⟨rfl, M_135, K_135c, A_135, C_135, t_135, kb_135, u_135, uz_135, uv_135, F_135, V_135⟩ := hQ_135
          have N_135 := Fr.app N_130 M_135
          have ne_b_128_t_135 : b_128 ≠ t_135 := Nat.ne_of_lt (Nat.lt_of_lt_of_le f_132.lt uz_135)
          have ne_b_131_t_135 : b_131 ≠ t_135 := fun q => uv_135 q.symm
          have Z_135 : n0 ≤ T_135.heap.size := Nat.le_trans Z_131 K_135c.1
          refine own_st (S' := T_135.setTop (mkF m 135 #[.val (.int p0), .val (.int p1), .val (.int p2), .val (.int p3), .val (.int (2 : Int32)), .val (.int v_1), .val (.int v_2), .val (.int zb), .val (.int zc), .val (.int zd), .val (.ref b_128), .unset, .unset, .unset, .unset, .unset, .unset] [(.ref b_131)])) (fun t_ k_ => st_135.trans k_) ?_
          refine own_st (S' := T_135.setTop (mkF m 137 #[.val (.int p0), .val (.int p1), .val (.int p2), .val (.int p3), .val (.int (2 : Int32)), .val (.int v_1), .val (.int v_2), .val (.int zb), .val (.int zc), .val (.int zd), .val (.ref b_128), .val (.ref b_131), .unset, .unset, .unset, .unset, .unset] [])) (fun t_ k_ => XS.astore X_135.here hx rfl (hb hby at_135) rfl rfl (l' := #[.val (.int p0), .val (.int p1), .val (.int p2), .val (.int p3), .val (.int (2 : Int32)), .val (.int v_1), .val (.int v_2), .val (.int zb), .val (.int zc), .val (.int zd), .val (.ref b_128), .val (.ref b_131), .unset, .unset, .unset, .unset, .unset]) rfl k_) ?_
          refine own_st (S' := T_135.setTop (mkF m 139 #[.val (.int p0), .val (.int p1), .val (.int p2), .val (.int p3), .val (.int (2 : Int32)), .val (.int v_1), .val (.int v_2), .val (.int zb), .val (.int zc), .val (.int zd), .val (.ref b_128), .val (.ref b_131), .unset, .unset, .unset, .unset, .unset] [(.int v_1)])) (fun t_ k_ => XS.iload X_135.here hx rfl (hb hby at_137) rfl k_) ?_
          refine own_st (S' := T_135.setTop (mkF m 140 #[.val (.int p0), .val (.int p1), .val (.int p2), .val (.int p3), .val (.int (2 : Int32)), .val (.int v_1), .val (.int v_2), .val (.int zb), .val (.int zc), .val (.int zd), .val (.ref b_128), .val (.ref b_131), .unset, .unset, .unset, .unset, .unset] [(.int p1), (.int v_1)])) (fun t_ k_ => XS.iloadN X_135.here hx rfl (hb hby at_139) rfl k_) ?_
          have f_136 : Arv Z T_135.heap b_128 k_128 .char (2 : Int32) [(.int (nar .char ((p0 &&& (255 : Int32)).toUInt32.toUInt16.toUInt32.toInt32))), (.int (nar .char ((((p0.toUInt32 >>> ((8 : Int32) &&& 31).toUInt32).toInt32) &&& (255 : Int32)).toUInt32.toUInt16.toUInt32.toInt32)))] (.int (0 : Int32)) := (f_132.keep K_135c (ninS ne_b_128_b_131 nin0))
          obtain ⟨_, _, ⟨T_137, L_137, k_137, n_137⟩, -, X_137, ⟨Lc_137, hQ_137, l_137, y_137, z_137⟩, st_137⟩ := Jvm.LawKit.callS X_135 hx (y := (⟨"com/example/westmount/westmount/RowRangeFirstPinLaw", "bytes", "(II)[B"⟩ : MethodName)) hown (mvT hZ (hw _ (List.mem_of_getElem? (i := 30) rfl))) (mvT hZ (hw _ (List.mem_of_getElem? (i := 31) rfl))) (mvT hZ (hw _ (List.mem_of_getElem? (i := 32) rfl))) (mvT hZ (hw _ (List.mem_of_getElem? (i := 33) rfl))) (by decide) (backOf (W := 0) (rm3 l Z a0 hw [] v_1 p1 T_135.heap n0 Z_135 (hv_1 ▸ own_four _)) hZ (hw _ (List.mem_of_getElem? (i := 33) rfl)) (hw _ (List.mem_of_getElem? (i := 32) rfl)) (by decide) (by decide)) (g := (mkF m 140 #[.val (.int p0), .val (.int p1), .val (.int p2), .val (.int p3), .val (.int (2 : Int32)), .val (.int v_1), .val (.int v_2), .val (.int zb), .val (.int zc), .val (.int zd), .val (.ref b_128), .val (.ref b_131), .unset, .unset, .unset, .unset, .unset] [(.int p1), (.int v_1)])) rfl (by rw [hml]; rfl) (argsL := [(.int v_1), (.int p1)]) (rest := []) (lenOf pd_7 rfl) rfl (by show 2 * 0 + _ ≤ _; exact Nat.le_of_eq rfl) (hb hby at_140) (fun _ _ => ⟨rfl, rfl, (by decide : 3 + 1 ≤ _), (by decide : 8 + 3 ≤ _)⟩)
          dsimp only [Pt.U, Pt.locs, Pt.cells, Pt.slots] at X_137 l_137 y_137 z_137 st_137 hQ_137
          subst l_137 y_137 z_137
          obtain ⟨x_137_b, x_137_k, rfl, M_137, K_137c, z_137_0, c_137_0⟩ := hQ_137
          have N_137 := Fr.app N_135 M_137
          have ne_b_128_x_137_b : b_128 ≠ x_137_b := Nat.ne_of_lt (Nat.lt_of_lt_of_le f_136.lt z_137_0)
          have ne_b_131_x_137_b : b_131 ≠ x_137_b := Nat.ne_of_lt (Nat.lt_of_lt_of_le A_135.lt z_137_0)
          have ne_t_135_x_137_b : t_135 ≠ x_137_b := Nat.ne_of_lt (Nat.lt_of_lt_of_le V_135.lt z_137_0)
          have g_x_137_b : n0 ≤ x_137_b := Nat.le_trans Z_135 z_137_0
          have Z_137 : n0 ≤ T_137.heap.size := Nat.le_trans Z_135 K_137c.1
          refine own_st (S' := T_137.setTop (mkF m 143 #[.val (.int p0), .val (.int p1), .val (.int p2), .val (.int p3), .val (.int (2 : Int32)), .val (.int v_1), .val (.int v_2), .val (.int zb), .val (.int zc), .val (.int zd), .val (.ref b_128), .val (.ref b_131), .unset, .unset, .unset, .unset, .unset] [(.ref x_137_b)])) st_137 ?_
          refine own_st (S' := T_137.setTop (mkF m 145 #[.val (.int p0), .val (.int p1), .val (.int p2), .val (.int p3), .val (.int (2 : Int32)), .val (.int v_1), .val (.int v_2), .val (.int zb), .val (.int zc), .val (.int zd), .val (.ref b_128), .val (.ref b_131), .val (.ref x_137_b), .unset, .unset, .unset, .unset] [])) (fun t_ k_ => XS.astore X_137.here hx rfl (hb hby at_143) rfl rfl (l' := #[.val (.int p0), .val (.int p1), .val (.int p2), .val (.int p3), .val (.int (2 : Int32)), .val (.int v_1), .val (.int v_2), .val (.int zb), .val (.int zc), .val (.int zd), .val (.ref b_128), .val (.ref b_131), .val (.ref x_137_b), .unset, .unset, .unset, .unset]) rfl k_) ?_
          refine own_st (S' := T_137.setTop (mkF m 147 #[.val (.int p0), .val (.int p1), .val (.int p2), .val (.int p3), .val (.int (2 : Int32)), .val (.int v_1), .val (.int v_2), .val (.int zb), .val (.int zc), .val (.int zd), .val (.ref b_128), .val (.ref b_131), .val (.ref x_137_b), .unset, .unset, .unset, .unset] [(.int zd)])) (fun t_ k_ => XS.iload X_137.here hx rfl (hb hby at_145) rfl k_) ?_
          by_cases hc147 : zd = (0 : Int32)
          · refine own_st (S' := T_137.setTop (mkF m 159 #[.val (.int p0), .val (.int p1), .val (.int p2), .val (.int p3), .val (.int (2 : Int32)), .val (.int v_1), .val (.int v_2), .val (.int zb), .val (.int zc), .val (.int zd), .val (.ref b_128), .val (.ref b_131), .val (.ref x_137_b), .unset, .unset, .unset, .unset] [])) (fun t_ k_ => XS.ifYes X_137.here hx rfl (pc0 := 147) (pc' := 159) rfl (hb hby at_147) rfl ((if0 _ _).trans (teq hc147).1) (by decide) (by decide) k_) ?_
            refine own_st (S' := T_137.setTop (mkF m 161 #[.val (.int p0), .val (.int p1), .val (.int p2), .val (.int p3), .val (.int (2 : Int32)), .val (.int v_1), .val (.int v_2), .val (.int zb), .val (.int zc), .val (.int zd), .val (.ref b_128), .val (.ref b_131), .val (.ref x_137_b), .unset, .unset, .unset, .unset] [(.int v_2)])) (fun t_ k_ => XS.iload X_137.here hx rfl (hb hby at_159) rfl k_) ?_
            refine own_st (S' := T_137.setTop (mkF m 162 #[.val (.int p0), .val (.int p1), .val (.int p2), .val (.int p3), .val (.int (2 : Int32)), .val (.int v_1), .val (.int v_2), .val (.int zb), .val (.int zc), .val (.int zd), .val (.ref b_128), .val (.ref b_131), .val (.ref x_137_b), .unset, .unset, .unset, .unset] [(.int p2), (.int v_2)])) (fun t_ k_ => XS.iloadN X_137.here hx rfl (hb hby at_161) rfl k_) ?_
            have f_138 : Arv Z T_137.heap b_128 k_128 .char (2 : Int32) [(.int (nar .char ((p0 &&& (255 : Int32)).toUInt32.toUInt16.toUInt32.toInt32))), (.int (nar .char ((((p0.toUInt32 >>> ((8 : Int32) &&& 31).toUInt32).toInt32) &&& (255 : Int32)).toUInt32.toUInt16.toUInt32.toInt32)))] (.int (0 : Int32)) := (f_136.keep K_137c nin0)
            have f_139 : Exa Z T_137.heap b_131 "java/lang/String" := (A_135.keep K_137c)
            have f_140 : Arv Z T_137.heap t_135 kb_135 .byte (2 : Int32) ((([(nar .char ((p0 &&& (255 : Int32)).toUInt32.toUInt16.toUInt32.toInt32)), (nar .char ((((p0.toUInt32 >>> ((8 : Int32) &&& 31).toUInt32).toInt32) &&& (255 : Int32)).toUInt32.toUInt16.toUInt32.toInt32))] : List Int32).map (fun c => c.toInt8.toInt32)).map Value.int) (.int 0) := (V_135.keep K_137c nin0)
            obtain ⟨_, _, ⟨T_141, L_141, k_141, n_141⟩, -, X_141, ⟨Lc_141, hQ_141, l_141, y_141, z_141⟩, st_141⟩ := Jvm.LawKit.callS X_137 hx (y := (⟨"com/example/westmount/westmount/RowRangeFirstPinLaw", "bytes", "(II)[B"⟩ : MethodName)) hown (mvT hZ (hw _ (List.mem_of_getElem? (i := 30) rfl))) (mvT hZ (hw _ (List.mem_of_getElem? (i := 31) rfl))) (mvT hZ (hw _ (List.mem_of_getElem? (i := 32) rfl))) (mvT hZ (hw _ (List.mem_of_getElem? (i := 33) rfl))) (by decide) (backOf (W := 0) (rm3 l Z a0 hw [] v_2 p2 T_137.heap n0 Z_137 (hv_2 ▸ own_four _)) hZ (hw _ (List.mem_of_getElem? (i := 33) rfl)) (hw _ (List.mem_of_getElem? (i := 32) rfl)) (by decide) (by decide)) (g := (mkF m 162 #[.val (.int p0), .val (.int p1), .val (.int p2), .val (.int p3), .val (.int (2 : Int32)), .val (.int v_1), .val (.int v_2), .val (.int zb), .val (.int zc), .val (.int zd), .val (.ref b_128), .val (.ref b_131), .val (.ref x_137_b), .unset, .unset, .unset, .unset] [(.int p2), (.int v_2)])) rfl (by rw [hml]; rfl) (argsL := [(.int v_2), (.int p2)]) (rest := []) (lenOf pd_7 rfl) rfl (by show 2 * 0 + _ ≤ _; exact Nat.le_of_eq rfl) (hb hby at_162) (fun _ _ => ⟨rfl, rfl, (by decide : 4 + 1 ≤ _), (by decide : 11 + 3 ≤ _)⟩)
            dsimp only [Pt.U, Pt.locs, Pt.cells, Pt.slots] at X_141 l_141 y_141 z_141 st_141 hQ_141
            subst l_141 y_141 z_141
            obtain ⟨x_141_b, x_141_k, rfl, M_141, K_141c, z_141_0, c_141_0⟩ := hQ_141
            have N_141 := Fr.app N_137 M_141
            have ne_b_128_x_141_b : b_128 ≠ x_141_b := Nat.ne_of_lt (Nat.lt_of_lt_of_le f_138.lt z_141_0)
            have ne_b_131_x_141_b : b_131 ≠ x_141_b := Nat.ne_of_lt (Nat.lt_of_lt_of_le f_139.lt z_141_0)
            have ne_t_135_x_141_b : t_135 ≠ x_141_b := Nat.ne_of_lt (Nat.lt_of_lt_of_le f_140.lt z_141_0)
            have ne_x_137_b_x_141_b : x_137_b ≠ x_141_b := Nat.ne_of_lt (Nat.lt_of_lt_of_le c_137_0.lt z_141_0)
            have g_x_141_b : n0 ≤ x_141_b := Nat.le_trans Z_137 z_141_0
            have Z_141 : n0 ≤ T_141.heap.size := Nat.le_trans Z_137 K_141c.1
            refine own_st (S' := T_141.setTop (mkF m 165 #[.val (.int p0), .val (.int p1), .val (.int p2), .val (.int p3), .val (.int (2 : Int32)), .val (.int v_1), .val (.int v_2), .val (.int zb), .val (.int zc), .val (.int zd), .val (.ref b_128), .val (.ref b_131), .val (.ref x_137_b), .unset, .unset, .unset, .unset] [(.ref x_141_b)])) st_141 ?_
            refine own_st (S' := T_141.setTop (mkF m 167 #[.val (.int p0), .val (.int p1), .val (.int p2), .val (.int p3), .val (.int (2 : Int32)), .val (.int v_1), .val (.int v_2), .val (.int zb), .val (.int zc), .val (.int zd), .val (.ref b_128), .val (.ref b_131), .val (.ref x_137_b), .val (.ref x_141_b), .unset, .unset, .unset] [])) (fun t_ k_ => XS.astore X_141.here hx rfl (hb hby at_165) rfl rfl (l' := #[.val (.int p0), .val (.int p1), .val (.int p2), .val (.int p3), .val (.int (2 : Int32)), .val (.int v_1), .val (.int v_2), .val (.int zb), .val (.int zc), .val (.int zd), .val (.ref b_128), .val (.ref b_131), .val (.ref x_137_b), .val (.ref x_141_b), .unset, .unset, .unset]) rfl k_) ?_
            have f_142 : Arv Z T_141.heap b_128 k_128 .char (2 : Int32) [(.int (nar .char ((p0 &&& (255 : Int32)).toUInt32.toUInt16.toUInt32.toInt32))), (.int (nar .char ((((p0.toUInt32 >>> ((8 : Int32) &&& 31).toUInt32).toInt32) &&& (255 : Int32)).toUInt32.toUInt16.toUInt32.toInt32)))] (.int (0 : Int32)) := (f_138.keep K_141c nin0)
            have f_143 : Exa Z T_141.heap b_131 "java/lang/String" := (f_139.keep K_141c)
            have f_144 : Arv Z T_141.heap t_135 kb_135 .byte (2 : Int32) ((([(nar .char ((p0 &&& (255 : Int32)).toUInt32.toUInt16.toUInt32.toInt32)), (nar .char ((((p0.toUInt32 >>> ((8 : Int32) &&& 31).toUInt32).toInt32) &&& (255 : Int32)).toUInt32.toUInt16.toUInt32.toInt32))] : List Int32).map (fun c => c.toInt8.toInt32)).map Value.int) (.int 0) := (f_140.keep K_141c nin0)
            have f_145 : Arv Z T_141.heap x_137_b x_137_k .byte v_1 (own_bs v_1 p1) (.int (0 : Int32)) := (c_137_0.keep K_141c nin0)
            obtain ⟨T_146, h_146, X_146, e_146, E_146, A_146, D_146, -, st_146⟩ := newO X_141 hx hZ hown (hw _ (List.mem_of_getElem? (i := 34) rfl)) (hw _ (List.mem_of_getElem? (i := 35) rfl)) (hw _ (List.mem_of_getElem? (i := 36) rfl)) rfl (g := (mkF m 167 #[.val (.int p0), .val (.int p1), .val (.int p2), .val (.int p3), .val (.int (2 : Int32)), .val (.int v_1), .val (.int v_2), .val (.int zb), .val (.int zc), .val (.int zd), .val (.ref b_128), .val (.ref b_131), .val (.ref x_137_b), .val (.ref x_141_b), .unset, .unset, .unset] [])) rfl (hb hby at_167) (by decide) (by decide)
            obtain ⟨b_146, gg_146⟩ : ∃ z, z = T_141.heap.size := ⟨_, rfl⟩
            rw [← gg_146] at A_146 D_146 st_146
            have ne_b_128_b_146 : b_128 ≠ b_146 := Nat.ne_of_lt (Nat.lt_of_lt_of_le f_142.lt (Nat.le_of_eq gg_146.symm))
            have ne_b_131_b_146 : b_131 ≠ b_146 := Nat.ne_of_lt (Nat.lt_of_lt_of_le f_143.lt (Nat.le_of_eq gg_146.symm))
            have ne_t_135_b_146 : t_135 ≠ b_146 := Nat.ne_of_lt (Nat.lt_of_lt_of_le f_144.lt (Nat.le_of_eq gg_146.symm))
            have ne_x_137_b_b_146 : x_137_b ≠ b_146 := Nat.ne_of_lt (Nat.lt_of_lt_of_le f_145.lt (Nat.le_of_eq gg_146.symm))
            have ne_x_141_b_b_146 : x_141_b ≠ b_146 := Nat.ne_of_lt (Nat.lt_of_lt_of_le c_141_0.lt (Nat.le_of_eq gg_146.symm))
            have g_b_146 : n0 ≤ b_146 := Nat.le_trans Z_141 (Nat.le_of_eq gg_146.symm)
            have Z_146 : n0 ≤ h_146.size := Nat.le_trans Z_141 E_146.1
            have F_146_table : Fld Z h_146 b_146 "com/example/westmount/westmount/RowRange" "table" "Ljava/lang/String;" .null := D_146 (Or.inr (hw _ (List.mem_of_getElem? (i := 47) rfl))) (ty := (.object "java/lang/String")) (by decide)
            have F_146_start : Fld Z h_146 b_146 "com/example/westmount/westmount/RowRange" "start" "[B" .null := D_146 (Or.inr (hw _ (List.mem_of_getElem? (i := 49) rfl))) (ty := (.array .byte)) (by decide)
            have F_146_startIncluded : Fld Z h_146 b_146 "com/example/westmount/westmount/RowRange" "startIncluded" "Z" (.int (0 : Int32)) := D_146 (Or.inr (hw _ (List.mem_of_getElem? (i := 51) rfl))) (ty := .boolean) (by decide)
            have F_146_stop : Fld Z h_146 b_146 "com/example/westmount/westmount/RowRange" "stop" "[B" .null := D_146 (Or.inr (hw _ (List.mem_of_getElem? (i := 53) rfl))) (ty := (.array .byte)) (by decide)
            have F_146_stopIncluded : Fld Z h_146 b_146 "com/example/westmount/westmount/RowRange" "stopIncluded" "Z" (.int (0 : Int32)) := D_146 (Or.inr (hw _ (List.mem_of_getElem? (i := 55) rfl))) (ty := .boolean) (by decide)
            refine own_st (S' := T_146.setTop (mkF m 170 #[.val (.int p0), .val (.int p1), .val (.int p2), .val (.int p3), .val (.int (2 : Int32)), .val (.int v_1), .val (.int v_2), .val (.int zb), .val (.int zc), .val (.int zd), .val (.ref b_128), .val (.ref b_131), .val (.ref x_137_b), .val (.ref x_141_b), .unset, .unset, .unset] [(.ref b_146)])) st_146 ?_
            refine own_st (S' := T_146.setTop (mkF m 171 #[.val (.int p0), .val (.int p1), .val (.int p2), .val (.int p3), .val (.int (2 : Int32)), .val (.int v_1), .val (.int v_2), .val (.int zb), .val (.int zc), .val (.int zd), .val (.ref b_128), .val (.ref b_131), .val (.ref x_137_b), .val (.ref x_141_b), .unset, .unset, .unset] [(.ref b_146), (.ref b_146)])) (fun t_ k_ => XS.dup X_146.here hx rfl (hb hby at_170) rfl rfl k_) ?_
            refine own_st (S' := T_146.setTop (mkF m 173 #[.val (.int p0), .val (.int p1), .val (.int p2), .val (.int p3), .val (.int (2 : Int32)), .val (.int v_1), .val (.int v_2), .val (.int zb), .val (.int zc), .val (.int zd), .val (.ref b_128), .val (.ref b_131), .val (.ref x_137_b), .val (.ref x_141_b), .unset, .unset, .unset] [(.ref b_131), (.ref b_146), (.ref b_146)])) (fun t_ k_ => XS.aload X_146.here hx rfl (hb hby at_171) rfl rfl k_) ?_
            refine own_st (S' := T_146.setTop (mkF m 175 #[.val (.int p0), .val (.int p1), .val (.int p2), .val (.int p3), .val (.int (2 : Int32)), .val (.int v_1), .val (.int v_2), .val (.int zb), .val (.int zc), .val (.int zd), .val (.ref b_128), .val (.ref b_131), .val (.ref x_137_b), .val (.ref x_141_b), .unset, .unset, .unset] [(.ref x_137_b), (.ref b_131), (.ref b_146), (.ref b_146)])) (fun t_ k_ => XS.aload X_146.here hx rfl (hb hby at_173) rfl rfl k_) ?_
            refine own_st (S' := T_146.setTop (mkF m 177 #[.val (.int p0), .val (.int p1), .val (.int p2), .val (.int p3), .val (.int (2 : Int32)), .val (.int v_1), .val (.int v_2), .val (.int zb), .val (.int zc), .val (.int zd), .val (.ref b_128), .val (.ref b_131), .val (.ref x_137_b), .val (.ref x_141_b), .unset, .unset, .unset] [(.int zb), (.ref x_137_b), (.ref b_131), (.ref b_146), (.ref b_146)])) (fun t_ k_ => XS.iload X_146.here hx rfl (hb hby at_175) rfl k_) ?_
            refine own_st (S' := T_146.setTop (mkF m 179 #[.val (.int p0), .val (.int p1), .val (.int p2), .val (.int p3), .val (.int (2 : Int32)), .val (.int v_1), .val (.int v_2), .val (.int zb), .val (.int zc), .val (.int zd), .val (.ref b_128), .val (.ref b_131), .val (.ref x_137_b), .val (.ref x_141_b), .unset, .unset, .unset] [(.ref x_141_b), (.int zb), (.ref x_137_b), (.ref b_131), (.ref b_146), (.ref b_146)])) (fun t_ k_ => XS.aload X_146.here hx rfl (hb hby at_177) rfl rfl k_) ?_
            refine own_st (S' := T_146.setTop (mkF m 181 #[.val (.int p0), .val (.int p1), .val (.int p2), .val (.int p3), .val (.int (2 : Int32)), .val (.int v_1), .val (.int v_2), .val (.int zb), .val (.int zc), .val (.int zd), .val (.ref b_128), .val (.ref b_131), .val (.ref x_137_b), .val (.ref x_141_b), .unset, .unset, .unset] [(.int zc), (.ref x_141_b), (.int zb), (.ref x_137_b), (.ref b_131), (.ref b_146), (.ref b_146)])) (fun t_ k_ => XS.iload X_146.here hx rfl (hb hby at_179) rfl k_) ?_
            obtain ⟨_, _, ⟨T_147, L_147, k_147, n_147⟩, -, X_147, ⟨Lc_147, hQ_147, l_147, y_147, z_147⟩, st_147⟩ := X_146.specialBack hx (y := (⟨"com/example/westmount/westmount/RowRange", "<init>", "(Ljava/lang/String;[BZ[BZ)V"⟩ : MethodName)) rfl hown (mvT hZ (hw _ (List.mem_of_getElem? (i := 37) rfl))) (mvT hZ (hw _ (List.mem_of_getElem? (i := 38) rfl))) (mvT hZ (hw _ (List.mem_of_getElem? (i := 39) rfl))) (by decide) (backOf (W := 1) (rm6 l Z a0 hw [] b_146 b_131 x_137_b zb x_141_b zc h_146 n0 Z_146 A_146 F_146_table F_146_start F_146_startIncluded F_146_stop F_146_stopIncluded g_b_146) hZ (hw _ (List.mem_of_getElem? (i := 39) rfl)) (hw _ (List.mem_of_getElem? (i := 36) rfl)) (by decide) (by decide)) (g := (mkF m 181 #[.val (.int p0), .val (.int p1), .val (.int p2), .val (.int p3), .val (.int (2 : Int32)), .val (.int v_1), .val (.int v_2), .val (.int zb), .val (.int zc), .val (.int zd), .val (.ref b_128), .val (.ref b_131), .val (.ref x_137_b), .val (.ref x_141_b), .unset, .unset, .unset] [(.int zc), (.ref x_141_b), (.int zb), (.ref x_137_b), (.ref b_131), (.ref b_146), (.ref b_146)])) rfl (by rw [hml]; rfl) (Steps.refl _) (a := b_146) (argsL := [(.ref b_131), (.ref x_137_b), (.int zb), (.ref x_141_b), (.int zc)]) (rest := [(.ref b_146)]) (lenOf pd_8 rfl) rfl (by show 2 * 0 + _ ≤ _; exact Nat.le_of_eq rfl) (hb hby at_181) (fun _ _ => ⟨rfl, e_146, (by decide : 6 + 0 ≤ _), (by decide : 19 + 0 ≤ _)⟩)
            dsimp only [Pt.U, Pt.locs, Pt.cells, Pt.slots] at X_147 l_147 y_147 z_147 st_147 hQ_147
            subst l_147 y_147 z_147
            obtain ⟨rfl, M_147, K_147c, c_147_0, c_147_1, c_147_2, c_147_3⟩ := hQ_147
            have N_147 := Fr.app N_141 M_147
            have Z_147 : n0 ≤ T_147.heap.size := Nat.le_trans Z_146 K_147c.1
            refine own_st (S' := T_147.setTop (mkF m 184 #[.val (.int p0), .val (.int p1), .val (.int p2), .val (.int p3), .val (.int (2 : Int32)), .val (.int v_1), .val (.int v_2), .val (.int zb), .val (.int zc), .val (.int zd), .val (.ref b_128), .val (.ref b_131), .val (.ref x_137_b), .val (.ref x_141_b), .unset, .unset, .unset] [(.ref b_146)])) (fun t_ k_ => st_147.trans k_) ?_
            refine own_st (S' := T_147.setTop (mkF m 186 #[.val (.int p0), .val (.int p1), .val (.int p2), .val (.int p3), .val (.int (2 : Int32)), .val (.int v_1), .val (.int v_2), .val (.int zb), .val (.int zc), .val (.int zd), .val (.ref b_128), .val (.ref b_131), .val (.ref x_137_b), .val (.ref x_141_b), .val (.ref b_146), .unset, .unset] [])) (fun t_ k_ => XS.astore X_147.here hx rfl (hb hby at_184) rfl rfl (l' := #[.val (.int p0), .val (.int p1), .val (.int p2), .val (.int p3), .val (.int (2 : Int32)), .val (.int v_1), .val (.int v_2), .val (.int zb), .val (.int zc), .val (.int zd), .val (.ref b_128), .val (.ref b_131), .val (.ref x_137_b), .val (.ref x_141_b), .val (.ref b_146), .unset, .unset]) rfl k_) ?_
            refine own_st (S' := T_147.setTop (mkF m 188 #[.val (.int p0), .val (.int p1), .val (.int p2), .val (.int p3), .val (.int (2 : Int32)), .val (.int v_1), .val (.int v_2), .val (.int zb), .val (.int zc), .val (.int zd), .val (.ref b_128), .val (.ref b_131), .val (.ref x_137_b), .val (.ref x_141_b), .val (.ref b_146), .unset, .unset] [(.ref b_146)])) (fun t_ k_ => XS.aload X_147.here hx rfl (hb hby at_186) rfl rfl k_) ?_
            have f_148 : Arv Z T_147.heap b_128 k_128 .char (2 : Int32) [(.int (nar .char ((p0 &&& (255 : Int32)).toUInt32.toUInt16.toUInt32.toInt32))), (.int (nar .char ((((p0.toUInt32 >>> ((8 : Int32) &&& 31).toUInt32).toInt32) &&& (255 : Int32)).toUInt32.toUInt16.toUInt32.toInt32)))] (.int (0 : Int32)) := ((f_142.ext E_146).keep K_147c (ninS ne_b_128_b_146 nin0))
            have f_149 : Exa Z T_147.heap b_131 "java/lang/String" := ((Exa.ext E_146 f_143).keep K_147c)
            have f_150 : Arv Z T_147.heap t_135 kb_135 .byte (2 : Int32) ((([(nar .char ((p0 &&& (255 : Int32)).toUInt32.toUInt16.toUInt32.toInt32)), (nar .char ((((p0.toUInt32 >>> ((8 : Int32) &&& 31).toUInt32).toInt32) &&& (255 : Int32)).toUInt32.toUInt16.toUInt32.toInt32))] : List Int32).map (fun c => c.toInt8.toInt32)).map Value.int) (.int 0) := ((f_144.ext E_146).keep K_147c (ninS ne_t_135_b_146 nin0))
            have f_151 : Arv Z T_147.heap x_137_b x_137_k .byte v_1 (own_bs v_1 p1) (.int (0 : Int32)) := ((f_145.ext E_146).keep K_147c (ninS ne_x_137_b_b_146 nin0))
            have f_152 : Arv Z T_147.heap x_141_b x_141_k .byte v_2 (own_bs v_2 p2) (.int (0 : Int32)) := ((c_141_0.ext E_146).keep K_147c (ninS ne_x_141_b_b_146 nin0))
            obtain ⟨cq_153, kq_153, q_153a, q_153b, q_153c⟩ := isOf hZ rfl c_147_0
            obtain ⟨_, _, ⟨T_153, L_153, k_153, n_153⟩, -, X_153, ⟨Lc_153, hQ_153, l_153, y_153, z_153⟩, st_153⟩ := X_147.virtualBack hx (y := (⟨"com/example/westmount/westmount/RowRange", "first", "()Lcom/example/westmount/westmount/RowKey;"⟩ : MethodName)) (z := (⟨"com/example/westmount/westmount/RowRange", "first", "()Lcom/example/westmount/westmount/RowKey;"⟩ : MethodName)) hown (mvT hZ (hw _ (List.mem_of_getElem? (i := 56) rfl))) (mvT hZ (hw _ (List.mem_of_getElem? (i := 57) rfl))) (notFace_of_selects (args := #[]) (mvT hZ (hw _ (List.mem_of_getElem? (i := 59) rfl)))) (mvT hZ (hw _ (List.mem_of_getElem? (i := 59) rfl))) (mvT hZ (hw _ (List.mem_of_getElem? (i := 58) rfl))) (by decide) (backOf (W := 0) (rm8 l Z a0 hw [] b_146 b_131 x_137_b T_147.heap n0 Z_147 c_147_1 c_147_2) hZ (hw _ (List.mem_of_getElem? (i := 60) rfl)) (hw _ (List.mem_of_getElem? (i := 36) rfl)) (by decide) (by decide)) q_153a q_153c (g := (mkF m 188 #[.val (.int p0), .val (.int p1), .val (.int p2), .val (.int p3), .val (.int (2 : Int32)), .val (.int v_1), .val (.int v_2), .val (.int zb), .val (.int zc), .val (.int zd), .val (.ref b_128), .val (.ref b_131), .val (.ref x_137_b), .val (.ref x_141_b), .val (.ref b_146), .unset, .unset] [(.ref b_146)])) rfl (by rw [hml]; rfl) (Steps.refl _) (argsL := []) (rest := []) (lenOf pd_9 rfl) rfl (by show 2 * 0 + _ ≤ _; exact Nat.le_of_eq rfl) (hb hby at_188) (fun _ _ => ⟨rfl, rfl, (by decide : 6 + 1 ≤ _), (by decide : 19 + 2 ≤ _)⟩)
            dsimp only [Pt.U, Pt.locs, Pt.cells, Pt.slots] at X_153 l_153 y_153 z_153 st_153 hQ_153
            subst l_153 y_153 z_153
            obtain ⟨x_153_q, rfl, M_153, K_153c, z_153_0, c_153_0, c_153_1, c_153_2⟩ := hQ_153
            have N_153 := Fr.app N_147 M_153
            have ne_b_128_x_153_q : b_128 ≠ x_153_q := Nat.ne_of_lt (Nat.lt_of_lt_of_le f_148.lt z_153_0)
            have ne_b_131_x_153_q : b_131 ≠ x_153_q := Nat.ne_of_lt (Nat.lt_of_lt_of_le f_149.lt z_153_0)
            have ne_b_146_x_153_q : b_146 ≠ x_153_q := Nat.ne_of_lt (Nat.lt_of_lt_of_le c_147_0.lt z_153_0)
            have ne_t_135_x_153_q : t_135 ≠ x_153_q := Nat.ne_of_lt (Nat.lt_of_lt_of_le f_150.lt z_153_0)
            have ne_x_137_b_x_153_q : x_137_b ≠ x_153_q := Nat.ne_of_lt (Nat.lt_of_lt_of_le f_151.lt z_153_0)
            have ne_x_141_b_x_153_q : x_141_b ≠ x_153_q := Nat.ne_of_lt (Nat.lt_of_lt_of_le f_152.lt z_153_0)
            have g_x_153_q : n0 ≤ x_153_q := Nat.le_trans Z_147 z_153_0
            have Z_153 : n0 ≤ T_153.heap.size := Nat.le_trans Z_147 K_153c.1
            refine own_st (S' := T_153.setTop (mkF m 191 #[.val (.int p0), .val (.int p1), .val (.int p2), .val (.int p3), .val (.int (2 : Int32)), .val (.int v_1), .val (.int v_2), .val (.int zb), .val (.int zc), .val (.int zd), .val (.ref b_128), .val (.ref b_131), .val (.ref x_137_b), .val (.ref x_141_b), .val (.ref b_146), .unset, .unset] [(.ref x_153_q)])) (fun t_ k_ => st_153.trans k_) ?_
            refine own_st (S' := T_153.setTop (mkF m 193 #[.val (.int p0), .val (.int p1), .val (.int p2), .val (.int p3), .val (.int (2 : Int32)), .val (.int v_1), .val (.int v_2), .val (.int zb), .val (.int zc), .val (.int zd), .val (.ref b_128), .val (.ref b_131), .val (.ref x_137_b), .val (.ref x_141_b), .val (.ref b_146), .val (.ref x_153_q), .unset] [])) (fun t_ k_ => XS.astore X_153.here hx rfl (hb hby at_191) rfl rfl (l' := #[.val (.int p0), .val (.int p1), .val (.int p2), .val (.int p3), .val (.int (2 : Int32)), .val (.int v_1), .val (.int v_2), .val (.int zb), .val (.int zc), .val (.int zd), .val (.ref b_128), .val (.ref b_131), .val (.ref x_137_b), .val (.ref x_141_b), .val (.ref b_146), .val (.ref x_153_q), .unset]) rfl k_) ?_
            refine own_st (S' := T_153.setTop (mkF m 195 #[.val (.int p0), .val (.int p1), .val (.int p2), .val (.int p3), .val (.int (2 : Int32)), .val (.int v_1), .val (.int v_2), .val (.int zb), .val (.int zc), .val (.int zd), .val (.ref b_128), .val (.ref b_131), .val (.ref x_137_b), .val (.ref x_141_b), .val (.ref b_146), .val (.ref x_153_q), .unset] [(.ref x_153_q)])) (fun t_ k_ => XS.aload X_153.here hx rfl (hb hby at_193) rfl rfl k_) ?_
            obtain ⟨cq_154, kq_154, q_154a, q_154b, q_154c⟩ := isOf hZ rfl c_153_0
            obtain ⟨_, _, ⟨T_154, L_154, k_154, n_154⟩, -, X_154, ⟨Lc_154, hQ_154, l_154, y_154, z_154⟩, st_154⟩ := X_153.virtualBack hx (y := (⟨"com/example/westmount/westmount/RowKey", "table", "()Ljava/lang/String;"⟩ : MethodName)) (z := (⟨"com/example/westmount/westmount/RowKey", "table", "()Ljava/lang/String;"⟩ : MethodName)) hown (mvT hZ (hw _ (List.mem_of_getElem? (i := 72) rfl))) (mvT hZ (hw _ (List.mem_of_getElem? (i := 73) rfl))) (notFace_of_selects (args := #[]) (mvT hZ (hw _ (List.mem_of_getElem? (i := 75) rfl)))) (mvT hZ (hw _ (List.mem_of_getElem? (i := 75) rfl))) (mvT hZ (hw _ (List.mem_of_getElem? (i := 74) rfl))) (by decide) (backOf (W := 0) (rm10 l Z a0 hw [] x_153_q b_131 T_153.heap n0 Z_153 c_153_1) hZ (hw _ (List.mem_of_getElem? (i := 76) rfl)) (hw _ (List.mem_of_getElem? (i := 63) rfl)) (by decide) (by decide)) q_154a q_154c (g := (mkF m 195 #[.val (.int p0), .val (.int p1), .val (.int p2), .val (.int p3), .val (.int (2 : Int32)), .val (.int v_1), .val (.int v_2), .val (.int zb), .val (.int zc), .val (.int zd), .val (.ref b_128), .val (.ref b_131), .val (.ref x_137_b), .val (.ref x_141_b), .val (.ref b_146), .val (.ref x_153_q), .unset] [(.ref x_153_q)])) rfl (by rw [hml]; rfl) (Steps.refl _) (argsL := []) (rest := []) (lenOf pd_10 rfl) rfl (by show 2 * 0 + _ ≤ _; exact Nat.le_of_eq rfl) (hb hby at_195) (fun _ _ => ⟨rfl, rfl, (by decide : 7 + 0 ≤ _), (by decide : 21 + 0 ≤ _)⟩)
            dsimp only [Pt.U, Pt.locs, Pt.cells, Pt.slots] at X_154 l_154 y_154 z_154 st_154 hQ_154
            subst l_154 y_154 z_154
            obtain ⟨rfl, M_154, q_154⟩ := hQ_154
            have N_154 := Fr.app N_153 M_154
            refine own_st (S' := T_154.setTop (mkF m 198 #[.val (.int p0), .val (.int p1), .val (.int p2), .val (.int p3), .val (.int (2 : Int32)), .val (.int v_1), .val (.int v_2), .val (.int zb), .val (.int zc), .val (.int zd), .val (.ref b_128), .val (.ref b_131), .val (.ref x_137_b), .val (.ref x_141_b), .val (.ref b_146), .val (.ref x_153_q), .unset] [(.ref b_131)])) (fun t_ k_ => st_154.trans k_) ?_
            refine own_st (S' := T_154.setTop (mkF m 200 #[.val (.int p0), .val (.int p1), .val (.int p2), .val (.int p3), .val (.int (2 : Int32)), .val (.int v_1), .val (.int v_2), .val (.int zb), .val (.int zc), .val (.int zd), .val (.ref b_128), .val (.ref b_131), .val (.ref x_137_b), .val (.ref x_141_b), .val (.ref b_146), .val (.ref x_153_q), .unset] [(.ref b_131), (.ref b_131)])) (fun t_ k_ => XS.aload X_154.here hx rfl (hb hby at_198) rfl rfl k_) ?_
            have f_156 : Exa Z T_153.heap b_131 "java/lang/String" := (f_149.keep K_153c)
            obtain ⟨cq_155, kq_155, q_155a, q_155b, q_155c⟩ := isOf hZ q_154 f_156
            obtain ⟨_, _, ⟨T_155, L_155, k_155, n_155⟩, -, X_155, ⟨Lc_155, hQ_155, l_155, y_155, z_155⟩, st_155⟩ := X_154.virtualBack hx (y := (⟨"java/lang/String", "equals", "(Ljava/lang/Object;)Z"⟩ : MethodName)) (z := (⟨"java/lang/String", "equals", "(Ljava/lang/Object;)Z"⟩ : MethodName)) hown (mvT hZ (hw _ (List.mem_of_getElem? (i := 77) rfl))) (mvT hZ (hw _ (List.mem_of_getElem? (i := 78) rfl))) (notFace_of_selects (args := #[]) (mvT hZ (hw _ (List.mem_of_getElem? (i := 80) rfl)))) (mvT hZ (hw _ (List.mem_of_getElem? (i := 80) rfl))) (mvT hZ (hw _ (List.mem_of_getElem? (i := 79) rfl))) (by decide) (backOf (W := 0) (rm12 l Z a0 hw [] b_131 b_131 T_153.heap n0 Z_153 rfl) hZ (hw _ (List.mem_of_getElem? (i := 81) rfl)) (hw _ (List.mem_of_getElem? (i := 3) rfl)) (by decide) (by decide)) q_155a q_155c (g := (mkF m 200 #[.val (.int p0), .val (.int p1), .val (.int p2), .val (.int p3), .val (.int (2 : Int32)), .val (.int v_1), .val (.int v_2), .val (.int zb), .val (.int zc), .val (.int zd), .val (.ref b_128), .val (.ref b_131), .val (.ref x_137_b), .val (.ref x_141_b), .val (.ref b_146), .val (.ref x_153_q), .unset] [(.ref b_131), (.ref b_131)])) rfl (by rw [hml]; rfl) (Steps.refl _) (argsL := [(.ref b_131)]) (rest := []) (lenOf pd_4 rfl) rfl (by show 2 * 0 + _ ≤ _; exact Nat.le_of_eq rfl) (hb hby at_200) (fun _ _ => ⟨rfl, q_154, (by decide : 7 + 0 ≤ _), (by decide : 21 + 0 ≤ _)⟩)
            dsimp only [Pt.U, Pt.locs, Pt.cells, Pt.slots] at X_155 l_155 y_155 z_155 st_155 hQ_155
            subst l_155 y_155 z_155
            obtain ⟨rfl, M_155, q_155⟩ := hQ_155
            have N_155 := Fr.app N_154 M_155
            refine own_st (S' := T_155.setTop (mkF m 203 #[.val (.int p0), .val (.int p1), .val (.int p2), .val (.int p3), .val (.int (2 : Int32)), .val (.int v_1), .val (.int v_2), .val (.int zb), .val (.int zc), .val (.int zd), .val (.ref b_128), .val (.ref b_131), .val (.ref x_137_b), .val (.ref x_141_b), .val (.ref b_146), .val (.ref x_153_q), .unset] [(.int (1 : Int32))])) (fun t_ k_ => st_155.trans k_) ?_
            refine own_st (S' := T_155.setTop (mkF m 206 #[.val (.int p0), .val (.int p1), .val (.int p2), .val (.int p3), .val (.int (2 : Int32)), .val (.int v_1), .val (.int v_2), .val (.int zb), .val (.int zc), .val (.int zd), .val (.ref b_128), .val (.ref b_131), .val (.ref x_137_b), .val (.ref x_141_b), .val (.ref b_146), .val (.ref x_153_q), .unset] [])) (fun t_ k_ => XS.ifNo X_155.here hx rfl (hb hby at_203) rfl ((if0 _ _).trans (feq (by decide : ¬ ((1 : Int32) = (0 : Int32)))).1) k_) ?_
            refine own_st (S' := T_155.setTop (mkF m 208 #[.val (.int p0), .val (.int p1), .val (.int p2), .val (.int p3), .val (.int (2 : Int32)), .val (.int v_1), .val (.int v_2), .val (.int zb), .val (.int zc), .val (.int zd), .val (.ref b_128), .val (.ref b_131), .val (.ref x_137_b), .val (.ref x_141_b), .val (.ref b_146), .val (.ref x_153_q), .unset] [(.ref x_153_q)])) (fun t_ k_ => XS.aload X_155.here hx rfl (hb hby at_206) rfl rfl k_) ?_
            obtain ⟨cq_157, kq_157, q_157a, q_157b, q_157c⟩ := isOf hZ q_155 c_153_0
            obtain ⟨_, _, ⟨T_157, L_157, k_157, n_157⟩, -, X_157, ⟨Lc_157, hQ_157, l_157, y_157, z_157⟩, st_157⟩ := X_155.virtualBack hx (y := (⟨"com/example/westmount/westmount/RowKey", "row", "()[B"⟩ : MethodName)) (z := (⟨"com/example/westmount/westmount/RowKey", "row", "()[B"⟩ : MethodName)) hown (mvT hZ (hw _ (List.mem_of_getElem? (i := 82) rfl))) (mvT hZ (hw _ (List.mem_of_getElem? (i := 83) rfl))) (notFace_of_selects (args := #[]) (mvT hZ (hw _ (List.mem_of_getElem? (i := 85) rfl)))) (mvT hZ (hw _ (List.mem_of_getElem? (i := 85) rfl))) (mvT hZ (hw _ (List.mem_of_getElem? (i := 84) rfl))) (by decide) (backOf (W := 0) (rm11 l Z a0 hw [] x_153_q x_137_b T_153.heap n0 Z_153 c_153_2) hZ (hw _ (List.mem_of_getElem? (i := 86) rfl)) (hw _ (List.mem_of_getElem? (i := 63) rfl)) (by decide) (by decide)) q_157a q_157c (g := (mkF m 208 #[.val (.int p0), .val (.int p1), .val (.int p2), .val (.int p3), .val (.int (2 : Int32)), .val (.int v_1), .val (.int v_2), .val (.int zb), .val (.int zc), .val (.int zd), .val (.ref b_128), .val (.ref b_131), .val (.ref x_137_b), .val (.ref x_141_b), .val (.ref b_146), .val (.ref x_153_q), .unset] [(.ref x_153_q)])) rfl (by rw [hml]; rfl) (Steps.refl _) (argsL := []) (rest := []) (lenOf pd_11 rfl) rfl (by show 2 * 0 + _ ≤ _; exact Nat.le_of_eq rfl) (hb hby at_208) (fun _ _ => ⟨rfl, q_155, (by decide : 7 + 0 ≤ _), (by decide : 21 + 0 ≤ _)⟩)
            dsimp only [Pt.U, Pt.locs, Pt.cells, Pt.slots] at X_157 l_157 y_157 z_157 st_157 hQ_157
            subst l_157 y_157 z_157
            obtain ⟨rfl, M_157, q_157⟩ := hQ_157
            have N_157 := Fr.app N_155 M_157
            refine own_st (S' := T_157.setTop (mkF m 211 #[.val (.int p0), .val (.int p1), .val (.int p2), .val (.int p3), .val (.int (2 : Int32)), .val (.int v_1), .val (.int v_2), .val (.int zb), .val (.int zc), .val (.int zd), .val (.ref b_128), .val (.ref b_131), .val (.ref x_137_b), .val (.ref x_141_b), .val (.ref b_146), .val (.ref x_153_q), .unset] [(.ref x_137_b)])) (fun t_ k_ => st_157.trans k_) ?_
            refine own_st (S' := T_157.setTop (mkF m 213 #[.val (.int p0), .val (.int p1), .val (.int p2), .val (.int p3), .val (.int (2 : Int32)), .val (.int v_1), .val (.int v_2), .val (.int zb), .val (.int zc), .val (.int zd), .val (.ref b_128), .val (.ref b_131), .val (.ref x_137_b), .val (.ref x_141_b), .val (.ref b_146), .val (.ref x_153_q), .unset] [(.int v_1), (.ref x_137_b)])) (fun t_ k_ => XS.iload X_157.here hx rfl (hb hby at_211) rfl k_) ?_
            refine own_st (S' := T_157.setTop (mkF m 214 #[.val (.int p0), .val (.int p1), .val (.int p2), .val (.int p3), .val (.int (2 : Int32)), .val (.int v_1), .val (.int v_2), .val (.int zb), .val (.int zc), .val (.int zd), .val (.ref b_128), .val (.ref b_131), .val (.ref x_137_b), .val (.ref x_141_b), .val (.ref b_146), .val (.ref x_153_q), .unset] [(.int p1), (.int v_1), (.ref x_137_b)])) (fun t_ k_ => XS.iloadN X_157.here hx rfl (hb hby at_213) rfl k_) ?_
            have f_158 : Arv Z T_153.heap x_137_b x_137_k .byte v_1 (own_bs v_1 p1) (.int (0 : Int32)) := (f_151.keep K_153c nin0)
            obtain ⟨_, _, ⟨T_159, L_159, k_159, n_159⟩, -, X_159, ⟨Lc_159, hQ_159, l_159, y_159, z_159⟩, st_159⟩ := Jvm.LawKit.callS X_157 hx (y := (⟨"com/example/westmount/westmount/RowRangeFirstPinLaw", "sameBytes", "([BII)Z"⟩ : MethodName)) hown (mvT hZ (hw _ (List.mem_of_getElem? (i := 87) rfl))) (mvT hZ (hw _ (List.mem_of_getElem? (i := 88) rfl))) (mvT hZ (hw _ (List.mem_of_getElem? (i := 32) rfl))) (mvT hZ (hw _ (List.mem_of_getElem? (i := 89) rfl))) (by decide) (backOf (W := 0) (rm4 l Z a0 hw [] x_137_b v_1 p1 x_137_k T_153.heap n0 Z_153 f_158 (hv_1 ▸ own_four _)) hZ (hw _ (List.mem_of_getElem? (i := 89) rfl)) (hw _ (List.mem_of_getElem? (i := 32) rfl)) (by decide) (by decide)) (g := (mkF m 214 #[.val (.int p0), .val (.int p1), .val (.int p2), .val (.int p3), .val (.int (2 : Int32)), .val (.int v_1), .val (.int v_2), .val (.int zb), .val (.int zc), .val (.int zd), .val (.ref b_128), .val (.ref b_131), .val (.ref x_137_b), .val (.ref x_141_b), .val (.ref b_146), .val (.ref x_153_q), .unset] [(.int p1), (.int v_1), (.ref x_137_b)])) rfl (by rw [hml]; rfl) (argsL := [(.ref x_137_b), (.int v_1), (.int p1)]) (rest := []) (lenOf pd_12 rfl) rfl (by show 2 * 0 + _ ≤ _; exact Nat.le_of_eq rfl) (hb hby at_214) (fun _ _ => ⟨rfl, q_157, (by decide : 7 + 0 ≤ _), (by decide : 21 + 0 ≤ _)⟩)
            dsimp only [Pt.U, Pt.locs, Pt.cells, Pt.slots] at X_159 l_159 y_159 z_159 st_159 hQ_159
            subst l_159 y_159 z_159
            obtain ⟨rfl, M_159, q_159⟩ := hQ_159
            have N_159 := Fr.app N_157 M_159
            refine own_st (S' := T_159.setTop (mkF m 217 #[.val (.int p0), .val (.int p1), .val (.int p2), .val (.int p3), .val (.int (2 : Int32)), .val (.int v_1), .val (.int v_2), .val (.int zb), .val (.int zc), .val (.int zd), .val (.ref b_128), .val (.ref b_131), .val (.ref x_137_b), .val (.ref x_141_b), .val (.ref b_146), .val (.ref x_153_q), .unset] [(.int (1 : Int32))])) st_159 ?_
            refine own_st (S' := T_159.setTop (mkF m 220 #[.val (.int p0), .val (.int p1), .val (.int p2), .val (.int p3), .val (.int (2 : Int32)), .val (.int v_1), .val (.int v_2), .val (.int zb), .val (.int zc), .val (.int zd), .val (.ref b_128), .val (.ref b_131), .val (.ref x_137_b), .val (.ref x_141_b), .val (.ref b_146), .val (.ref x_153_q), .unset] [])) (fun t_ k_ => XS.ifNo X_159.here hx rfl (hb hby at_217) rfl ((if0 _ _).trans (feq (by decide : ¬ ((1 : Int32) = (0 : Int32)))).1) k_) ?_
            refine own_st (S' := T_159.setTop (mkF m 221 #[.val (.int p0), .val (.int p1), .val (.int p2), .val (.int p3), .val (.int (2 : Int32)), .val (.int v_1), .val (.int v_2), .val (.int zb), .val (.int zc), .val (.int zd), .val (.ref b_128), .val (.ref b_131), .val (.ref x_137_b), .val (.ref x_141_b), .val (.ref b_146), .val (.ref x_153_q), .unset] [(.int (1 : Int32))])) (fun t_ k_ => XS.iconst X_159.here hx rfl (hb hby at_220) k_) ?_
            refine own_st (S' := T_159.setTop (mkF m 225 #[.val (.int p0), .val (.int p1), .val (.int p2), .val (.int p3), .val (.int (2 : Int32)), .val (.int v_1), .val (.int v_2), .val (.int zb), .val (.int zc), .val (.int zd), .val (.ref b_128), .val (.ref b_131), .val (.ref x_137_b), .val (.ref x_141_b), .val (.ref b_146), .val (.ref x_153_q), .unset] [(.int (1 : Int32))])) (fun t_ k_ => XS.goto X_159.here hx rfl (pc0 := 221) (pc' := 225) rfl (hb hby at_221) (by decide) (by decide) k_) ?_
            refine own_st (S' := T_159.setTop (mkF m 227 #[.val (.int p0), .val (.int p1), .val (.int p2), .val (.int p3), .val (.int (2 : Int32)), .val (.int v_1), .val (.int v_2), .val (.int zb), .val (.int zc), .val (.int zd), .val (.ref b_128), .val (.ref b_131), .val (.ref x_137_b), .val (.ref x_141_b), .val (.ref b_146), .val (.ref x_153_q), .val (.int (1 : Int32))] [])) (fun t_ k_ => XS.istore X_159.here hx rfl (hb hby at_225) rfl (l' := #[.val (.int p0), .val (.int p1), .val (.int p2), .val (.int p3), .val (.int (2 : Int32)), .val (.int v_1), .val (.int v_2), .val (.int zb), .val (.int zc), .val (.int zd), .val (.ref b_128), .val (.ref b_131), .val (.ref x_137_b), .val (.ref x_141_b), .val (.ref b_146), .val (.ref x_153_q), .val (.int (1 : Int32))]) rfl k_) ?_
            refine own_st (S' := T_159.setTop (mkF m 229 #[.val (.int p0), .val (.int p1), .val (.int p2), .val (.int p3), .val (.int (2 : Int32)), .val (.int v_1), .val (.int v_2), .val (.int zb), .val (.int zc), .val (.int zd), .val (.ref b_128), .val (.ref b_131), .val (.ref x_137_b), .val (.ref x_141_b), .val (.ref b_146), .val (.ref x_153_q), .val (.int (1 : Int32))] [(.int (1 : Int32))])) (fun t_ k_ => XS.iload X_159.here hx rfl (hb hby at_227) rfl k_) ?_
            refine own_st (S' := T_159.setTop (mkF m 232 #[.val (.int p0), .val (.int p1), .val (.int p2), .val (.int p3), .val (.int (2 : Int32)), .val (.int v_1), .val (.int v_2), .val (.int zb), .val (.int zc), .val (.int zd), .val (.ref b_128), .val (.ref b_131), .val (.ref x_137_b), .val (.ref x_141_b), .val (.ref b_146), .val (.ref x_153_q), .val (.int (1 : Int32))] [])) (fun t_ k_ => XS.ifNo X_159.here hx rfl (hb hby at_229) rfl ((if0 _ _).trans (feq (by decide : ¬ ((1 : Int32) = (0 : Int32)))).1) k_) ?_
            refine own_st (S' := T_159.setTop (mkF m 234 #[.val (.int p0), .val (.int p1), .val (.int p2), .val (.int p3), .val (.int (2 : Int32)), .val (.int v_1), .val (.int v_2), .val (.int zb), .val (.int zc), .val (.int zd), .val (.ref b_128), .val (.ref b_131), .val (.ref x_137_b), .val (.ref x_141_b), .val (.ref b_146), .val (.ref x_153_q), .val (.int (1 : Int32))] [(.int zd)])) (fun t_ k_ => XS.iload X_159.here hx rfl (hb hby at_232) rfl k_) ?_
            refine own_st (S' := T_159.setTop (mkF m 254 #[.val (.int p0), .val (.int p1), .val (.int p2), .val (.int p3), .val (.int (2 : Int32)), .val (.int v_1), .val (.int v_2), .val (.int zb), .val (.int zc), .val (.int zd), .val (.ref b_128), .val (.ref b_131), .val (.ref x_137_b), .val (.ref x_141_b), .val (.ref b_146), .val (.ref x_153_q), .val (.int (1 : Int32))] [])) (fun t_ k_ => XS.ifYes X_159.here hx rfl (pc0 := 234) (pc' := 254) rfl (hb hby at_234) rfl ((if0 _ _).trans (teq hc147).1) (by decide) (by decide) k_) ?_
            refine own_st (S' := T_159.setTop (mkF m 256 #[.val (.int p0), .val (.int p1), .val (.int p2), .val (.int p3), .val (.int (2 : Int32)), .val (.int v_1), .val (.int v_2), .val (.int zb), .val (.int zc), .val (.int zd), .val (.ref b_128), .val (.ref b_131), .val (.ref x_137_b), .val (.ref x_141_b), .val (.ref b_146), .val (.ref x_153_q), .val (.int (1 : Int32))] [(.int (1 : Int32))])) (fun t_ k_ => XS.iload X_159.here hx rfl (hb hby at_254) rfl k_) ?_
            obtain ⟨fs, hr, hrun, hended, hRW⟩ := Stand.leaveW (s := s) (vm₁ := s.vm) X_159 (n := 0) (State.WarmedH.since (State.WarmedH.refl s) 0) (by rw [q_159]; exact (Nat.zero_le _)) (v := some (.int (1 : Int32))) (fun h => by rw [Bd.returns] at h; cases h)
            refine ⟨_, _, retN X_159 hx (t := .boolean) Bd.returns (by simp) (hb hby at_256) hr, hrun, hended, _, _, rfl, ?_, ⟨_, rfl⟩, hRW.2.1, hRW.2.2.1, hRW.2.2.2.mono (by decide) (by decide)⟩
            show Q0 Z p0 p1 p2 p3 cz h0 n0 _ T_159.heap _
            rw [q_159]
            exact ⟨rfl, N_159⟩
          · refine own_st (S' := T_137.setTop (mkF m 150 #[.val (.int p0), .val (.int p1), .val (.int p2), .val (.int p3), .val (.int (2 : Int32)), .val (.int v_1), .val (.int v_2), .val (.int zb), .val (.int zc), .val (.int zd), .val (.ref b_128), .val (.ref b_131), .val (.ref x_137_b), .unset, .unset, .unset, .unset] [])) (fun t_ k_ => XS.ifNo X_137.here hx rfl (hb hby at_147) rfl ((if0 _ _).trans (feq hc147).1) k_) ?_
            refine own_st (S' := T_137.setTop (mkF m 152 #[.val (.int p0), .val (.int p1), .val (.int p2), .val (.int p3), .val (.int (2 : Int32)), .val (.int v_1), .val (.int v_2), .val (.int zb), .val (.int zc), .val (.int zd), .val (.ref b_128), .val (.ref b_131), .val (.ref x_137_b), .unset, .unset, .unset, .unset] [(.int v_1)])) (fun t_ k_ => XS.iload X_137.here hx rfl (hb hby at_150) rfl k_) ?_
            refine own_st (S' := T_137.setTop (mkF m 153 #[.val (.int p0), .val (.int p1), .val (.int p2), .val (.int p3), .val (.int (2 : Int32)), .val (.int v_1), .val (.int v_2), .val (.int zb), .val (.int zc), .val (.int zd), .val (.ref b_128), .val (.ref b_131), .val (.ref x_137_b), .unset, .unset, .unset, .unset] [(.int p1), (.int v_1)])) (fun t_ k_ => XS.iloadN X_137.here hx rfl (hb hby at_152) rfl k_) ?_
            have f_160 : Arv Z T_137.heap b_128 k_128 .char (2 : Int32) [(.int (nar .char ((p0 &&& (255 : Int32)).toUInt32.toUInt16.toUInt32.toInt32))), (.int (nar .char ((((p0.toUInt32 >>> ((8 : Int32) &&& 31).toUInt32).toInt32) &&& (255 : Int32)).toUInt32.toUInt16.toUInt32.toInt32)))] (.int (0 : Int32)) := (f_136.keep K_137c nin0)
            have f_161 : Exa Z T_137.heap b_131 "java/lang/String" := (A_135.keep K_137c)
            have f_162 : Arv Z T_137.heap t_135 kb_135 .byte (2 : Int32) ((([(nar .char ((p0 &&& (255 : Int32)).toUInt32.toUInt16.toUInt32.toInt32)), (nar .char ((((p0.toUInt32 >>> ((8 : Int32) &&& 31).toUInt32).toInt32) &&& (255 : Int32)).toUInt32.toUInt16.toUInt32.toInt32))] : List Int32).map (fun c => c.toInt8.toInt32)).map Value.int) (.int 0) := (V_135.keep K_137c nin0)
            obtain ⟨_, _, ⟨T_163, L_163, k_163, n_163⟩, -, X_163, ⟨Lc_163, hQ_163, l_163, y_163, z_163⟩, st_163⟩ := Jvm.LawKit.callS X_137 hx (y := (⟨"com/example/westmount/westmount/RowRangeFirstPinLaw", "bytes", "(II)[B"⟩ : MethodName)) hown (mvT hZ (hw _ (List.mem_of_getElem? (i := 30) rfl))) (mvT hZ (hw _ (List.mem_of_getElem? (i := 31) rfl))) (mvT hZ (hw _ (List.mem_of_getElem? (i := 32) rfl))) (mvT hZ (hw _ (List.mem_of_getElem? (i := 33) rfl))) (by decide) (backOf (W := 0) (rm3 l Z a0 hw [] v_1 p1 T_137.heap n0 Z_137 (hv_1 ▸ own_four _)) hZ (hw _ (List.mem_of_getElem? (i := 33) rfl)) (hw _ (List.mem_of_getElem? (i := 32) rfl)) (by decide) (by decide)) (g := (mkF m 153 #[.val (.int p0), .val (.int p1), .val (.int p2), .val (.int p3), .val (.int (2 : Int32)), .val (.int v_1), .val (.int v_2), .val (.int zb), .val (.int zc), .val (.int zd), .val (.ref b_128), .val (.ref b_131), .val (.ref x_137_b), .unset, .unset, .unset, .unset] [(.int p1), (.int v_1)])) rfl (by rw [hml]; rfl) (argsL := [(.int v_1), (.int p1)]) (rest := []) (lenOf pd_7 rfl) rfl (by show 2 * 0 + _ ≤ _; exact Nat.le_of_eq rfl) (hb hby at_153) (fun _ _ => ⟨rfl, rfl, (by decide : 4 + 1 ≤ _), (by decide : 11 + 3 ≤ _)⟩)
            dsimp only [Pt.U, Pt.locs, Pt.cells, Pt.slots] at X_163 l_163 y_163 z_163 st_163 hQ_163
            subst l_163 y_163 z_163
            obtain ⟨x_163_b, x_163_k, rfl, M_163, K_163c, z_163_0, c_163_0⟩ := hQ_163
            have N_163 := Fr.app N_137 M_163
            have ne_b_128_x_163_b : b_128 ≠ x_163_b := Nat.ne_of_lt (Nat.lt_of_lt_of_le f_160.lt z_163_0)
            have ne_b_131_x_163_b : b_131 ≠ x_163_b := Nat.ne_of_lt (Nat.lt_of_lt_of_le f_161.lt z_163_0)
            have ne_t_135_x_163_b : t_135 ≠ x_163_b := Nat.ne_of_lt (Nat.lt_of_lt_of_le f_162.lt z_163_0)
            have ne_x_137_b_x_163_b : x_137_b ≠ x_163_b := Nat.ne_of_lt (Nat.lt_of_lt_of_le c_137_0.lt z_163_0)
            have g_x_163_b : n0 ≤ x_163_b := Nat.le_trans Z_137 z_163_0
            have Z_163 : n0 ≤ T_163.heap.size := Nat.le_trans Z_137 K_163c.1
            refine own_st (S' := T_163.setTop (mkF m 156 #[.val (.int p0), .val (.int p1), .val (.int p2), .val (.int p3), .val (.int (2 : Int32)), .val (.int v_1), .val (.int v_2), .val (.int zb), .val (.int zc), .val (.int zd), .val (.ref b_128), .val (.ref b_131), .val (.ref x_137_b), .unset, .unset, .unset, .unset] [(.ref x_163_b)])) st_163 ?_
            refine own_st (S' := T_163.setTop (mkF m 165 #[.val (.int p0), .val (.int p1), .val (.int p2), .val (.int p3), .val (.int (2 : Int32)), .val (.int v_1), .val (.int v_2), .val (.int zb), .val (.int zc), .val (.int zd), .val (.ref b_128), .val (.ref b_131), .val (.ref x_137_b), .unset, .unset, .unset, .unset] [(.ref x_163_b)])) (fun t_ k_ => XS.goto X_163.here hx rfl (pc0 := 156) (pc' := 165) rfl (hb hby at_156) (by decide) (by decide) k_) ?_
            refine own_st (S' := T_163.setTop (mkF m 167 #[.val (.int p0), .val (.int p1), .val (.int p2), .val (.int p3), .val (.int (2 : Int32)), .val (.int v_1), .val (.int v_2), .val (.int zb), .val (.int zc), .val (.int zd), .val (.ref b_128), .val (.ref b_131), .val (.ref x_137_b), .val (.ref x_163_b), .unset, .unset, .unset] [])) (fun t_ k_ => XS.astore X_163.here hx rfl (hb hby at_165) rfl rfl (l' := #[.val (.int p0), .val (.int p1), .val (.int p2), .val (.int p3), .val (.int (2 : Int32)), .val (.int v_1), .val (.int v_2), .val (.int zb), .val (.int zc), .val (.int zd), .val (.ref b_128), .val (.ref b_131), .val (.ref x_137_b), .val (.ref x_163_b), .unset, .unset, .unset]) rfl k_) ?_
            have f_164 : Arv Z T_163.heap b_128 k_128 .char (2 : Int32) [(.int (nar .char ((p0 &&& (255 : Int32)).toUInt32.toUInt16.toUInt32.toInt32))), (.int (nar .char ((((p0.toUInt32 >>> ((8 : Int32) &&& 31).toUInt32).toInt32) &&& (255 : Int32)).toUInt32.toUInt16.toUInt32.toInt32)))] (.int (0 : Int32)) := (f_160.keep K_163c nin0)
            have f_165 : Exa Z T_163.heap b_131 "java/lang/String" := (f_161.keep K_163c)
            have f_166 : Arv Z T_163.heap t_135 kb_135 .byte (2 : Int32) ((([(nar .char ((p0 &&& (255 : Int32)).toUInt32.toUInt16.toUInt32.toInt32)), (nar .char ((((p0.toUInt32 >>> ((8 : Int32) &&& 31).toUInt32).toInt32) &&& (255 : Int32)).toUInt32.toUInt16.toUInt32.toInt32))] : List Int32).map (fun c => c.toInt8.toInt32)).map Value.int) (.int 0) := (f_162.keep K_163c nin0)
            have f_167 : Arv Z T_163.heap x_137_b x_137_k .byte v_1 (own_bs v_1 p1) (.int (0 : Int32)) := (c_137_0.keep K_163c nin0)
            obtain ⟨T_168, h_168, X_168, e_168, E_168, A_168, D_168, -, st_168⟩ := newO X_163 hx hZ hown (hw _ (List.mem_of_getElem? (i := 34) rfl)) (hw _ (List.mem_of_getElem? (i := 35) rfl)) (hw _ (List.mem_of_getElem? (i := 36) rfl)) rfl (g := (mkF m 167 #[.val (.int p0), .val (.int p1), .val (.int p2), .val (.int p3), .val (.int (2 : Int32)), .val (.int v_1), .val (.int v_2), .val (.int zb), .val (.int zc), .val (.int zd), .val (.ref b_128), .val (.ref b_131), .val (.ref x_137_b), .val (.ref x_163_b), .unset, .unset, .unset] [])) rfl (hb hby at_167) (by decide) (by decide)
            obtain ⟨b_168, gg_168⟩ : ∃ z, z = T_163.heap.size := ⟨_, rfl⟩
            rw [← gg_168] at A_168 D_168 st_168
            have ne_b_128_b_168 : b_128 ≠ b_168 := Nat.ne_of_lt (Nat.lt_of_lt_of_le f_164.lt (Nat.le_of_eq gg_168.symm))
            have ne_b_131_b_168 : b_131 ≠ b_168 := Nat.ne_of_lt (Nat.lt_of_lt_of_le f_165.lt (Nat.le_of_eq gg_168.symm))
            have ne_t_135_b_168 : t_135 ≠ b_168 := Nat.ne_of_lt (Nat.lt_of_lt_of_le f_166.lt (Nat.le_of_eq gg_168.symm))
            have ne_x_137_b_b_168 : x_137_b ≠ b_168 := Nat.ne_of_lt (Nat.lt_of_lt_of_le f_167.lt (Nat.le_of_eq gg_168.symm))
            have ne_x_163_b_b_168 : x_163_b ≠ b_168 := Nat.ne_of_lt (Nat.lt_of_lt_of_le c_163_0.lt (Nat.le_of_eq gg_168.symm))
            have g_b_168 : n0 ≤ b_168 := Nat.le_trans Z_163 (Nat.le_of_eq gg_168.symm)
            have Z_168 : n0 ≤ h_168.size := Nat.le_trans Z_163 E_168.1
            have F_168_table : Fld Z h_168 b_168 "com/example/westmount/westmount/RowRange" "table" "Ljava/lang/String;" .null := D_168 (Or.inr (hw _ (List.mem_of_getElem? (i := 47) rfl))) (ty := (.object "java/lang/String")) (by decide)
            have F_168_start : Fld Z h_168 b_168 "com/example/westmount/westmount/RowRange" "start" "[B" .null := D_168 (Or.inr (hw _ (List.mem_of_getElem? (i := 49) rfl))) (ty := (.array .byte)) (by decide)
            have F_168_startIncluded : Fld Z h_168 b_168 "com/example/westmount/westmount/RowRange" "startIncluded" "Z" (.int (0 : Int32)) := D_168 (Or.inr (hw _ (List.mem_of_getElem? (i := 51) rfl))) (ty := .boolean) (by decide)
            have F_168_stop : Fld Z h_168 b_168 "com/example/westmount/westmount/RowRange" "stop" "[B" .null := D_168 (Or.inr (hw _ (List.mem_of_getElem? (i := 53) rfl))) (ty := (.array .byte)) (by decide)
            have F_168_stopIncluded : Fld Z h_168 b_168 "com/example/westmount/westmount/RowRange" "stopIncluded" "Z" (.int (0 : Int32)) := D_168 (Or.inr (hw _ (List.mem_of_getElem? (i := 55) rfl))) (ty := .boolean) (by decide)
            refine own_st (S' := T_168.setTop (mkF m 170 #[.val (.int p0), .val (.int p1), .val (.int p2), .val (.int p3), .val (.int (2 : Int32)), .val (.int v_1), .val (.int v_2), .val (.int zb), .val (.int zc), .val (.int zd), .val (.ref b_128), .val (.ref b_131), .val (.ref x_137_b), .val (.ref x_163_b), .unset, .unset, .unset] [(.ref b_168)])) st_168 ?_
            refine own_st (S' := T_168.setTop (mkF m 171 #[.val (.int p0), .val (.int p1), .val (.int p2), .val (.int p3), .val (.int (2 : Int32)), .val (.int v_1), .val (.int v_2), .val (.int zb), .val (.int zc), .val (.int zd), .val (.ref b_128), .val (.ref b_131), .val (.ref x_137_b), .val (.ref x_163_b), .unset, .unset, .unset] [(.ref b_168), (.ref b_168)])) (fun t_ k_ => XS.dup X_168.here hx rfl (hb hby at_170) rfl rfl k_) ?_
            refine own_st (S' := T_168.setTop (mkF m 173 #[.val (.int p0), .val (.int p1), .val (.int p2), .val (.int p3), .val (.int (2 : Int32)), .val (.int v_1), .val (.int v_2), .val (.int zb), .val (.int zc), .val (.int zd), .val (.ref b_128), .val (.ref b_131), .val (.ref x_137_b), .val (.ref x_163_b), .unset, .unset, .unset] [(.ref b_131), (.ref b_168), (.ref b_168)])) (fun t_ k_ => XS.aload X_168.here hx rfl (hb hby at_171) rfl rfl k_) ?_
            refine own_st (S' := T_168.setTop (mkF m 175 #[.val (.int p0), .val (.int p1), .val (.int p2), .val (.int p3), .val (.int (2 : Int32)), .val (.int v_1), .val (.int v_2), .val (.int zb), .val (.int zc), .val (.int zd), .val (.ref b_128), .val (.ref b_131), .val (.ref x_137_b), .val (.ref x_163_b), .unset, .unset, .unset] [(.ref x_137_b), (.ref b_131), (.ref b_168), (.ref b_168)])) (fun t_ k_ => XS.aload X_168.here hx rfl (hb hby at_173) rfl rfl k_) ?_
            refine own_st (S' := T_168.setTop (mkF m 177 #[.val (.int p0), .val (.int p1), .val (.int p2), .val (.int p3), .val (.int (2 : Int32)), .val (.int v_1), .val (.int v_2), .val (.int zb), .val (.int zc), .val (.int zd), .val (.ref b_128), .val (.ref b_131), .val (.ref x_137_b), .val (.ref x_163_b), .unset, .unset, .unset] [(.int zb), (.ref x_137_b), (.ref b_131), (.ref b_168), (.ref b_168)])) (fun t_ k_ => XS.iload X_168.here hx rfl (hb hby at_175) rfl k_) ?_
            refine own_st (S' := T_168.setTop (mkF m 179 #[.val (.int p0), .val (.int p1), .val (.int p2), .val (.int p3), .val (.int (2 : Int32)), .val (.int v_1), .val (.int v_2), .val (.int zb), .val (.int zc), .val (.int zd), .val (.ref b_128), .val (.ref b_131), .val (.ref x_137_b), .val (.ref x_163_b), .unset, .unset, .unset] [(.ref x_163_b), (.int zb), (.ref x_137_b), (.ref b_131), (.ref b_168), (.ref b_168)])) (fun t_ k_ => XS.aload X_168.here hx rfl (hb hby at_177) rfl rfl k_) ?_
            refine own_st (S' := T_168.setTop (mkF m 181 #[.val (.int p0), .val (.int p1), .val (.int p2), .val (.int p3), .val (.int (2 : Int32)), .val (.int v_1), .val (.int v_2), .val (.int zb), .val (.int zc), .val (.int zd), .val (.ref b_128), .val (.ref b_131), .val (.ref x_137_b), .val (.ref x_163_b), .unset, .unset, .unset] [(.int zc), (.ref x_163_b), (.int zb), (.ref x_137_b), (.ref b_131), (.ref b_168), (.ref b_168)])) (fun t_ k_ => XS.iload X_168.here hx rfl (hb hby at_179) rfl k_) ?_
            obtain ⟨_, _, ⟨T_169, L_169, k_169, n_169⟩, -, X_169, ⟨Lc_169, hQ_169, l_169, y_169, z_169⟩, st_169⟩ := X_168.specialBack hx (y := (⟨"com/example/westmount/westmount/RowRange", "<init>", "(Ljava/lang/String;[BZ[BZ)V"⟩ : MethodName)) rfl hown (mvT hZ (hw _ (List.mem_of_getElem? (i := 37) rfl))) (mvT hZ (hw _ (List.mem_of_getElem? (i := 38) rfl))) (mvT hZ (hw _ (List.mem_of_getElem? (i := 39) rfl))) (by decide) (backOf (W := 1) (rm6 l Z a0 hw [] b_168 b_131 x_137_b zb x_163_b zc h_168 n0 Z_168 A_168 F_168_table F_168_start F_168_startIncluded F_168_stop F_168_stopIncluded g_b_168) hZ (hw _ (List.mem_of_getElem? (i := 39) rfl)) (hw _ (List.mem_of_getElem? (i := 36) rfl)) (by decide) (by decide)) (g := (mkF m 181 #[.val (.int p0), .val (.int p1), .val (.int p2), .val (.int p3), .val (.int (2 : Int32)), .val (.int v_1), .val (.int v_2), .val (.int zb), .val (.int zc), .val (.int zd), .val (.ref b_128), .val (.ref b_131), .val (.ref x_137_b), .val (.ref x_163_b), .unset, .unset, .unset] [(.int zc), (.ref x_163_b), (.int zb), (.ref x_137_b), (.ref b_131), (.ref b_168), (.ref b_168)])) rfl (by rw [hml]; rfl) (Steps.refl _) (a := b_168) (argsL := [(.ref b_131), (.ref x_137_b), (.int zb), (.ref x_163_b), (.int zc)]) (rest := [(.ref b_168)]) (lenOf pd_8 rfl) rfl (by show 2 * 0 + _ ≤ _; exact Nat.le_of_eq rfl) (hb hby at_181) (fun _ _ => ⟨rfl, e_168, (by decide : 6 + 0 ≤ _), (by decide : 19 + 0 ≤ _)⟩)
            dsimp only [Pt.U, Pt.locs, Pt.cells, Pt.slots] at X_169 l_169 y_169 z_169 st_169 hQ_169
            subst l_169 y_169 z_169
            obtain ⟨rfl, M_169, K_169c, c_169_0, c_169_1, c_169_2, c_169_3⟩ := hQ_169
            have N_169 := Fr.app N_163 M_169
            have Z_169 : n0 ≤ T_169.heap.size := Nat.le_trans Z_168 K_169c.1
            refine own_st (S' := T_169.setTop (mkF m 184 #[.val (.int p0), .val (.int p1), .val (.int p2), .val (.int p3), .val (.int (2 : Int32)), .val (.int v_1), .val (.int v_2), .val (.int zb), .val (.int zc), .val (.int zd), .val (.ref b_128), .val (.ref b_131), .val (.ref x_137_b), .val (.ref x_163_b), .unset, .unset, .unset] [(.ref b_168)])) (fun t_ k_ => st_169.trans k_) ?_
            refine own_st (S' := T_169.setTop (mkF m 186 #[.val (.int p0), .val (.int p1), .val (.int p2), .val (.int p3), .val (.int (2 : Int32)), .val (.int v_1), .val (.int v_2), .val (.int zb), .val (.int zc), .val (.int zd), .val (.ref b_128), .val (.ref b_131), .val (.ref x_137_b), .val (.ref x_163_b), .val (.ref b_168), .unset, .unset] [])) (fun t_ k_ => XS.astore X_169.here hx rfl (hb hby at_184) rfl rfl (l' := #[.val (.int p0), .val (.int p1), .val (.int p2), .val (.int p3), .val (.int (2 : Int32)), .val (.int v_1), .val (.int v_2), .val (.int zb), .val (.int zc), .val (.int zd), .val (.ref b_128), .val (.ref b_131), .val (.ref x_137_b), .val (.ref x_163_b), .val (.ref b_168), .unset, .unset]) rfl k_) ?_
            refine own_st (S' := T_169.setTop (mkF m 188 #[.val (.int p0), .val (.int p1), .val (.int p2), .val (.int p3), .val (.int (2 : Int32)), .val (.int v_1), .val (.int v_2), .val (.int zb), .val (.int zc), .val (.int zd), .val (.ref b_128), .val (.ref b_131), .val (.ref x_137_b), .val (.ref x_163_b), .val (.ref b_168), .unset, .unset] [(.ref b_168)])) (fun t_ k_ => XS.aload X_169.here hx rfl (hb hby at_186) rfl rfl k_) ?_
            have f_170 : Arv Z T_169.heap b_128 k_128 .char (2 : Int32) [(.int (nar .char ((p0 &&& (255 : Int32)).toUInt32.toUInt16.toUInt32.toInt32))), (.int (nar .char ((((p0.toUInt32 >>> ((8 : Int32) &&& 31).toUInt32).toInt32) &&& (255 : Int32)).toUInt32.toUInt16.toUInt32.toInt32)))] (.int (0 : Int32)) := ((f_164.ext E_168).keep K_169c (ninS ne_b_128_b_168 nin0))
            have f_171 : Exa Z T_169.heap b_131 "java/lang/String" := ((Exa.ext E_168 f_165).keep K_169c)
            have f_172 : Arv Z T_169.heap t_135 kb_135 .byte (2 : Int32) ((([(nar .char ((p0 &&& (255 : Int32)).toUInt32.toUInt16.toUInt32.toInt32)), (nar .char ((((p0.toUInt32 >>> ((8 : Int32) &&& 31).toUInt32).toInt32) &&& (255 : Int32)).toUInt32.toUInt16.toUInt32.toInt32))] : List Int32).map (fun c => c.toInt8.toInt32)).map Value.int) (.int 0) := ((f_166.ext E_168).keep K_169c (ninS ne_t_135_b_168 nin0))
            have f_173 : Arv Z T_169.heap x_137_b x_137_k .byte v_1 (own_bs v_1 p1) (.int (0 : Int32)) := ((f_167.ext E_168).keep K_169c (ninS ne_x_137_b_b_168 nin0))
            have f_174 : Arv Z T_169.heap x_163_b x_163_k .byte v_1 (own_bs v_1 p1) (.int (0 : Int32)) := ((c_163_0.ext E_168).keep K_169c (ninS ne_x_163_b_b_168 nin0))
            obtain ⟨cq_175, kq_175, q_175a, q_175b, q_175c⟩ := isOf hZ rfl c_169_0
            obtain ⟨_, _, ⟨T_175, L_175, k_175, n_175⟩, -, X_175, ⟨Lc_175, hQ_175, l_175, y_175, z_175⟩, st_175⟩ := X_169.virtualBack hx (y := (⟨"com/example/westmount/westmount/RowRange", "first", "()Lcom/example/westmount/westmount/RowKey;"⟩ : MethodName)) (z := (⟨"com/example/westmount/westmount/RowRange", "first", "()Lcom/example/westmount/westmount/RowKey;"⟩ : MethodName)) hown (mvT hZ (hw _ (List.mem_of_getElem? (i := 56) rfl))) (mvT hZ (hw _ (List.mem_of_getElem? (i := 57) rfl))) (notFace_of_selects (args := #[]) (mvT hZ (hw _ (List.mem_of_getElem? (i := 59) rfl)))) (mvT hZ (hw _ (List.mem_of_getElem? (i := 59) rfl))) (mvT hZ (hw _ (List.mem_of_getElem? (i := 58) rfl))) (by decide) (backOf (W := 0) (rm8 l Z a0 hw [] b_168 b_131 x_137_b T_169.heap n0 Z_169 c_169_1 c_169_2) hZ (hw _ (List.mem_of_getElem? (i := 60) rfl)) (hw _ (List.mem_of_getElem? (i := 36) rfl)) (by decide) (by decide)) q_175a q_175c (g := (mkF m 188 #[.val (.int p0), .val (.int p1), .val (.int p2), .val (.int p3), .val (.int (2 : Int32)), .val (.int v_1), .val (.int v_2), .val (.int zb), .val (.int zc), .val (.int zd), .val (.ref b_128), .val (.ref b_131), .val (.ref x_137_b), .val (.ref x_163_b), .val (.ref b_168), .unset, .unset] [(.ref b_168)])) rfl (by rw [hml]; rfl) (Steps.refl _) (argsL := []) (rest := []) (lenOf pd_9 rfl) rfl (by show 2 * 0 + _ ≤ _; exact Nat.le_of_eq rfl) (hb hby at_188) (fun _ _ => ⟨rfl, rfl, (by decide : 6 + 1 ≤ _), (by decide : 19 + 2 ≤ _)⟩)
            dsimp only [Pt.U, Pt.locs, Pt.cells, Pt.slots] at X_175 l_175 y_175 z_175 st_175 hQ_175
            subst l_175 y_175 z_175
            obtain ⟨x_175_q, rfl, M_175, K_175c, z_175_0, c_175_0, c_175_1, c_175_2⟩ := hQ_175
            have N_175 := Fr.app N_169 M_175
            have ne_b_128_x_175_q : b_128 ≠ x_175_q := Nat.ne_of_lt (Nat.lt_of_lt_of_le f_170.lt z_175_0)
            have ne_b_131_x_175_q : b_131 ≠ x_175_q := Nat.ne_of_lt (Nat.lt_of_lt_of_le f_171.lt z_175_0)
            have ne_b_168_x_175_q : b_168 ≠ x_175_q := Nat.ne_of_lt (Nat.lt_of_lt_of_le c_169_0.lt z_175_0)
            have ne_t_135_x_175_q : t_135 ≠ x_175_q := Nat.ne_of_lt (Nat.lt_of_lt_of_le f_172.lt z_175_0)
            have ne_x_137_b_x_175_q : x_137_b ≠ x_175_q := Nat.ne_of_lt (Nat.lt_of_lt_of_le f_173.lt z_175_0)
            have ne_x_163_b_x_175_q : x_163_b ≠ x_175_q := Nat.ne_of_lt (Nat.lt_of_lt_of_le f_174.lt z_175_0)
            have g_x_175_q : n0 ≤ x_175_q := Nat.le_trans Z_169 z_175_0
            have Z_175 : n0 ≤ T_175.heap.size := Nat.le_trans Z_169 K_175c.1
            refine own_st (S' := T_175.setTop (mkF m 191 #[.val (.int p0), .val (.int p1), .val (.int p2), .val (.int p3), .val (.int (2 : Int32)), .val (.int v_1), .val (.int v_2), .val (.int zb), .val (.int zc), .val (.int zd), .val (.ref b_128), .val (.ref b_131), .val (.ref x_137_b), .val (.ref x_163_b), .val (.ref b_168), .unset, .unset] [(.ref x_175_q)])) (fun t_ k_ => st_175.trans k_) ?_
            refine own_st (S' := T_175.setTop (mkF m 193 #[.val (.int p0), .val (.int p1), .val (.int p2), .val (.int p3), .val (.int (2 : Int32)), .val (.int v_1), .val (.int v_2), .val (.int zb), .val (.int zc), .val (.int zd), .val (.ref b_128), .val (.ref b_131), .val (.ref x_137_b), .val (.ref x_163_b), .val (.ref b_168), .val (.ref x_175_q), .unset] [])) (fun t_ k_ => XS.astore X_175.here hx rfl (hb hby at_191) rfl rfl (l' := #[.val (.int p0), .val (.int p1), .val (.int p2), .val (.int p3), .val (.int (2 : Int32)), .val (.int v_1), .val (.int v_2), .val (.int zb), .val (.int zc), .val (.int zd), .val (.ref b_128), .val (.ref b_131), .val (.ref x_137_b), .val (.ref x_163_b), .val (.ref b_168), .val (.ref x_175_q), .unset]) rfl k_) ?_
            refine own_st (S' := T_175.setTop (mkF m 195 #[.val (.int p0), .val (.int p1), .val (.int p2), .val (.int p3), .val (.int (2 : Int32)), .val (.int v_1), .val (.int v_2), .val (.int zb), .val (.int zc), .val (.int zd), .val (.ref b_128), .val (.ref b_131), .val (.ref x_137_b), .val (.ref x_163_b), .val (.ref b_168), .val (.ref x_175_q), .unset] [(.ref x_175_q)])) (fun t_ k_ => XS.aload X_175.here hx rfl (hb hby at_193) rfl rfl k_) ?_
            obtain ⟨cq_176, kq_176, q_176a, q_176b, q_176c⟩ := isOf hZ rfl c_175_0
            obtain ⟨_, _, ⟨T_176, L_176, k_176, n_176⟩, -, X_176, ⟨Lc_176, hQ_176, l_176, y_176, z_176⟩, st_176⟩ := X_175.virtualBack hx (y := (⟨"com/example/westmount/westmount/RowKey", "table", "()Ljava/lang/String;"⟩ : MethodName)) (z := (⟨"com/example/westmount/westmount/RowKey", "table", "()Ljava/lang/String;"⟩ : MethodName)) hown (mvT hZ (hw _ (List.mem_of_getElem? (i := 72) rfl))) (mvT hZ (hw _ (List.mem_of_getElem? (i := 73) rfl))) (notFace_of_selects (args := #[]) (mvT hZ (hw _ (List.mem_of_getElem? (i := 75) rfl)))) (mvT hZ (hw _ (List.mem_of_getElem? (i := 75) rfl))) (mvT hZ (hw _ (List.mem_of_getElem? (i := 74) rfl))) (by decide) (backOf (W := 0) (rm10 l Z a0 hw [] x_175_q b_131 T_175.heap n0 Z_175 c_175_1) hZ (hw _ (List.mem_of_getElem? (i := 76) rfl)) (hw _ (List.mem_of_getElem? (i := 63) rfl)) (by decide) (by decide)) q_176a q_176c (g := (mkF m 195 #[.val (.int p0), .val (.int p1), .val (.int p2), .val (.int p3), .val (.int (2 : Int32)), .val (.int v_1), .val (.int v_2), .val (.int zb), .val (.int zc), .val (.int zd), .val (.ref b_128), .val (.ref b_131), .val (.ref x_137_b), .val (.ref x_163_b), .val (.ref b_168), .val (.ref x_175_q), .unset] [(.ref x_175_q)])) rfl (by rw [hml]; rfl) (Steps.refl _) (argsL := []) (rest := []) (lenOf pd_10 rfl) rfl (by show 2 * 0 + _ ≤ _; exact Nat.le_of_eq rfl) (hb hby at_195) (fun _ _ => ⟨rfl, rfl, (by decide : 7 + 0 ≤ _), (by decide : 21 + 0 ≤ _)⟩)
            dsimp only [Pt.U, Pt.locs, Pt.cells, Pt.slots] at X_176 l_176 y_176 z_176 st_176 hQ_176
            subst l_176 y_176 z_176
            obtain ⟨rfl, M_176, q_176⟩ := hQ_176
            have N_176 := Fr.app N_175 M_176
            refine own_st (S' := T_176.setTop (mkF m 198 #[.val (.int p0), .val (.int p1), .val (.int p2), .val (.int p3), .val (.int (2 : Int32)), .val (.int v_1), .val (.int v_2), .val (.int zb), .val (.int zc), .val (.int zd), .val (.ref b_128), .val (.ref b_131), .val (.ref x_137_b), .val (.ref x_163_b), .val (.ref b_168), .val (.ref x_175_q), .unset] [(.ref b_131)])) (fun t_ k_ => st_176.trans k_) ?_
            refine own_st (S' := T_176.setTop (mkF m 200 #[.val (.int p0), .val (.int p1), .val (.int p2), .val (.int p3), .val (.int (2 : Int32)), .val (.int v_1), .val (.int v_2), .val (.int zb), .val (.int zc), .val (.int zd), .val (.ref b_128), .val (.ref b_131), .val (.ref x_137_b), .val (.ref x_163_b), .val (.ref b_168), .val (.ref x_175_q), .unset] [(.ref b_131), (.ref b_131)])) (fun t_ k_ => XS.aload X_176.here hx rfl (hb hby at_198) rfl rfl k_) ?_
            have f_178 : Exa Z T_175.heap b_131 "java/lang/String" := (f_171.keep K_175c)
            obtain ⟨cq_177, kq_177, q_177a, q_177b, q_177c⟩ := isOf hZ q_176 f_178
            obtain ⟨_, _, ⟨T_177, L_177, k_177, n_177⟩, -, X_177, ⟨Lc_177, hQ_177, l_177, y_177, z_177⟩, st_177⟩ := X_176.virtualBack hx (y := (⟨"java/lang/String", "equals", "(Ljava/lang/Object;)Z"⟩ : MethodName)) (z := (⟨"java/lang/String", "equals", "(Ljava/lang/Object;)Z"⟩ : MethodName)) hown (mvT hZ (hw _ (List.mem_of_getElem? (i := 77) rfl))) (mvT hZ (hw _ (List.mem_of_getElem? (i := 78) rfl))) (notFace_of_selects (args := #[]) (mvT hZ (hw _ (List.mem_of_getElem? (i := 80) rfl)))) (mvT hZ (hw _ (List.mem_of_getElem? (i := 80) rfl))) (mvT hZ (hw _ (List.mem_of_getElem? (i := 79) rfl))) (by decide) (backOf (W := 0) (rm12 l Z a0 hw [] b_131 b_131 T_175.heap n0 Z_175 rfl) hZ (hw _ (List.mem_of_getElem? (i := 81) rfl)) (hw _ (List.mem_of_getElem? (i := 3) rfl)) (by decide) (by decide)) q_177a q_177c (g := (mkF m 200 #[.val (.int p0), .val (.int p1), .val (.int p2), .val (.int p3), .val (.int (2 : Int32)), .val (.int v_1), .val (.int v_2), .val (.int zb), .val (.int zc), .val (.int zd), .val (.ref b_128), .val (.ref b_131), .val (.ref x_137_b), .val (.ref x_163_b), .val (.ref b_168), .val (.ref x_175_q), .unset] [(.ref b_131), (.ref b_131)])) rfl (by rw [hml]; rfl) (Steps.refl _) (argsL := [(.ref b_131)]) (rest := []) (lenOf pd_4 rfl) rfl (by show 2 * 0 + _ ≤ _; exact Nat.le_of_eq rfl) (hb hby at_200) (fun _ _ => ⟨rfl, q_176, (by decide : 7 + 0 ≤ _), (by decide : 21 + 0 ≤ _)⟩)
            dsimp only [Pt.U, Pt.locs, Pt.cells, Pt.slots] at X_177 l_177 y_177 z_177 st_177 hQ_177
            subst l_177 y_177 z_177
            obtain ⟨rfl, M_177, q_177⟩ := hQ_177
            have N_177 := Fr.app N_176 M_177
            refine own_st (S' := T_177.setTop (mkF m 203 #[.val (.int p0), .val (.int p1), .val (.int p2), .val (.int p3), .val (.int (2 : Int32)), .val (.int v_1), .val (.int v_2), .val (.int zb), .val (.int zc), .val (.int zd), .val (.ref b_128), .val (.ref b_131), .val (.ref x_137_b), .val (.ref x_163_b), .val (.ref b_168), .val (.ref x_175_q), .unset] [(.int (1 : Int32))])) (fun t_ k_ => st_177.trans k_) ?_
            refine own_st (S' := T_177.setTop (mkF m 206 #[.val (.int p0), .val (.int p1), .val (.int p2), .val (.int p3), .val (.int (2 : Int32)), .val (.int v_1), .val (.int v_2), .val (.int zb), .val (.int zc), .val (.int zd), .val (.ref b_128), .val (.ref b_131), .val (.ref x_137_b), .val (.ref x_163_b), .val (.ref b_168), .val (.ref x_175_q), .unset] [])) (fun t_ k_ => XS.ifNo X_177.here hx rfl (hb hby at_203) rfl ((if0 _ _).trans (feq (by decide : ¬ ((1 : Int32) = (0 : Int32)))).1) k_) ?_
            refine own_st (S' := T_177.setTop (mkF m 208 #[.val (.int p0), .val (.int p1), .val (.int p2), .val (.int p3), .val (.int (2 : Int32)), .val (.int v_1), .val (.int v_2), .val (.int zb), .val (.int zc), .val (.int zd), .val (.ref b_128), .val (.ref b_131), .val (.ref x_137_b), .val (.ref x_163_b), .val (.ref b_168), .val (.ref x_175_q), .unset] [(.ref x_175_q)])) (fun t_ k_ => XS.aload X_177.here hx rfl (hb hby at_206) rfl rfl k_) ?_
            obtain ⟨cq_179, kq_179, q_179a, q_179b, q_179c⟩ := isOf hZ q_177 c_175_0
            obtain ⟨_, _, ⟨T_179, L_179, k_179, n_179⟩, -, X_179, ⟨Lc_179, hQ_179, l_179, y_179, z_179⟩, st_179⟩ := X_177.virtualBack hx (y := (⟨"com/example/westmount/westmount/RowKey", "row", "()[B"⟩ : MethodName)) (z := (⟨"com/example/westmount/westmount/RowKey", "row", "()[B"⟩ : MethodName)) hown (mvT hZ (hw _ (List.mem_of_getElem? (i := 82) rfl))) (mvT hZ (hw _ (List.mem_of_getElem? (i := 83) rfl))) (notFace_of_selects (args := #[]) (mvT hZ (hw _ (List.mem_of_getElem? (i := 85) rfl)))) (mvT hZ (hw _ (List.mem_of_getElem? (i := 85) rfl))) (mvT hZ (hw _ (List.mem_of_getElem? (i := 84) rfl))) (by decide) (backOf (W := 0) (rm11 l Z a0 hw [] x_175_q x_137_b T_175.heap n0 Z_175 c_175_2) hZ (hw _ (List.mem_of_getElem? (i := 86) rfl)) (hw _ (List.mem_of_getElem? (i := 63) rfl)) (by decide) (by decide)) q_179a q_179c (g := (mkF m 208 #[.val (.int p0), .val (.int p1), .val (.int p2), .val (.int p3), .val (.int (2 : Int32)), .val (.int v_1), .val (.int v_2), .val (.int zb), .val (.int zc), .val (.int zd), .val (.ref b_128), .val (.ref b_131), .val (.ref x_137_b), .val (.ref x_163_b), .val (.ref b_168), .val (.ref x_175_q), .unset] [(.ref x_175_q)])) rfl (by rw [hml]; rfl) (Steps.refl _) (argsL := []) (rest := []) (lenOf pd_11 rfl) rfl (by show 2 * 0 + _ ≤ _; exact Nat.le_of_eq rfl) (hb hby at_208) (fun _ _ => ⟨rfl, q_177, (by decide : 7 + 0 ≤ _), (by decide : 21 + 0 ≤ _)⟩)
            dsimp only [Pt.U, Pt.locs, Pt.cells, Pt.slots] at X_179 l_179 y_179 z_179 st_179 hQ_179
            subst l_179 y_179 z_179
            obtain ⟨rfl, M_179, q_179⟩ := hQ_179
            have N_179 := Fr.app N_177 M_179
            refine own_st (S' := T_179.setTop (mkF m 211 #[.val (.int p0), .val (.int p1), .val (.int p2), .val (.int p3), .val (.int (2 : Int32)), .val (.int v_1), .val (.int v_2), .val (.int zb), .val (.int zc), .val (.int zd), .val (.ref b_128), .val (.ref b_131), .val (.ref x_137_b), .val (.ref x_163_b), .val (.ref b_168), .val (.ref x_175_q), .unset] [(.ref x_137_b)])) (fun t_ k_ => st_179.trans k_) ?_
            refine own_st (S' := T_179.setTop (mkF m 213 #[.val (.int p0), .val (.int p1), .val (.int p2), .val (.int p3), .val (.int (2 : Int32)), .val (.int v_1), .val (.int v_2), .val (.int zb), .val (.int zc), .val (.int zd), .val (.ref b_128), .val (.ref b_131), .val (.ref x_137_b), .val (.ref x_163_b), .val (.ref b_168), .val (.ref x_175_q), .unset] [(.int v_1), (.ref x_137_b)])) (fun t_ k_ => XS.iload X_179.here hx rfl (hb hby at_211) rfl k_) ?_
            refine own_st (S' := T_179.setTop (mkF m 214 #[.val (.int p0), .val (.int p1), .val (.int p2), .val (.int p3), .val (.int (2 : Int32)), .val (.int v_1), .val (.int v_2), .val (.int zb), .val (.int zc), .val (.int zd), .val (.ref b_128), .val (.ref b_131), .val (.ref x_137_b), .val (.ref x_163_b), .val (.ref b_168), .val (.ref x_175_q), .unset] [(.int p1), (.int v_1), (.ref x_137_b)])) (fun t_ k_ => XS.iloadN X_179.here hx rfl (hb hby at_213) rfl k_) ?_
            have f_180 : Arv Z T_175.heap x_137_b x_137_k .byte v_1 (own_bs v_1 p1) (.int (0 : Int32)) := (f_173.keep K_175c nin0)
            obtain ⟨_, _, ⟨T_181, L_181, k_181, n_181⟩, -, X_181, ⟨Lc_181, hQ_181, l_181, y_181, z_181⟩, st_181⟩ := Jvm.LawKit.callS X_179 hx (y := (⟨"com/example/westmount/westmount/RowRangeFirstPinLaw", "sameBytes", "([BII)Z"⟩ : MethodName)) hown (mvT hZ (hw _ (List.mem_of_getElem? (i := 87) rfl))) (mvT hZ (hw _ (List.mem_of_getElem? (i := 88) rfl))) (mvT hZ (hw _ (List.mem_of_getElem? (i := 32) rfl))) (mvT hZ (hw _ (List.mem_of_getElem? (i := 89) rfl))) (by decide) (backOf (W := 0) (rm4 l Z a0 hw [] x_137_b v_1 p1 x_137_k T_175.heap n0 Z_175 f_180 (hv_1 ▸ own_four _)) hZ (hw _ (List.mem_of_getElem? (i := 89) rfl)) (hw _ (List.mem_of_getElem? (i := 32) rfl)) (by decide) (by decide)) (g := (mkF m 214 #[.val (.int p0), .val (.int p1), .val (.int p2), .val (.int p3), .val (.int (2 : Int32)), .val (.int v_1), .val (.int v_2), .val (.int zb), .val (.int zc), .val (.int zd), .val (.ref b_128), .val (.ref b_131), .val (.ref x_137_b), .val (.ref x_163_b), .val (.ref b_168), .val (.ref x_175_q), .unset] [(.int p1), (.int v_1), (.ref x_137_b)])) rfl (by rw [hml]; rfl) (argsL := [(.ref x_137_b), (.int v_1), (.int p1)]) (rest := []) (lenOf pd_12 rfl) rfl (by show 2 * 0 + _ ≤ _; exact Nat.le_of_eq rfl) (hb hby at_214) (fun _ _ => ⟨rfl, q_179, (by decide : 7 + 0 ≤ _), (by decide : 21 + 0 ≤ _)⟩)
            dsimp only [Pt.U, Pt.locs, Pt.cells, Pt.slots] at X_181 l_181 y_181 z_181 st_181 hQ_181
            subst l_181 y_181 z_181
            obtain ⟨rfl, M_181, q_181⟩ := hQ_181
            have N_181 := Fr.app N_179 M_181
            refine own_st (S' := T_181.setTop (mkF m 217 #[.val (.int p0), .val (.int p1), .val (.int p2), .val (.int p3), .val (.int (2 : Int32)), .val (.int v_1), .val (.int v_2), .val (.int zb), .val (.int zc), .val (.int zd), .val (.ref b_128), .val (.ref b_131), .val (.ref x_137_b), .val (.ref x_163_b), .val (.ref b_168), .val (.ref x_175_q), .unset] [(.int (1 : Int32))])) st_181 ?_
            refine own_st (S' := T_181.setTop (mkF m 220 #[.val (.int p0), .val (.int p1), .val (.int p2), .val (.int p3), .val (.int (2 : Int32)), .val (.int v_1), .val (.int v_2), .val (.int zb), .val (.int zc), .val (.int zd), .val (.ref b_128), .val (.ref b_131), .val (.ref x_137_b), .val (.ref x_163_b), .val (.ref b_168), .val (.ref x_175_q), .unset] [])) (fun t_ k_ => XS.ifNo X_181.here hx rfl (hb hby at_217) rfl ((if0 _ _).trans (feq (by decide : ¬ ((1 : Int32) = (0 : Int32)))).1) k_) ?_
            refine own_st (S' := T_181.setTop (mkF m 221 #[.val (.int p0), .val (.int p1), .val (.int p2), .val (.int p3), .val (.int (2 : Int32)), .val (.int v_1), .val (.int v_2), .val (.int zb), .val (.int zc), .val (.int zd), .val (.ref b_128), .val (.ref b_131), .val (.ref x_137_b), .val (.ref x_163_b), .val (.ref b_168), .val (.ref x_175_q), .unset] [(.int (1 : Int32))])) (fun t_ k_ => XS.iconst X_181.here hx rfl (hb hby at_220) k_) ?_
            refine own_st (S' := T_181.setTop (mkF m 225 #[.val (.int p0), .val (.int p1), .val (.int p2), .val (.int p3), .val (.int (2 : Int32)), .val (.int v_1), .val (.int v_2), .val (.int zb), .val (.int zc), .val (.int zd), .val (.ref b_128), .val (.ref b_131), .val (.ref x_137_b), .val (.ref x_163_b), .val (.ref b_168), .val (.ref x_175_q), .unset] [(.int (1 : Int32))])) (fun t_ k_ => XS.goto X_181.here hx rfl (pc0 := 221) (pc' := 225) rfl (hb hby at_221) (by decide) (by decide) k_) ?_
            refine own_st (S' := T_181.setTop (mkF m 227 #[.val (.int p0), .val (.int p1), .val (.int p2), .val (.int p3), .val (.int (2 : Int32)), .val (.int v_1), .val (.int v_2), .val (.int zb), .val (.int zc), .val (.int zd), .val (.ref b_128), .val (.ref b_131), .val (.ref x_137_b), .val (.ref x_163_b), .val (.ref b_168), .val (.ref x_175_q), .val (.int (1 : Int32))] [])) (fun t_ k_ => XS.istore X_181.here hx rfl (hb hby at_225) rfl (l' := #[.val (.int p0), .val (.int p1), .val (.int p2), .val (.int p3), .val (.int (2 : Int32)), .val (.int v_1), .val (.int v_2), .val (.int zb), .val (.int zc), .val (.int zd), .val (.ref b_128), .val (.ref b_131), .val (.ref x_137_b), .val (.ref x_163_b), .val (.ref b_168), .val (.ref x_175_q), .val (.int (1 : Int32))]) rfl k_) ?_
            refine own_st (S' := T_181.setTop (mkF m 229 #[.val (.int p0), .val (.int p1), .val (.int p2), .val (.int p3), .val (.int (2 : Int32)), .val (.int v_1), .val (.int v_2), .val (.int zb), .val (.int zc), .val (.int zd), .val (.ref b_128), .val (.ref b_131), .val (.ref x_137_b), .val (.ref x_163_b), .val (.ref b_168), .val (.ref x_175_q), .val (.int (1 : Int32))] [(.int (1 : Int32))])) (fun t_ k_ => XS.iload X_181.here hx rfl (hb hby at_227) rfl k_) ?_
            refine own_st (S' := T_181.setTop (mkF m 232 #[.val (.int p0), .val (.int p1), .val (.int p2), .val (.int p3), .val (.int (2 : Int32)), .val (.int v_1), .val (.int v_2), .val (.int zb), .val (.int zc), .val (.int zd), .val (.ref b_128), .val (.ref b_131), .val (.ref x_137_b), .val (.ref x_163_b), .val (.ref b_168), .val (.ref x_175_q), .val (.int (1 : Int32))] [])) (fun t_ k_ => XS.ifNo X_181.here hx rfl (hb hby at_229) rfl ((if0 _ _).trans (feq (by decide : ¬ ((1 : Int32) = (0 : Int32)))).1) k_) ?_
            refine own_st (S' := T_181.setTop (mkF m 234 #[.val (.int p0), .val (.int p1), .val (.int p2), .val (.int p3), .val (.int (2 : Int32)), .val (.int v_1), .val (.int v_2), .val (.int zb), .val (.int zc), .val (.int zd), .val (.ref b_128), .val (.ref b_131), .val (.ref x_137_b), .val (.ref x_163_b), .val (.ref b_168), .val (.ref x_175_q), .val (.int (1 : Int32))] [(.int zd)])) (fun t_ k_ => XS.iload X_181.here hx rfl (hb hby at_232) rfl k_) ?_
            refine own_st (S' := T_181.setTop (mkF m 237 #[.val (.int p0), .val (.int p1), .val (.int p2), .val (.int p3), .val (.int (2 : Int32)), .val (.int v_1), .val (.int v_2), .val (.int zb), .val (.int zc), .val (.int zd), .val (.ref b_128), .val (.ref b_131), .val (.ref x_137_b), .val (.ref x_163_b), .val (.ref b_168), .val (.ref x_175_q), .val (.int (1 : Int32))] [])) (fun t_ k_ => XS.ifNo X_181.here hx rfl (hb hby at_234) rfl ((if0 _ _).trans (feq hc147).1) k_) ?_
            refine own_st (S' := T_181.setTop (mkF m 239 #[.val (.int p0), .val (.int p1), .val (.int p2), .val (.int p3), .val (.int (2 : Int32)), .val (.int v_1), .val (.int v_2), .val (.int zb), .val (.int zc), .val (.int zd), .val (.ref b_128), .val (.ref b_131), .val (.ref x_137_b), .val (.ref x_163_b), .val (.ref b_168), .val (.ref x_175_q), .val (.int (1 : Int32))] [(.int v_1)])) (fun t_ k_ => XS.iload X_181.here hx rfl (hb hby at_237) rfl k_) ?_
            by_cases hc239 : (0 : Int32) < v_1
            · refine own_st (S' := T_181.setTop (mkF m 242 #[.val (.int p0), .val (.int p1), .val (.int p2), .val (.int p3), .val (.int (2 : Int32)), .val (.int v_1), .val (.int v_2), .val (.int zb), .val (.int zc), .val (.int zd), .val (.ref b_128), .val (.ref b_131), .val (.ref x_137_b), .val (.ref x_163_b), .val (.ref b_168), .val (.ref x_175_q), .val (.int (1 : Int32))] [])) (fun t_ k_ => XS.ifNo X_181.here hx rfl (hb hby at_239) rfl ((if0 _ _).trans (tlt hc239).2.2.2) k_) ?_
              refine own_st (S' := T_181.setTop (mkF m 244 #[.val (.int p0), .val (.int p1), .val (.int p2), .val (.int p3), .val (.int (2 : Int32)), .val (.int v_1), .val (.int v_2), .val (.int zb), .val (.int zc), .val (.int zd), .val (.ref b_128), .val (.ref b_131), .val (.ref x_137_b), .val (.ref x_163_b), .val (.ref b_168), .val (.ref x_175_q), .val (.int (1 : Int32))] [(.ref x_175_q)])) (fun t_ k_ => XS.aload X_181.here hx rfl (hb hby at_242) rfl rfl k_) ?_
              refine own_st (S' := T_181.setTop (mkF m 246 #[.val (.int p0), .val (.int p1), .val (.int p2), .val (.int p3), .val (.int (2 : Int32)), .val (.int v_1), .val (.int v_2), .val (.int zb), .val (.int zc), .val (.int zd), .val (.ref b_128), .val (.ref b_131), .val (.ref x_137_b), .val (.ref x_163_b), .val (.ref b_168), .val (.ref x_175_q), .val (.int (1 : Int32))] [(.ref b_168), (.ref x_175_q)])) (fun t_ k_ => XS.aload X_181.here hx rfl (hb hby at_244) rfl rfl k_) ?_
              have f_182 : Fld Z T_175.heap b_168 "com/example/westmount/westmount/RowRange" "table" "Ljava/lang/String;" (.ref b_131) := (c_169_1.keep K_175c nin0)
              have f_183 : Fld Z T_175.heap b_168 "com/example/westmount/westmount/RowRange" "stop" "[B" (.ref x_163_b) := (c_169_3.keep K_175c nin0)
              have f_184 : Arv Z T_175.heap x_163_b x_163_k .byte v_1 (own_bs v_1 p1) (.int (0 : Int32)) := (f_174.keep K_175c nin0)
              have f_185 : Arv Z T_175.heap b_128 k_128 .char (2 : Int32) [(.int (nar .char ((p0 &&& (255 : Int32)).toUInt32.toUInt16.toUInt32.toInt32))), (.int (nar .char ((((p0.toUInt32 >>> ((8 : Int32) &&& 31).toUInt32).toInt32) &&& (255 : Int32)).toUInt32.toUInt16.toUInt32.toInt32)))] (.int (0 : Int32)) := (f_170.keep K_175c nin0)
              have f_186 : Arv Z T_175.heap t_135 kb_135 .byte (2 : Int32) ((([(nar .char ((p0 &&& (255 : Int32)).toUInt32.toUInt16.toUInt32.toInt32)), (nar .char ((((p0.toUInt32 >>> ((8 : Int32) &&& 31).toUInt32).toInt32) &&& (255 : Int32)).toUInt32.toUInt16.toUInt32.toInt32))] : List Int32).map (fun c => c.toInt8.toInt32)).map Value.int) (.int 0) := (f_172.keep K_175c nin0)
              have f_188 : Exa Z T_175.heap b_168 "com/example/westmount/westmount/RowRange" := (c_169_0.keep K_175c)
              obtain ⟨cq_187, kq_187, q_187a, q_187b, q_187c⟩ := isOf hZ q_181 f_188
              obtain ⟨_, _, ⟨T_187, L_187, k_187, n_187⟩, -, X_187, ⟨Lc_187, hQ_187, l_187, y_187, z_187⟩, st_187⟩ := X_181.virtualBack hx (y := (⟨"com/example/westmount/westmount/RowRange", "last", "()Lcom/example/westmount/westmount/RowKey;"⟩ : MethodName)) (z := (⟨"com/example/westmount/westmount/RowRange", "last", "()Lcom/example/westmount/westmount/RowKey;"⟩ : MethodName)) hown (mvT hZ (hw _ (List.mem_of_getElem? (i := 93) rfl))) (mvT hZ (hw _ (List.mem_of_getElem? (i := 94) rfl))) (notFace_of_selects (args := #[]) (mvT hZ (hw _ (List.mem_of_getElem? (i := 96) rfl)))) (mvT hZ (hw _ (List.mem_of_getElem? (i := 96) rfl))) (mvT hZ (hw _ (List.mem_of_getElem? (i := 95) rfl))) (by decide) (backOf (W := 1) (rm9 l Z a0 hw [] b_168 b_131 x_163_b x_163_k v_1 (own_bs v_1 p1) T_175.heap n0 Z_175 f_182 f_183 f_184 hc239) hZ (hw _ (List.mem_of_getElem? (i := 97) rfl)) (hw _ (List.mem_of_getElem? (i := 36) rfl)) (by decide) (by decide)) q_187a q_187c (g := (mkF m 246 #[.val (.int p0), .val (.int p1), .val (.int p2), .val (.int p3), .val (.int (2 : Int32)), .val (.int v_1), .val (.int v_2), .val (.int zb), .val (.int zc), .val (.int zd), .val (.ref b_128), .val (.ref b_131), .val (.ref x_137_b), .val (.ref x_163_b), .val (.ref b_168), .val (.ref x_175_q), .val (.int (1 : Int32))] [(.ref b_168), (.ref x_175_q)])) rfl (by rw [hml]; rfl) (Steps.refl _) (argsL := []) (rest := [(.ref x_175_q)]) (lenOf pd_9 rfl) rfl (by show 2 * 0 + _ ≤ _; exact Nat.le_of_eq rfl) (hb hby at_246) (fun _ _ => ⟨rfl, q_181, (by decide : 7 + 1 ≤ _), (by decide : 21 + 2 ≤ _)⟩)
              dsimp only [Pt.U, Pt.locs, Pt.cells, Pt.slots] at X_187 l_187 y_187 z_187 st_187 hQ_187
              subst l_187 y_187 z_187
              obtain ⟨x_187_q, rfl, M_187, K_187c, z_187_0, c_187_0, c_187_1, c_187_2⟩ := hQ_187
              have N_187 := Fr.app N_181 M_187
              have ne_b_128_x_187_q : b_128 ≠ x_187_q := Nat.ne_of_lt (Nat.lt_of_lt_of_le f_185.lt z_187_0)
              have ne_b_131_x_187_q : b_131 ≠ x_187_q := Nat.ne_of_lt (Nat.lt_of_lt_of_le f_178.lt z_187_0)
              have ne_b_168_x_187_q : b_168 ≠ x_187_q := Nat.ne_of_lt (Nat.lt_of_lt_of_le f_182.lt z_187_0)
              have ne_t_135_x_187_q : t_135 ≠ x_187_q := Nat.ne_of_lt (Nat.lt_of_lt_of_le f_186.lt z_187_0)
              have ne_x_137_b_x_187_q : x_137_b ≠ x_187_q := Nat.ne_of_lt (Nat.lt_of_lt_of_le f_180.lt z_187_0)
              have ne_x_163_b_x_187_q : x_163_b ≠ x_187_q := Nat.ne_of_lt (Nat.lt_of_lt_of_le f_184.lt z_187_0)
              have ne_x_175_q_x_187_q : x_175_q ≠ x_187_q := Nat.ne_of_lt (Nat.lt_of_lt_of_le c_175_0.lt z_187_0)
              have g_x_187_q : n0 ≤ x_187_q := Nat.le_trans Z_175 z_187_0
              have Z_187 : n0 ≤ T_187.heap.size := Nat.le_trans Z_175 K_187c.1
              refine own_st (S' := T_187.setTop (mkF m 249 #[.val (.int p0), .val (.int p1), .val (.int p2), .val (.int p3), .val (.int (2 : Int32)), .val (.int v_1), .val (.int v_2), .val (.int zb), .val (.int zc), .val (.int zd), .val (.ref b_128), .val (.ref b_131), .val (.ref x_137_b), .val (.ref x_163_b), .val (.ref b_168), .val (.ref x_175_q), .val (.int (1 : Int32))] [(.ref x_187_q), (.ref x_175_q)])) (fun t_ k_ => st_187.trans k_) ?_
              have f_189 : Fld Z T_187.heap x_175_q "com/example/westmount/westmount/RowKey" "table" "Ljava/lang/String;" (.ref b_131) := (c_175_1.keep K_187c nin0)
              have f_190 : Fld Z T_187.heap x_175_q "com/example/westmount/westmount/RowKey" "row" "[B" (.ref x_137_b) := (c_175_2.keep K_187c nin0)
              have f_191 : Exa Z T_187.heap b_131 "java/lang/String" := (f_178.keep K_187c)
              have f_192 : Arv Z T_187.heap x_137_b x_137_k .byte v_1 (own_bs v_1 p1) (.int (0 : Int32)) := (f_180.keep K_187c nin0)
              have f_193 : Arv Z T_187.heap x_163_b x_163_k .byte v_1 (own_bs v_1 p1) (.int (0 : Int32)) := (f_184.keep K_187c nin0)
              have f_195 : Exa Z T_187.heap x_175_q "com/example/westmount/westmount/RowKey" := (c_175_0.keep K_187c)
              obtain ⟨cq_194, kq_194, q_194a, q_194b, q_194c⟩ := isOf hZ rfl f_195
              obtain ⟨_, _, ⟨T_194, L_194, k_194, n_194⟩, -, X_194, ⟨Lc_194, hQ_194, l_194, y_194, z_194⟩, st_194⟩ := X_187.virtualBack hx (y := (⟨"com/example/westmount/westmount/RowKey", "equals", "(Ljava/lang/Object;)Z"⟩ : MethodName)) (z := (⟨"com/example/westmount/westmount/RowKey", "equals", "(Ljava/lang/Object;)Z"⟩ : MethodName)) hown (mvT hZ (hw _ (List.mem_of_getElem? (i := 98) rfl))) (mvT hZ (hw _ (List.mem_of_getElem? (i := 99) rfl))) (notFace_of_selects (args := #[]) (mvT hZ (hw _ (List.mem_of_getElem? (i := 101) rfl)))) (mvT hZ (hw _ (List.mem_of_getElem? (i := 101) rfl))) (mvT hZ (hw _ (List.mem_of_getElem? (i := 100) rfl))) (by decide) (backOf (W := 0) (rm15 l Z a0 hw [] x_175_q x_187_q b_131 x_137_b x_163_b x_137_k x_163_k v_1 p1 T_187.heap n0 Z_187 f_189 f_190 c_187_0 c_187_1 c_187_2 f_191 f_192 f_193 ne_x_137_b_x_163_b (hv_1 ▸ own_four _)) hZ (hw _ (List.mem_of_getElem? (i := 102) rfl)) (hw _ (List.mem_of_getElem? (i := 63) rfl)) (by decide) (by decide)) q_194a q_194c (g := (mkF m 249 #[.val (.int p0), .val (.int p1), .val (.int p2), .val (.int p3), .val (.int (2 : Int32)), .val (.int v_1), .val (.int v_2), .val (.int zb), .val (.int zc), .val (.int zd), .val (.ref b_128), .val (.ref b_131), .val (.ref x_137_b), .val (.ref x_163_b), .val (.ref b_168), .val (.ref x_175_q), .val (.int (1 : Int32))] [(.ref x_187_q), (.ref x_175_q)])) rfl (by rw [hml]; rfl) (Steps.refl _) (argsL := [(.ref x_187_q)]) (rest := []) (lenOf pd_4 rfl) rfl (by show 2 * 0 + _ ≤ _; exact Nat.le_of_eq rfl) (hb hby at_249) (fun _ _ => ⟨rfl, rfl, (by decide : 8 + 0 ≤ _), (by decide : 23 + 0 ≤ _)⟩)
              dsimp only [Pt.U, Pt.locs, Pt.cells, Pt.slots] at X_194 l_194 y_194 z_194 st_194 hQ_194
              subst l_194 y_194 z_194
              obtain ⟨rfl, M_194, q_194⟩ := hQ_194
              have N_194 := Fr.app N_187 M_194
              refine own_st (S' := T_194.setTop (mkF m 252 #[.val (.int p0), .val (.int p1), .val (.int p2), .val (.int p3), .val (.int (2 : Int32)), .val (.int v_1), .val (.int v_2), .val (.int zb), .val (.int zc), .val (.int zd), .val (.ref b_128), .val (.ref b_131), .val (.ref x_137_b), .val (.ref x_163_b), .val (.ref b_168), .val (.ref x_175_q), .val (.int (1 : Int32))] [(.int (1 : Int32))])) (fun t_ k_ => st_194.trans k_) ?_
              refine own_st (S' := T_194.setTop (mkF m 254 #[.val (.int p0), .val (.int p1), .val (.int p2), .val (.int p3), .val (.int (2 : Int32)), .val (.int v_1), .val (.int v_2), .val (.int zb), .val (.int zc), .val (.int zd), .val (.ref b_128), .val (.ref b_131), .val (.ref x_137_b), .val (.ref x_163_b), .val (.ref b_168), .val (.ref x_175_q), .val (.int (1 : Int32))] [])) (fun t_ k_ => XS.istore X_194.here hx rfl (hb hby at_252) rfl (l' := #[.val (.int p0), .val (.int p1), .val (.int p2), .val (.int p3), .val (.int (2 : Int32)), .val (.int v_1), .val (.int v_2), .val (.int zb), .val (.int zc), .val (.int zd), .val (.ref b_128), .val (.ref b_131), .val (.ref x_137_b), .val (.ref x_163_b), .val (.ref b_168), .val (.ref x_175_q), .val (.int (1 : Int32))]) rfl k_) ?_
              refine own_st (S' := T_194.setTop (mkF m 256 #[.val (.int p0), .val (.int p1), .val (.int p2), .val (.int p3), .val (.int (2 : Int32)), .val (.int v_1), .val (.int v_2), .val (.int zb), .val (.int zc), .val (.int zd), .val (.ref b_128), .val (.ref b_131), .val (.ref x_137_b), .val (.ref x_163_b), .val (.ref b_168), .val (.ref x_175_q), .val (.int (1 : Int32))] [(.int (1 : Int32))])) (fun t_ k_ => XS.iload X_194.here hx rfl (hb hby at_254) rfl k_) ?_
              obtain ⟨fs, hr, hrun, hended, hRW⟩ := Stand.leaveW (s := s) (vm₁ := s.vm) X_194 (n := 0) (State.WarmedH.since (State.WarmedH.refl s) 0) (by rw [q_194]; exact (Nat.zero_le _)) (v := some (.int (1 : Int32))) (fun h => by rw [Bd.returns] at h; cases h)
              refine ⟨_, _, retN X_194 hx (t := .boolean) Bd.returns (by simp) (hb hby at_256) hr, hrun, hended, _, _, rfl, ?_, ⟨_, rfl⟩, hRW.2.1, hRW.2.2.1, hRW.2.2.2.mono (by decide) (by decide)⟩
              show Q0 Z p0 p1 p2 p3 cz h0 n0 _ T_194.heap _
              rw [q_194]
              exact ⟨rfl, N_194⟩
            · refine own_st (S' := T_181.setTop (mkF m 254 #[.val (.int p0), .val (.int p1), .val (.int p2), .val (.int p3), .val (.int (2 : Int32)), .val (.int v_1), .val (.int v_2), .val (.int zb), .val (.int zc), .val (.int zd), .val (.ref b_128), .val (.ref b_131), .val (.ref x_137_b), .val (.ref x_163_b), .val (.ref b_168), .val (.ref x_175_q), .val (.int (1 : Int32))] [])) (fun t_ k_ => XS.ifYes X_181.here hx rfl (pc0 := 239) (pc' := 254) rfl (hb hby at_239) rfl ((if0 _ _).trans (flt hc239).2.2.2) (by decide) (by decide) k_) ?_
              refine own_st (S' := T_181.setTop (mkF m 256 #[.val (.int p0), .val (.int p1), .val (.int p2), .val (.int p3), .val (.int (2 : Int32)), .val (.int v_1), .val (.int v_2), .val (.int zb), .val (.int zc), .val (.int zd), .val (.ref b_128), .val (.ref b_131), .val (.ref x_137_b), .val (.ref x_163_b), .val (.ref b_168), .val (.ref x_175_q), .val (.int (1 : Int32))] [(.int (1 : Int32))])) (fun t_ k_ => XS.iload X_181.here hx rfl (hb hby at_254) rfl k_) ?_
              obtain ⟨fs, hr, hrun, hended, hRW⟩ := Stand.leaveW (s := s) (vm₁ := s.vm) X_181 (n := 0) (State.WarmedH.since (State.WarmedH.refl s) 0) (by rw [q_181]; exact (Nat.zero_le _)) (v := some (.int (1 : Int32))) (fun h => by rw [Bd.returns] at h; cases h)
              refine ⟨_, _, retN X_181 hx (t := .boolean) Bd.returns (by simp) (hb hby at_256) hr, hrun, hended, _, _, rfl, ?_, ⟨_, rfl⟩, hRW.2.1, hRW.2.2.1, hRW.2.2.2.mono (by decide) (by decide)⟩
              show Q0 Z p0 p1 p2 p3 cz h0 n0 _ T_181.heap _
              rw [q_181]
              exact ⟨rfl, N_181⟩
        · refine own_cast (S' := s₁.setTop (mkF m 67 #[.val (.int p0), .val (.int p1), .val (.int p2), .val (.int p3), .val (.int (3 : Int32)), .val (.int v_1), .val (.int v_2), .val (.int zb), .val (.int zc), .val (.int zd), .unset, .unset, .unset, .unset, .unset, .unset, .unset] [])) (by rw [hq]) ?_
          refine own_st (S' := s₁.setTop (mkF m 69 #[.val (.int p0), .val (.int p1), .val (.int p2), .val (.int p3), .val (.int (3 : Int32)), .val (.int v_1), .val (.int v_2), .val (.int zb), .val (.int zc), .val (.int zd), .unset, .unset, .unset, .unset, .unset, .unset, .unset] [(.int (3 : Int32))])) (fun t_ k_ => XS.iload X0.here hx rfl (hb hby at_67) rfl k_) ?_
          obtain ⟨T_196, h_196, k_196, X_196, e_196, E_196, A_196, st_196⟩ := newP X0 hx hZ (hw _ (List.mem_of_getElem? (i := 0) rfl)) e0 (g := (mkF m 69 #[.val (.int p0), .val (.int p1), .val (.int p2), .val (.int p3), .val (.int (3 : Int32)), .val (.int v_1), .val (.int v_2), .val (.int zb), .val (.int zc), .val (.int zd), .unset, .unset, .unset, .unset, .unset, .unset, .unset] [(.int (3 : Int32))])) rfl (hb hby at_69) rfl (by decide) (cap := 3) (by decide) (by decide) (by decide) (by decide)
          obtain ⟨b_196, gg_196⟩ : ∃ z, z = h0.size := ⟨_, rfl⟩
          rw [← gg_196] at A_196 st_196
          have g_b_196 : n0 ≤ b_196 := Nat.le_trans Z0 (Nat.le_of_eq gg_196.symm)
          have Z_196 : n0 ≤ h_196.size := Nat.le_trans Z0 E_196.1
          have V_196 : Arv Z h_196 b_196 k_196 .char (3 : Int32) [(.int (0 : Int32)), (.int (0 : Int32)), (.int (0 : Int32))] (.int (0 : Int32)) := (Arv.new A_196 (by decide)).pad (pad_rep [] (.int (0 : Int32)) 3)
          refine own_st (S' := T_196.setTop (mkF m 71 #[.val (.int p0), .val (.int p1), .val (.int p2), .val (.int p3), .val (.int (3 : Int32)), .val (.int v_1), .val (.int v_2), .val (.int zb), .val (.int zc), .val (.int zd), .unset, .unset, .unset, .unset, .unset, .unset, .unset] [(.ref b_196)])) st_196 ?_
          refine own_st (S' := T_196.setTop (mkF m 73 #[.val (.int p0), .val (.int p1), .val (.int p2), .val (.int p3), .val (.int (3 : Int32)), .val (.int v_1), .val (.int v_2), .val (.int zb), .val (.int zc), .val (.int zd), .val (.ref b_196), .unset, .unset, .unset, .unset, .unset, .unset] [])) (fun t_ k_ => XS.astore X_196.here hx rfl (hb hby at_71) rfl rfl (l' := #[.val (.int p0), .val (.int p1), .val (.int p2), .val (.int p3), .val (.int (3 : Int32)), .val (.int v_1), .val (.int v_2), .val (.int zb), .val (.int zc), .val (.int zd), .val (.ref b_196), .unset, .unset, .unset, .unset, .unset, .unset]) rfl k_) ?_
          refine own_st (S' := T_196.setTop (mkF m 75 #[.val (.int p0), .val (.int p1), .val (.int p2), .val (.int p3), .val (.int (3 : Int32)), .val (.int v_1), .val (.int v_2), .val (.int zb), .val (.int zc), .val (.int zd), .val (.ref b_196), .unset, .unset, .unset, .unset, .unset, .unset] [(.int (3 : Int32))])) (fun t_ k_ => XS.iload X_196.here hx rfl (hb hby at_73) rfl k_) ?_
          refine own_st (S' := T_196.setTop (mkF m 78 #[.val (.int p0), .val (.int p1), .val (.int p2), .val (.int p3), .val (.int (3 : Int32)), .val (.int v_1), .val (.int v_2), .val (.int zb), .val (.int zc), .val (.int zd), .val (.ref b_196), .unset, .unset, .unset, .unset, .unset, .unset] [])) (fun t_ k_ => XS.ifNo X_196.here hx rfl (hb hby at_75) rfl ((if0 _ _).trans (tlt (by decide : (0 : Int32) < (3 : Int32))).2.2.2) k_) ?_
          refine own_st (S' := T_196.setTop (mkF m 80 #[.val (.int p0), .val (.int p1), .val (.int p2), .val (.int p3), .val (.int (3 : Int32)), .val (.int v_1), .val (.int v_2), .val (.int zb), .val (.int zc), .val (.int zd), .val (.ref b_196), .unset, .unset, .unset, .unset, .unset, .unset] [(.ref b_196)])) (fun t_ k_ => XS.aload X_196.here hx rfl (hb hby at_78) rfl rfl k_) ?_
          refine own_st (S' := T_196.setTop (mkF m 81 #[.val (.int p0), .val (.int p1), .val (.int p2), .val (.int p3), .val (.int (3 : Int32)), .val (.int v_1), .val (.int v_2), .val (.int zb), .val (.int zc), .val (.int zd), .val (.ref b_196), .unset, .unset, .unset, .unset, .unset, .unset] [(.int (0 : Int32)), (.ref b_196)])) (fun t_ k_ => XS.iconst X_196.here hx rfl (hb hby at_80) k_) ?_
          refine own_st (S' := T_196.setTop (mkF m 82 #[.val (.int p0), .val (.int p1), .val (.int p2), .val (.int p3), .val (.int (3 : Int32)), .val (.int v_1), .val (.int v_2), .val (.int zb), .val (.int zc), .val (.int zd), .val (.ref b_196), .unset, .unset, .unset, .unset, .unset, .unset] [(.int p0), (.int (0 : Int32)), (.ref b_196)])) (fun t_ k_ => XS.iloadN X_196.here hx rfl (hb hby at_81) rfl k_) ?_
          refine own_st (S' := T_196.setTop (mkF m 85 #[.val (.int p0), .val (.int p1), .val (.int p2), .val (.int p3), .val (.int (3 : Int32)), .val (.int v_1), .val (.int v_2), .val (.int zb), .val (.int zc), .val (.int zd), .val (.ref b_196), .unset, .unset, .unset, .unset, .unset, .unset] [(.int (255 : Int32)), (.int p0), (.int (0 : Int32)), (.ref b_196)])) (fun t_ k_ => XS.sipush X_196.here hx rfl (hb hby at_82) k_) ?_
          refine own_st (S' := T_196.setTop (mkF m 86 #[.val (.int p0), .val (.int p1), .val (.int p2), .val (.int p3), .val (.int (3 : Int32)), .val (.int v_1), .val (.int v_2), .val (.int zb), .val (.int zc), .val (.int zd), .val (.ref b_196), .unset, .unset, .unset, .unset, .unset, .unset] [(.int (p0 &&& (255 : Int32))), (.int (0 : Int32)), (.ref b_196)])) (fun t_ k_ => XS.iand X_196.here hx rfl (hb hby at_85) rfl k_) ?_
          refine own_st (S' := T_196.setTop (mkF m 87 #[.val (.int p0), .val (.int p1), .val (.int p2), .val (.int p3), .val (.int (3 : Int32)), .val (.int v_1), .val (.int v_2), .val (.int zb), .val (.int zc), .val (.int zd), .val (.ref b_196), .unset, .unset, .unset, .unset, .unset, .unset] [(.int ((p0 &&& (255 : Int32)).toUInt32.toUInt16.toUInt32.toInt32)), (.int (0 : Int32)), (.ref b_196)])) (fun t_ k_ => XS.i2c X_196.here hx rfl (hb hby at_86) rfl k_) ?_
          obtain ⟨cl_197, Ar_197, q_197, S_197, M_197, H_197, G_197⟩ := id V_196
          have hin_197 : ¬ ((0 : Int32) < 0 ∨ cl_197.slots.size ≤ ((0 : Int32)).toNatClampNeg) := inb_of S_197 ⟨by decide, by decide⟩
          obtain ⟨T_197, h_197, X_197, e_197, W_197, st_197⟩ := stC X_196 hx hZ e_196 Ar_197 (j := (0 : Int32)) hin_197 (g := (mkF m 87 #[.val (.int p0), .val (.int p1), .val (.int p2), .val (.int p3), .val (.int (3 : Int32)), .val (.int v_1), .val (.int v_2), .val (.int zb), .val (.int zc), .val (.int zd), .val (.ref b_196), .unset, .unset, .unset, .unset, .unset, .unset] [(.int ((p0 &&& (255 : Int32)).toUInt32.toUInt16.toUInt32.toInt32)), (.int (0 : Int32)), (.ref b_196)])) rfl rfl (hb hby at_87)
          have Z_197 : n0 ≤ h_197.size := Nat.le_trans Z_196 (Keep.of_wr W_197).1
          have N_197 := Fr.snoc X_197 N0 g_b_196
          have V_197 : Arv Z h_197 b_196 k_196 .char (3 : Int32) [(.int (nar .char ((p0 &&& (255 : Int32)).toUInt32.toUInt16.toUInt32.toInt32))), (.int (0 : Int32)), (.int (0 : Int32))] (.int (0 : Int32)) := Arv.set Ar_197 q_197 S_197 M_197 H_197 G_197 (fits_nar_char _) W_197 0 rfl (Nat.le_of_ble_eq_true rfl)
          refine own_st (S' := T_197.setTop (mkF m 88 #[.val (.int p0), .val (.int p1), .val (.int p2), .val (.int p3), .val (.int (3 : Int32)), .val (.int v_1), .val (.int v_2), .val (.int zb), .val (.int zc), .val (.int zd), .val (.ref b_196), .unset, .unset, .unset, .unset, .unset, .unset] [])) st_197 ?_
          refine own_st (S' := T_197.setTop (mkF m 90 #[.val (.int p0), .val (.int p1), .val (.int p2), .val (.int p3), .val (.int (3 : Int32)), .val (.int v_1), .val (.int v_2), .val (.int zb), .val (.int zc), .val (.int zd), .val (.ref b_196), .unset, .unset, .unset, .unset, .unset, .unset] [(.int (3 : Int32))])) (fun t_ k_ => XS.iload X_197.here hx rfl (hb hby at_88) rfl k_) ?_
          refine own_st (S' := T_197.setTop (mkF m 91 #[.val (.int p0), .val (.int p1), .val (.int p2), .val (.int p3), .val (.int (3 : Int32)), .val (.int v_1), .val (.int v_2), .val (.int zb), .val (.int zc), .val (.int zd), .val (.ref b_196), .unset, .unset, .unset, .unset, .unset, .unset] [(.int (1 : Int32)), (.int (3 : Int32))])) (fun t_ k_ => XS.iconst X_197.here hx rfl (hb hby at_90) k_) ?_
          refine own_st (S' := T_197.setTop (mkF m 94 #[.val (.int p0), .val (.int p1), .val (.int p2), .val (.int p3), .val (.int (3 : Int32)), .val (.int v_1), .val (.int v_2), .val (.int zb), .val (.int zc), .val (.int zd), .val (.ref b_196), .unset, .unset, .unset, .unset, .unset, .unset] [])) (fun t_ k_ => XS.icmpNo X_197.here hx rfl (hb hby at_91) rfl (tlt (by decide : (1 : Int32) < (3 : Int32))).2.2.2 k_) ?_
          refine own_st (S' := T_197.setTop (mkF m 96 #[.val (.int p0), .val (.int p1), .val (.int p2), .val (.int p3), .val (.int (3 : Int32)), .val (.int v_1), .val (.int v_2), .val (.int zb), .val (.int zc), .val (.int zd), .val (.ref b_196), .unset, .unset, .unset, .unset, .unset, .unset] [(.ref b_196)])) (fun t_ k_ => XS.aload X_197.here hx rfl (hb hby at_94) rfl rfl k_) ?_
          refine own_st (S' := T_197.setTop (mkF m 97 #[.val (.int p0), .val (.int p1), .val (.int p2), .val (.int p3), .val (.int (3 : Int32)), .val (.int v_1), .val (.int v_2), .val (.int zb), .val (.int zc), .val (.int zd), .val (.ref b_196), .unset, .unset, .unset, .unset, .unset, .unset] [(.int (1 : Int32)), (.ref b_196)])) (fun t_ k_ => XS.iconst X_197.here hx rfl (hb hby at_96) k_) ?_
          refine own_st (S' := T_197.setTop (mkF m 98 #[.val (.int p0), .val (.int p1), .val (.int p2), .val (.int p3), .val (.int (3 : Int32)), .val (.int v_1), .val (.int v_2), .val (.int zb), .val (.int zc), .val (.int zd), .val (.ref b_196), .unset, .unset, .unset, .unset, .unset, .unset] [(.int p0), (.int (1 : Int32)), (.ref b_196)])) (fun t_ k_ => XS.iloadN X_197.here hx rfl (hb hby at_97) rfl k_) ?_
          refine own_st (S' := T_197.setTop (mkF m 100 #[.val (.int p0), .val (.int p1), .val (.int p2), .val (.int p3), .val (.int (3 : Int32)), .val (.int v_1), .val (.int v_2), .val (.int zb), .val (.int zc), .val (.int zd), .val (.ref b_196), .unset, .unset, .unset, .unset, .unset, .unset] [(.int (8 : Int32)), (.int p0), (.int (1 : Int32)), (.ref b_196)])) (fun t_ k_ => XS.bipush X_197.here hx rfl (hb hby at_98) k_) ?_
          refine own_st (S' := T_197.setTop (mkF m 101 #[.val (.int p0), .val (.int p1), .val (.int p2), .val (.int p3), .val (.int (3 : Int32)), .val (.int v_1), .val (.int v_2), .val (.int zb), .val (.int zc), .val (.int zd), .val (.ref b_196), .unset, .unset, .unset, .unset, .unset, .unset] [(.int ((p0.toUInt32 >>> ((8 : Int32) &&& 31).toUInt32).toInt32)), (.int (1 : Int32)), (.ref b_196)])) (fun t_ k_ => XS.iushr X_197.here hx rfl (hb hby at_100) rfl k_) ?_
          refine own_st (S' := T_197.setTop (mkF m 104 #[.val (.int p0), .val (.int p1), .val (.int p2), .val (.int p3), .val (.int (3 : Int32)), .val (.int v_1), .val (.int v_2), .val (.int zb), .val (.int zc), .val (.int zd), .val (.ref b_196), .unset, .unset, .unset, .unset, .unset, .unset] [(.int (255 : Int32)), (.int ((p0.toUInt32 >>> ((8 : Int32) &&& 31).toUInt32).toInt32)), (.int (1 : Int32)), (.ref b_196)])) (fun t_ k_ => XS.sipush X_197.here hx rfl (hb hby at_101) k_) ?_
          refine own_st (S' := T_197.setTop (mkF m 105 #[.val (.int p0), .val (.int p1), .val (.int p2), .val (.int p3), .val (.int (3 : Int32)), .val (.int v_1), .val (.int v_2), .val (.int zb), .val (.int zc), .val (.int zd), .val (.ref b_196), .unset, .unset, .unset, .unset, .unset, .unset] [(.int (((p0.toUInt32 >>> ((8 : Int32) &&& 31).toUInt32).toInt32) &&& (255 : Int32))), (.int (1 : Int32)), (.ref b_196)])) (fun t_ k_ => XS.iand X_197.here hx rfl (hb hby at_104) rfl k_) ?_
          refine own_st (S' := T_197.setTop (mkF m 106 #[.val (.int p0), .val (.int p1), .val (.int p2), .val (.int p3), .val (.int (3 : Int32)), .val (.int v_1), .val (.int v_2), .val (.int zb), .val (.int zc), .val (.int zd), .val (.ref b_196), .unset, .unset, .unset, .unset, .unset, .unset] [(.int ((((p0.toUInt32 >>> ((8 : Int32) &&& 31).toUInt32).toInt32) &&& (255 : Int32)).toUInt32.toUInt16.toUInt32.toInt32)), (.int (1 : Int32)), (.ref b_196)])) (fun t_ k_ => XS.i2c X_197.here hx rfl (hb hby at_105) rfl k_) ?_
          obtain ⟨cl_198, Ar_198, q_198, S_198, M_198, H_198, G_198⟩ := id V_197
          have hin_198 : ¬ ((1 : Int32) < 0 ∨ cl_198.slots.size ≤ ((1 : Int32)).toNatClampNeg) := inb_of S_198 ⟨by decide, by decide⟩
          obtain ⟨T_198, h_198, X_198, e_198, W_198, st_198⟩ := stC X_197 hx hZ e_197 Ar_198 (j := (1 : Int32)) hin_198 (g := (mkF m 106 #[.val (.int p0), .val (.int p1), .val (.int p2), .val (.int p3), .val (.int (3 : Int32)), .val (.int v_1), .val (.int v_2), .val (.int zb), .val (.int zc), .val (.int zd), .val (.ref b_196), .unset, .unset, .unset, .unset, .unset, .unset] [(.int ((((p0.toUInt32 >>> ((8 : Int32) &&& 31).toUInt32).toInt32) &&& (255 : Int32)).toUInt32.toUInt16.toUInt32.toInt32)), (.int (1 : Int32)), (.ref b_196)])) rfl rfl (hb hby at_106)
          have Z_198 : n0 ≤ h_198.size := Nat.le_trans Z_197 (Keep.of_wr W_198).1
          have N_198 := Fr.snoc X_198 N_197 g_b_196
          have V_198 : Arv Z h_198 b_196 k_196 .char (3 : Int32) [(.int (nar .char ((p0 &&& (255 : Int32)).toUInt32.toUInt16.toUInt32.toInt32))), (.int (nar .char ((((p0.toUInt32 >>> ((8 : Int32) &&& 31).toUInt32).toInt32) &&& (255 : Int32)).toUInt32.toUInt16.toUInt32.toInt32))), (.int (0 : Int32))] (.int (0 : Int32)) := Arv.set Ar_198 q_198 S_198 M_198 H_198 G_198 (fits_nar_char _) W_198 1 rfl (Nat.le_of_ble_eq_true rfl)
          refine own_st (S' := T_198.setTop (mkF m 107 #[.val (.int p0), .val (.int p1), .val (.int p2), .val (.int p3), .val (.int (3 : Int32)), .val (.int v_1), .val (.int v_2), .val (.int zb), .val (.int zc), .val (.int zd), .val (.ref b_196), .unset, .unset, .unset, .unset, .unset, .unset] [])) st_198 ?_
          refine own_st (S' := T_198.setTop (mkF m 109 #[.val (.int p0), .val (.int p1), .val (.int p2), .val (.int p3), .val (.int (3 : Int32)), .val (.int v_1), .val (.int v_2), .val (.int zb), .val (.int zc), .val (.int zd), .val (.ref b_196), .unset, .unset, .unset, .unset, .unset, .unset] [(.int (3 : Int32))])) (fun t_ k_ => XS.iload X_198.here hx rfl (hb hby at_107) rfl k_) ?_
          refine own_st (S' := T_198.setTop (mkF m 110 #[.val (.int p0), .val (.int p1), .val (.int p2), .val (.int p3), .val (.int (3 : Int32)), .val (.int v_1), .val (.int v_2), .val (.int zb), .val (.int zc), .val (.int zd), .val (.ref b_196), .unset, .unset, .unset, .unset, .unset, .unset] [(.int (2 : Int32)), (.int (3 : Int32))])) (fun t_ k_ => XS.iconst X_198.here hx rfl (hb hby at_109) k_) ?_
          refine own_st (S' := T_198.setTop (mkF m 113 #[.val (.int p0), .val (.int p1), .val (.int p2), .val (.int p3), .val (.int (3 : Int32)), .val (.int v_1), .val (.int v_2), .val (.int zb), .val (.int zc), .val (.int zd), .val (.ref b_196), .unset, .unset, .unset, .unset, .unset, .unset] [])) (fun t_ k_ => XS.icmpNo X_198.here hx rfl (hb hby at_110) rfl (tlt (by decide : (2 : Int32) < (3 : Int32))).2.2.2 k_) ?_
          refine own_st (S' := T_198.setTop (mkF m 115 #[.val (.int p0), .val (.int p1), .val (.int p2), .val (.int p3), .val (.int (3 : Int32)), .val (.int v_1), .val (.int v_2), .val (.int zb), .val (.int zc), .val (.int zd), .val (.ref b_196), .unset, .unset, .unset, .unset, .unset, .unset] [(.ref b_196)])) (fun t_ k_ => XS.aload X_198.here hx rfl (hb hby at_113) rfl rfl k_) ?_
          refine own_st (S' := T_198.setTop (mkF m 116 #[.val (.int p0), .val (.int p1), .val (.int p2), .val (.int p3), .val (.int (3 : Int32)), .val (.int v_1), .val (.int v_2), .val (.int zb), .val (.int zc), .val (.int zd), .val (.ref b_196), .unset, .unset, .unset, .unset, .unset, .unset] [(.int (2 : Int32)), (.ref b_196)])) (fun t_ k_ => XS.iconst X_198.here hx rfl (hb hby at_115) k_) ?_
          refine own_st (S' := T_198.setTop (mkF m 117 #[.val (.int p0), .val (.int p1), .val (.int p2), .val (.int p3), .val (.int (3 : Int32)), .val (.int v_1), .val (.int v_2), .val (.int zb), .val (.int zc), .val (.int zd), .val (.ref b_196), .unset, .unset, .unset, .unset, .unset, .unset] [(.int p0), (.int (2 : Int32)), (.ref b_196)])) (fun t_ k_ => XS.iloadN X_198.here hx rfl (hb hby at_116) rfl k_) ?_
          refine own_st (S' := T_198.setTop (mkF m 119 #[.val (.int p0), .val (.int p1), .val (.int p2), .val (.int p3), .val (.int (3 : Int32)), .val (.int v_1), .val (.int v_2), .val (.int zb), .val (.int zc), .val (.int zd), .val (.ref b_196), .unset, .unset, .unset, .unset, .unset, .unset] [(.int (16 : Int32)), (.int p0), (.int (2 : Int32)), (.ref b_196)])) (fun t_ k_ => XS.bipush X_198.here hx rfl (hb hby at_117) k_) ?_
          refine own_st (S' := T_198.setTop (mkF m 120 #[.val (.int p0), .val (.int p1), .val (.int p2), .val (.int p3), .val (.int (3 : Int32)), .val (.int v_1), .val (.int v_2), .val (.int zb), .val (.int zc), .val (.int zd), .val (.ref b_196), .unset, .unset, .unset, .unset, .unset, .unset] [(.int ((p0.toUInt32 >>> ((16 : Int32) &&& 31).toUInt32).toInt32)), (.int (2 : Int32)), (.ref b_196)])) (fun t_ k_ => XS.iushr X_198.here hx rfl (hb hby at_119) rfl k_) ?_
          refine own_st (S' := T_198.setTop (mkF m 123 #[.val (.int p0), .val (.int p1), .val (.int p2), .val (.int p3), .val (.int (3 : Int32)), .val (.int v_1), .val (.int v_2), .val (.int zb), .val (.int zc), .val (.int zd), .val (.ref b_196), .unset, .unset, .unset, .unset, .unset, .unset] [(.int (255 : Int32)), (.int ((p0.toUInt32 >>> ((16 : Int32) &&& 31).toUInt32).toInt32)), (.int (2 : Int32)), (.ref b_196)])) (fun t_ k_ => XS.sipush X_198.here hx rfl (hb hby at_120) k_) ?_
          refine own_st (S' := T_198.setTop (mkF m 124 #[.val (.int p0), .val (.int p1), .val (.int p2), .val (.int p3), .val (.int (3 : Int32)), .val (.int v_1), .val (.int v_2), .val (.int zb), .val (.int zc), .val (.int zd), .val (.ref b_196), .unset, .unset, .unset, .unset, .unset, .unset] [(.int (((p0.toUInt32 >>> ((16 : Int32) &&& 31).toUInt32).toInt32) &&& (255 : Int32))), (.int (2 : Int32)), (.ref b_196)])) (fun t_ k_ => XS.iand X_198.here hx rfl (hb hby at_123) rfl k_) ?_
          refine own_st (S' := T_198.setTop (mkF m 125 #[.val (.int p0), .val (.int p1), .val (.int p2), .val (.int p3), .val (.int (3 : Int32)), .val (.int v_1), .val (.int v_2), .val (.int zb), .val (.int zc), .val (.int zd), .val (.ref b_196), .unset, .unset, .unset, .unset, .unset, .unset] [(.int ((((p0.toUInt32 >>> ((16 : Int32) &&& 31).toUInt32).toInt32) &&& (255 : Int32)).toUInt32.toUInt16.toUInt32.toInt32)), (.int (2 : Int32)), (.ref b_196)])) (fun t_ k_ => XS.i2c X_198.here hx rfl (hb hby at_124) rfl k_) ?_
          obtain ⟨cl_199, Ar_199, q_199, S_199, M_199, H_199, G_199⟩ := id V_198
          have hin_199 : ¬ ((2 : Int32) < 0 ∨ cl_199.slots.size ≤ ((2 : Int32)).toNatClampNeg) := inb_of S_199 ⟨by decide, by decide⟩
          obtain ⟨T_199, h_199, X_199, e_199, W_199, st_199⟩ := stC X_198 hx hZ e_198 Ar_199 (j := (2 : Int32)) hin_199 (g := (mkF m 125 #[.val (.int p0), .val (.int p1), .val (.int p2), .val (.int p3), .val (.int (3 : Int32)), .val (.int v_1), .val (.int v_2), .val (.int zb), .val (.int zc), .val (.int zd), .val (.ref b_196), .unset, .unset, .unset, .unset, .unset, .unset] [(.int ((((p0.toUInt32 >>> ((16 : Int32) &&& 31).toUInt32).toInt32) &&& (255 : Int32)).toUInt32.toUInt16.toUInt32.toInt32)), (.int (2 : Int32)), (.ref b_196)])) rfl rfl (hb hby at_125)
          have Z_199 : n0 ≤ h_199.size := Nat.le_trans Z_198 (Keep.of_wr W_199).1
          have N_199 := Fr.snoc X_199 N_198 g_b_196
          have V_199 : Arv Z h_199 b_196 k_196 .char (3 : Int32) [(.int (nar .char ((p0 &&& (255 : Int32)).toUInt32.toUInt16.toUInt32.toInt32))), (.int (nar .char ((((p0.toUInt32 >>> ((8 : Int32) &&& 31).toUInt32).toInt32) &&& (255 : Int32)).toUInt32.toUInt16.toUInt32.toInt32))), (.int (nar .char ((((p0.toUInt32 >>> ((16 : Int32) &&& 31).toUInt32).toInt32) &&& (255 : Int32)).toUInt32.toUInt16.toUInt32.toInt32)))] (.int (0 : Int32)) := Arv.set Ar_199 q_199 S_199 M_199 H_199 G_199 (fits_nar_char _) W_199 2 rfl (Nat.le_of_ble_eq_true rfl)
          refine own_st (S' := T_199.setTop (mkF m 126 #[.val (.int p0), .val (.int p1), .val (.int p2), .val (.int p3), .val (.int (3 : Int32)), .val (.int v_1), .val (.int v_2), .val (.int zb), .val (.int zc), .val (.int zd), .val (.ref b_196), .unset, .unset, .unset, .unset, .unset, .unset] [])) st_199 ?_
          obtain ⟨T_200, h_200, X_200, e_200, E_200, A_200, D_200, -, st_200⟩ := newO X_199 hx hZ hown (hw _ (List.mem_of_getElem? (i := 1) rfl)) (hw _ (List.mem_of_getElem? (i := 2) rfl)) (hw _ (List.mem_of_getElem? (i := 3) rfl)) e_199 (g := (mkF m 126 #[.val (.int p0), .val (.int p1), .val (.int p2), .val (.int p3), .val (.int (3 : Int32)), .val (.int v_1), .val (.int v_2), .val (.int zb), .val (.int zc), .val (.int zd), .val (.ref b_196), .unset, .unset, .unset, .unset, .unset, .unset] [])) rfl (hb hby at_126) (by decide) (by decide)
          obtain ⟨b_200, gg_200⟩ : ∃ z, z = h_199.size := ⟨_, rfl⟩
          rw [← gg_200] at A_200 D_200 st_200
          have ne_b_196_b_200 : b_196 ≠ b_200 := Nat.ne_of_lt (Nat.lt_of_lt_of_le V_199.lt (Nat.le_of_eq gg_200.symm))
          have g_b_200 : n0 ≤ b_200 := Nat.le_trans Z_199 (Nat.le_of_eq gg_200.symm)
          have Z_200 : n0 ≤ h_200.size := Nat.le_trans Z_199 E_200.1
          have F_200_coder : Fld Z h_200 b_200 "java/lang/String" "coder" "B" (.int (0 : Int32)) := D_200 (Or.inr (hw _ (List.mem_of_getElem? (i := 27) rfl))) (ty := .byte) (by decide)
          have F_200_value : Fld Z h_200 b_200 "java/lang/String" "value" "[B" .null := D_200 (Or.inr (hw _ (List.mem_of_getElem? (i := 29) rfl))) (ty := (.array .byte)) (by decide)
          refine own_st (S' := T_200.setTop (mkF m 129 #[.val (.int p0), .val (.int p1), .val (.int p2), .val (.int p3), .val (.int (3 : Int32)), .val (.int v_1), .val (.int v_2), .val (.int zb), .val (.int zc), .val (.int zd), .val (.ref b_196), .unset, .unset, .unset, .unset, .unset, .unset] [(.ref b_200)])) st_200 ?_
          refine own_st (S' := T_200.setTop (mkF m 130 #[.val (.int p0), .val (.int p1), .val (.int p2), .val (.int p3), .val (.int (3 : Int32)), .val (.int v_1), .val (.int v_2), .val (.int zb), .val (.int zc), .val (.int zd), .val (.ref b_196), .unset, .unset, .unset, .unset, .unset, .unset] [(.ref b_200), (.ref b_200)])) (fun t_ k_ => XS.dup X_200.here hx rfl (hb hby at_129) rfl rfl k_) ?_
          refine own_st (S' := T_200.setTop (mkF m 132 #[.val (.int p0), .val (.int p1), .val (.int p2), .val (.int p3), .val (.int (3 : Int32)), .val (.int v_1), .val (.int v_2), .val (.int zb), .val (.int zc), .val (.int zd), .val (.ref b_196), .unset, .unset, .unset, .unset, .unset, .unset] [(.ref b_196), (.ref b_200), (.ref b_200)])) (fun t_ k_ => XS.aload X_200.here hx rfl (hb hby at_130) rfl rfl k_) ?_
          have f_201 : Arv Z h_200 b_196 k_196 .char (3 : Int32) [(.int (nar .char ((p0 &&& (255 : Int32)).toUInt32.toUInt16.toUInt32.toInt32))), (.int (nar .char ((((p0.toUInt32 >>> ((8 : Int32) &&& 31).toUInt32).toInt32) &&& (255 : Int32)).toUInt32.toUInt16.toUInt32.toInt32))), (.int (nar .char ((((p0.toUInt32 >>> ((16 : Int32) &&& 31).toUInt32).toInt32) &&& (255 : Int32)).toUInt32.toUInt16.toUInt32.toInt32)))] (.int (0 : Int32)) := (V_199.ext E_200)
          have f_203 : Old Z n0 h_200 := (((((O0.ext E_196).wr W_197 g_b_196).wr W_198 g_b_196).wr W_199 g_b_196).ext E_200)
          have f_202 : Sta Z h_200 "java/lang/String" "COMPACT_STRINGS" "Z" (.int cz) := Sta.ext f_203.2 Y0
          have hws_204 : ∀ d ∈ StrChars.Road.words, d.before a0 Z = true := fun d hd => hw d ((by decide +kernel : ∀ d ∈ StrChars.Road.words, d ∈ tables_1) d hd)
          have hp_204 : ∀ c ∈ ([(nar .char ((p0 &&& (255 : Int32)).toUInt32.toUInt16.toUInt32.toInt32)), (nar .char ((((p0.toUInt32 >>> ((8 : Int32) &&& 31).toUInt32).toInt32) &&& (255 : Int32)).toUInt32.toUInt16.toUInt32.toInt32)), (nar .char ((((p0.toUInt32 >>> ((16 : Int32) &&& 31).toUInt32).toInt32) &&& (255 : Int32)).toUInt32.toUInt16.toUInt32.toInt32))] : List Int32), ¬ c < 0 ∧ ¬ (255 : Int32) < c := by
              intro c hc
              simp only [List.mem_cons, List.not_mem_nil, or_false] at hc
              rcases hc with rfl | rfl | rfl
              · exact own_ch _
              · exact own_ch _
              · exact own_ch _
          obtain ⟨_, _, ⟨T_204, L_204, k_204, n_204⟩, -, X_204, ⟨Lc_204, hQ_204, l_204, y_204, z_204⟩, st_204⟩ := X_200.specialBack hx (y := (⟨"java/lang/String", "<init>", "([C)V"⟩ : MethodName)) rfl hown (mvT hZ (hw _ (List.mem_of_getElem? (i := 4) rfl))) (mvT hZ (hw _ (List.mem_of_getElem? (i := 5) rfl))) (mvT hZ (hw _ (List.mem_of_getElem? (i := 6) rfl))) (by decide) (StrChars.Road.backV (W := 1) hZ hws_204 (kI := 4) (hw _ (List.mem_of_getElem? (i := 2) rfl)) (cs := ([(nar .char ((p0 &&& (255 : Int32)).toUInt32.toUInt16.toUInt32.toInt32)), (nar .char ((((p0.toUInt32 >>> ((8 : Int32) &&& 31).toUInt32).toInt32) &&& (255 : Int32)).toUInt32.toUInt16.toUInt32.toInt32)), (nar .char ((((p0.toUInt32 >>> ((16 : Int32) &&& 31).toUInt32).toInt32) &&& (255 : Int32)).toUInt32.toUInt16.toUInt32.toInt32))] : List Int32)) (bs := ([(nar .char ((p0 &&& (255 : Int32)).toUInt32.toUInt16.toUInt32.toInt32)), (nar .char ((((p0.toUInt32 >>> ((8 : Int32) &&& 31).toUInt32).toInt32) &&& (255 : Int32)).toUInt32.toUInt16.toUInt32.toInt32)), (nar .char ((((p0.toUInt32 >>> ((16 : Int32) &&& 31).toUInt32).toInt32) &&& (255 : Int32)).toUInt32.toUInt16.toUInt32.toInt32))] : List Int32).map (fun c => c.toInt8.toInt32)) (n := 3) g_b_200 Z_200 A_200 F_200_value F_200_coder f_201 f_202 hcz rfl rfl (by decide) (by decide) hp_204 rfl (by decide) (by decide)) (g := (mkF m 132 #[.val (.int p0), .val (.int p1), .val (.int p2), .val (.int p3), .val (.int (3 : Int32)), .val (.int v_1), .val (.int v_2), .val (.int zb), .val (.int zc), .val (.int zd), .val (.ref b_196), .unset, .unset, .unset, .unset, .unset, .unset] [(.ref b_196), (.ref b_200), (.ref b_200)])) rfl (by rw [hml]; rfl) (Steps.refl _) (a := b_200) (argsL := [(.ref b_196)]) (rest := [(.ref b_200)]) (lenOf pd_6 rfl) rfl (by show 2 * 0 + _ ≤ _; exact Nat.le_of_eq rfl) (hb hby at_132) (fun _ _ => ⟨rfl, e_200, (by decide : 2 + 1 ≤ _), (by decide : 7 + 3 ≤ _)⟩)
          dsimp only [Pt.U, Pt.locs, Pt.cells, Pt.slots] at X_204 l_204 y_204 z_204 st_204 hQ_204
          subst l_204 y_204 z_204
          obtain ⟨rfl, M_204, K_204c, A_204, C_204, t_204, kb_204, u_204, uz_204, uv_204, F_204, V_204⟩ := hQ_204
          have N_204 := Fr.app N_199 M_204
          have ne_b_196_t_204 : b_196 ≠ t_204 := Nat.ne_of_lt (Nat.lt_of_lt_of_le f_201.lt uz_204)
          have ne_b_200_t_204 : b_200 ≠ t_204 := fun q => uv_204 q.symm
          have Z_204 : n0 ≤ T_204.heap.size := Nat.le_trans Z_200 K_204c.1
          refine own_st (S' := T_204.setTop (mkF m 135 #[.val (.int p0), .val (.int p1), .val (.int p2), .val (.int p3), .val (.int (3 : Int32)), .val (.int v_1), .val (.int v_2), .val (.int zb), .val (.int zc), .val (.int zd), .val (.ref b_196), .unset, .unset, .unset, .unset, .unset, .unset] [(.ref b_200)])) (fun t_ k_ => st_204.trans k_) ?_
          refine own_st (S' := T_204.setTop (mkF m 137 #[.val (.int p0), .val (.int p1), .val (.int p2), .val (.int p3), .val (.int (3 : Int32)), .val (.int v_1), .val (.int v_2), .val (.int zb), .val (.int zc), .val (.int zd), .val (.ref b_196), .val (.ref b_200), .unset, .unset, .unset, .unset, .unset] [])) (fun t_ k_ => XS.astore X_204.here hx rfl (hb hby at_135) rfl rfl (l' := #[.val (.int p0), .val (.int p1), .val (.int p2), .val (.int p3), .val (.int (3 : Int32)), .val (.int v_1), .val (.int v_2), .val (.int zb), .val (.int zc), .val (.int zd), .val (.ref b_196), .val (.ref b_200), .unset, .unset, .unset, .unset, .unset]) rfl k_) ?_
          refine own_st (S' := T_204.setTop (mkF m 139 #[.val (.int p0), .val (.int p1), .val (.int p2), .val (.int p3), .val (.int (3 : Int32)), .val (.int v_1), .val (.int v_2), .val (.int zb), .val (.int zc), .val (.int zd), .val (.ref b_196), .val (.ref b_200), .unset, .unset, .unset, .unset, .unset] [(.int v_1)])) (fun t_ k_ => XS.iload X_204.here hx rfl (hb hby at_137) rfl k_) ?_
          refine own_st (S' := T_204.setTop (mkF m 140 #[.val (.int p0), .val (.int p1), .val (.int p2), .val (.int p3), .val (.int (3 : Int32)), .val (.int v_1), .val (.int v_2), .val (.int zb), .val (.int zc), .val (.int zd), .val (.ref b_196), .val (.ref b_200), .unset, .unset, .unset, .unset, .unset] [(.int p1), (.int v_1)])) (fun t_ k_ => XS.iloadN X_204.here hx rfl (hb hby at_139) rfl k_) ?_
          have f_205 : Arv Z T_204.heap b_196 k_196 .char (3 : Int32) [(.int (nar .char ((p0 &&& (255 : Int32)).toUInt32.toUInt16.toUInt32.toInt32))), (.int (nar .char ((((p0.toUInt32 >>> ((8 : Int32) &&& 31).toUInt32).toInt32) &&& (255 : Int32)).toUInt32.toUInt16.toUInt32.toInt32))), (.int (nar .char ((((p0.toUInt32 >>> ((16 : Int32) &&& 31).toUInt32).toInt32) &&& (255 : Int32)).toUInt32.toUInt16.toUInt32.toInt32)))] (.int (0 : Int32)) := (f_201.keep K_204c (ninS ne_b_196_b_200 nin0))
          obtain ⟨_, _, ⟨T_206, L_206, k_206, n_206⟩, -, X_206, ⟨Lc_206, hQ_206, l_206, y_206, z_206⟩, st_206⟩ := Jvm.LawKit.callS X_204 hx (y := (⟨"com/example/westmount/westmount/RowRangeFirstPinLaw", "bytes", "(II)[B"⟩ : MethodName)) hown (mvT hZ (hw _ (List.mem_of_getElem? (i := 30) rfl))) (mvT hZ (hw _ (List.mem_of_getElem? (i := 31) rfl))) (mvT hZ (hw _ (List.mem_of_getElem? (i := 32) rfl))) (mvT hZ (hw _ (List.mem_of_getElem? (i := 33) rfl))) (by decide) (backOf (W := 0) (rm3 l Z a0 hw [] v_1 p1 T_204.heap n0 Z_204 (hv_1 ▸ own_four _)) hZ (hw _ (List.mem_of_getElem? (i := 33) rfl)) (hw _ (List.mem_of_getElem? (i := 32) rfl)) (by decide) (by decide)) (g := (mkF m 140 #[.val (.int p0), .val (.int p1), .val (.int p2), .val (.int p3), .val (.int (3 : Int32)), .val (.int v_1), .val (.int v_2), .val (.int zb), .val (.int zc), .val (.int zd), .val (.ref b_196), .val (.ref b_200), .unset, .unset, .unset, .unset, .unset] [(.int p1), (.int v_1)])) rfl (by rw [hml]; rfl) (argsL := [(.int v_1), (.int p1)]) (rest := []) (lenOf pd_7 rfl) rfl (by show 2 * 0 + _ ≤ _; exact Nat.le_of_eq rfl) (hb hby at_140) (fun _ _ => ⟨rfl, rfl, (by decide : 3 + 1 ≤ _), (by decide : 10 + 3 ≤ _)⟩)
          dsimp only [Pt.U, Pt.locs, Pt.cells, Pt.slots] at X_206 l_206 y_206 z_206 st_206 hQ_206
          subst l_206 y_206 z_206
          obtain ⟨x_206_b, x_206_k, rfl, M_206, K_206c, z_206_0, c_206_0⟩ := hQ_206
          have N_206 := Fr.app N_204 M_206
          have ne_b_196_x_206_b : b_196 ≠ x_206_b := Nat.ne_of_lt (Nat.lt_of_lt_of_le f_205.lt z_206_0)
          have ne_b_200_x_206_b : b_200 ≠ x_206_b := Nat.ne_of_lt (Nat.lt_of_lt_of_le A_204.lt z_206_0)
          have ne_t_204_x_206_b : t_204 ≠ x_206_b := Nat.ne_of_lt (Nat.lt_of_lt_of_le V_204.lt z_206_0)
          have g_x_206_b : n0 ≤ x_206_b := Nat.le_trans Z_204 z_206_0
          have Z_206 : n0 ≤ T_206.heap.size := Nat.le_trans Z_204 K_206c.1
          refine own_st (S' := T_206.setTop (mkF m 143 #[.val (.int p0), .val (.int p1), .val (.int p2), .val (.int p3), .val (.int (3 : Int32)), .val (.int v_1), .val (.int v_2), .val (.int zb), .val (.int zc), .val (.int zd), .val (.ref b_196), .val (.ref b_200), .unset, .unset, .unset, .unset, .unset] [(.ref x_206_b)])) st_206 ?_
          refine own_st (S' := T_206.setTop (mkF m 145 #[.val (.int p0), .val (.int p1), .val (.int p2), .val (.int p3), .val (.int (3 : Int32)), .val (.int v_1), .val (.int v_2), .val (.int zb), .val (.int zc), .val (.int zd), .val (.ref b_196), .val (.ref b_200), .val (.ref x_206_b), .unset, .unset, .unset, .unset] [])) (fun t_ k_ => XS.astore X_206.here hx rfl (hb hby at_143) rfl rfl (l' := #[.val (.int p0), .val (.int p1), .val (.int p2), .val (.int p3), .val (.int (3 : Int32)), .val (.int v_1), .val (.int v_2), .val (.int zb), .val (.int zc), .val (.int zd), .val (.ref b_196), .val (.ref b_200), .val (.ref x_206_b), .unset, .unset, .unset, .unset]) rfl k_) ?_
          refine own_st (S' := T_206.setTop (mkF m 147 #[.val (.int p0), .val (.int p1), .val (.int p2), .val (.int p3), .val (.int (3 : Int32)), .val (.int v_1), .val (.int v_2), .val (.int zb), .val (.int zc), .val (.int zd), .val (.ref b_196), .val (.ref b_200), .val (.ref x_206_b), .unset, .unset, .unset, .unset] [(.int zd)])) (fun t_ k_ => XS.iload X_206.here hx rfl (hb hby at_145) rfl k_) ?_
          by_cases hc147 : zd = (0 : Int32)
          · refine own_st (S' := T_206.setTop (mkF m 159 #[.val (.int p0), .val (.int p1), .val (.int p2), .val (.int p3), .val (.int (3 : Int32)), .val (.int v_1), .val (.int v_2), .val (.int zb), .val (.int zc), .val (.int zd), .val (.ref b_196), .val (.ref b_200), .val (.ref x_206_b), .unset, .unset, .unset, .unset] [])) (fun t_ k_ => XS.ifYes X_206.here hx rfl (pc0 := 147) (pc' := 159) rfl (hb hby at_147) rfl ((if0 _ _).trans (teq hc147).1) (by decide) (by decide) k_) ?_
            refine own_st (S' := T_206.setTop (mkF m 161 #[.val (.int p0), .val (.int p1), .val (.int p2), .val (.int p3), .val (.int (3 : Int32)), .val (.int v_1), .val (.int v_2), .val (.int zb), .val (.int zc), .val (.int zd), .val (.ref b_196), .val (.ref b_200), .val (.ref x_206_b), .unset, .unset, .unset, .unset] [(.int v_2)])) (fun t_ k_ => XS.iload X_206.here hx rfl (hb hby at_159) rfl k_) ?_
            refine own_st (S' := T_206.setTop (mkF m 162 #[.val (.int p0), .val (.int p1), .val (.int p2), .val (.int p3), .val (.int (3 : Int32)), .val (.int v_1), .val (.int v_2), .val (.int zb), .val (.int zc), .val (.int zd), .val (.ref b_196), .val (.ref b_200), .val (.ref x_206_b), .unset, .unset, .unset, .unset] [(.int p2), (.int v_2)])) (fun t_ k_ => XS.iloadN X_206.here hx rfl (hb hby at_161) rfl k_) ?_
            have f_207 : Arv Z T_206.heap b_196 k_196 .char (3 : Int32) [(.int (nar .char ((p0 &&& (255 : Int32)).toUInt32.toUInt16.toUInt32.toInt32))), (.int (nar .char ((((p0.toUInt32 >>> ((8 : Int32) &&& 31).toUInt32).toInt32) &&& (255 : Int32)).toUInt32.toUInt16.toUInt32.toInt32))), (.int (nar .char ((((p0.toUInt32 >>> ((16 : Int32) &&& 31).toUInt32).toInt32) &&& (255 : Int32)).toUInt32.toUInt16.toUInt32.toInt32)))] (.int (0 : Int32)) := (f_205.keep K_206c nin0)
            have f_208 : Exa Z T_206.heap b_200 "java/lang/String" := (A_204.keep K_206c)
            have f_209 : Arv Z T_206.heap t_204 kb_204 .byte (3 : Int32) ((([(nar .char ((p0 &&& (255 : Int32)).toUInt32.toUInt16.toUInt32.toInt32)), (nar .char ((((p0.toUInt32 >>> ((8 : Int32) &&& 31).toUInt32).toInt32) &&& (255 : Int32)).toUInt32.toUInt16.toUInt32.toInt32)), (nar .char ((((p0.toUInt32 >>> ((16 : Int32) &&& 31).toUInt32).toInt32) &&& (255 : Int32)).toUInt32.toUInt16.toUInt32.toInt32))] : List Int32).map (fun c => c.toInt8.toInt32)).map Value.int) (.int 0) := (V_204.keep K_206c nin0)
            obtain ⟨_, _, ⟨T_210, L_210, k_210, n_210⟩, -, X_210, ⟨Lc_210, hQ_210, l_210, y_210, z_210⟩, st_210⟩ := Jvm.LawKit.callS X_206 hx (y := (⟨"com/example/westmount/westmount/RowRangeFirstPinLaw", "bytes", "(II)[B"⟩ : MethodName)) hown (mvT hZ (hw _ (List.mem_of_getElem? (i := 30) rfl))) (mvT hZ (hw _ (List.mem_of_getElem? (i := 31) rfl))) (mvT hZ (hw _ (List.mem_of_getElem? (i := 32) rfl))) (mvT hZ (hw _ (List.mem_of_getElem? (i := 33) rfl))) (by decide) (backOf (W := 0) (rm3 l Z a0 hw [] v_2 p2 T_206.heap n0 Z_206 (hv_2 ▸ own_four _)) hZ (hw _ (List.mem_of_getElem? (i := 33) rfl)) (hw _ (List.mem_of_getElem? (i := 32) rfl)) (by decide) (by decide)) (g := (mkF m 162 #[.val (.int p0), .val (.int p1), .val (.int p2), .val (.int p3), .val (.int (3 : Int32)), .val (.int v_1), .val (.int v_2), .val (.int zb), .val (.int zc), .val (.int zd), .val (.ref b_196), .val (.ref b_200), .val (.ref x_206_b), .unset, .unset, .unset, .unset] [(.int p2), (.int v_2)])) rfl (by rw [hml]; rfl) (argsL := [(.int v_2), (.int p2)]) (rest := []) (lenOf pd_7 rfl) rfl (by show 2 * 0 + _ ≤ _; exact Nat.le_of_eq rfl) (hb hby at_162) (fun _ _ => ⟨rfl, rfl, (by decide : 4 + 1 ≤ _), (by decide : 13 + 3 ≤ _)⟩)
            dsimp only [Pt.U, Pt.locs, Pt.cells, Pt.slots] at X_210 l_210 y_210 z_210 st_210 hQ_210
            subst l_210 y_210 z_210
            obtain ⟨x_210_b, x_210_k, rfl, M_210, K_210c, z_210_0, c_210_0⟩ := hQ_210
            have N_210 := Fr.app N_206 M_210
            have ne_b_196_x_210_b : b_196 ≠ x_210_b := Nat.ne_of_lt (Nat.lt_of_lt_of_le f_207.lt z_210_0)
            have ne_b_200_x_210_b : b_200 ≠ x_210_b := Nat.ne_of_lt (Nat.lt_of_lt_of_le f_208.lt z_210_0)
            have ne_t_204_x_210_b : t_204 ≠ x_210_b := Nat.ne_of_lt (Nat.lt_of_lt_of_le f_209.lt z_210_0)
            have ne_x_206_b_x_210_b : x_206_b ≠ x_210_b := Nat.ne_of_lt (Nat.lt_of_lt_of_le c_206_0.lt z_210_0)
            have g_x_210_b : n0 ≤ x_210_b := Nat.le_trans Z_206 z_210_0
            have Z_210 : n0 ≤ T_210.heap.size := Nat.le_trans Z_206 K_210c.1
            refine own_st (S' := T_210.setTop (mkF m 165 #[.val (.int p0), .val (.int p1), .val (.int p2), .val (.int p3), .val (.int (3 : Int32)), .val (.int v_1), .val (.int v_2), .val (.int zb), .val (.int zc), .val (.int zd), .val (.ref b_196), .val (.ref b_200), .val (.ref x_206_b), .unset, .unset, .unset, .unset] [(.ref x_210_b)])) st_210 ?_
            refine own_st (S' := T_210.setTop (mkF m 167 #[.val (.int p0), .val (.int p1), .val (.int p2), .val (.int p3), .val (.int (3 : Int32)), .val (.int v_1), .val (.int v_2), .val (.int zb), .val (.int zc), .val (.int zd), .val (.ref b_196), .val (.ref b_200), .val (.ref x_206_b), .val (.ref x_210_b), .unset, .unset, .unset] [])) (fun t_ k_ => XS.astore X_210.here hx rfl (hb hby at_165) rfl rfl (l' := #[.val (.int p0), .val (.int p1), .val (.int p2), .val (.int p3), .val (.int (3 : Int32)), .val (.int v_1), .val (.int v_2), .val (.int zb), .val (.int zc), .val (.int zd), .val (.ref b_196), .val (.ref b_200), .val (.ref x_206_b), .val (.ref x_210_b), .unset, .unset, .unset]) rfl k_) ?_
            have f_211 : Arv Z T_210.heap b_196 k_196 .char (3 : Int32) [(.int (nar .char ((p0 &&& (255 : Int32)).toUInt32.toUInt16.toUInt32.toInt32))), (.int (nar .char ((((p0.toUInt32 >>> ((8 : Int32) &&& 31).toUInt32).toInt32) &&& (255 : Int32)).toUInt32.toUInt16.toUInt32.toInt32))), (.int (nar .char ((((p0.toUInt32 >>> ((16 : Int32) &&& 31).toUInt32).toInt32) &&& (255 : Int32)).toUInt32.toUInt16.toUInt32.toInt32)))] (.int (0 : Int32)) := (f_207.keep K_210c nin0)
            have f_212 : Exa Z T_210.heap b_200 "java/lang/String" := (f_208.keep K_210c)
            have f_213 : Arv Z T_210.heap t_204 kb_204 .byte (3 : Int32) ((([(nar .char ((p0 &&& (255 : Int32)).toUInt32.toUInt16.toUInt32.toInt32)), (nar .char ((((p0.toUInt32 >>> ((8 : Int32) &&& 31).toUInt32).toInt32) &&& (255 : Int32)).toUInt32.toUInt16.toUInt32.toInt32)), (nar .char ((((p0.toUInt32 >>> ((16 : Int32) &&& 31).toUInt32).toInt32) &&& (255 : Int32)).toUInt32.toUInt16.toUInt32.toInt32))] : List Int32).map (fun c => c.toInt8.toInt32)).map Value.int) (.int 0) := (f_209.keep K_210c nin0)
            have f_214 : Arv Z T_210.heap x_206_b x_206_k .byte v_1 (own_bs v_1 p1) (.int (0 : Int32)) := (c_206_0.keep K_210c nin0)
            obtain ⟨T_215, h_215, X_215, e_215, E_215, A_215, D_215, -, st_215⟩ := newO X_210 hx hZ hown (hw _ (List.mem_of_getElem? (i := 34) rfl)) (hw _ (List.mem_of_getElem? (i := 35) rfl)) (hw _ (List.mem_of_getElem? (i := 36) rfl)) rfl (g := (mkF m 167 #[.val (.int p0), .val (.int p1), .val (.int p2), .val (.int p3), .val (.int (3 : Int32)), .val (.int v_1), .val (.int v_2), .val (.int zb), .val (.int zc), .val (.int zd), .val (.ref b_196), .val (.ref b_200), .val (.ref x_206_b), .val (.ref x_210_b), .unset, .unset, .unset] [])) rfl (hb hby at_167) (by decide) (by decide)
            obtain ⟨b_215, gg_215⟩ : ∃ z, z = T_210.heap.size := ⟨_, rfl⟩
            rw [← gg_215] at A_215 D_215 st_215
            have ne_b_196_b_215 : b_196 ≠ b_215 := Nat.ne_of_lt (Nat.lt_of_lt_of_le f_211.lt (Nat.le_of_eq gg_215.symm))
            have ne_b_200_b_215 : b_200 ≠ b_215 := Nat.ne_of_lt (Nat.lt_of_lt_of_le f_212.lt (Nat.le_of_eq gg_215.symm))
            have ne_t_204_b_215 : t_204 ≠ b_215 := Nat.ne_of_lt (Nat.lt_of_lt_of_le f_213.lt (Nat.le_of_eq gg_215.symm))
            have ne_x_206_b_b_215 : x_206_b ≠ b_215 := Nat.ne_of_lt (Nat.lt_of_lt_of_le f_214.lt (Nat.le_of_eq gg_215.symm))
            have ne_x_210_b_b_215 : x_210_b ≠ b_215 := Nat.ne_of_lt (Nat.lt_of_lt_of_le c_210_0.lt (Nat.le_of_eq gg_215.symm))
            have g_b_215 : n0 ≤ b_215 := Nat.le_trans Z_210 (Nat.le_of_eq gg_215.symm)
            have Z_215 : n0 ≤ h_215.size := Nat.le_trans Z_210 E_215.1
            have F_215_table : Fld Z h_215 b_215 "com/example/westmount/westmount/RowRange" "table" "Ljava/lang/String;" .null := D_215 (Or.inr (hw _ (List.mem_of_getElem? (i := 47) rfl))) (ty := (.object "java/lang/String")) (by decide)
            have F_215_start : Fld Z h_215 b_215 "com/example/westmount/westmount/RowRange" "start" "[B" .null := D_215 (Or.inr (hw _ (List.mem_of_getElem? (i := 49) rfl))) (ty := (.array .byte)) (by decide)
            have F_215_startIncluded : Fld Z h_215 b_215 "com/example/westmount/westmount/RowRange" "startIncluded" "Z" (.int (0 : Int32)) := D_215 (Or.inr (hw _ (List.mem_of_getElem? (i := 51) rfl))) (ty := .boolean) (by decide)
            have F_215_stop : Fld Z h_215 b_215 "com/example/westmount/westmount/RowRange" "stop" "[B" .null := D_215 (Or.inr (hw _ (List.mem_of_getElem? (i := 53) rfl))) (ty := (.array .byte)) (by decide)
            have F_215_stopIncluded : Fld Z h_215 b_215 "com/example/westmount/westmount/RowRange" "stopIncluded" "Z" (.int (0 : Int32)) := D_215 (Or.inr (hw _ (List.mem_of_getElem? (i := 55) rfl))) (ty := .boolean) (by decide)
            refine own_st (S' := T_215.setTop (mkF m 170 #[.val (.int p0), .val (.int p1), .val (.int p2), .val (.int p3), .val (.int (3 : Int32)), .val (.int v_1), .val (.int v_2), .val (.int zb), .val (.int zc), .val (.int zd), .val (.ref b_196), .val (.ref b_200), .val (.ref x_206_b), .val (.ref x_210_b), .unset, .unset, .unset] [(.ref b_215)])) st_215 ?_
            refine own_st (S' := T_215.setTop (mkF m 171 #[.val (.int p0), .val (.int p1), .val (.int p2), .val (.int p3), .val (.int (3 : Int32)), .val (.int v_1), .val (.int v_2), .val (.int zb), .val (.int zc), .val (.int zd), .val (.ref b_196), .val (.ref b_200), .val (.ref x_206_b), .val (.ref x_210_b), .unset, .unset, .unset] [(.ref b_215), (.ref b_215)])) (fun t_ k_ => XS.dup X_215.here hx rfl (hb hby at_170) rfl rfl k_) ?_
            refine own_st (S' := T_215.setTop (mkF m 173 #[.val (.int p0), .val (.int p1), .val (.int p2), .val (.int p3), .val (.int (3 : Int32)), .val (.int v_1), .val (.int v_2), .val (.int zb), .val (.int zc), .val (.int zd), .val (.ref b_196), .val (.ref b_200), .val (.ref x_206_b), .val (.ref x_210_b), .unset, .unset, .unset] [(.ref b_200), (.ref b_215), (.ref b_215)])) (fun t_ k_ => XS.aload X_215.here hx rfl (hb hby at_171) rfl rfl k_) ?_
            refine own_st (S' := T_215.setTop (mkF m 175 #[.val (.int p0), .val (.int p1), .val (.int p2), .val (.int p3), .val (.int (3 : Int32)), .val (.int v_1), .val (.int v_2), .val (.int zb), .val (.int zc), .val (.int zd), .val (.ref b_196), .val (.ref b_200), .val (.ref x_206_b), .val (.ref x_210_b), .unset, .unset, .unset] [(.ref x_206_b), (.ref b_200), (.ref b_215), (.ref b_215)])) (fun t_ k_ => XS.aload X_215.here hx rfl (hb hby at_173) rfl rfl k_) ?_
            refine own_st (S' := T_215.setTop (mkF m 177 #[.val (.int p0), .val (.int p1), .val (.int p2), .val (.int p3), .val (.int (3 : Int32)), .val (.int v_1), .val (.int v_2), .val (.int zb), .val (.int zc), .val (.int zd), .val (.ref b_196), .val (.ref b_200), .val (.ref x_206_b), .val (.ref x_210_b), .unset, .unset, .unset] [(.int zb), (.ref x_206_b), (.ref b_200), (.ref b_215), (.ref b_215)])) (fun t_ k_ => XS.iload X_215.here hx rfl (hb hby at_175) rfl k_) ?_
            refine own_st (S' := T_215.setTop (mkF m 179 #[.val (.int p0), .val (.int p1), .val (.int p2), .val (.int p3), .val (.int (3 : Int32)), .val (.int v_1), .val (.int v_2), .val (.int zb), .val (.int zc), .val (.int zd), .val (.ref b_196), .val (.ref b_200), .val (.ref x_206_b), .val (.ref x_210_b), .unset, .unset, .unset] [(.ref x_210_b), (.int zb), (.ref x_206_b), (.ref b_200), (.ref b_215), (.ref b_215)])) (fun t_ k_ => XS.aload X_215.here hx rfl (hb hby at_177) rfl rfl k_) ?_
            refine own_st (S' := T_215.setTop (mkF m 181 #[.val (.int p0), .val (.int p1), .val (.int p2), .val (.int p3), .val (.int (3 : Int32)), .val (.int v_1), .val (.int v_2), .val (.int zb), .val (.int zc), .val (.int zd), .val (.ref b_196), .val (.ref b_200), .val (.ref x_206_b), .val (.ref x_210_b), .unset, .unset, .unset] [(.int zc), (.ref x_210_b), (.int zb), (.ref x_206_b), (.ref b_200), (.ref b_215), (.ref b_215)])) (fun t_ k_ => XS.iload X_215.here hx rfl (hb hby at_179) rfl k_) ?_
            obtain ⟨_, _, ⟨T_216, L_216, k_216, n_216⟩, -, X_216, ⟨Lc_216, hQ_216, l_216, y_216, z_216⟩, st_216⟩ := X_215.specialBack hx (y := (⟨"com/example/westmount/westmount/RowRange", "<init>", "(Ljava/lang/String;[BZ[BZ)V"⟩ : MethodName)) rfl hown (mvT hZ (hw _ (List.mem_of_getElem? (i := 37) rfl))) (mvT hZ (hw _ (List.mem_of_getElem? (i := 38) rfl))) (mvT hZ (hw _ (List.mem_of_getElem? (i := 39) rfl))) (by decide) (backOf (W := 1) (rm6 l Z a0 hw [] b_215 b_200 x_206_b zb x_210_b zc h_215 n0 Z_215 A_215 F_215_table F_215_start F_215_startIncluded F_215_stop F_215_stopIncluded g_b_215) hZ (hw _ (List.mem_of_getElem? (i := 39) rfl)) (hw _ (List.mem_of_getElem? (i := 36) rfl)) (by decide) (by decide)) (g := (mkF m 181 #[.val (.int p0), .val (.int p1), .val (.int p2), .val (.int p3), .val (.int (3 : Int32)), .val (.int v_1), .val (.int v_2), .val (.int zb), .val (.int zc), .val (.int zd), .val (.ref b_196), .val (.ref b_200), .val (.ref x_206_b), .val (.ref x_210_b), .unset, .unset, .unset] [(.int zc), (.ref x_210_b), (.int zb), (.ref x_206_b), (.ref b_200), (.ref b_215), (.ref b_215)])) rfl (by rw [hml]; rfl) (Steps.refl _) (a := b_215) (argsL := [(.ref b_200), (.ref x_206_b), (.int zb), (.ref x_210_b), (.int zc)]) (rest := [(.ref b_215)]) (lenOf pd_8 rfl) rfl (by show 2 * 0 + _ ≤ _; exact Nat.le_of_eq rfl) (hb hby at_181) (fun _ _ => ⟨rfl, e_215, (by decide : 6 + 0 ≤ _), (by decide : 21 + 0 ≤ _)⟩)
            dsimp only [Pt.U, Pt.locs, Pt.cells, Pt.slots] at X_216 l_216 y_216 z_216 st_216 hQ_216
            subst l_216 y_216 z_216
            obtain ⟨rfl, M_216, K_216c, c_216_0, c_216_1, c_216_2, c_216_3⟩ := hQ_216
            have N_216 := Fr.app N_210 M_216
            have Z_216 : n0 ≤ T_216.heap.size := Nat.le_trans Z_215 K_216c.1
            refine own_st (S' := T_216.setTop (mkF m 184 #[.val (.int p0), .val (.int p1), .val (.int p2), .val (.int p3), .val (.int (3 : Int32)), .val (.int v_1), .val (.int v_2), .val (.int zb), .val (.int zc), .val (.int zd), .val (.ref b_196), .val (.ref b_200), .val (.ref x_206_b), .val (.ref x_210_b), .unset, .unset, .unset] [(.ref b_215)])) (fun t_ k_ => st_216.trans k_) ?_
            refine own_st (S' := T_216.setTop (mkF m 186 #[.val (.int p0), .val (.int p1), .val (.int p2), .val (.int p3), .val (.int (3 : Int32)), .val (.int v_1), .val (.int v_2), .val (.int zb), .val (.int zc), .val (.int zd), .val (.ref b_196), .val (.ref b_200), .val (.ref x_206_b), .val (.ref x_210_b), .val (.ref b_215), .unset, .unset] [])) (fun t_ k_ => XS.astore X_216.here hx rfl (hb hby at_184) rfl rfl (l' := #[.val (.int p0), .val (.int p1), .val (.int p2), .val (.int p3), .val (.int (3 : Int32)), .val (.int v_1), .val (.int v_2), .val (.int zb), .val (.int zc), .val (.int zd), .val (.ref b_196), .val (.ref b_200), .val (.ref x_206_b), .val (.ref x_210_b), .val (.ref b_215), .unset, .unset]) rfl k_) ?_
            refine own_st (S' := T_216.setTop (mkF m 188 #[.val (.int p0), .val (.int p1), .val (.int p2), .val (.int p3), .val (.int (3 : Int32)), .val (.int v_1), .val (.int v_2), .val (.int zb), .val (.int zc), .val (.int zd), .val (.ref b_196), .val (.ref b_200), .val (.ref x_206_b), .val (.ref x_210_b), .val (.ref b_215), .unset, .unset] [(.ref b_215)])) (fun t_ k_ => XS.aload X_216.here hx rfl (hb hby at_186) rfl rfl k_) ?_
            have f_217 : Arv Z T_216.heap b_196 k_196 .char (3 : Int32) [(.int (nar .char ((p0 &&& (255 : Int32)).toUInt32.toUInt16.toUInt32.toInt32))), (.int (nar .char ((((p0.toUInt32 >>> ((8 : Int32) &&& 31).toUInt32).toInt32) &&& (255 : Int32)).toUInt32.toUInt16.toUInt32.toInt32))), (.int (nar .char ((((p0.toUInt32 >>> ((16 : Int32) &&& 31).toUInt32).toInt32) &&& (255 : Int32)).toUInt32.toUInt16.toUInt32.toInt32)))] (.int (0 : Int32)) := ((f_211.ext E_215).keep K_216c (ninS ne_b_196_b_215 nin0))
            have f_218 : Exa Z T_216.heap b_200 "java/lang/String" := ((Exa.ext E_215 f_212).keep K_216c)
            have f_219 : Arv Z T_216.heap t_204 kb_204 .byte (3 : Int32) ((([(nar .char ((p0 &&& (255 : Int32)).toUInt32.toUInt16.toUInt32.toInt32)), (nar .char ((((p0.toUInt32 >>> ((8 : Int32) &&& 31).toUInt32).toInt32) &&& (255 : Int32)).toUInt32.toUInt16.toUInt32.toInt32)), (nar .char ((((p0.toUInt32 >>> ((16 : Int32) &&& 31).toUInt32).toInt32) &&& (255 : Int32)).toUInt32.toUInt16.toUInt32.toInt32))] : List Int32).map (fun c => c.toInt8.toInt32)).map Value.int) (.int 0) := ((f_213.ext E_215).keep K_216c (ninS ne_t_204_b_215 nin0))
            have f_220 : Arv Z T_216.heap x_206_b x_206_k .byte v_1 (own_bs v_1 p1) (.int (0 : Int32)) := ((f_214.ext E_215).keep K_216c (ninS ne_x_206_b_b_215 nin0))
            have f_221 : Arv Z T_216.heap x_210_b x_210_k .byte v_2 (own_bs v_2 p2) (.int (0 : Int32)) := ((c_210_0.ext E_215).keep K_216c (ninS ne_x_210_b_b_215 nin0))
            obtain ⟨cq_222, kq_222, q_222a, q_222b, q_222c⟩ := isOf hZ rfl c_216_0
            obtain ⟨_, _, ⟨T_222, L_222, k_222, n_222⟩, -, X_222, ⟨Lc_222, hQ_222, l_222, y_222, z_222⟩, st_222⟩ := X_216.virtualBack hx (y := (⟨"com/example/westmount/westmount/RowRange", "first", "()Lcom/example/westmount/westmount/RowKey;"⟩ : MethodName)) (z := (⟨"com/example/westmount/westmount/RowRange", "first", "()Lcom/example/westmount/westmount/RowKey;"⟩ : MethodName)) hown (mvT hZ (hw _ (List.mem_of_getElem? (i := 56) rfl))) (mvT hZ (hw _ (List.mem_of_getElem? (i := 57) rfl))) (notFace_of_selects (args := #[]) (mvT hZ (hw _ (List.mem_of_getElem? (i := 59) rfl)))) (mvT hZ (hw _ (List.mem_of_getElem? (i := 59) rfl))) (mvT hZ (hw _ (List.mem_of_getElem? (i := 58) rfl))) (by decide) (backOf (W := 0) (rm8 l Z a0 hw [] b_215 b_200 x_206_b T_216.heap n0 Z_216 c_216_1 c_216_2) hZ (hw _ (List.mem_of_getElem? (i := 60) rfl)) (hw _ (List.mem_of_getElem? (i := 36) rfl)) (by decide) (by decide)) q_222a q_222c (g := (mkF m 188 #[.val (.int p0), .val (.int p1), .val (.int p2), .val (.int p3), .val (.int (3 : Int32)), .val (.int v_1), .val (.int v_2), .val (.int zb), .val (.int zc), .val (.int zd), .val (.ref b_196), .val (.ref b_200), .val (.ref x_206_b), .val (.ref x_210_b), .val (.ref b_215), .unset, .unset] [(.ref b_215)])) rfl (by rw [hml]; rfl) (Steps.refl _) (argsL := []) (rest := []) (lenOf pd_9 rfl) rfl (by show 2 * 0 + _ ≤ _; exact Nat.le_of_eq rfl) (hb hby at_188) (fun _ _ => ⟨rfl, rfl, (by decide : 6 + 1 ≤ _), (by decide : 21 + 2 ≤ _)⟩)
            dsimp only [Pt.U, Pt.locs, Pt.cells, Pt.slots] at X_222 l_222 y_222 z_222 st_222 hQ_222
            subst l_222 y_222 z_222
            obtain ⟨x_222_q, rfl, M_222, K_222c, z_222_0, c_222_0, c_222_1, c_222_2⟩ := hQ_222
            have N_222 := Fr.app N_216 M_222
            have ne_b_196_x_222_q : b_196 ≠ x_222_q := Nat.ne_of_lt (Nat.lt_of_lt_of_le f_217.lt z_222_0)
            have ne_b_200_x_222_q : b_200 ≠ x_222_q := Nat.ne_of_lt (Nat.lt_of_lt_of_le f_218.lt z_222_0)
            have ne_b_215_x_222_q : b_215 ≠ x_222_q := Nat.ne_of_lt (Nat.lt_of_lt_of_le c_216_0.lt z_222_0)
            have ne_t_204_x_222_q : t_204 ≠ x_222_q := Nat.ne_of_lt (Nat.lt_of_lt_of_le f_219.lt z_222_0)
            have ne_x_206_b_x_222_q : x_206_b ≠ x_222_q := Nat.ne_of_lt (Nat.lt_of_lt_of_le f_220.lt z_222_0)
            have ne_x_210_b_x_222_q : x_210_b ≠ x_222_q := Nat.ne_of_lt (Nat.lt_of_lt_of_le f_221.lt z_222_0)
            have g_x_222_q : n0 ≤ x_222_q := Nat.le_trans Z_216 z_222_0
            have Z_222 : n0 ≤ T_222.heap.size := Nat.le_trans Z_216 K_222c.1
            refine own_st (S' := T_222.setTop (mkF m 191 #[.val (.int p0), .val (.int p1), .val (.int p2), .val (.int p3), .val (.int (3 : Int32)), .val (.int v_1), .val (.int v_2), .val (.int zb), .val (.int zc), .val (.int zd), .val (.ref b_196), .val (.ref b_200), .val (.ref x_206_b), .val (.ref x_210_b), .val (.ref b_215), .unset, .unset] [(.ref x_222_q)])) (fun t_ k_ => st_222.trans k_) ?_
            refine own_st (S' := T_222.setTop (mkF m 193 #[.val (.int p0), .val (.int p1), .val (.int p2), .val (.int p3), .val (.int (3 : Int32)), .val (.int v_1), .val (.int v_2), .val (.int zb), .val (.int zc), .val (.int zd), .val (.ref b_196), .val (.ref b_200), .val (.ref x_206_b), .val (.ref x_210_b), .val (.ref b_215), .val (.ref x_222_q), .unset] [])) (fun t_ k_ => XS.astore X_222.here hx rfl (hb hby at_191) rfl rfl (l' := #[.val (.int p0), .val (.int p1), .val (.int p2), .val (.int p3), .val (.int (3 : Int32)), .val (.int v_1), .val (.int v_2), .val (.int zb), .val (.int zc), .val (.int zd), .val (.ref b_196), .val (.ref b_200), .val (.ref x_206_b), .val (.ref x_210_b), .val (.ref b_215), .val (.ref x_222_q), .unset]) rfl k_) ?_
            refine own_st (S' := T_222.setTop (mkF m 195 #[.val (.int p0), .val (.int p1), .val (.int p2), .val (.int p3), .val (.int (3 : Int32)), .val (.int v_1), .val (.int v_2), .val (.int zb), .val (.int zc), .val (.int zd), .val (.ref b_196), .val (.ref b_200), .val (.ref x_206_b), .val (.ref x_210_b), .val (.ref b_215), .val (.ref x_222_q), .unset] [(.ref x_222_q)])) (fun t_ k_ => XS.aload X_222.here hx rfl (hb hby at_193) rfl rfl k_) ?_
            obtain ⟨cq_223, kq_223, q_223a, q_223b, q_223c⟩ := isOf hZ rfl c_222_0
            obtain ⟨_, _, ⟨T_223, L_223, k_223, n_223⟩, -, X_223, ⟨Lc_223, hQ_223, l_223, y_223, z_223⟩, st_223⟩ := X_222.virtualBack hx (y := (⟨"com/example/westmount/westmount/RowKey", "table", "()Ljava/lang/String;"⟩ : MethodName)) (z := (⟨"com/example/westmount/westmount/RowKey", "table", "()Ljava/lang/String;"⟩ : MethodName)) hown (mvT hZ (hw _ (List.mem_of_getElem? (i := 72) rfl))) (mvT hZ (hw _ (List.mem_of_getElem? (i := 73) rfl))) (notFace_of_selects (args := #[]) (mvT hZ (hw _ (List.mem_of_getElem? (i := 75) rfl)))) (mvT hZ (hw _ (List.mem_of_getElem? (i := 75) rfl))) (mvT hZ (hw _ (List.mem_of_getElem? (i := 74) rfl))) (by decide) (backOf (W := 0) (rm10 l Z a0 hw [] x_222_q b_200 T_222.heap n0 Z_222 c_222_1) hZ (hw _ (List.mem_of_getElem? (i := 76) rfl)) (hw _ (List.mem_of_getElem? (i := 63) rfl)) (by decide) (by decide)) q_223a q_223c (g := (mkF m 195 #[.val (.int p0), .val (.int p1), .val (.int p2), .val (.int p3), .val (.int (3 : Int32)), .val (.int v_1), .val (.int v_2), .val (.int zb), .val (.int zc), .val (.int zd), .val (.ref b_196), .val (.ref b_200), .val (.ref x_206_b), .val (.ref x_210_b), .val (.ref b_215), .val (.ref x_222_q), .unset] [(.ref x_222_q)])) rfl (by rw [hml]; rfl) (Steps.refl _) (argsL := []) (rest := []) (lenOf pd_10 rfl) rfl (by show 2 * 0 + _ ≤ _; exact Nat.le_of_eq rfl) (hb hby at_195) (fun _ _ => ⟨rfl, rfl, (by decide : 7 + 0 ≤ _), (by decide : 23 + 0 ≤ _)⟩)
            dsimp only [Pt.U, Pt.locs, Pt.cells, Pt.slots] at X_223 l_223 y_223 z_223 st_223 hQ_223
            subst l_223 y_223 z_223
            obtain ⟨rfl, M_223, q_223⟩ := hQ_223
            have N_223 := Fr.app N_222 M_223
            refine own_st (S' := T_223.setTop (mkF m 198 #[.val (.int p0), .val (.int p1), .val (.int p2), .val (.int p3), .val (.int (3 : Int32)), .val (.int v_1), .val (.int v_2), .val (.int zb), .val (.int zc), .val (.int zd), .val (.ref b_196), .val (.ref b_200), .val (.ref x_206_b), .val (.ref x_210_b), .val (.ref b_215), .val (.ref x_222_q), .unset] [(.ref b_200)])) (fun t_ k_ => st_223.trans k_) ?_
            refine own_st (S' := T_223.setTop (mkF m 200 #[.val (.int p0), .val (.int p1), .val (.int p2), .val (.int p3), .val (.int (3 : Int32)), .val (.int v_1), .val (.int v_2), .val (.int zb), .val (.int zc), .val (.int zd), .val (.ref b_196), .val (.ref b_200), .val (.ref x_206_b), .val (.ref x_210_b), .val (.ref b_215), .val (.ref x_222_q), .unset] [(.ref b_200), (.ref b_200)])) (fun t_ k_ => XS.aload X_223.here hx rfl (hb hby at_198) rfl rfl k_) ?_
            have f_225 : Exa Z T_222.heap b_200 "java/lang/String" := (f_218.keep K_222c)
            obtain ⟨cq_224, kq_224, q_224a, q_224b, q_224c⟩ := isOf hZ q_223 f_225
            obtain ⟨_, _, ⟨T_224, L_224, k_224, n_224⟩, -, X_224, ⟨Lc_224, hQ_224, l_224, y_224, z_224⟩, st_224⟩ := X_223.virtualBack hx (y := (⟨"java/lang/String", "equals", "(Ljava/lang/Object;)Z"⟩ : MethodName)) (z := (⟨"java/lang/String", "equals", "(Ljava/lang/Object;)Z"⟩ : MethodName)) hown (mvT hZ (hw _ (List.mem_of_getElem? (i := 77) rfl))) (mvT hZ (hw _ (List.mem_of_getElem? (i := 78) rfl))) (notFace_of_selects (args := #[]) (mvT hZ (hw _ (List.mem_of_getElem? (i := 80) rfl)))) (mvT hZ (hw _ (List.mem_of_getElem? (i := 80) rfl))) (mvT hZ (hw _ (List.mem_of_getElem? (i := 79) rfl))) (by decide) (backOf (W := 0) (rm12 l Z a0 hw [] b_200 b_200 T_222.heap n0 Z_222 rfl) hZ (hw _ (List.mem_of_getElem? (i := 81) rfl)) (hw _ (List.mem_of_getElem? (i := 3) rfl)) (by decide) (by decide)) q_224a q_224c (g := (mkF m 200 #[.val (.int p0), .val (.int p1), .val (.int p2), .val (.int p3), .val (.int (3 : Int32)), .val (.int v_1), .val (.int v_2), .val (.int zb), .val (.int zc), .val (.int zd), .val (.ref b_196), .val (.ref b_200), .val (.ref x_206_b), .val (.ref x_210_b), .val (.ref b_215), .val (.ref x_222_q), .unset] [(.ref b_200), (.ref b_200)])) rfl (by rw [hml]; rfl) (Steps.refl _) (argsL := [(.ref b_200)]) (rest := []) (lenOf pd_4 rfl) rfl (by show 2 * 0 + _ ≤ _; exact Nat.le_of_eq rfl) (hb hby at_200) (fun _ _ => ⟨rfl, q_223, (by decide : 7 + 0 ≤ _), (by decide : 23 + 0 ≤ _)⟩)
            dsimp only [Pt.U, Pt.locs, Pt.cells, Pt.slots] at X_224 l_224 y_224 z_224 st_224 hQ_224
            subst l_224 y_224 z_224
            obtain ⟨rfl, M_224, q_224⟩ := hQ_224
            have N_224 := Fr.app N_223 M_224
            refine own_st (S' := T_224.setTop (mkF m 203 #[.val (.int p0), .val (.int p1), .val (.int p2), .val (.int p3), .val (.int (3 : Int32)), .val (.int v_1), .val (.int v_2), .val (.int zb), .val (.int zc), .val (.int zd), .val (.ref b_196), .val (.ref b_200), .val (.ref x_206_b), .val (.ref x_210_b), .val (.ref b_215), .val (.ref x_222_q), .unset] [(.int (1 : Int32))])) (fun t_ k_ => st_224.trans k_) ?_
            refine own_st (S' := T_224.setTop (mkF m 206 #[.val (.int p0), .val (.int p1), .val (.int p2), .val (.int p3), .val (.int (3 : Int32)), .val (.int v_1), .val (.int v_2), .val (.int zb), .val (.int zc), .val (.int zd), .val (.ref b_196), .val (.ref b_200), .val (.ref x_206_b), .val (.ref x_210_b), .val (.ref b_215), .val (.ref x_222_q), .unset] [])) (fun t_ k_ => XS.ifNo X_224.here hx rfl (hb hby at_203) rfl ((if0 _ _).trans (feq (by decide : ¬ ((1 : Int32) = (0 : Int32)))).1) k_) ?_
            refine own_st (S' := T_224.setTop (mkF m 208 #[.val (.int p0), .val (.int p1), .val (.int p2), .val (.int p3), .val (.int (3 : Int32)), .val (.int v_1), .val (.int v_2), .val (.int zb), .val (.int zc), .val (.int zd), .val (.ref b_196), .val (.ref b_200), .val (.ref x_206_b), .val (.ref x_210_b), .val (.ref b_215), .val (.ref x_222_q), .unset] [(.ref x_222_q)])) (fun t_ k_ => XS.aload X_224.here hx rfl (hb hby at_206) rfl rfl k_) ?_
            obtain ⟨cq_226, kq_226, q_226a, q_226b, q_226c⟩ := isOf hZ q_224 c_222_0
            obtain ⟨_, _, ⟨T_226, L_226, k_226, n_226⟩, -, X_226, ⟨Lc_226, hQ_226, l_226, y_226, z_226⟩, st_226⟩ := X_224.virtualBack hx (y := (⟨"com/example/westmount/westmount/RowKey", "row", "()[B"⟩ : MethodName)) (z := (⟨"com/example/westmount/westmount/RowKey", "row", "()[B"⟩ : MethodName)) hown (mvT hZ (hw _ (List.mem_of_getElem? (i := 82) rfl))) (mvT hZ (hw _ (List.mem_of_getElem? (i := 83) rfl))) (notFace_of_selects (args := #[]) (mvT hZ (hw _ (List.mem_of_getElem? (i := 85) rfl)))) (mvT hZ (hw _ (List.mem_of_getElem? (i := 85) rfl))) (mvT hZ (hw _ (List.mem_of_getElem? (i := 84) rfl))) (by decide) (backOf (W := 0) (rm11 l Z a0 hw [] x_222_q x_206_b T_222.heap n0 Z_222 c_222_2) hZ (hw _ (List.mem_of_getElem? (i := 86) rfl)) (hw _ (List.mem_of_getElem? (i := 63) rfl)) (by decide) (by decide)) q_226a q_226c (g := (mkF m 208 #[.val (.int p0), .val (.int p1), .val (.int p2), .val (.int p3), .val (.int (3 : Int32)), .val (.int v_1), .val (.int v_2), .val (.int zb), .val (.int zc), .val (.int zd), .val (.ref b_196), .val (.ref b_200), .val (.ref x_206_b), .val (.ref x_210_b), .val (.ref b_215), .val (.ref x_222_q), .unset] [(.ref x_222_q)])) rfl (by rw [hml]; rfl) (Steps.refl _) (argsL := []) (rest := []) (lenOf pd_11 rfl) rfl (by show 2 * 0 + _ ≤ _; exact Nat.le_of_eq rfl) (hb hby at_208) (fun _ _ => ⟨rfl, q_224, (by decide : 7 + 0 ≤ _), (by decide : 23 + 0 ≤ _)⟩)
            dsimp only [Pt.U, Pt.locs, Pt.cells, Pt.slots] at X_226 l_226 y_226 z_226 st_226 hQ_226
            subst l_226 y_226 z_226
            obtain ⟨rfl, M_226, q_226⟩ := hQ_226
            have N_226 := Fr.app N_224 M_226
            refine own_st (S' := T_226.setTop (mkF m 211 #[.val (.int p0), .val (.int p1), .val (.int p2), .val (.int p3), .val (.int (3 : Int32)), .val (.int v_1), .val (.int v_2), .val (.int zb), .val (.int zc), .val (.int zd), .val (.ref b_196), .val (.ref b_200), .val (.ref x_206_b), .val (.ref x_210_b), .val (.ref b_215), .val (.ref x_222_q), .unset] [(.ref x_206_b)])) (fun t_ k_ => st_226.trans k_) ?_
            refine own_st (S' := T_226.setTop (mkF m 213 #[.val (.int p0), .val (.int p1), .val (.int p2), .val (.int p3), .val (.int (3 : Int32)), .val (.int v_1), .val (.int v_2), .val (.int zb), .val (.int zc), .val (.int zd), .val (.ref b_196), .val (.ref b_200), .val (.ref x_206_b), .val (.ref x_210_b), .val (.ref b_215), .val (.ref x_222_q), .unset] [(.int v_1), (.ref x_206_b)])) (fun t_ k_ => XS.iload X_226.here hx rfl (hb hby at_211) rfl k_) ?_
            refine own_st (S' := T_226.setTop (mkF m 214 #[.val (.int p0), .val (.int p1), .val (.int p2), .val (.int p3), .val (.int (3 : Int32)), .val (.int v_1), .val (.int v_2), .val (.int zb), .val (.int zc), .val (.int zd), .val (.ref b_196), .val (.ref b_200), .val (.ref x_206_b), .val (.ref x_210_b), .val (.ref b_215), .val (.ref x_222_q), .unset] [(.int p1), (.int v_1), (.ref x_206_b)])) (fun t_ k_ => XS.iloadN X_226.here hx rfl (hb hby at_213) rfl k_) ?_
            have f_227 : Arv Z T_222.heap x_206_b x_206_k .byte v_1 (own_bs v_1 p1) (.int (0 : Int32)) := (f_220.keep K_222c nin0)
            obtain ⟨_, _, ⟨T_228, L_228, k_228, n_228⟩, -, X_228, ⟨Lc_228, hQ_228, l_228, y_228, z_228⟩, st_228⟩ := Jvm.LawKit.callS X_226 hx (y := (⟨"com/example/westmount/westmount/RowRangeFirstPinLaw", "sameBytes", "([BII)Z"⟩ : MethodName)) hown (mvT hZ (hw _ (List.mem_of_getElem? (i := 87) rfl))) (mvT hZ (hw _ (List.mem_of_getElem? (i := 88) rfl))) (mvT hZ (hw _ (List.mem_of_getElem? (i := 32) rfl))) (mvT hZ (hw _ (List.mem_of_getElem? (i := 89) rfl))) (by decide) (backOf (W := 0) (rm4 l Z a0 hw [] x_206_b v_1 p1 x_206_k T_222.heap n0 Z_222 f_227 (hv_1 ▸ own_four _)) hZ (hw _ (List.mem_of_getElem? (i := 89) rfl)) (hw _ (List.mem_of_getElem? (i := 32) rfl)) (by decide) (by decide)) (g := (mkF m 214 #[.val (.int p0), .val (.int p1), .val (.int p2), .val (.int p3), .val (.int (3 : Int32)), .val (.int v_1), .val (.int v_2), .val (.int zb), .val (.int zc), .val (.int zd), .val (.ref b_196), .val (.ref b_200), .val (.ref x_206_b), .val (.ref x_210_b), .val (.ref b_215), .val (.ref x_222_q), .unset] [(.int p1), (.int v_1), (.ref x_206_b)])) rfl (by rw [hml]; rfl) (argsL := [(.ref x_206_b), (.int v_1), (.int p1)]) (rest := []) (lenOf pd_12 rfl) rfl (by show 2 * 0 + _ ≤ _; exact Nat.le_of_eq rfl) (hb hby at_214) (fun _ _ => ⟨rfl, q_226, (by decide : 7 + 0 ≤ _), (by decide : 23 + 0 ≤ _)⟩)
            dsimp only [Pt.U, Pt.locs, Pt.cells, Pt.slots] at X_228 l_228 y_228 z_228 st_228 hQ_228
            subst l_228 y_228 z_228
            obtain ⟨rfl, M_228, q_228⟩ := hQ_228
            have N_228 := Fr.app N_226 M_228
            refine own_st (S' := T_228.setTop (mkF m 217 #[.val (.int p0), .val (.int p1), .val (.int p2), .val (.int p3), .val (.int (3 : Int32)), .val (.int v_1), .val (.int v_2), .val (.int zb), .val (.int zc), .val (.int zd), .val (.ref b_196), .val (.ref b_200), .val (.ref x_206_b), .val (.ref x_210_b), .val (.ref b_215), .val (.ref x_222_q), .unset] [(.int (1 : Int32))])) st_228 ?_
            refine own_st (S' := T_228.setTop (mkF m 220 #[.val (.int p0), .val (.int p1), .val (.int p2), .val (.int p3), .val (.int (3 : Int32)), .val (.int v_1), .val (.int v_2), .val (.int zb), .val (.int zc), .val (.int zd), .val (.ref b_196), .val (.ref b_200), .val (.ref x_206_b), .val (.ref x_210_b), .val (.ref b_215), .val (.ref x_222_q), .unset] [])) (fun t_ k_ => XS.ifNo X_228.here hx rfl (hb hby at_217) rfl ((if0 _ _).trans (feq (by decide : ¬ ((1 : Int32) = (0 : Int32)))).1) k_) ?_
            refine own_st (S' := T_228.setTop (mkF m 221 #[.val (.int p0), .val (.int p1), .val (.int p2), .val (.int p3), .val (.int (3 : Int32)), .val (.int v_1), .val (.int v_2), .val (.int zb), .val (.int zc), .val (.int zd), .val (.ref b_196), .val (.ref b_200), .val (.ref x_206_b), .val (.ref x_210_b), .val (.ref b_215), .val (.ref x_222_q), .unset] [(.int (1 : Int32))])) (fun t_ k_ => XS.iconst X_228.here hx rfl (hb hby at_220) k_) ?_
            refine own_st (S' := T_228.setTop (mkF m 225 #[.val (.int p0), .val (.int p1), .val (.int p2), .val (.int p3), .val (.int (3 : Int32)), .val (.int v_1), .val (.int v_2), .val (.int zb), .val (.int zc), .val (.int zd), .val (.ref b_196), .val (.ref b_200), .val (.ref x_206_b), .val (.ref x_210_b), .val (.ref b_215), .val (.ref x_222_q), .unset] [(.int (1 : Int32))])) (fun t_ k_ => XS.goto X_228.here hx rfl (pc0 := 221) (pc' := 225) rfl (hb hby at_221) (by decide) (by decide) k_) ?_
            refine own_st (S' := T_228.setTop (mkF m 227 #[.val (.int p0), .val (.int p1), .val (.int p2), .val (.int p3), .val (.int (3 : Int32)), .val (.int v_1), .val (.int v_2), .val (.int zb), .val (.int zc), .val (.int zd), .val (.ref b_196), .val (.ref b_200), .val (.ref x_206_b), .val (.ref x_210_b), .val (.ref b_215), .val (.ref x_222_q), .val (.int (1 : Int32))] [])) (fun t_ k_ => XS.istore X_228.here hx rfl (hb hby at_225) rfl (l' := #[.val (.int p0), .val (.int p1), .val (.int p2), .val (.int p3), .val (.int (3 : Int32)), .val (.int v_1), .val (.int v_2), .val (.int zb), .val (.int zc), .val (.int zd), .val (.ref b_196), .val (.ref b_200), .val (.ref x_206_b), .val (.ref x_210_b), .val (.ref b_215), .val (.ref x_222_q), .val (.int (1 : Int32))]) rfl k_) ?_
            refine own_st (S' := T_228.setTop (mkF m 229 #[.val (.int p0), .val (.int p1), .val (.int p2), .val (.int p3), .val (.int (3 : Int32)), .val (.int v_1), .val (.int v_2), .val (.int zb), .val (.int zc), .val (.int zd), .val (.ref b_196), .val (.ref b_200), .val (.ref x_206_b), .val (.ref x_210_b), .val (.ref b_215), .val (.ref x_222_q), .val (.int (1 : Int32))] [(.int (1 : Int32))])) (fun t_ k_ => XS.iload X_228.here hx rfl (hb hby at_227) rfl k_) ?_
            refine own_st (S' := T_228.setTop (mkF m 232 #[.val (.int p0), .val (.int p1), .val (.int p2), .val (.int p3), .val (.int (3 : Int32)), .val (.int v_1), .val (.int v_2), .val (.int zb), .val (.int zc), .val (.int zd), .val (.ref b_196), .val (.ref b_200), .val (.ref x_206_b), .val (.ref x_210_b), .val (.ref b_215), .val (.ref x_222_q), .val (.int (1 : Int32))] [])) (fun t_ k_ => XS.ifNo X_228.here hx rfl (hb hby at_229) rfl ((if0 _ _).trans (feq (by decide : ¬ ((1 : Int32) = (0 : Int32)))).1) k_) ?_
            refine own_st (S' := T_228.setTop (mkF m 234 #[.val (.int p0), .val (.int p1), .val (.int p2), .val (.int p3), .val (.int (3 : Int32)), .val (.int v_1), .val (.int v_2), .val (.int zb), .val (.int zc), .val (.int zd), .val (.ref b_196), .val (.ref b_200), .val (.ref x_206_b), .val (.ref x_210_b), .val (.ref b_215), .val (.ref x_222_q), .val (.int (1 : Int32))] [(.int zd)])) (fun t_ k_ => XS.iload X_228.here hx rfl (hb hby at_232) rfl k_) ?_
            refine own_st (S' := T_228.setTop (mkF m 254 #[.val (.int p0), .val (.int p1), .val (.int p2), .val (.int p3), .val (.int (3 : Int32)), .val (.int v_1), .val (.int v_2), .val (.int zb), .val (.int zc), .val (.int zd), .val (.ref b_196), .val (.ref b_200), .val (.ref x_206_b), .val (.ref x_210_b), .val (.ref b_215), .val (.ref x_222_q), .val (.int (1 : Int32))] [])) (fun t_ k_ => XS.ifYes X_228.here hx rfl (pc0 := 234) (pc' := 254) rfl (hb hby at_234) rfl ((if0 _ _).trans (teq hc147).1) (by decide) (by decide) k_) ?_
            refine own_st (S' := T_228.setTop (mkF m 256 #[.val (.int p0), .val (.int p1), .val (.int p2), .val (.int p3), .val (.int (3 : Int32)), .val (.int v_1), .val (.int v_2), .val (.int zb), .val (.int zc), .val (.int zd), .val (.ref b_196), .val (.ref b_200), .val (.ref x_206_b), .val (.ref x_210_b), .val (.ref b_215), .val (.ref x_222_q), .val (.int (1 : Int32))] [(.int (1 : Int32))])) (fun t_ k_ => XS.iload X_228.here hx rfl (hb hby at_254) rfl k_) ?_
            obtain ⟨fs, hr, hrun, hended, hRW⟩ := Stand.leaveW (s := s) (vm₁ := s.vm) X_228 (n := 0) (State.WarmedH.since (State.WarmedH.refl s) 0) (by rw [q_228]; exact (Nat.zero_le _)) (v := some (.int (1 : Int32))) (fun h => by rw [Bd.returns] at h; cases h)
            refine ⟨_, _, retN X_228 hx (t := .boolean) Bd.returns (by simp) (hb hby at_256) hr, hrun, hended, _, _, rfl, ?_, ⟨_, rfl⟩, hRW.2.1, hRW.2.2.1, hRW.2.2.2.mono (by decide) (by decide)⟩
            show Q0 Z p0 p1 p2 p3 cz h0 n0 _ T_228.heap _
            rw [q_228]
            exact ⟨rfl, N_228⟩
          · refine own_st (S' := T_206.setTop (mkF m 150 #[.val (.int p0), .val (.int p1), .val (.int p2), .val (.int p3), .val (.int (3 : Int32)), .val (.int v_1), .val (.int v_2), .val (.int zb), .val (.int zc), .val (.int zd), .val (.ref b_196), .val (.ref b_200), .val (.ref x_206_b), .unset, .unset, .unset, .unset] [])) (fun t_ k_ => XS.ifNo X_206.here hx rfl (hb hby at_147) rfl ((if0 _ _).trans (feq hc147).1) k_) ?_
            refine own_st (S' := T_206.setTop (mkF m 152 #[.val (.int p0), .val (.int p1), .val (.int p2), .val (.int p3), .val (.int (3 : Int32)), .val (.int v_1), .val (.int v_2), .val (.int zb), .val (.int zc), .val (.int zd), .val (.ref b_196), .val (.ref b_200), .val (.ref x_206_b), .unset, .unset, .unset, .unset] [(.int v_1)])) (fun t_ k_ => XS.iload X_206.here hx rfl (hb hby at_150) rfl k_) ?_
            refine own_st (S' := T_206.setTop (mkF m 153 #[.val (.int p0), .val (.int p1), .val (.int p2), .val (.int p3), .val (.int (3 : Int32)), .val (.int v_1), .val (.int v_2), .val (.int zb), .val (.int zc), .val (.int zd), .val (.ref b_196), .val (.ref b_200), .val (.ref x_206_b), .unset, .unset, .unset, .unset] [(.int p1), (.int v_1)])) (fun t_ k_ => XS.iloadN X_206.here hx rfl (hb hby at_152) rfl k_) ?_
            have f_229 : Arv Z T_206.heap b_196 k_196 .char (3 : Int32) [(.int (nar .char ((p0 &&& (255 : Int32)).toUInt32.toUInt16.toUInt32.toInt32))), (.int (nar .char ((((p0.toUInt32 >>> ((8 : Int32) &&& 31).toUInt32).toInt32) &&& (255 : Int32)).toUInt32.toUInt16.toUInt32.toInt32))), (.int (nar .char ((((p0.toUInt32 >>> ((16 : Int32) &&& 31).toUInt32).toInt32) &&& (255 : Int32)).toUInt32.toUInt16.toUInt32.toInt32)))] (.int (0 : Int32)) := (f_205.keep K_206c nin0)
            have f_230 : Exa Z T_206.heap b_200 "java/lang/String" := (A_204.keep K_206c)
            have f_231 : Arv Z T_206.heap t_204 kb_204 .byte (3 : Int32) ((([(nar .char ((p0 &&& (255 : Int32)).toUInt32.toUInt16.toUInt32.toInt32)), (nar .char ((((p0.toUInt32 >>> ((8 : Int32) &&& 31).toUInt32).toInt32) &&& (255 : Int32)).toUInt32.toUInt16.toUInt32.toInt32)), (nar .char ((((p0.toUInt32 >>> ((16 : Int32) &&& 31).toUInt32).toInt32) &&& (255 : Int32)).toUInt32.toUInt16.toUInt32.toInt32))] : List Int32).map (fun c => c.toInt8.toInt32)).map Value.int) (.int 0) := (V_204.keep K_206c nin0)
            obtain ⟨_, _, ⟨T_232, L_232, k_232, n_232⟩, -, X_232, ⟨Lc_232, hQ_232, l_232, y_232, z_232⟩, st_232⟩ := Jvm.LawKit.callS X_206 hx (y := (⟨"com/example/westmount/westmount/RowRangeFirstPinLaw", "bytes", "(II)[B"⟩ : MethodName)) hown (mvT hZ (hw _ (List.mem_of_getElem? (i := 30) rfl))) (mvT hZ (hw _ (List.mem_of_getElem? (i := 31) rfl))) (mvT hZ (hw _ (List.mem_of_getElem? (i := 32) rfl))) (mvT hZ (hw _ (List.mem_of_getElem? (i := 33) rfl))) (by decide) (backOf (W := 0) (rm3 l Z a0 hw [] v_1 p1 T_206.heap n0 Z_206 (hv_1 ▸ own_four _)) hZ (hw _ (List.mem_of_getElem? (i := 33) rfl)) (hw _ (List.mem_of_getElem? (i := 32) rfl)) (by decide) (by decide)) (g := (mkF m 153 #[.val (.int p0), .val (.int p1), .val (.int p2), .val (.int p3), .val (.int (3 : Int32)), .val (.int v_1), .val (.int v_2), .val (.int zb), .val (.int zc), .val (.int zd), .val (.ref b_196), .val (.ref b_200), .val (.ref x_206_b), .unset, .unset, .unset, .unset] [(.int p1), (.int v_1)])) rfl (by rw [hml]; rfl) (argsL := [(.int v_1), (.int p1)]) (rest := []) (lenOf pd_7 rfl) rfl (by show 2 * 0 + _ ≤ _; exact Nat.le_of_eq rfl) (hb hby at_153) (fun _ _ => ⟨rfl, rfl, (by decide : 4 + 1 ≤ _), (by decide : 13 + 3 ≤ _)⟩)
            dsimp only [Pt.U, Pt.locs, Pt.cells, Pt.slots] at X_232 l_232 y_232 z_232 st_232 hQ_232
            subst l_232 y_232 z_232
            obtain ⟨x_232_b, x_232_k, rfl, M_232, K_232c, z_232_0, c_232_0⟩ := hQ_232
            have N_232 := Fr.app N_206 M_232
            have ne_b_196_x_232_b : b_196 ≠ x_232_b := Nat.ne_of_lt (Nat.lt_of_lt_of_le f_229.lt z_232_0)
            have ne_b_200_x_232_b : b_200 ≠ x_232_b := Nat.ne_of_lt (Nat.lt_of_lt_of_le f_230.lt z_232_0)
            have ne_t_204_x_232_b : t_204 ≠ x_232_b := Nat.ne_of_lt (Nat.lt_of_lt_of_le f_231.lt z_232_0)
            have ne_x_206_b_x_232_b : x_206_b ≠ x_232_b := Nat.ne_of_lt (Nat.lt_of_lt_of_le c_206_0.lt z_232_0)
            have g_x_232_b : n0 ≤ x_232_b := Nat.le_trans Z_206 z_232_0
            have Z_232 : n0 ≤ T_232.heap.size := Nat.le_trans Z_206 K_232c.1
            refine own_st (S' := T_232.setTop (mkF m 156 #[.val (.int p0), .val (.int p1), .val (.int p2), .val (.int p3), .val (.int (3 : Int32)), .val (.int v_1), .val (.int v_2), .val (.int zb), .val (.int zc), .val (.int zd), .val (.ref b_196), .val (.ref b_200), .val (.ref x_206_b), .unset, .unset, .unset, .unset] [(.ref x_232_b)])) st_232 ?_
            refine own_st (S' := T_232.setTop (mkF m 165 #[.val (.int p0), .val (.int p1), .val (.int p2), .val (.int p3), .val (.int (3 : Int32)), .val (.int v_1), .val (.int v_2), .val (.int zb), .val (.int zc), .val (.int zd), .val (.ref b_196), .val (.ref b_200), .val (.ref x_206_b), .unset, .unset, .unset, .unset] [(.ref x_232_b)])) (fun t_ k_ => XS.goto X_232.here hx rfl (pc0 := 156) (pc' := 165) rfl (hb hby at_156) (by decide) (by decide) k_) ?_
            refine own_st (S' := T_232.setTop (mkF m 167 #[.val (.int p0), .val (.int p1), .val (.int p2), .val (.int p3), .val (.int (3 : Int32)), .val (.int v_1), .val (.int v_2), .val (.int zb), .val (.int zc), .val (.int zd), .val (.ref b_196), .val (.ref b_200), .val (.ref x_206_b), .val (.ref x_232_b), .unset, .unset, .unset] [])) (fun t_ k_ => XS.astore X_232.here hx rfl (hb hby at_165) rfl rfl (l' := #[.val (.int p0), .val (.int p1), .val (.int p2), .val (.int p3), .val (.int (3 : Int32)), .val (.int v_1), .val (.int v_2), .val (.int zb), .val (.int zc), .val (.int zd), .val (.ref b_196), .val (.ref b_200), .val (.ref x_206_b), .val (.ref x_232_b), .unset, .unset, .unset]) rfl k_) ?_
            have f_233 : Arv Z T_232.heap b_196 k_196 .char (3 : Int32) [(.int (nar .char ((p0 &&& (255 : Int32)).toUInt32.toUInt16.toUInt32.toInt32))), (.int (nar .char ((((p0.toUInt32 >>> ((8 : Int32) &&& 31).toUInt32).toInt32) &&& (255 : Int32)).toUInt32.toUInt16.toUInt32.toInt32))), (.int (nar .char ((((p0.toUInt32 >>> ((16 : Int32) &&& 31).toUInt32).toInt32) &&& (255 : Int32)).toUInt32.toUInt16.toUInt32.toInt32)))] (.int (0 : Int32)) := (f_229.keep K_232c nin0)
            have f_234 : Exa Z T_232.heap b_200 "java/lang/String" := (f_230.keep K_232c)
            have f_235 : Arv Z T_232.heap t_204 kb_204 .byte (3 : Int32) ((([(nar .char ((p0 &&& (255 : Int32)).toUInt32.toUInt16.toUInt32.toInt32)), (nar .char ((((p0.toUInt32 >>> ((8 : Int32) &&& 31).toUInt32).toInt32) &&& (255 : Int32)).toUInt32.toUInt16.toUInt32.toInt32)), (nar .char ((((p0.toUInt32 >>> ((16 : Int32) &&& 31).toUInt32).toInt32) &&& (255 : Int32)).toUInt32.toUInt16.toUInt32.toInt32))] : List Int32).map (fun c => c.toInt8.toInt32)).map Value.int) (.int 0) := (f_231.keep K_232c nin0)
            have f_236 : Arv Z T_232.heap x_206_b x_206_k .byte v_1 (own_bs v_1 p1) (.int (0 : Int32)) := (c_206_0.keep K_232c nin0)
            obtain ⟨T_237, h_237, X_237, e_237, E_237, A_237, D_237, -, st_237⟩ := newO X_232 hx hZ hown (hw _ (List.mem_of_getElem? (i := 34) rfl)) (hw _ (List.mem_of_getElem? (i := 35) rfl)) (hw _ (List.mem_of_getElem? (i := 36) rfl)) rfl (g := (mkF m 167 #[.val (.int p0), .val (.int p1), .val (.int p2), .val (.int p3), .val (.int (3 : Int32)), .val (.int v_1), .val (.int v_2), .val (.int zb), .val (.int zc), .val (.int zd), .val (.ref b_196), .val (.ref b_200), .val (.ref x_206_b), .val (.ref x_232_b), .unset, .unset, .unset] [])) rfl (hb hby at_167) (by decide) (by decide)
            obtain ⟨b_237, gg_237⟩ : ∃ z, z = T_232.heap.size := ⟨_, rfl⟩
            rw [← gg_237] at A_237 D_237 st_237
            have ne_b_196_b_237 : b_196 ≠ b_237 := Nat.ne_of_lt (Nat.lt_of_lt_of_le f_233.lt (Nat.le_of_eq gg_237.symm))
            have ne_b_200_b_237 : b_200 ≠ b_237 := Nat.ne_of_lt (Nat.lt_of_lt_of_le f_234.lt (Nat.le_of_eq gg_237.symm))
            have ne_t_204_b_237 : t_204 ≠ b_237 := Nat.ne_of_lt (Nat.lt_of_lt_of_le f_235.lt (Nat.le_of_eq gg_237.symm))
            have ne_x_206_b_b_237 : x_206_b ≠ b_237 := Nat.ne_of_lt (Nat.lt_of_lt_of_le f_236.lt (Nat.le_of_eq gg_237.symm))
            have ne_x_232_b_b_237 : x_232_b ≠ b_237 := Nat.ne_of_lt (Nat.lt_of_lt_of_le c_232_0.lt (Nat.le_of_eq gg_237.symm))
            have g_b_237 : n0 ≤ b_237 := Nat.le_trans Z_232 (Nat.le_of_eq gg_237.symm)
            have Z_237 : n0 ≤ h_237.size := Nat.le_trans Z_232 E_237.1
            have F_237_table : Fld Z h_237 b_237 "com/example/westmount/westmount/RowRange" "table" "Ljava/lang/String;" .null := D_237 (Or.inr (hw _ (List.mem_of_getElem? (i := 47) rfl))) (ty := (.object "java/lang/String")) (by decide)
            have F_237_start : Fld Z h_237 b_237 "com/example/westmount/westmount/RowRange" "start" "[B" .null := D_237 (Or.inr (hw _ (List.mem_of_getElem? (i := 49) rfl))) (ty := (.array .byte)) (by decide)
            have F_237_startIncluded : Fld Z h_237 b_237 "com/example/westmount/westmount/RowRange" "startIncluded" "Z" (.int (0 : Int32)) := D_237 (Or.inr (hw _ (List.mem_of_getElem? (i := 51) rfl))) (ty := .boolean) (by decide)
            have F_237_stop : Fld Z h_237 b_237 "com/example/westmount/westmount/RowRange" "stop" "[B" .null := D_237 (Or.inr (hw _ (List.mem_of_getElem? (i := 53) rfl))) (ty := (.array .byte)) (by decide)
            have F_237_stopIncluded : Fld Z h_237 b_237 "com/example/westmount/westmount/RowRange" "stopIncluded" "Z" (.int (0 : Int32)) := D_237 (Or.inr (hw _ (List.mem_of_getElem? (i := 55) rfl))) (ty := .boolean) (by decide)
            refine own_st (S' := T_237.setTop (mkF m 170 #[.val (.int p0), .val (.int p1), .val (.int p2), .val (.int p3), .val (.int (3 : Int32)), .val (.int v_1), .val (.int v_2), .val (.int zb), .val (.int zc), .val (.int zd), .val (.ref b_196), .val (.ref b_200), .val (.ref x_206_b), .val (.ref x_232_b), .unset, .unset, .unset] [(.ref b_237)])) st_237 ?_
            refine own_st (S' := T_237.setTop (mkF m 171 #[.val (.int p0), .val (.int p1), .val (.int p2), .val (.int p3), .val (.int (3 : Int32)), .val (.int v_1), .val (.int v_2), .val (.int zb), .val (.int zc), .val (.int zd), .val (.ref b_196), .val (.ref b_200), .val (.ref x_206_b), .val (.ref x_232_b), .unset, .unset, .unset] [(.ref b_237), (.ref b_237)])) (fun t_ k_ => XS.dup X_237.here hx rfl (hb hby at_170) rfl rfl k_) ?_
            refine own_st (S' := T_237.setTop (mkF m 173 #[.val (.int p0), .val (.int p1), .val (.int p2), .val (.int p3), .val (.int (3 : Int32)), .val (.int v_1), .val (.int v_2), .val (.int zb), .val (.int zc), .val (.int zd), .val (.ref b_196), .val (.ref b_200), .val (.ref x_206_b), .val (.ref x_232_b), .unset, .unset, .unset] [(.ref b_200), (.ref b_237), (.ref b_237)])) (fun t_ k_ => XS.aload X_237.here hx rfl (hb hby at_171) rfl rfl k_) ?_
            refine own_st (S' := T_237.setTop (mkF m 175 #[.val (.int p0), .val (.int p1), .val (.int p2), .val (.int p3), .val (.int (3 : Int32)), .val (.int v_1), .val (.int v_2), .val (.int zb), .val (.int zc), .val (.int zd), .val (.ref b_196), .val (.ref b_200), .val (.ref x_206_b), .val (.ref x_232_b), .unset, .unset, .unset] [(.ref x_206_b), (.ref b_200), (.ref b_237), (.ref b_237)])) (fun t_ k_ => XS.aload X_237.here hx rfl (hb hby at_173) rfl rfl k_) ?_
            refine own_st (S' := T_237.setTop (mkF m 177 #[.val (.int p0), .val (.int p1), .val (.int p2), .val (.int p3), .val (.int (3 : Int32)), .val (.int v_1), .val (.int v_2), .val (.int zb), .val (.int zc), .val (.int zd), .val (.ref b_196), .val (.ref b_200), .val (.ref x_206_b), .val (.ref x_232_b), .unset, .unset, .unset] [(.int zb), (.ref x_206_b), (.ref b_200), (.ref b_237), (.ref b_237)])) (fun t_ k_ => XS.iload X_237.here hx rfl (hb hby at_175) rfl k_) ?_
            refine own_st (S' := T_237.setTop (mkF m 179 #[.val (.int p0), .val (.int p1), .val (.int p2), .val (.int p3), .val (.int (3 : Int32)), .val (.int v_1), .val (.int v_2), .val (.int zb), .val (.int zc), .val (.int zd), .val (.ref b_196), .val (.ref b_200), .val (.ref x_206_b), .val (.ref x_232_b), .unset, .unset, .unset] [(.ref x_232_b), (.int zb), (.ref x_206_b), (.ref b_200), (.ref b_237), (.ref b_237)])) (fun t_ k_ => XS.aload X_237.here hx rfl (hb hby at_177) rfl rfl k_) ?_
            refine own_st (S' := T_237.setTop (mkF m 181 #[.val (.int p0), .val (.int p1), .val (.int p2), .val (.int p3), .val (.int (3 : Int32)), .val (.int v_1), .val (.int v_2), .val (.int zb), .val (.int zc), .val (.int zd), .val (.ref b_196), .val (.ref b_200), .val (.ref x_206_b), .val (.ref x_232_b), .unset, .unset, .unset] [(.int zc), (.ref x_232_b), (.int zb), (.ref x_206_b), (.ref b_200), (.ref b_237), (.ref b_237)])) (fun t_ k_ => XS.iload X_237.here hx rfl (hb hby at_179) rfl k_) ?_
            obtain ⟨_, _, ⟨T_238, L_238, k_238, n_238⟩, -, X_238, ⟨Lc_238, hQ_238, l_238, y_238, z_238⟩, st_238⟩ := X_237.specialBack hx (y := (⟨"com/example/westmount/westmount/RowRange", "<init>", "(Ljava/lang/String;[BZ[BZ)V"⟩ : MethodName)) rfl hown (mvT hZ (hw _ (List.mem_of_getElem? (i := 37) rfl))) (mvT hZ (hw _ (List.mem_of_getElem? (i := 38) rfl))) (mvT hZ (hw _ (List.mem_of_getElem? (i := 39) rfl))) (by decide) (backOf (W := 1) (rm6 l Z a0 hw [] b_237 b_200 x_206_b zb x_232_b zc h_237 n0 Z_237 A_237 F_237_table F_237_start F_237_startIncluded F_237_stop F_237_stopIncluded g_b_237) hZ (hw _ (List.mem_of_getElem? (i := 39) rfl)) (hw _ (List.mem_of_getElem? (i := 36) rfl)) (by decide) (by decide)) (g := (mkF m 181 #[.val (.int p0), .val (.int p1), .val (.int p2), .val (.int p3), .val (.int (3 : Int32)), .val (.int v_1), .val (.int v_2), .val (.int zb), .val (.int zc), .val (.int zd), .val (.ref b_196), .val (.ref b_200), .val (.ref x_206_b), .val (.ref x_232_b), .unset, .unset, .unset] [(.int zc), (.ref x_232_b), (.int zb), (.ref x_206_b), (.ref b_200), (.ref b_237), (.ref b_237)])) rfl (by rw [hml]; rfl) (Steps.refl _) (a := b_237) (argsL := [(.ref b_200), (.ref x_206_b), (.int zb), (.ref x_232_b), (.int zc)]) (rest := [(.ref b_237)]) (lenOf pd_8 rfl) rfl (by show 2 * 0 + _ ≤ _; exact Nat.le_of_eq rfl) (hb hby at_181) (fun _ _ => ⟨rfl, e_237, (by decide : 6 + 0 ≤ _), (by decide : 21 + 0 ≤ _)⟩)
            dsimp only [Pt.U, Pt.locs, Pt.cells, Pt.slots] at X_238 l_238 y_238 z_238 st_238 hQ_238
            subst l_238 y_238 z_238
            obtain ⟨rfl, M_238, K_238c, c_238_0, c_238_1, c_238_2, c_238_3⟩ := hQ_238
            have N_238 := Fr.app N_232 M_238
            have Z_238 : n0 ≤ T_238.heap.size := Nat.le_trans Z_237 K_238c.1
            refine own_st (S' := T_238.setTop (mkF m 184 #[.val (.int p0), .val (.int p1), .val (.int p2), .val (.int p3), .val (.int (3 : Int32)), .val (.int v_1), .val (.int v_2), .val (.int zb), .val (.int zc), .val (.int zd), .val (.ref b_196), .val (.ref b_200), .val (.ref x_206_b), .val (.ref x_232_b), .unset, .unset, .unset] [(.ref b_237)])) (fun t_ k_ => st_238.trans k_) ?_
            refine own_st (S' := T_238.setTop (mkF m 186 #[.val (.int p0), .val (.int p1), .val (.int p2), .val (.int p3), .val (.int (3 : Int32)), .val (.int v_1), .val (.int v_2), .val (.int zb), .val (.int zc), .val (.int zd), .val (.ref b_196), .val (.ref b_200), .val (.ref x_206_b), .val (.ref x_232_b), .val (.ref b_237), .unset, .unset] [])) (fun t_ k_ => XS.astore X_238.here hx rfl (hb hby at_184) rfl rfl (l' := #[.val (.int p0), .val (.int p1), .val (.int p2), .val (.int p3), .val (.int (3 : Int32)), .val (.int v_1), .val (.int v_2), .val (.int zb), .val (.int zc), .val (.int zd), .val (.ref b_196), .val (.ref b_200), .val (.ref x_206_b), .val (.ref x_232_b), .val (.ref b_237), .unset, .unset]) rfl k_) ?_
            refine own_st (S' := T_238.setTop (mkF m 188 #[.val (.int p0), .val (.int p1), .val (.int p2), .val (.int p3), .val (.int (3 : Int32)), .val (.int v_1), .val (.int v_2), .val (.int zb), .val (.int zc), .val (.int zd), .val (.ref b_196), .val (.ref b_200), .val (.ref x_206_b), .val (.ref x_232_b), .val (.ref b_237), .unset, .unset] [(.ref b_237)])) (fun t_ k_ => XS.aload X_238.here hx rfl (hb hby at_186) rfl rfl k_) ?_
            have f_239 : Arv Z T_238.heap b_196 k_196 .char (3 : Int32) [(.int (nar .char ((p0 &&& (255 : Int32)).toUInt32.toUInt16.toUInt32.toInt32))), (.int (nar .char ((((p0.toUInt32 >>> ((8 : Int32) &&& 31).toUInt32).toInt32) &&& (255 : Int32)).toUInt32.toUInt16.toUInt32.toInt32))), (.int (nar .char ((((p0.toUInt32 >>> ((16 : Int32) &&& 31).toUInt32).toInt32) &&& (255 : Int32)).toUInt32.toUInt16.toUInt32.toInt32)))] (.int (0 : Int32)) := ((f_233.ext E_237).keep K_238c (ninS ne_b_196_b_237 nin0))
            have f_240 : Exa Z T_238.heap b_200 "java/lang/String" := ((Exa.ext E_237 f_234).keep K_238c)
            have f_241 : Arv Z T_238.heap t_204 kb_204 .byte (3 : Int32) ((([(nar .char ((p0 &&& (255 : Int32)).toUInt32.toUInt16.toUInt32.toInt32)), (nar .char ((((p0.toUInt32 >>> ((8 : Int32) &&& 31).toUInt32).toInt32) &&& (255 : Int32)).toUInt32.toUInt16.toUInt32.toInt32)), (nar .char ((((p0.toUInt32 >>> ((16 : Int32) &&& 31).toUInt32).toInt32) &&& (255 : Int32)).toUInt32.toUInt16.toUInt32.toInt32))] : List Int32).map (fun c => c.toInt8.toInt32)).map Value.int) (.int 0) := ((f_235.ext E_237).keep K_238c (ninS ne_t_204_b_237 nin0))
            have f_242 : Arv Z T_238.heap x_206_b x_206_k .byte v_1 (own_bs v_1 p1) (.int (0 : Int32)) := ((f_236.ext E_237).keep K_238c (ninS ne_x_206_b_b_237 nin0))
            have f_243 : Arv Z T_238.heap x_232_b x_232_k .byte v_1 (own_bs v_1 p1) (.int (0 : Int32)) := ((c_232_0.ext E_237).keep K_238c (ninS ne_x_232_b_b_237 nin0))
            obtain ⟨cq_244, kq_244, q_244a, q_244b, q_244c⟩ := isOf hZ rfl c_238_0
            obtain ⟨_, _, ⟨T_244, L_244, k_244, n_244⟩, -, X_244, ⟨Lc_244, hQ_244, l_244, y_244, z_244⟩, st_244⟩ := X_238.virtualBack hx (y := (⟨"com/example/westmount/westmount/RowRange", "first", "()Lcom/example/westmount/westmount/RowKey;"⟩ : MethodName)) (z := (⟨"com/example/westmount/westmount/RowRange", "first", "()Lcom/example/westmount/westmount/RowKey;"⟩ : MethodName)) hown (mvT hZ (hw _ (List.mem_of_getElem? (i := 56) rfl))) (mvT hZ (hw _ (List.mem_of_getElem? (i := 57) rfl))) (notFace_of_selects (args := #[]) (mvT hZ (hw _ (List.mem_of_getElem? (i := 59) rfl)))) (mvT hZ (hw _ (List.mem_of_getElem? (i := 59) rfl))) (mvT hZ (hw _ (List.mem_of_getElem? (i := 58) rfl))) (by decide) (backOf (W := 0) (rm8 l Z a0 hw [] b_237 b_200 x_206_b T_238.heap n0 Z_238 c_238_1 c_238_2) hZ (hw _ (List.mem_of_getElem? (i := 60) rfl)) (hw _ (List.mem_of_getElem? (i := 36) rfl)) (by decide) (by decide)) q_244a q_244c (g := (mkF m 188 #[.val (.int p0), .val (.int p1), .val (.int p2), .val (.int p3), .val (.int (3 : Int32)), .val (.int v_1), .val (.int v_2), .val (.int zb), .val (.int zc), .val (.int zd), .val (.ref b_196), .val (.ref b_200), .val (.ref x_206_b), .val (.ref x_232_b), .val (.ref b_237), .unset, .unset] [(.ref b_237)])) rfl (by rw [hml]; rfl) (Steps.refl _) (argsL := []) (rest := []) (lenOf pd_9 rfl) rfl (by show 2 * 0 + _ ≤ _; exact Nat.le_of_eq rfl) (hb hby at_188) (fun _ _ => ⟨rfl, rfl, (by decide : 6 + 1 ≤ _), (by decide : 21 + 2 ≤ _)⟩)
            dsimp only [Pt.U, Pt.locs, Pt.cells, Pt.slots] at X_244 l_244 y_244 z_244 st_244 hQ_244
            subst l_244 y_244 z_244
            obtain ⟨x_244_q, rfl, M_244, K_244c, z_244_0, c_244_0, c_244_1, c_244_2⟩ := hQ_244
            have N_244 := Fr.app N_238 M_244
            have ne_b_196_x_244_q : b_196 ≠ x_244_q := Nat.ne_of_lt (Nat.lt_of_lt_of_le f_239.lt z_244_0)
            have ne_b_200_x_244_q : b_200 ≠ x_244_q := Nat.ne_of_lt (Nat.lt_of_lt_of_le f_240.lt z_244_0)
            have ne_b_237_x_244_q : b_237 ≠ x_244_q := Nat.ne_of_lt (Nat.lt_of_lt_of_le c_238_0.lt z_244_0)
            have ne_t_204_x_244_q : t_204 ≠ x_244_q := Nat.ne_of_lt (Nat.lt_of_lt_of_le f_241.lt z_244_0)
            have ne_x_206_b_x_244_q : x_206_b ≠ x_244_q := Nat.ne_of_lt (Nat.lt_of_lt_of_le f_242.lt z_244_0)
            have ne_x_232_b_x_244_q : x_232_b ≠ x_244_q := Nat.ne_of_lt (Nat.lt_of_lt_of_le f_243.lt z_244_0)
            have g_x_244_q : n0 ≤ x_244_q := Nat.le_trans Z_238 z_244_0
            have Z_244 : n0 ≤ T_244.heap.size := Nat.le_trans Z_238 K_244c.1
            refine own_st (S' := T_244.setTop (mkF m 191 #[.val (.int p0), .val (.int p1), .val (.int p2), .val (.int p3), .val (.int (3 : Int32)), .val (.int v_1), .val (.int v_2), .val (.int zb), .val (.int zc), .val (.int zd), .val (.ref b_196), .val (.ref b_200), .val (.ref x_206_b), .val (.ref x_232_b), .val (.ref b_237), .unset, .unset] [(.ref x_244_q)])) (fun t_ k_ => st_244.trans k_) ?_
            refine own_st (S' := T_244.setTop (mkF m 193 #[.val (.int p0), .val (.int p1), .val (.int p2), .val (.int p3), .val (.int (3 : Int32)), .val (.int v_1), .val (.int v_2), .val (.int zb), .val (.int zc), .val (.int zd), .val (.ref b_196), .val (.ref b_200), .val (.ref x_206_b), .val (.ref x_232_b), .val (.ref b_237), .val (.ref x_244_q), .unset] [])) (fun t_ k_ => XS.astore X_244.here hx rfl (hb hby at_191) rfl rfl (l' := #[.val (.int p0), .val (.int p1), .val (.int p2), .val (.int p3), .val (.int (3 : Int32)), .val (.int v_1), .val (.int v_2), .val (.int zb), .val (.int zc), .val (.int zd), .val (.ref b_196), .val (.ref b_200), .val (.ref x_206_b), .val (.ref x_232_b), .val (.ref b_237), .val (.ref x_244_q), .unset]) rfl k_) ?_
            refine own_st (S' := T_244.setTop (mkF m 195 #[.val (.int p0), .val (.int p1), .val (.int p2), .val (.int p3), .val (.int (3 : Int32)), .val (.int v_1), .val (.int v_2), .val (.int zb), .val (.int zc), .val (.int zd), .val (.ref b_196), .val (.ref b_200), .val (.ref x_206_b), .val (.ref x_232_b), .val (.ref b_237), .val (.ref x_244_q), .unset] [(.ref x_244_q)])) (fun t_ k_ => XS.aload X_244.here hx rfl (hb hby at_193) rfl rfl k_) ?_
            obtain ⟨cq_245, kq_245, q_245a, q_245b, q_245c⟩ := isOf hZ rfl c_244_0
            obtain ⟨_, _, ⟨T_245, L_245, k_245, n_245⟩, -, X_245, ⟨Lc_245, hQ_245, l_245, y_245, z_245⟩, st_245⟩ := X_244.virtualBack hx (y := (⟨"com/example/westmount/westmount/RowKey", "table", "()Ljava/lang/String;"⟩ : MethodName)) (z := (⟨"com/example/westmount/westmount/RowKey", "table", "()Ljava/lang/String;"⟩ : MethodName)) hown (mvT hZ (hw _ (List.mem_of_getElem? (i := 72) rfl))) (mvT hZ (hw _ (List.mem_of_getElem? (i := 73) rfl))) (notFace_of_selects (args := #[]) (mvT hZ (hw _ (List.mem_of_getElem? (i := 75) rfl)))) (mvT hZ (hw _ (List.mem_of_getElem? (i := 75) rfl))) (mvT hZ (hw _ (List.mem_of_getElem? (i := 74) rfl))) (by decide) (backOf (W := 0) (rm10 l Z a0 hw [] x_244_q b_200 T_244.heap n0 Z_244 c_244_1) hZ (hw _ (List.mem_of_getElem? (i := 76) rfl)) (hw _ (List.mem_of_getElem? (i := 63) rfl)) (by decide) (by decide)) q_245a q_245c (g := (mkF m 195 #[.val (.int p0), .val (.int p1), .val (.int p2), .val (.int p3), .val (.int (3 : Int32)), .val (.int v_1), .val (.int v_2), .val (.int zb), .val (.int zc), .val (.int zd), .val (.ref b_196), .val (.ref b_200), .val (.ref x_206_b), .val (.ref x_232_b), .val (.ref b_237), .val (.ref x_244_q), .unset] [(.ref x_244_q)])) rfl (by rw [hml]; rfl) (Steps.refl _) (argsL := []) (rest := []) (lenOf pd_10 rfl) rfl (by show 2 * 0 + _ ≤ _; exact Nat.le_of_eq rfl) (hb hby at_195) (fun _ _ => ⟨rfl, rfl, (by decide : 7 + 0 ≤ _), (by decide : 23 + 0 ≤ _)⟩)
            dsimp only [Pt.U, Pt.locs, Pt.cells, Pt.slots] at X_245 l_245 y_245 z_245 st_245 hQ_245
            subst l_245 y_245 z_245
            obtain ⟨rfl, M_245, q_245⟩ := hQ_245
            have N_245 := Fr.app N_244 M_245
            refine own_st (S' := T_245.setTop (mkF m 198 #[.val (.int p0), .val (.int p1), .val (.int p2), .val (.int p3), .val (.int (3 : Int32)), .val (.int v_1), .val (.int v_2), .val (.int zb), .val (.int zc), .val (.int zd), .val (.ref b_196), .val (.ref b_200), .val (.ref x_206_b), .val (.ref x_232_b), .val (.ref b_237), .val (.ref x_244_q), .unset] [(.ref b_200)])) (fun t_ k_ => st_245.trans k_) ?_
            refine own_st (S' := T_245.setTop (mkF m 200 #[.val (.int p0), .val (.int p1), .val (.int p2), .val (.int p3), .val (.int (3 : Int32)), .val (.int v_1), .val (.int v_2), .val (.int zb), .val (.int zc), .val (.int zd), .val (.ref b_196), .val (.ref b_200), .val (.ref x_206_b), .val (.ref x_232_b), .val (.ref b_237), .val (.ref x_244_q), .unset] [(.ref b_200), (.ref b_200)])) (fun t_ k_ => XS.aload X_245.here hx rfl (hb hby at_198) rfl rfl k_) ?_
            have f_247 : Exa Z T_244.heap b_200 "java/lang/String" := (f_240.keep K_244c)
            obtain ⟨cq_246, kq_246, q_246a, q_246b, q_246c⟩ := isOf hZ q_245 f_247
            obtain ⟨_, _, ⟨T_246, L_246, k_246, n_246⟩, -, X_246, ⟨Lc_246, hQ_246, l_246, y_246, z_246⟩, st_246⟩ := X_245.virtualBack hx (y := (⟨"java/lang/String", "equals", "(Ljava/lang/Object;)Z"⟩ : MethodName)) (z := (⟨"java/lang/String", "equals", "(Ljava/lang/Object;)Z"⟩ : MethodName)) hown (mvT hZ (hw _ (List.mem_of_getElem? (i := 77) rfl))) (mvT hZ (hw _ (List.mem_of_getElem? (i := 78) rfl))) (notFace_of_selects (args := #[]) (mvT hZ (hw _ (List.mem_of_getElem? (i := 80) rfl)))) (mvT hZ (hw _ (List.mem_of_getElem? (i := 80) rfl))) (mvT hZ (hw _ (List.mem_of_getElem? (i := 79) rfl))) (by decide) (backOf (W := 0) (rm12 l Z a0 hw [] b_200 b_200 T_244.heap n0 Z_244 rfl) hZ (hw _ (List.mem_of_getElem? (i := 81) rfl)) (hw _ (List.mem_of_getElem? (i := 3) rfl)) (by decide) (by decide)) q_246a q_246c (g := (mkF m 200 #[.val (.int p0), .val (.int p1), .val (.int p2), .val (.int p3), .val (.int (3 : Int32)), .val (.int v_1), .val (.int v_2), .val (.int zb), .val (.int zc), .val (.int zd), .val (.ref b_196), .val (.ref b_200), .val (.ref x_206_b), .val (.ref x_232_b), .val (.ref b_237), .val (.ref x_244_q), .unset] [(.ref b_200), (.ref b_200)])) rfl (by rw [hml]; rfl) (Steps.refl _) (argsL := [(.ref b_200)]) (rest := []) (lenOf pd_4 rfl) rfl (by show 2 * 0 + _ ≤ _; exact Nat.le_of_eq rfl) (hb hby at_200) (fun _ _ => ⟨rfl, q_245, (by decide : 7 + 0 ≤ _), (by decide : 23 + 0 ≤ _)⟩)
            dsimp only [Pt.U, Pt.locs, Pt.cells, Pt.slots] at X_246 l_246 y_246 z_246 st_246 hQ_246
            subst l_246 y_246 z_246
            obtain ⟨rfl, M_246, q_246⟩ := hQ_246
            have N_246 := Fr.app N_245 M_246
            refine own_st (S' := T_246.setTop (mkF m 203 #[.val (.int p0), .val (.int p1), .val (.int p2), .val (.int p3), .val (.int (3 : Int32)), .val (.int v_1), .val (.int v_2), .val (.int zb), .val (.int zc), .val (.int zd), .val (.ref b_196), .val (.ref b_200), .val (.ref x_206_b), .val (.ref x_232_b), .val (.ref b_237), .val (.ref x_244_q), .unset] [(.int (1 : Int32))])) (fun t_ k_ => st_246.trans k_) ?_
            refine own_st (S' := T_246.setTop (mkF m 206 #[.val (.int p0), .val (.int p1), .val (.int p2), .val (.int p3), .val (.int (3 : Int32)), .val (.int v_1), .val (.int v_2), .val (.int zb), .val (.int zc), .val (.int zd), .val (.ref b_196), .val (.ref b_200), .val (.ref x_206_b), .val (.ref x_232_b), .val (.ref b_237), .val (.ref x_244_q), .unset] [])) (fun t_ k_ => XS.ifNo X_246.here hx rfl (hb hby at_203) rfl ((if0 _ _).trans (feq (by decide : ¬ ((1 : Int32) = (0 : Int32)))).1) k_) ?_
            refine own_st (S' := T_246.setTop (mkF m 208 #[.val (.int p0), .val (.int p1), .val (.int p2), .val (.int p3), .val (.int (3 : Int32)), .val (.int v_1), .val (.int v_2), .val (.int zb), .val (.int zc), .val (.int zd), .val (.ref b_196), .val (.ref b_200), .val (.ref x_206_b), .val (.ref x_232_b), .val (.ref b_237), .val (.ref x_244_q), .unset] [(.ref x_244_q)])) (fun t_ k_ => XS.aload X_246.here hx rfl (hb hby at_206) rfl rfl k_) ?_
            obtain ⟨cq_248, kq_248, q_248a, q_248b, q_248c⟩ := isOf hZ q_246 c_244_0
            obtain ⟨_, _, ⟨T_248, L_248, k_248, n_248⟩, -, X_248, ⟨Lc_248, hQ_248, l_248, y_248, z_248⟩, st_248⟩ := X_246.virtualBack hx (y := (⟨"com/example/westmount/westmount/RowKey", "row", "()[B"⟩ : MethodName)) (z := (⟨"com/example/westmount/westmount/RowKey", "row", "()[B"⟩ : MethodName)) hown (mvT hZ (hw _ (List.mem_of_getElem? (i := 82) rfl))) (mvT hZ (hw _ (List.mem_of_getElem? (i := 83) rfl))) (notFace_of_selects (args := #[]) (mvT hZ (hw _ (List.mem_of_getElem? (i := 85) rfl)))) (mvT hZ (hw _ (List.mem_of_getElem? (i := 85) rfl))) (mvT hZ (hw _ (List.mem_of_getElem? (i := 84) rfl))) (by decide) (backOf (W := 0) (rm11 l Z a0 hw [] x_244_q x_206_b T_244.heap n0 Z_244 c_244_2) hZ (hw _ (List.mem_of_getElem? (i := 86) rfl)) (hw _ (List.mem_of_getElem? (i := 63) rfl)) (by decide) (by decide)) q_248a q_248c (g := (mkF m 208 #[.val (.int p0), .val (.int p1), .val (.int p2), .val (.int p3), .val (.int (3 : Int32)), .val (.int v_1), .val (.int v_2), .val (.int zb), .val (.int zc), .val (.int zd), .val (.ref b_196), .val (.ref b_200), .val (.ref x_206_b), .val (.ref x_232_b), .val (.ref b_237), .val (.ref x_244_q), .unset] [(.ref x_244_q)])) rfl (by rw [hml]; rfl) (Steps.refl _) (argsL := []) (rest := []) (lenOf pd_11 rfl) rfl (by show 2 * 0 + _ ≤ _; exact Nat.le_of_eq rfl) (hb hby at_208) (fun _ _ => ⟨rfl, q_246, (by decide : 7 + 0 ≤ _), (by decide : 23 + 0 ≤ _)⟩)
            dsimp only [Pt.U, Pt.locs, Pt.cells, Pt.slots] at X_248 l_248 y_248 z_248 st_248 hQ_248
            subst l_248 y_248 z_248
            obtain ⟨rfl, M_248, q_248⟩ := hQ_248
            have N_248 := Fr.app N_246 M_248
            refine own_st (S' := T_248.setTop (mkF m 211 #[.val (.int p0), .val (.int p1), .val (.int p2), .val (.int p3), .val (.int (3 : Int32)), .val (.int v_1), .val (.int v_2), .val (.int zb), .val (.int zc), .val (.int zd), .val (.ref b_196), .val (.ref b_200), .val (.ref x_206_b), .val (.ref x_232_b), .val (.ref b_237), .val (.ref x_244_q), .unset] [(.ref x_206_b)])) (fun t_ k_ => st_248.trans k_) ?_
            refine own_st (S' := T_248.setTop (mkF m 213 #[.val (.int p0), .val (.int p1), .val (.int p2), .val (.int p3), .val (.int (3 : Int32)), .val (.int v_1), .val (.int v_2), .val (.int zb), .val (.int zc), .val (.int zd), .val (.ref b_196), .val (.ref b_200), .val (.ref x_206_b), .val (.ref x_232_b), .val (.ref b_237), .val (.ref x_244_q), .unset] [(.int v_1), (.ref x_206_b)])) (fun t_ k_ => XS.iload X_248.here hx rfl (hb hby at_211) rfl k_) ?_
            refine own_st (S' := T_248.setTop (mkF m 214 #[.val (.int p0), .val (.int p1), .val (.int p2), .val (.int p3), .val (.int (3 : Int32)), .val (.int v_1), .val (.int v_2), .val (.int zb), .val (.int zc), .val (.int zd), .val (.ref b_196), .val (.ref b_200), .val (.ref x_206_b), .val (.ref x_232_b), .val (.ref b_237), .val (.ref x_244_q), .unset] [(.int p1), (.int v_1), (.ref x_206_b)])) (fun t_ k_ => XS.iloadN X_248.here hx rfl (hb hby at_213) rfl k_) ?_
            have f_249 : Arv Z T_244.heap x_206_b x_206_k .byte v_1 (own_bs v_1 p1) (.int (0 : Int32)) := (f_242.keep K_244c nin0)
            obtain ⟨_, _, ⟨T_250, L_250, k_250, n_250⟩, -, X_250, ⟨Lc_250, hQ_250, l_250, y_250, z_250⟩, st_250⟩ := Jvm.LawKit.callS X_248 hx (y := (⟨"com/example/westmount/westmount/RowRangeFirstPinLaw", "sameBytes", "([BII)Z"⟩ : MethodName)) hown (mvT hZ (hw _ (List.mem_of_getElem? (i := 87) rfl))) (mvT hZ (hw _ (List.mem_of_getElem? (i := 88) rfl))) (mvT hZ (hw _ (List.mem_of_getElem? (i := 32) rfl))) (mvT hZ (hw _ (List.mem_of_getElem? (i := 89) rfl))) (by decide) (backOf (W := 0) (rm4 l Z a0 hw [] x_206_b v_1 p1 x_206_k T_244.heap n0 Z_244 f_249 (hv_1 ▸ own_four _)) hZ (hw _ (List.mem_of_getElem? (i := 89) rfl)) (hw _ (List.mem_of_getElem? (i := 32) rfl)) (by decide) (by decide)) (g := (mkF m 214 #[.val (.int p0), .val (.int p1), .val (.int p2), .val (.int p3), .val (.int (3 : Int32)), .val (.int v_1), .val (.int v_2), .val (.int zb), .val (.int zc), .val (.int zd), .val (.ref b_196), .val (.ref b_200), .val (.ref x_206_b), .val (.ref x_232_b), .val (.ref b_237), .val (.ref x_244_q), .unset] [(.int p1), (.int v_1), (.ref x_206_b)])) rfl (by rw [hml]; rfl) (argsL := [(.ref x_206_b), (.int v_1), (.int p1)]) (rest := []) (lenOf pd_12 rfl) rfl (by show 2 * 0 + _ ≤ _; exact Nat.le_of_eq rfl) (hb hby at_214) (fun _ _ => ⟨rfl, q_248, (by decide : 7 + 0 ≤ _), (by decide : 23 + 0 ≤ _)⟩)
            dsimp only [Pt.U, Pt.locs, Pt.cells, Pt.slots] at X_250 l_250 y_250 z_250 st_250 hQ_250
            subst l_250 y_250 z_250
            obtain ⟨rfl, M_250, q_250⟩ := hQ_250
            have N_250 := Fr.app N_248 M_250
            refine own_st (S' := T_250.setTop (mkF m 217 #[.val (.int p0), .val (.int p1), .val (.int p2), .val (.int p3), .val (.int (3 : Int32)), .val (.int v_1), .val (.int v_2), .val (.int zb), .val (.int zc), .val (.int zd), .val (.ref b_196), .val (.ref b_200), .val (.ref x_206_b), .val (.ref x_232_b), .val (.ref b_237), .val (.ref x_244_q), .unset] [(.int (1 : Int32))])) st_250 ?_
            refine own_st (S' := T_250.setTop (mkF m 220 #[.val (.int p0), .val (.int p1), .val (.int p2), .val (.int p3), .val (.int (3 : Int32)), .val (.int v_1), .val (.int v_2), .val (.int zb), .val (.int zc), .val (.int zd), .val (.ref b_196), .val (.ref b_200), .val (.ref x_206_b), .val (.ref x_232_b), .val (.ref b_237), .val (.ref x_244_q), .unset] [])) (fun t_ k_ => XS.ifNo X_250.here hx rfl (hb hby at_217) rfl ((if0 _ _).trans (feq (by decide : ¬ ((1 : Int32) = (0 : Int32)))).1) k_) ?_
            refine own_st (S' := T_250.setTop (mkF m 221 #[.val (.int p0), .val (.int p1), .val (.int p2), .val (.int p3), .val (.int (3 : Int32)), .val (.int v_1), .val (.int v_2), .val (.int zb), .val (.int zc), .val (.int zd), .val (.ref b_196), .val (.ref b_200), .val (.ref x_206_b), .val (.ref x_232_b), .val (.ref b_237), .val (.ref x_244_q), .unset] [(.int (1 : Int32))])) (fun t_ k_ => XS.iconst X_250.here hx rfl (hb hby at_220) k_) ?_
            refine own_st (S' := T_250.setTop (mkF m 225 #[.val (.int p0), .val (.int p1), .val (.int p2), .val (.int p3), .val (.int (3 : Int32)), .val (.int v_1), .val (.int v_2), .val (.int zb), .val (.int zc), .val (.int zd), .val (.ref b_196), .val (.ref b_200), .val (.ref x_206_b), .val (.ref x_232_b), .val (.ref b_237), .val (.ref x_244_q), .unset] [(.int (1 : Int32))])) (fun t_ k_ => XS.goto X_250.here hx rfl (pc0 := 221) (pc' := 225) rfl (hb hby at_221) (by decide) (by decide) k_) ?_
            refine own_st (S' := T_250.setTop (mkF m 227 #[.val (.int p0), .val (.int p1), .val (.int p2), .val (.int p3), .val (.int (3 : Int32)), .val (.int v_1), .val (.int v_2), .val (.int zb), .val (.int zc), .val (.int zd), .val (.ref b_196), .val (.ref b_200), .val (.ref x_206_b), .val (.ref x_232_b), .val (.ref b_237), .val (.ref x_244_q), .val (.int (1 : Int32))] [])) (fun t_ k_ => XS.istore X_250.here hx rfl (hb hby at_225) rfl (l' := #[.val (.int p0), .val (.int p1), .val (.int p2), .val (.int p3), .val (.int (3 : Int32)), .val (.int v_1), .val (.int v_2), .val (.int zb), .val (.int zc), .val (.int zd), .val (.ref b_196), .val (.ref b_200), .val (.ref x_206_b), .val (.ref x_232_b), .val (.ref b_237), .val (.ref x_244_q), .val (.int (1 : Int32))]) rfl k_) ?_
            refine own_st (S' := T_250.setTop (mkF m 229 #[.val (.int p0), .val (.int p1), .val (.int p2), .val (.int p3), .val (.int (3 : Int32)), .val (.int v_1), .val (.int v_2), .val (.int zb), .val (.int zc), .val (.int zd), .val (.ref b_196), .val (.ref b_200), .val (.ref x_206_b), .val (.ref x_232_b), .val (.ref b_237), .val (.ref x_244_q), .val (.int (1 : Int32))] [(.int (1 : Int32))])) (fun t_ k_ => XS.iload X_250.here hx rfl (hb hby at_227) rfl k_) ?_
            refine own_st (S' := T_250.setTop (mkF m 232 #[.val (.int p0), .val (.int p1), .val (.int p2), .val (.int p3), .val (.int (3 : Int32)), .val (.int v_1), .val (.int v_2), .val (.int zb), .val (.int zc), .val (.int zd), .val (.ref b_196), .val (.ref b_200), .val (.ref x_206_b), .val (.ref x_232_b), .val (.ref b_237), .val (.ref x_244_q), .val (.int (1 : Int32))] [])) (fun t_ k_ => XS.ifNo X_250.here hx rfl (hb hby at_229) rfl ((if0 _ _).trans (feq (by decide : ¬ ((1 : Int32) = (0 : Int32)))).1) k_) ?_
            refine own_st (S' := T_250.setTop (mkF m 234 #[.val (.int p0), .val (.int p1), .val (.int p2), .val (.int p3), .val (.int (3 : Int32)), .val (.int v_1), .val (.int v_2), .val (.int zb), .val (.int zc), .val (.int zd), .val (.ref b_196), .val (.ref b_200), .val (.ref x_206_b), .val (.ref x_232_b), .val (.ref b_237), .val (.ref x_244_q), .val (.int (1 : Int32))] [(.int zd)])) (fun t_ k_ => XS.iload X_250.here hx rfl (hb hby at_232) rfl k_) ?_
            refine own_st (S' := T_250.setTop (mkF m 237 #[.val (.int p0), .val (.int p1), .val (.int p2), .val (.int p3), .val (.int (3 : Int32)), .val (.int v_1), .val (.int v_2), .val (.int zb), .val (.int zc), .val (.int zd), .val (.ref b_196), .val (.ref b_200), .val (.ref x_206_b), .val (.ref x_232_b), .val (.ref b_237), .val (.ref x_244_q), .val (.int (1 : Int32))] [])) (fun t_ k_ => XS.ifNo X_250.here hx rfl (hb hby at_234) rfl ((if0 _ _).trans (feq hc147).1) k_) ?_
            refine own_st (S' := T_250.setTop (mkF m 239 #[.val (.int p0), .val (.int p1), .val (.int p2), .val (.int p3), .val (.int (3 : Int32)), .val (.int v_1), .val (.int v_2), .val (.int zb), .val (.int zc), .val (.int zd), .val (.ref b_196), .val (.ref b_200), .val (.ref x_206_b), .val (.ref x_232_b), .val (.ref b_237), .val (.ref x_244_q), .val (.int (1 : Int32))] [(.int v_1)])) (fun t_ k_ => XS.iload X_250.here hx rfl (hb hby at_237) rfl k_) ?_
            by_cases hc239 : (0 : Int32) < v_1
            · refine own_st (S' := T_250.setTop (mkF m 242 #[.val (.int p0), .val (.int p1), .val (.int p2), .val (.int p3), .val (.int (3 : Int32)), .val (.int v_1), .val (.int v_2), .val (.int zb), .val (.int zc), .val (.int zd), .val (.ref b_196), .val (.ref b_200), .val (.ref x_206_b), .val (.ref x_232_b), .val (.ref b_237), .val (.ref x_244_q), .val (.int (1 : Int32))] [])) (fun t_ k_ => XS.ifNo X_250.here hx rfl (hb hby at_239) rfl ((if0 _ _).trans (tlt hc239).2.2.2) k_) ?_
              refine own_st (S' := T_250.setTop (mkF m 244 #[.val (.int p0), .val (.int p1), .val (.int p2), .val (.int p3), .val (.int (3 : Int32)), .val (.int v_1), .val (.int v_2), .val (.int zb), .val (.int zc), .val (.int zd), .val (.ref b_196), .val (.ref b_200), .val (.ref x_206_b), .val (.ref x_232_b), .val (.ref b_237), .val (.ref x_244_q), .val (.int (1 : Int32))] [(.ref x_244_q)])) (fun t_ k_ => XS.aload X_250.here hx rfl (hb hby at_242) rfl rfl k_) ?_
              refine own_st (S' := T_250.setTop (mkF m 246 #[.val (.int p0), .val (.int p1), .val (.int p2), .val (.int p3), .val (.int (3 : Int32)), .val (.int v_1), .val (.int v_2), .val (.int zb), .val (.int zc), .val (.int zd), .val (.ref b_196), .val (.ref b_200), .val (.ref x_206_b), .val (.ref x_232_b), .val (.ref b_237), .val (.ref x_244_q), .val (.int (1 : Int32))] [(.ref b_237), (.ref x_244_q)])) (fun t_ k_ => XS.aload X_250.here hx rfl (hb hby at_244) rfl rfl k_) ?_
              have f_251 : Fld Z T_244.heap b_237 "com/example/westmount/westmount/RowRange" "table" "Ljava/lang/String;" (.ref b_200) := (c_238_1.keep K_244c nin0)
              have f_252 : Fld Z T_244.heap b_237 "com/example/westmount/westmount/RowRange" "stop" "[B" (.ref x_232_b) := (c_238_3.keep K_244c nin0)
              have f_253 : Arv Z T_244.heap x_232_b x_232_k .byte v_1 (own_bs v_1 p1) (.int (0 : Int32)) := (f_243.keep K_244c nin0)
              have f_254 : Arv Z T_244.heap b_196 k_196 .char (3 : Int32) [(.int (nar .char ((p0 &&& (255 : Int32)).toUInt32.toUInt16.toUInt32.toInt32))), (.int (nar .char ((((p0.toUInt32 >>> ((8 : Int32) &&& 31).toUInt32).toInt32) &&& (255 : Int32)).toUInt32.toUInt16.toUInt32.toInt32))), (.int (nar .char ((((p0.toUInt32 >>> ((16 : Int32) &&& 31).toUInt32).toInt32) &&& (255 : Int32)).toUInt32.toUInt16.toUInt32.toInt32)))] (.int (0 : Int32)) := (f_239.keep K_244c nin0)
              have f_255 : Arv Z T_244.heap t_204 kb_204 .byte (3 : Int32) ((([(nar .char ((p0 &&& (255 : Int32)).toUInt32.toUInt16.toUInt32.toInt32)), (nar .char ((((p0.toUInt32 >>> ((8 : Int32) &&& 31).toUInt32).toInt32) &&& (255 : Int32)).toUInt32.toUInt16.toUInt32.toInt32)), (nar .char ((((p0.toUInt32 >>> ((16 : Int32) &&& 31).toUInt32).toInt32) &&& (255 : Int32)).toUInt32.toUInt16.toUInt32.toInt32))] : List Int32).map (fun c => c.toInt8.toInt32)).map Value.int) (.int 0) := (f_241.keep K_244c nin0)
              have f_257 : Exa Z T_244.heap b_237 "com/example/westmount/westmount/RowRange" := (c_238_0.keep K_244c)
              obtain ⟨cq_256, kq_256, q_256a, q_256b, q_256c⟩ := isOf hZ q_250 f_257
              obtain ⟨_, _, ⟨T_256, L_256, k_256, n_256⟩, -, X_256, ⟨Lc_256, hQ_256, l_256, y_256, z_256⟩, st_256⟩ := X_250.virtualBack hx (y := (⟨"com/example/westmount/westmount/RowRange", "last", "()Lcom/example/westmount/westmount/RowKey;"⟩ : MethodName)) (z := (⟨"com/example/westmount/westmount/RowRange", "last", "()Lcom/example/westmount/westmount/RowKey;"⟩ : MethodName)) hown (mvT hZ (hw _ (List.mem_of_getElem? (i := 93) rfl))) (mvT hZ (hw _ (List.mem_of_getElem? (i := 94) rfl))) (notFace_of_selects (args := #[]) (mvT hZ (hw _ (List.mem_of_getElem? (i := 96) rfl)))) (mvT hZ (hw _ (List.mem_of_getElem? (i := 96) rfl))) (mvT hZ (hw _ (List.mem_of_getElem? (i := 95) rfl))) (by decide) (backOf (W := 1) (rm9 l Z a0 hw [] b_237 b_200 x_232_b x_232_k v_1 (own_bs v_1 p1) T_244.heap n0 Z_244 f_251 f_252 f_253 hc239) hZ (hw _ (List.mem_of_getElem? (i := 97) rfl)) (hw _ (List.mem_of_getElem? (i := 36) rfl)) (by decide) (by decide)) q_256a q_256c (g := (mkF m 246 #[.val (.int p0), .val (.int p1), .val (.int p2), .val (.int p3), .val (.int (3 : Int32)), .val (.int v_1), .val (.int v_2), .val (.int zb), .val (.int zc), .val (.int zd), .val (.ref b_196), .val (.ref b_200), .val (.ref x_206_b), .val (.ref x_232_b), .val (.ref b_237), .val (.ref x_244_q), .val (.int (1 : Int32))] [(.ref b_237), (.ref x_244_q)])) rfl (by rw [hml]; rfl) (Steps.refl _) (argsL := []) (rest := [(.ref x_244_q)]) (lenOf pd_9 rfl) rfl (by show 2 * 0 + _ ≤ _; exact Nat.le_of_eq rfl) (hb hby at_246) (fun _ _ => ⟨rfl, q_250, (by decide : 7 + 1 ≤ _), (by decide : 23 + 2 ≤ _)⟩)
              dsimp only [Pt.U, Pt.locs, Pt.cells, Pt.slots] at X_256 l_256 y_256 z_256 st_256 hQ_256
              subst l_256 y_256 z_256
              obtain ⟨x_256_q, rfl, M_256, K_256c, z_256_0, c_256_0, c_256_1, c_256_2⟩ := hQ_256
              have N_256 := Fr.app N_250 M_256
              have ne_b_196_x_256_q : b_196 ≠ x_256_q := Nat.ne_of_lt (Nat.lt_of_lt_of_le f_254.lt z_256_0)
              have ne_b_200_x_256_q : b_200 ≠ x_256_q := Nat.ne_of_lt (Nat.lt_of_lt_of_le f_247.lt z_256_0)
              have ne_b_237_x_256_q : b_237 ≠ x_256_q := Nat.ne_of_lt (Nat.lt_of_lt_of_le f_251.lt z_256_0)
              have ne_t_204_x_256_q : t_204 ≠ x_256_q := Nat.ne_of_lt (Nat.lt_of_lt_of_le f_255.lt z_256_0)
              have ne_x_206_b_x_256_q : x_206_b ≠ x_256_q := Nat.ne_of_lt (Nat.lt_of_lt_of_le f_249.lt z_256_0)
              have ne_x_232_b_x_256_q : x_232_b ≠ x_256_q := Nat.ne_of_lt (Nat.lt_of_lt_of_le f_253.lt z_256_0)
              have ne_x_244_q_x_256_q : x_244_q ≠ x_256_q := Nat.ne_of_lt (Nat.lt_of_lt_of_le c_244_0.lt z_256_0)
              have g_x_256_q : n0 ≤ x_256_q := Nat.le_trans Z_244 z_256_0
              have Z_256 : n0 ≤ T_256.heap.size := Nat.le_trans Z_244 K_256c.1
              refine own_st (S' := T_256.setTop (mkF m 249 #[.val (.int p0), .val (.int p1), .val (.int p2), .val (.int p3), .val (.int (3 : Int32)), .val (.int v_1), .val (.int v_2), .val (.int zb), .val (.int zc), .val (.int zd), .val (.ref b_196), .val (.ref b_200), .val (.ref x_206_b), .val (.ref x_232_b), .val (.ref b_237), .val (.ref x_244_q), .val (.int (1 : Int32))] [(.ref x_256_q), (.ref x_244_q)])) (fun t_ k_ => st_256.trans k_) ?_
              have f_258 : Fld Z T_256.heap x_244_q "com/example/westmount/westmount/RowKey" "table" "Ljava/lang/String;" (.ref b_200) := (c_244_1.keep K_256c nin0)
              have f_259 : Fld Z T_256.heap x_244_q "com/example/westmount/westmount/RowKey" "row" "[B" (.ref x_206_b) := (c_244_2.keep K_256c nin0)
              have f_260 : Exa Z T_256.heap b_200 "java/lang/String" := (f_247.keep K_256c)
              have f_261 : Arv Z T_256.heap x_206_b x_206_k .byte v_1 (own_bs v_1 p1) (.int (0 : Int32)) := (f_249.keep K_256c nin0)
              have f_262 : Arv Z T_256.heap x_232_b x_232_k .byte v_1 (own_bs v_1 p1) (.int (0 : Int32)) := (f_253.keep K_256c nin0)
              have f_264 : Exa Z T_256.heap x_244_q "com/example/westmount/westmount/RowKey" := (c_244_0.keep K_256c)
              obtain ⟨cq_263, kq_263, q_263a, q_263b, q_263c⟩ := isOf hZ rfl f_264
              obtain ⟨_, _, ⟨T_263, L_263, k_263, n_263⟩, -, X_263, ⟨Lc_263, hQ_263, l_263, y_263, z_263⟩, st_263⟩ := X_256.virtualBack hx (y := (⟨"com/example/westmount/westmount/RowKey", "equals", "(Ljava/lang/Object;)Z"⟩ : MethodName)) (z := (⟨"com/example/westmount/westmount/RowKey", "equals", "(Ljava/lang/Object;)Z"⟩ : MethodName)) hown (mvT hZ (hw _ (List.mem_of_getElem? (i := 98) rfl))) (mvT hZ (hw _ (List.mem_of_getElem? (i := 99) rfl))) (notFace_of_selects (args := #[]) (mvT hZ (hw _ (List.mem_of_getElem? (i := 101) rfl)))) (mvT hZ (hw _ (List.mem_of_getElem? (i := 101) rfl))) (mvT hZ (hw _ (List.mem_of_getElem? (i := 100) rfl))) (by decide) (backOf (W := 0) (rm15 l Z a0 hw [] x_244_q x_256_q b_200 x_206_b x_232_b x_206_k x_232_k v_1 p1 T_256.heap n0 Z_256 f_258 f_259 c_256_0 c_256_1 c_256_2 f_260 f_261 f_262 ne_x_206_b_x_232_b (hv_1 ▸ own_four _)) hZ (hw _ (List.mem_of_getElem? (i := 102) rfl)) (hw _ (List.mem_of_getElem? (i := 63) rfl)) (by decide) (by decide)) q_263a q_263c (g := (mkF m 249 #[.val (.int p0), .val (.int p1), .val (.int p2), .val (.int p3), .val (.int (3 : Int32)), .val (.int v_1), .val (.int v_2), .val (.int zb), .val (.int zc), .val (.int zd), .val (.ref b_196), .val (.ref b_200), .val (.ref x_206_b), .val (.ref x_232_b), .val (.ref b_237), .val (.ref x_244_q), .val (.int (1 : Int32))] [(.ref x_256_q), (.ref x_244_q)])) rfl (by rw [hml]; rfl) (Steps.refl _) (argsL := [(.ref x_256_q)]) (rest := []) (lenOf pd_4 rfl) rfl (by show 2 * 0 + _ ≤ _; exact Nat.le_of_eq rfl) (hb hby at_249) (fun _ _ => ⟨rfl, rfl, (by decide : 8 + 0 ≤ _), (by decide : 25 + 0 ≤ _)⟩)
              dsimp only [Pt.U, Pt.locs, Pt.cells, Pt.slots] at X_263 l_263 y_263 z_263 st_263 hQ_263
              subst l_263 y_263 z_263
              obtain ⟨rfl, M_263, q_263⟩ := hQ_263
              have N_263 := Fr.app N_256 M_263
              refine own_st (S' := T_263.setTop (mkF m 252 #[.val (.int p0), .val (.int p1), .val (.int p2), .val (.int p3), .val (.int (3 : Int32)), .val (.int v_1), .val (.int v_2), .val (.int zb), .val (.int zc), .val (.int zd), .val (.ref b_196), .val (.ref b_200), .val (.ref x_206_b), .val (.ref x_232_b), .val (.ref b_237), .val (.ref x_244_q), .val (.int (1 : Int32))] [(.int (1 : Int32))])) (fun t_ k_ => st_263.trans k_) ?_
              refine own_st (S' := T_263.setTop (mkF m 254 #[.val (.int p0), .val (.int p1), .val (.int p2), .val (.int p3), .val (.int (3 : Int32)), .val (.int v_1), .val (.int v_2), .val (.int zb), .val (.int zc), .val (.int zd), .val (.ref b_196), .val (.ref b_200), .val (.ref x_206_b), .val (.ref x_232_b), .val (.ref b_237), .val (.ref x_244_q), .val (.int (1 : Int32))] [])) (fun t_ k_ => XS.istore X_263.here hx rfl (hb hby at_252) rfl (l' := #[.val (.int p0), .val (.int p1), .val (.int p2), .val (.int p3), .val (.int (3 : Int32)), .val (.int v_1), .val (.int v_2), .val (.int zb), .val (.int zc), .val (.int zd), .val (.ref b_196), .val (.ref b_200), .val (.ref x_206_b), .val (.ref x_232_b), .val (.ref b_237), .val (.ref x_244_q), .val (.int (1 : Int32))]) rfl k_) ?_
              refine own_st (S' := T_263.setTop (mkF m 256 #[.val (.int p0), .val (.int p1), .val (.int p2), .val (.int p3), .val (.int (3 : Int32)), .val (.int v_1), .val (.int v_2), .val (.int zb), .val (.int zc), .val (.int zd), .val (.ref b_196), .val (.ref b_200), .val (.ref x_206_b), .val (.ref x_232_b), .val (.ref b_237), .val (.ref x_244_q), .val (.int (1 : Int32))] [(.int (1 : Int32))])) (fun t_ k_ => XS.iload X_263.here hx rfl (hb hby at_254) rfl k_) ?_
              obtain ⟨fs, hr, hrun, hended, hRW⟩ := Stand.leaveW (s := s) (vm₁ := s.vm) X_263 (n := 0) (State.WarmedH.since (State.WarmedH.refl s) 0) (by rw [q_263]; exact (Nat.zero_le _)) (v := some (.int (1 : Int32))) (fun h => by rw [Bd.returns] at h; cases h)
              refine ⟨_, _, retN X_263 hx (t := .boolean) Bd.returns (by simp) (hb hby at_256) hr, hrun, hended, _, _, rfl, ?_, ⟨_, rfl⟩, hRW.2.1, hRW.2.2.1, hRW.2.2.2.mono (by decide) (by decide)⟩
              show Q0 Z p0 p1 p2 p3 cz h0 n0 _ T_263.heap _
              rw [q_263]
              exact ⟨rfl, N_263⟩
            · refine own_st (S' := T_250.setTop (mkF m 254 #[.val (.int p0), .val (.int p1), .val (.int p2), .val (.int p3), .val (.int (3 : Int32)), .val (.int v_1), .val (.int v_2), .val (.int zb), .val (.int zc), .val (.int zd), .val (.ref b_196), .val (.ref b_200), .val (.ref x_206_b), .val (.ref x_232_b), .val (.ref b_237), .val (.ref x_244_q), .val (.int (1 : Int32))] [])) (fun t_ k_ => XS.ifYes X_250.here hx rfl (pc0 := 239) (pc' := 254) rfl (hb hby at_239) rfl ((if0 _ _).trans (flt hc239).2.2.2) (by decide) (by decide) k_) ?_
              refine own_st (S' := T_250.setTop (mkF m 256 #[.val (.int p0), .val (.int p1), .val (.int p2), .val (.int p3), .val (.int (3 : Int32)), .val (.int v_1), .val (.int v_2), .val (.int zb), .val (.int zc), .val (.int zd), .val (.ref b_196), .val (.ref b_200), .val (.ref x_206_b), .val (.ref x_232_b), .val (.ref b_237), .val (.ref x_244_q), .val (.int (1 : Int32))] [(.int (1 : Int32))])) (fun t_ k_ => XS.iload X_250.here hx rfl (hb hby at_254) rfl k_) ?_
              obtain ⟨fs, hr, hrun, hended, hRW⟩ := Stand.leaveW (s := s) (vm₁ := s.vm) X_250 (n := 0) (State.WarmedH.since (State.WarmedH.refl s) 0) (by rw [q_250]; exact (Nat.zero_le _)) (v := some (.int (1 : Int32))) (fun h => by rw [Bd.returns] at h; cases h)
              refine ⟨_, _, retN X_250 hx (t := .boolean) Bd.returns (by simp) (hb hby at_256) hr, hrun, hended, _, _, rfl, ?_, ⟨_, rfl⟩, hRW.2.1, hRW.2.2.1, hRW.2.2.2.mono (by decide) (by decide)⟩
              show Q0 Z p0 p1 p2 p3 cz h0 n0 _ T_250.heap _
              rw [q_250]
              exact ⟨rfl, N_250⟩
      · by_cases hc57 : (((p3.toUInt32 >>> ((8 : Int32) &&& 31).toUInt32).toInt32) &&& (1 : Int32)) = (0 : Int32)
        · refine own_st (S' := s₁.setTop (mkF m 64 #[.val (.int p0), .val (.int p1), .val (.int p2), .val (.int p3), .val (.int (p3 &&& (3 : Int32))), .val (.int v_1), .val (.int v_2), .val (.int zb), .val (.int zc), .unset, .unset, .unset, .unset, .unset, .unset, .unset, .unset] [])) (fun t_ k_ => XS.ifYes X0.here hx rfl (pc0 := 57) (pc' := 64) rfl (hb hby at_57) rfl ((if0 _ _).trans (teq hc57).1) (by decide) (by decide) k_) ?_
          refine own_st (S' := s₁.setTop (mkF m 65 #[.val (.int p0), .val (.int p1), .val (.int p2), .val (.int p3), .val (.int (p3 &&& (3 : Int32))), .val (.int v_1), .val (.int v_2), .val (.int zb), .val (.int zc), .unset, .unset, .unset, .unset, .unset, .unset, .unset, .unset] [(.int (0 : Int32))])) (fun t_ k_ => XS.iconst X0.here hx rfl (hb hby at_64) k_) ?_
          exact J65 _ trivial
        · refine own_st (S' := s₁.setTop (mkF m 60 #[.val (.int p0), .val (.int p1), .val (.int p2), .val (.int p3), .val (.int (p3 &&& (3 : Int32))), .val (.int v_1), .val (.int v_2), .val (.int zb), .val (.int zc), .unset, .unset, .unset, .unset, .unset, .unset, .unset, .unset] [])) (fun t_ k_ => XS.ifNo X0.here hx rfl (hb hby at_57) rfl ((if0 _ _).trans (feq hc57).1) k_) ?_
          refine own_st (S' := s₁.setTop (mkF m 61 #[.val (.int p0), .val (.int p1), .val (.int p2), .val (.int p3), .val (.int (p3 &&& (3 : Int32))), .val (.int v_1), .val (.int v_2), .val (.int zb), .val (.int zc), .unset, .unset, .unset, .unset, .unset, .unset, .unset, .unset] [(.int (1 : Int32))])) (fun t_ k_ => XS.iconst X0.here hx rfl (hb hby at_60) k_) ?_
          refine own_st (S' := s₁.setTop (mkF m 65 #[.val (.int p0), .val (.int p1), .val (.int p2), .val (.int p3), .val (.int (p3 &&& (3 : Int32))), .val (.int v_1), .val (.int v_2), .val (.int zb), .val (.int zc), .unset, .unset, .unset, .unset, .unset, .unset, .unset, .unset] [(.int (1 : Int32))])) (fun t_ k_ => XS.goto X0.here hx rfl (pc0 := 61) (pc' := 65) rfl (hb hby at_61) (by decide) (by decide) k_) ?_
          exact J65 _ trivial
    · by_cases hc41 : (((p3.toUInt32 >>> ((7 : Int32) &&& 31).toUInt32).toInt32) &&& (1 : Int32)) = (0 : Int32)
      · refine own_st (S' := s₁.setTop (mkF m 48 #[.val (.int p0), .val (.int p1), .val (.int p2), .val (.int p3), .val (.int (p3 &&& (3 : Int32))), .val (.int v_1), .val (.int v_2), .val (.int zb), .unset, .unset, .unset, .unset, .unset, .unset, .unset, .unset, .unset] [])) (fun t_ k_ => XS.ifYes X0.here hx rfl (pc0 := 41) (pc' := 48) rfl (hb hby at_41) rfl ((if0 _ _).trans (teq hc41).1) (by decide) (by decide) k_) ?_
        refine own_st (S' := s₁.setTop (mkF m 49 #[.val (.int p0), .val (.int p1), .val (.int p2), .val (.int p3), .val (.int (p3 &&& (3 : Int32))), .val (.int v_1), .val (.int v_2), .val (.int zb), .unset, .unset, .unset, .unset, .unset, .unset, .unset, .unset, .unset] [(.int (0 : Int32))])) (fun t_ k_ => XS.iconst X0.here hx rfl (hb hby at_48) k_) ?_
        exact J49 _ trivial
      · refine own_st (S' := s₁.setTop (mkF m 44 #[.val (.int p0), .val (.int p1), .val (.int p2), .val (.int p3), .val (.int (p3 &&& (3 : Int32))), .val (.int v_1), .val (.int v_2), .val (.int zb), .unset, .unset, .unset, .unset, .unset, .unset, .unset, .unset, .unset] [])) (fun t_ k_ => XS.ifNo X0.here hx rfl (hb hby at_41) rfl ((if0 _ _).trans (feq hc41).1) k_) ?_
        refine own_st (S' := s₁.setTop (mkF m 45 #[.val (.int p0), .val (.int p1), .val (.int p2), .val (.int p3), .val (.int (p3 &&& (3 : Int32))), .val (.int v_1), .val (.int v_2), .val (.int zb), .unset, .unset, .unset, .unset, .unset, .unset, .unset, .unset, .unset] [(.int (1 : Int32))])) (fun t_ k_ => XS.iconst X0.here hx rfl (hb hby at_44) k_) ?_
        refine own_st (S' := s₁.setTop (mkF m 49 #[.val (.int p0), .val (.int p1), .val (.int p2), .val (.int p3), .val (.int (p3 &&& (3 : Int32))), .val (.int v_1), .val (.int v_2), .val (.int zb), .unset, .unset, .unset, .unset, .unset, .unset, .unset, .unset, .unset] [(.int (1 : Int32))])) (fun t_ k_ => XS.goto X0.here hx rfl (pc0 := 45) (pc' := 49) rfl (hb hby at_45) (by decide) (by decide) k_) ?_
        exact J49 _ trivial
  · by_cases hc25 : (((p3.toUInt32 >>> ((6 : Int32) &&& 31).toUInt32).toInt32) &&& (1 : Int32)) = (0 : Int32)
    · refine own_st (S' := s₁.setTop (mkF m 32 #[.val (.int p0), .val (.int p1), .val (.int p2), .val (.int p3), .val (.int (p3 &&& (3 : Int32))), .val (.int v_1), .val (.int v_2), .unset, .unset, .unset, .unset, .unset, .unset, .unset, .unset, .unset, .unset] [])) (fun t_ k_ => XS.ifYes X0.here hx rfl (pc0 := 25) (pc' := 32) rfl (hb hby at_25) rfl ((if0 _ _).trans (teq hc25).1) (by decide) (by decide) k_) ?_
      refine own_st (S' := s₁.setTop (mkF m 33 #[.val (.int p0), .val (.int p1), .val (.int p2), .val (.int p3), .val (.int (p3 &&& (3 : Int32))), .val (.int v_1), .val (.int v_2), .unset, .unset, .unset, .unset, .unset, .unset, .unset, .unset, .unset, .unset] [(.int (0 : Int32))])) (fun t_ k_ => XS.iconst X0.here hx rfl (hb hby at_32) k_) ?_
      exact J33 _ trivial
    · refine own_st (S' := s₁.setTop (mkF m 28 #[.val (.int p0), .val (.int p1), .val (.int p2), .val (.int p3), .val (.int (p3 &&& (3 : Int32))), .val (.int v_1), .val (.int v_2), .unset, .unset, .unset, .unset, .unset, .unset, .unset, .unset, .unset, .unset] [])) (fun t_ k_ => XS.ifNo X0.here hx rfl (hb hby at_25) rfl ((if0 _ _).trans (feq hc25).1) k_) ?_
      refine own_st (S' := s₁.setTop (mkF m 29 #[.val (.int p0), .val (.int p1), .val (.int p2), .val (.int p3), .val (.int (p3 &&& (3 : Int32))), .val (.int v_1), .val (.int v_2), .unset, .unset, .unset, .unset, .unset, .unset, .unset, .unset, .unset, .unset] [(.int (1 : Int32))])) (fun t_ k_ => XS.iconst X0.here hx rfl (hb hby at_28) k_) ?_
      refine own_st (S' := s₁.setTop (mkF m 33 #[.val (.int p0), .val (.int p1), .val (.int p2), .val (.int p3), .val (.int (p3 &&& (3 : Int32))), .val (.int v_1), .val (.int v_2), .unset, .unset, .unset, .unset, .unset, .unset, .unset, .unset, .unset, .unset] [(.int (1 : Int32))])) (fun t_ k_ => XS.goto X0.here hx rfl (pc0 := 29) (pc' := 33) rfl (hb hby at_29) (by decide) (by decide) k_) ?_
      exact J33 _ trivial
set_option maxRecDepth 65536 in
set_option maxHeartbeats 40000000 in
theorem comes_1 {Post : Tables → Env → Array Value → State → Outcome → State → Prop} (hpost : ∀ tb e args s v u, (limb_1_1.after args s (.returned v) u = true ∧ limb_1_2.after args s (.returned v) u = true ∧ True) → ReturnedEndW s (.returned v) u (Jvm.fieldLocs frame_1_writes args s ++ Jvm.arrayLocs frame_1_arrays args s ++ Jvm.staticLocs frame_1_statics s) 32 1152 → Post tb e args s (.returned v) u) :
    ArmFor flags0 classFile x code maxLocals ret World_1 tables_1 room_1 Calls_1 rest_1 Pre_1 Post := by
  intro l hfl _ _ p e ha hc hk s m args below hf hA hF happ hP
  obtain ⟨hcalls, hrest, hpre⟩ := hP
  obtain ⟨-, -, -, hnamed, -, -, -, hat⟩ := (Spec.applies_iff hf).mp happ
  obtain ⟨hg, hn⟩ := and_e (Cond.before_iff.mp (show (Jvm.Cond.and given_1 narrow_1).before args s = true from hpre))
  obtain ⟨hcount, ht0⟩ := and_e hg
  obtain ⟨ha0, ht1⟩ := and_e ht0
  obtain ⟨ha1, ht2⟩ := and_e ht1
  obtain ⟨ha2, ht3⟩ := and_e ht2
  obtain ⟨w0, w1, w2, w3, rfl⟩ : ∃ w0 w1 w2 w3 : Value, args = #[w0, w1, w2, w3] := by
    have hs : args.size = 4 := by simpa [Cond.value, given_1] using hcount
    obtain ⟨L⟩ := args
    match L, hs with
    | [w0, w1, w2, w3], _ => exact ⟨w0, w1, w2, w3, rfl⟩
  have hw := fun d (hd : d ∈ tables_1) => atoms_spec (ws := Jvm.Cond.code x code maxLocals ret :: tables_1) hat d (List.mem_cons_of_mem _ hd)
  have hfit : Fit s := fun {y c} hc i hi => by
    obtain ⟨ha, rfl⟩ := Array.getElem?_eq_some_iff.mp hc
    have q := List.all_eq_true.mp ((Array.all_eq_true_iff_forall_mem.mp hF) _ (Array.getElem_mem ha)) i (List.mem_range.mpr hi)
    simpa [Array.getElem?_eq_getElem hi] using q
  obtain ⟨hsets, hown0⟩ := atoms_of _ (rest_1_c_eq ▸ (show rest_1_c.before _ s = true from hrest))
  have hr0 := Cond.before_iff.mp hown0
  obtain ⟨i0, ei0⟩ := is_v ha0
  obtain rfl : w0 = (.int i0) := Option.some.inj ei0
  obtain ⟨i1, ei1⟩ := is_v ha1
  obtain rfl : w1 = (.int i1) := Option.some.inj ei1
  obtain ⟨i2, ei2⟩ := is_v ha2
  obtain rfl : w2 = (.int i2) := Option.some.inj ei2
  obtain ⟨i3, ei3⟩ := is_v ht3
  obtain rfl : w3 = (.int i3) := Option.some.inj ei3
  obtain ⟨cz, evz⟩ := is_v (Cond.before_iff.mp (hsets _ (List.mem_of_getElem? (i := 1) rfl)))
  have Sz := Sta.start evz (Or.inl (hsets _ (List.mem_of_getElem? (i := 0) rfl)))
  have hcz : ¬ (cz = (0 : Int32)) := gotF (Cond.eq_ints evz (Term.int_eval (0))) (not_v (Cond.before_iff.mp (hsets _ (List.mem_of_getElem? (i := 2) rfl))))
  have hcH : Jvm.Lit.constHeld s "java/lang/String" 7 := hcalls.1 ("java/lang/String", 7) (List.mem_singleton.mpr rfl)
  obtain ⟨n, o, h1, h2, h3, _, L, rfl, ⟨rfl, N⟩, hq⟩ := rm0 l s _ hw tables_1 i0 i1 i2 i3 cz s.heap s.heap.size (Nat.le_refl _) Sz (Old.start s) hcz hcH (hsets _ (List.mem_of_getElem? (i := 2) rfl)) p e ha hc hk s m _ below hf ((Spec.applies_iff_loose hf).mp happ).1 ⟨rfl, State.Warmed39.refl s, rfl, IB.start⟩ trivial
  refine ⟨n, _, h1, h2, h3, hpost _ _ _ _ _ _ ⟨Cond.after_iff.mpr rfl, Cond.after_iff.mpr (eq_i res_at (Term.int_eval (1)) rfl), trivial⟩ ⟨hq.1, hq.2.1, hq.2.2.1, (hq.2.2.2.sift fun y hy => Or.inr (N y hy)).mono (by decide) (by decide)⟩⟩
theorem main_1_1 : Claimed_1_1 := comes_1 fun _ _ _ _ _ _ h hF => ⟨h.1, hF⟩
theorem main_1_2 : Claimed_1_2 := comes_1 fun _ _ _ _ _ _ h hF => ⟨h.2.1, hF⟩
end Jvm.Pilot.@@N@@
namespace Jvm.Pilot.@@N@@
open Jvm Jvm.ClassFile Sem Op Lib Jvm.Free Jvm.Stand Jvm.Pilot.@@N@@.Jvm.D
/-! MADE BY PROGRAM (witnessworld.py) out of the Statement's table words and the real class files: 23 classes; the members and pool entries that the words name. The judged class is class 1, her method 1. -/
namespace start1
open Jvm.ClassFile
def u (s : String) : CpInfo := .utf8 (stringToUtf16 s)
/-- a pool by its gaps: so many unusable entries, then the entry; so many at the end -/
def gap : Nat → List CpInfo → List CpInfo
  | 0, r => r
  | n + 1, r => .unusable :: gap n r
def poolList (es : List (Nat × CpInfo)) (last : Nat) : List CpInfo := es.foldr (fun e r => gap e.1 (e.2 :: r)) (gap last [])
def pool (es : List (Nat × CpInfo)) (last : Nat) : Array CpInfo := ⟨poolList es last⟩
def fileOf (pool : Array CpInfo) (this : Nat) (attrs : Array Attribute := #[]) (ms : Array MethodInfo := #[]) (fl : Nat := 33) (sup : Nat := 0) (ifs : Array Nat := #[]) (fds : Array FieldInfo := #[]) : ClassFile where
  minorVersion := 0
  majorVersion := 65
  constantPool := pool
  accessFlags := fl
  thisClass := this
  superClass := sup
  interfaces := ifs
  fields := fds
  methods := ms
  attributes := attrs
def plain (name : String) (sup : Option ClassId) : Class where
  name := name
  kind := .ordinary
  loader := none
  accessFlags := 33
  super := sup
  interfaces := #[]
  cf := none
  fields := #[]
  methods := #[]
  instanceTypes := #[]
  staticTypes := #[]
  resolved := #[]
  callSites := []
  init := .initialized
  statics := none
  mirror := none

def pool0 : Array CpInfo := pool [(5, u "<init>"), (0, u "()V"), (1, .class_ 10), (1, u "java/lang/Object")] 113

def k0c0 : Code := { maxStack := 0, maxLocals := 1, code := object_method_1_code, exceptionTable := #[], attributes := #[] }
def k0m0 : Method := { name := "<init>", desc := "()V", sig := { parameters := [], returnType := none }, accessFlags := 1, code := some k0c0 }
/-- java/lang/Object -/
def k0 : Class := { plain "java/lang/Object" none with
  accessFlags := 33
  interfaces := #[]
  cf := some (fileOf pool0 8 #[] #[{ accessFlags := 1, nameIndex := 5, descriptorIndex := 6, attributes := #[] }] 33 0 #[] #[])
  fields := #[]
  methods := #[k0m0]
  instanceTypes := #[]
  staticTypes := #[]
  resolved := Array.replicate 124 none
  statics := none }

def pool1 : Array CpInfo := pool [(2, .class_ 4), (1, u "java/lang/Object"), (0, u "<init>"), (0, u "()V"), (0, .class_ 8), (0, u "java/lang/String"), (0, .methodref 7 10), (0, .nameAndType 5 11), (0, u "([C)V"), (0, .methodref 13 14), (0, .class_ 15), (0, .nameAndType 16 17), (0, u "com/example/westmount/westmount/RowRangeFirstPinLaw"), (0, u "bytes"), (0, u "(II)[B"), (0, .class_ 19), (0, u "com/example/westmount/westmount/RowRange"), (0, .methodref 18 21), (0, .nameAndType 5 22), (0, u "(Ljava/lang/String;[BZ[BZ)V"), (0, .methodref 18 24), (0, .nameAndType 25 26), (0, u "first"), (0, u "()Lcom/example/westmount/westmount/RowKey;"), (0, .methodref 28 29), (0, .class_ 30), (0, .nameAndType 31 32), (0, u "com/example/westmount/westmount/RowKey"), (0, u "table"), (0, u "()Ljava/lang/String;"), (0, .methodref 7 34), (0, .nameAndType 35 36), (0, u "equals"), (0, u "(Ljava/lang/Object;)Z"), (0, .methodref 28 38), (0, .nameAndType 39 40), (0, u "row"), (0, u "()[B"), (0, .methodref 13 42), (0, .nameAndType 43 44), (0, u "sameBytes"), (0, u "([BII)Z"), (0, .methodref 18 46), (0, .nameAndType 47 26), (0, u "last"), (0, .methodref 28 34), (2, u "law"), (0, u "(IIII)Z")] 7

def k1m0 : Method := { name := "<init>", desc := "()V", sig := { parameters := [], returnType := none }, accessFlags := 1, code := none }
def k1c1 : Code := { maxStack := 7, maxLocals := 17, code := code, exceptionTable := #[], attributes := #[] }
def k1m1 : Method := { name := "law", desc := "(IIII)Z", sig := { parameters := [.int, .int, .int, .int], returnType := some .boolean }, accessFlags := 9, code := some k1c1 }
def k1c2 : Code := { maxStack := 4, maxLocals := 3, code := method_3_code, exceptionTable := #[], attributes := #[] }
def k1m2 : Method := { name := "bytes", desc := "(II)[B", sig := { parameters := [.int, .int], returnType := some (.array .byte) }, accessFlags := 10, code := some k1c2 }
def k1c3 : Code := { maxStack := 3, maxLocals := 3, code := method_4_code, exceptionTable := #[], attributes := #[] }
def k1m3 : Method := { name := "sameBytes", desc := "([BII)Z", sig := { parameters := [(.array .byte), .int, .int], returnType := some .boolean }, accessFlags := 10, code := some k1c3 }
/-- com/example/westmount/westmount/RowRangeFirstPinLaw -/
def k1 : Class := { plain "com/example/westmount/westmount/RowRangeFirstPinLaw" (some 0) with
  accessFlags := 49
  interfaces := #[]
  cf := some (fileOf pool1 13 #[] #[{ accessFlags := 1, nameIndex := 5, descriptorIndex := 6, attributes := #[] }, { accessFlags := 9, nameIndex := 51, descriptorIndex := 52, attributes := #[] }, { accessFlags := 10, nameIndex := 16, descriptorIndex := 17, attributes := #[] }, { accessFlags := 10, nameIndex := 43, descriptorIndex := 44, attributes := #[] }] 49 2 #[] #[])
  fields := #[]
  methods := #[k1m0, k1m1, k1m2, k1m3]
  instanceTypes := #[]
  staticTypes := #[]
  resolved := Array.replicate 60 none
  statics := none }

def pool2 : Array CpInfo := pool [(1, .class_ 2), (0, u "java/io/Serializable"), (0, .class_ 4), (0, u "java/lang/Object")] 2

/-- java/io/Serializable -/
def k2 : Class := { plain "java/io/Serializable" (some 0) with
  accessFlags := 1537
  interfaces := #[]
  cf := some (fileOf pool2 1 #[] #[] 1537 3 #[] #[])
  fields := #[]
  methods := #[]
  instanceTypes := #[]
  staticTypes := #[]
  resolved := Array.replicate 7 none
  statics := none }

def pool3 : Array CpInfo := pool [(1, .class_ 2), (0, u "java/lang/Comparable"), (0, .class_ 4), (0, u "java/lang/Object")] 7

/-- java/lang/Comparable -/
def k3 : Class := { plain "java/lang/Comparable" (some 0) with
  accessFlags := 1537
  interfaces := #[]
  cf := some (fileOf pool3 1 #[] #[] 1537 3 #[] #[])
  fields := #[]
  methods := #[]
  instanceTypes := #[]
  staticTypes := #[]
  resolved := Array.replicate 12 none
  statics := none }

def pool4 : Array CpInfo := pool [(2, .class_ 4), (1, u "java/lang/CharSequence"), (42, .class_ 48), (0, u "java/lang/CharSequence$1CodePointIterator"), (10, .class_ 60), (0, u "java/lang/CharSequence$1CharIterator"), (5, .class_ 67), (0, u "java/lang/Object")] 63

/-- java/lang/CharSequence -/
def k4 : Class := { plain "java/lang/CharSequence" (some 0) with
  accessFlags := 1537
  interfaces := #[]
  cf := some (fileOf pool4 2 #[.nestMembers #[47, 59]] #[] 1537 66 #[] #[])
  fields := #[]
  methods := #[]
  instanceTypes := #[]
  staticTypes := #[]
  resolved := Array.replicate 131 none
  statics := none }

def pool5 : Array CpInfo := pool [(1, .class_ 2), (0, u "java/lang/constant/Constable"), (0, .class_ 4), (0, u "java/lang/Object")] 6

/-- java/lang/constant/Constable -/
def k5 : Class := { plain "java/lang/constant/Constable" (some 0) with
  accessFlags := 1537
  interfaces := #[]
  cf := some (fileOf pool5 1 #[] #[] 1537 3 #[] #[])
  fields := #[]
  methods := #[]
  instanceTypes := #[]
  staticTypes := #[]
  resolved := Array.replicate 11 none
  statics := none }

def pool6 : Array CpInfo := pool [(1, .class_ 2), (0, u "java/lang/constant/ConstantDesc"), (0, .class_ 4), (0, u "java/lang/Object")] 32

/-- java/lang/constant/ConstantDesc -/
def k6 : Class := { plain "java/lang/constant/ConstantDesc" (some 0) with
  accessFlags := 1537
  interfaces := #[]
  cf := some (fileOf pool6 1 #[] #[] 1537 3 #[] #[])
  fields := #[]
  methods := #[]
  instanceTypes := #[]
  staticTypes := #[]
  resolved := Array.replicate 37 none
  statics := none }

def pool7 : Array CpInfo := pool [(1, .methodref 2 3), (0, .class_ 4), (0, .nameAndType 5 6), (0, u "java/lang/Object"), (0, u "<init>"), (0, u "()V"), (0, .string 8), (0, u ""), (0, .fieldref 10 11), (0, .class_ 12), (0, .nameAndType 13 14), (0, u "java/lang/String"), (0, u "value"), (0, u "[B"), (0, .fieldref 10 16), (0, .nameAndType 17 18), (0, u "coder"), (0, u "B"), (2, u "hash"), (0, u "I"), (2, u "hashIsZero"), (0, u "Z"), (0, .methodref 10 28), (0, .nameAndType 5 29), (0, u "([CIILjava/lang/Void;)V"), (8, .fieldref 10 39), (0, .nameAndType 40 26), (0, u "COMPACT_STRINGS"), (1, .class_ 44), (1, u "java/lang/StringUTF16"), (0, u "compress"), (1, .methodref 42 48), (0, .nameAndType 49 50), (0, u "coderFromArrayLen"), (0, u "([BI)B"), (126, .methodref 42 178), (0, .nameAndType 45 179), (0, u "([CII)[B"), (363, u "equals"), (29, u "(Ljava/lang/Object;)Z"), (1, .class_ 576), (0, u "java/lang/CharSequence"), (22, u "CASE_INSENSITIVE_ORDER"), (0, u "Ljava/util/Comparator;"), (409, u "([C)V"), (90, u "serialPersistentFields"), (0, u "[Ljava/io/ObjectStreamField;"), (0, .class_ 1104), (0, u "java/lang/String$CaseInsensitiveComparator"), (1, .class_ 1107), (0, u "java/io/Serializable"), (0, .class_ 1109), (0, u "java/lang/Comparable"), (0, .class_ 1111), (0, u "java/lang/constant/Constable"), (0, .class_ 1113), (0, u "java/lang/constant/ConstantDesc"), (2, u "serialVersionUID"), (0, u "J"), (3, u "REPL"), (0, u "C"), (2, u "LATIN1"), (1, u "UTF16")] 323

def k7m0 : Method := { name := "<init>", desc := "()V", sig := { parameters := [], returnType := none }, accessFlags := 1, code := none }
def k7c1 : Code := { maxStack := 5, maxLocals := 2, code := jdk_42_method_3_code, exceptionTable := #[], attributes := #[] }
def k7m1 : Method := { name := "<init>", desc := "([C)V", sig := { parameters := [(.array .char)], returnType := none }, accessFlags := 1, code := some k7c1 }
def k7c2 : Code := { maxStack := 2, maxLocals := 3, code := jdk_42_method_66_code, exceptionTable := #[], attributes := #[] }
def k7m2 : Method := { name := "equals", desc := "(Ljava/lang/Object;)Z", sig := { parameters := [(.object "java/lang/Object")], returnType := some .boolean }, accessFlags := 1, code := some k7c2 }
def k7c3 : Code := { maxStack := 4, maxLocals := 6, code := jdk_42_method_149_code, exceptionTable := #[], attributes := #[] }
def k7m3 : Method := { name := "<init>", desc := "([CIILjava/lang/Void;)V", sig := { parameters := [(.array .char), .int, .int, (.object "java/lang/Void")], returnType := none }, accessFlags := 2, code := some k7c3 }
/-- java/lang/String -/
def k7 : Class := { plain "java/lang/String" (some 0) with
  accessFlags := 49
  interfaces := #[2, 3, 4, 5, 6]
  cf := some (fileOf pool7 10 #[.nestMembers #[1103]] #[{ accessFlags := 1, nameIndex := 5, descriptorIndex := 6, attributes := #[] }, { accessFlags := 1, nameIndex := 5, descriptorIndex := 1010, attributes := #[] }, { accessFlags := 1, nameIndex := 543, descriptorIndex := 573, attributes := #[] }, { accessFlags := 2, nameIndex := 5, descriptorIndex := 29, attributes := #[] }] 49 2 #[1106, 1108, 575, 1110, 1112] #[{ accessFlags := 18, nameIndex := 13, descriptorIndex := 14, attributes := #[] }, { accessFlags := 18, nameIndex := 17, descriptorIndex := 18, attributes := #[] }, { accessFlags := 2, nameIndex := 21, descriptorIndex := 22, attributes := #[] }, { accessFlags := 2, nameIndex := 25, descriptorIndex := 26, attributes := #[] }, { accessFlags := 26, nameIndex := 1116, descriptorIndex := 1117, attributes := #[] }, { accessFlags := 24, nameIndex := 40, descriptorIndex := 26, attributes := #[] }, { accessFlags := 26, nameIndex := 1101, descriptorIndex := 1102, attributes := #[] }, { accessFlags := 26, nameIndex := 1121, descriptorIndex := 1122, attributes := #[] }, { accessFlags := 25, nameIndex := 599, descriptorIndex := 600, attributes := #[] }, { accessFlags := 24, nameIndex := 1125, descriptorIndex := 18, attributes := #[] }, { accessFlags := 24, nameIndex := 1127, descriptorIndex := 18, attributes := #[] }])
  fields := #[{ name := "value", type := (.array .byte), accessFlags := 18, slot := 0, constantValue := 0 }, { name := "coder", type := .byte, accessFlags := 18, slot := 1, constantValue := 0 }, { name := "hash", type := .int, accessFlags := 2, slot := 2, constantValue := 0 }, { name := "hashIsZero", type := .boolean, accessFlags := 2, slot := 3, constantValue := 0 }, { name := "serialVersionUID", type := .long, accessFlags := 26, slot := 0, constantValue := 0 }, { name := "COMPACT_STRINGS", type := .boolean, accessFlags := 24, slot := 1, constantValue := 0 }, { name := "serialPersistentFields", type := (.array (.object "java/io/ObjectStreamField")), accessFlags := 26, slot := 2, constantValue := 0 }, { name := "REPL", type := .char, accessFlags := 26, slot := 3, constantValue := 0 }, { name := "CASE_INSENSITIVE_ORDER", type := (.object "java/util/Comparator"), accessFlags := 25, slot := 4, constantValue := 0 }, { name := "LATIN1", type := .byte, accessFlags := 24, slot := 5, constantValue := 0 }, { name := "UTF16", type := .byte, accessFlags := 24, slot := 6, constantValue := 0 }]
  methods := #[k7m0, k7m1, k7m2, k7m3]
  instanceTypes := #[(.array .byte), .byte, .int, .boolean]
  staticTypes := #[.long, .boolean, (.array (.object "java/io/ObjectStreamField")), .char, (.object "java/util/Comparator"), .byte, .byte]
  resolved := Array.replicate 1451 none
  statics := some 0 }

def pool8 : Array CpInfo := pool [(6, .class_ 8), (1, u "java/lang/Object"), (0, u "<init>"), (0, u "()V"), (1, .class_ 14), (1, u "java/lang/StringUTF16"), (31, u "$assertionsDisabled"), (0, u "Z"), (13, u "HI_BYTE_SHIFT"), (0, u "I"), (2, u "LO_BYTE_SHIFT"), (49, .methodref 12 116), (0, .nameAndType 117 118), (0, u "compress"), (0, u "([CI[BII)I"), (3, u "([CII)[B"), (138, u "coderFromArrayLen"), (0, u "([BI)B"), (106, .class_ 371), (1, u "java/lang/StringUTF16$LinesSpliterator"), (58, u "MAX_LENGTH"), (196, .class_ 628), (0, u "java/lang/StringUTF16$CodePointsSpliterator"), (0, .class_ 630), (0, u "java/lang/StringUTF16$CharsSpliterator")] 4

def k8m0 : Method := { name := "<init>", desc := "()V", sig := { parameters := [], returnType := none }, accessFlags := 0, code := none }
def k8c1 : Code := { maxStack := 2, maxLocals := 2, code := jdk_52_method_15_code, exceptionTable := #[], attributes := #[] }
def k8m1 : Method := { name := "coderFromArrayLen", desc := "([BI)B", sig := { parameters := [(.array .byte), .int], returnType := some .byte }, accessFlags := 8, code := some k8c1 }
def k8c2 : Code := { maxStack := 5, maxLocals := 6, code := jdk_52_method_16_code, exceptionTable := #[], attributes := #[] }
def k8m2 : Method := { name := "compress", desc := "([CII)[B", sig := { parameters := [(.array .char), .int, .int], returnType := some (.array .byte) }, accessFlags := 9, code := some k8c2 }
def k8c3 : Code := { maxStack := 3, maxLocals := 7, code := jdk_52_method_21_code, exceptionTable := #[], attributes := #[] }
def k8m3 : Method := { name := "compress", desc := "([CI[BII)I", sig := { parameters := [(.array .char), .int, (.array .byte), .int, .int], returnType := some .int }, accessFlags := 9, code := some k8c3 }
/-- java/lang/StringUTF16 -/
def k8 : Class := { plain "java/lang/StringUTF16" (some 0) with
  accessFlags := 48
  interfaces := #[]
  cf := some (fileOf pool8 12 #[.nestMembers #[627, 629, 369]] #[{ accessFlags := 0, nameIndex := 9, descriptorIndex := 10, attributes := #[] }, { accessFlags := 8, nameIndex := 261, descriptorIndex := 262, attributes := #[] }, { accessFlags := 9, nameIndex := 117, descriptorIndex := 122, attributes := #[] }, { accessFlags := 9, nameIndex := 117, descriptorIndex := 118, attributes := #[] }] 48 6 #[] #[{ accessFlags := 26, nameIndex := 61, descriptorIndex := 62, attributes := #[] }, { accessFlags := 26, nameIndex := 65, descriptorIndex := 62, attributes := #[] }, { accessFlags := 24, nameIndex := 430, descriptorIndex := 62, attributes := #[] }, { accessFlags := 4120, nameIndex := 46, descriptorIndex := 47, attributes := #[] }])
  fields := #[{ name := "HI_BYTE_SHIFT", type := .int, accessFlags := 26, slot := 0, constantValue := 0 }, { name := "LO_BYTE_SHIFT", type := .int, accessFlags := 26, slot := 1, constantValue := 0 }, { name := "MAX_LENGTH", type := .int, accessFlags := 24, slot := 2, constantValue := 0 }, { name := "$assertionsDisabled", type := .boolean, accessFlags := 4120, slot := 3, constantValue := 0 }]
  methods := #[k8m0, k8m1, k8m2, k8m3]
  instanceTypes := #[]
  staticTypes := #[.int, .int, .int, .boolean]
  resolved := Array.replicate 635 none
  statics := none }

def pool9 : Array CpInfo := pool [(1, .methodref 2 3), (0, .class_ 4), (0, .nameAndType 5 6), (0, u "java/lang/Object"), (0, u "<init>"), (0, u "()V"), (0, .class_ 8), (0, u "java/lang/Record")] 13

def k9c0 : Code := { maxStack := 1, maxLocals := 1, code := jdk_30_method_1_code, exceptionTable := #[], attributes := #[] }
def k9m0 : Method := { name := "<init>", desc := "()V", sig := { parameters := [], returnType := none }, accessFlags := 4, code := some k9c0 }
/-- java/lang/Record -/
def k9 : Class := { plain "java/lang/Record" (some 0) with
  accessFlags := 1057
  interfaces := #[]
  cf := some (fileOf pool9 7 #[] #[{ accessFlags := 4, nameIndex := 5, descriptorIndex := 6, attributes := #[] }] 1057 2 #[] #[])
  fields := #[]
  methods := #[k9m0]
  instanceTypes := #[]
  staticTypes := #[]
  resolved := Array.replicate 22 none
  statics := none }

def pool10 : Array CpInfo := pool [(1, .methodref 2 3), (0, .class_ 4), (0, .nameAndType 5 6), (0, u "java/lang/Record"), (0, u "<init>"), (0, u "()V"), (0, .fieldref 8 9), (0, .class_ 10), (0, .nameAndType 11 12), (0, u "com/example/westmount/westmount/RowRange"), (0, u "table"), (0, u "Ljava/lang/String;"), (0, .fieldref 8 14), (0, .nameAndType 15 16), (0, u "start"), (0, u "[B"), (0, .fieldref 8 18), (0, .nameAndType 19 20), (0, u "startIncluded"), (0, u "Z"), (0, .fieldref 8 22), (0, .nameAndType 23 16), (0, u "stop"), (0, .fieldref 8 25), (0, .nameAndType 26 20), (0, u "stopIncluded"), (0, .class_ 28), (0, u "com/example/westmount/westmount/RowKey"), (0, .methodref 27 30), (0, .nameAndType 5 31), (0, u "(Ljava/lang/String;[B)V"), (6, u "NO_ROW"), (12, u "(Ljava/lang/String;[BZ[BZ)V"), (3, u "first"), (0, u "()Lcom/example/westmount/westmount/RowKey;"), (0, u "last")] 39

def k10c0 : Code := { maxStack := 2, maxLocals := 6, code := prog_13_method_1_code, exceptionTable := #[], attributes := #[] }
def k10m0 : Method := { name := "<init>", desc := "(Ljava/lang/String;[BZ[BZ)V", sig := { parameters := [(.object "java/lang/String"), (.array .byte), .boolean, (.array .byte), .boolean], returnType := none }, accessFlags := 0, code := some k10c0 }
def k10c1 : Code := { maxStack := 4, maxLocals := 1, code := prog_13_method_2_code, exceptionTable := #[], attributes := #[] }
def k10m1 : Method := { name := "first", desc := "()Lcom/example/westmount/westmount/RowKey;", sig := { parameters := [], returnType := some (.object "com/example/westmount/westmount/RowKey") }, accessFlags := 0, code := some k10c1 }
def k10c2 : Code := { maxStack := 4, maxLocals := 1, code := prog_13_method_3_code, exceptionTable := #[], attributes := #[] }
def k10m2 : Method := { name := "last", desc := "()Lcom/example/westmount/westmount/RowKey;", sig := { parameters := [], returnType := some (.object "com/example/westmount/westmount/RowKey") }, accessFlags := 0, code := some k10c2 }
/-- com/example/westmount/westmount/RowRange -/
def k10 : Class := { plain "com/example/westmount/westmount/RowRange" (some 9) with
  accessFlags := 48
  interfaces := #[]
  cf := some (fileOf pool10 8 #[] #[{ accessFlags := 0, nameIndex := 5, descriptorIndex := 51, attributes := #[] }, { accessFlags := 0, nameIndex := 55, descriptorIndex := 56, attributes := #[] }, { accessFlags := 0, nameIndex := 57, descriptorIndex := 56, attributes := #[] }] 48 2 #[] #[{ accessFlags := 18, nameIndex := 11, descriptorIndex := 12, attributes := #[] }, { accessFlags := 18, nameIndex := 15, descriptorIndex := 16, attributes := #[] }, { accessFlags := 18, nameIndex := 19, descriptorIndex := 20, attributes := #[] }, { accessFlags := 18, nameIndex := 23, descriptorIndex := 16, attributes := #[] }, { accessFlags := 18, nameIndex := 26, descriptorIndex := 20, attributes := #[] }, { accessFlags := 26, nameIndex := 38, descriptorIndex := 16, attributes := #[] }])
  fields := #[{ name := "table", type := (.object "java/lang/String"), accessFlags := 18, slot := 0, constantValue := 0 }, { name := "start", type := (.array .byte), accessFlags := 18, slot := 1, constantValue := 0 }, { name := "startIncluded", type := .boolean, accessFlags := 18, slot := 2, constantValue := 0 }, { name := "stop", type := (.array .byte), accessFlags := 18, slot := 3, constantValue := 0 }, { name := "stopIncluded", type := .boolean, accessFlags := 18, slot := 4, constantValue := 0 }, { name := "NO_ROW", type := (.array .byte), accessFlags := 26, slot := 0, constantValue := 0 }]
  methods := #[k10m0, k10m1, k10m2]
  instanceTypes := #[(.object "java/lang/String"), (.array .byte), .boolean, (.array .byte), .boolean]
  staticTypes := #[(.array .byte)]
  resolved := Array.replicate 97 none
  statics := none }

def pool11 : Array CpInfo := pool [(1, .methodref 2 3), (0, .class_ 4), (0, .nameAndType 5 6), (0, u "java/lang/Record"), (0, u "<init>"), (0, u "()V"), (0, .fieldref 8 9), (0, .class_ 10), (0, .nameAndType 11 12), (0, u "com/example/westmount/westmount/RowKey"), (0, u "table"), (0, u "Ljava/lang/String;"), (0, .fieldref 8 14), (0, .nameAndType 15 16), (0, u "row"), (0, u "[B"), (1, .class_ 20), (1, u "java/lang/String"), (3, .class_ 26), (1, u "java/util/Arrays"), (2, .methodref 18 30), (0, .nameAndType 31 32), (0, u "equals"), (0, u "(Ljava/lang/Object;)Z"), (0, .methodref 24 34), (0, .nameAndType 31 35), (0, u "([B[B)Z"), (44, u "()Ljava/lang/String;"), (3, .class_ 85), (0, u "java/lang/Comparable"), (0, u "(Ljava/lang/String;[B)V"), (5, u "()[B")] 21

def k11c0 : Code := { maxStack := 2, maxLocals := 3, code := prog_12_method_1_code, exceptionTable := #[], attributes := #[] }
def k11m0 : Method := { name := "<init>", desc := "(Ljava/lang/String;[B)V", sig := { parameters := [(.object "java/lang/String"), (.array .byte)], returnType := none }, accessFlags := 0, code := some k11c0 }
def k11c1 : Code := { maxStack := 2, maxLocals := 3, code := prog_12_method_3_code, exceptionTable := #[], attributes := #[] }
def k11m1 : Method := { name := "equals", desc := "(Ljava/lang/Object;)Z", sig := { parameters := [(.object "java/lang/Object")], returnType := some .boolean }, accessFlags := 1, code := some k11c1 }
def k11c2 : Code := { maxStack := 1, maxLocals := 1, code := prog_12_method_7_code, exceptionTable := #[], attributes := #[] }
def k11m2 : Method := { name := "table", desc := "()Ljava/lang/String;", sig := { parameters := [], returnType := some (.object "java/lang/String") }, accessFlags := 1, code := some k11c2 }
def k11c3 : Code := { maxStack := 1, maxLocals := 1, code := prog_12_method_8_code, exceptionTable := #[], attributes := #[] }
def k11m3 : Method := { name := "row", desc := "()[B", sig := { parameters := [], returnType := some (.array .byte) }, accessFlags := 1, code := some k11c3 }
/-- com/example/westmount/westmount/RowKey -/
def k11 : Class := { plain "com/example/westmount/westmount/RowKey" (some 9) with
  accessFlags := 48
  interfaces := #[3]
  cf := some (fileOf pool11 8 #[] #[{ accessFlags := 0, nameIndex := 5, descriptorIndex := 86, attributes := #[] }, { accessFlags := 1, nameIndex := 31, descriptorIndex := 32, attributes := #[] }, { accessFlags := 1, nameIndex := 11, descriptorIndex := 80, attributes := #[] }, { accessFlags := 1, nameIndex := 15, descriptorIndex := 92, attributes := #[] }] 48 2 #[84] #[{ accessFlags := 18, nameIndex := 11, descriptorIndex := 12, attributes := #[] }, { accessFlags := 18, nameIndex := 15, descriptorIndex := 16, attributes := #[] }])
  fields := #[{ name := "table", type := (.object "java/lang/String"), accessFlags := 18, slot := 0, constantValue := 0 }, { name := "row", type := (.array .byte), accessFlags := 18, slot := 1, constantValue := 0 }]
  methods := #[k11m0, k11m1, k11m2, k11m3]
  instanceTypes := #[(.object "java/lang/String"), (.array .byte)]
  staticTypes := #[]
  resolved := Array.replicate 114 none
  statics := none }

def pool12 : Array CpInfo := pool [(2, .class_ 4), (1, u "java/lang/Object"), (0, u "<init>"), (0, u "()V"), (7, .class_ 16), (1, u "java/util/Arrays"), (57, .class_ 76), (1, u "java/util/Arrays$NaturalOrder"), (36, .class_ 115), (1, u "java/util/Arrays$LegacyMergeSort"), (1, u "Z"), (128, .class_ 248), (1, u "jdk/internal/util/ArraysSupport"), (0, u "mismatch"), (22, .methodref 246 273), (0, .nameAndType 249 274), (0, u "([B[BI)I"), (23, u "equals"), (76, .class_ 376), (0, u "java/util/Arrays$ArrayList"), (68, u "$assertionsDisabled"), (9, u "([B[B)Z"), (259, u "MIN_ARRAY_SORT_GRAN"), (0, u "I"), (2, u "INSERTIONSORT_THRESHOLD"), (255, .class_ 976), (0, u "java/util/Arrays$ArrayItr")] 52

def k12m0 : Method := { name := "<init>", desc := "()V", sig := { parameters := [], returnType := none }, accessFlags := 2, code := none }
def k12c1 : Code := { maxStack := 3, maxLocals := 3, code := jdk_65_method_89_code, exceptionTable := #[], attributes := #[] }
def k12m1 : Method := { name := "equals", desc := "([B[B)Z", sig := { parameters := [(.array .byte), (.array .byte)], returnType := some .boolean }, accessFlags := 9, code := some k12c1 }
/-- java/util/Arrays -/
def k12 : Class := { plain "java/util/Arrays" (some 0) with
  accessFlags := 49
  interfaces := #[]
  cf := some (fileOf pool12 14 #[.nestMembers #[975, 375, 113, 74]] #[{ accessFlags := 2, nameIndex := 5, descriptorIndex := 6, attributes := #[] }, { accessFlags := 9, nameIndex := 298, descriptorIndex := 455, attributes := #[] }] 49 2 #[] #[{ accessFlags := 26, nameIndex := 715, descriptorIndex := 716, attributes := #[] }, { accessFlags := 26, nameIndex := 719, descriptorIndex := 716, attributes := #[] }, { accessFlags := 4120, nameIndex := 445, descriptorIndex := 117, attributes := #[] }])
  fields := #[{ name := "MIN_ARRAY_SORT_GRAN", type := .int, accessFlags := 26, slot := 0, constantValue := 0 }, { name := "INSERTIONSORT_THRESHOLD", type := .int, accessFlags := 26, slot := 1, constantValue := 0 }, { name := "$assertionsDisabled", type := .boolean, accessFlags := 4120, slot := 2, constantValue := 0 }]
  methods := #[k12m0, k12m1]
  instanceTypes := #[]
  staticTypes := #[.int, .int, .boolean]
  resolved := Array.replicate 1029 none
  statics := none }

def pool13 : Array CpInfo := pool [(9, u "<init>"), (6, .class_ 18), (1, u "java/lang/Object"), (0, u "()V"), (1, .class_ 23), (1, u "jdk/internal/util/ArraysSupport"), (0, u "LOG2_ARRAY_LONG_INDEX_SCALE"), (0, u "I"), (2, u "U"), (0, u "Ljdk/internal/misc/Unsafe;"), (8, u "BIG_ENDIAN"), (0, u "Z"), (8, u "LOG2_BYTE_BIT_SIZE"), (4, u "LOG2_ARRAY_INT_INDEX_SCALE"), (54, u "JLA"), (0, u "Ljdk/internal/access/JavaLangAccess;"), (11, u "LOG2_ARRAY_BOOLEAN_INDEX_SCALE"), (9, u "LOG2_ARRAY_BYTE_INDEX_SCALE"), (5, u "LOG2_ARRAY_CHAR_INDEX_SCALE"), (5, u "LOG2_ARRAY_SHORT_INDEX_SCALE"), (5, u "mismatch"), (12, u "LOG2_ARRAY_FLOAT_INDEX_SCALE"), (24, u "LOG2_ARRAY_DOUBLE_INDEX_SCALE"), (89, u "T_BOOLEAN"), (2, u "T_CHAR"), (1, u "T_FLOAT"), (1, u "T_DOUBLE"), (1, u "T_BYTE"), (1, u "T_SHORT"), (1, u "T_INT"), (1, u "T_LONG"), (1, u "SOFT_MAX_ARRAY_LENGTH"), (41, u "([B[BI)I")] 41

def k13m0 : Method := { name := "<init>", desc := "()V", sig := { parameters := [], returnType := none }, accessFlags := 2, code := none }
def k13c1 : Code := { maxStack := 8, maxLocals := 4, code := jdk_48_method_13_code, exceptionTable := #[], attributes := #[] }
def k13m1 : Method := { name := "mismatch", desc := "([B[BI)I", sig := { parameters := [(.array .byte), (.array .byte), .int], returnType := some .int }, accessFlags := 9, code := some k13c1 }
/-- jdk/internal/util/ArraysSupport -/
def k13 : Class := { plain "jdk/internal/util/ArraysSupport" (some 0) with
  accessFlags := 33
  interfaces := #[]
  cf := some (fileOf pool13 21 #[] #[{ accessFlags := 2, nameIndex := 9, descriptorIndex := 19, attributes := #[] }, { accessFlags := 9, nameIndex := 149, descriptorIndex := 336, attributes := #[] }] 33 16 #[] #[{ accessFlags := 24, nameIndex := 28, descriptorIndex := 29, attributes := #[] }, { accessFlags := 26, nameIndex := 38, descriptorIndex := 39, attributes := #[] }, { accessFlags := 25, nameIndex := 121, descriptorIndex := 25, attributes := #[] }, { accessFlags := 25, nameIndex := 131, descriptorIndex := 25, attributes := #[] }, { accessFlags := 25, nameIndex := 137, descriptorIndex := 25, attributes := #[] }, { accessFlags := 25, nameIndex := 143, descriptorIndex := 25, attributes := #[] }, { accessFlags := 25, nameIndex := 53, descriptorIndex := 25, attributes := #[] }, { accessFlags := 25, nameIndex := 24, descriptorIndex := 25, attributes := #[] }, { accessFlags := 25, nameIndex := 162, descriptorIndex := 25, attributes := #[] }, { accessFlags := 25, nameIndex := 187, descriptorIndex := 25, attributes := #[] }, { accessFlags := 26, nameIndex := 48, descriptorIndex := 25, attributes := #[] }, { accessFlags := 25, nameIndex := 277, descriptorIndex := 25, attributes := #[] }, { accessFlags := 25, nameIndex := 280, descriptorIndex := 25, attributes := #[] }, { accessFlags := 25, nameIndex := 282, descriptorIndex := 25, attributes := #[] }, { accessFlags := 25, nameIndex := 284, descriptorIndex := 25, attributes := #[] }, { accessFlags := 25, nameIndex := 286, descriptorIndex := 25, attributes := #[] }, { accessFlags := 25, nameIndex := 288, descriptorIndex := 25, attributes := #[] }, { accessFlags := 25, nameIndex := 290, descriptorIndex := 25, attributes := #[] }, { accessFlags := 25, nameIndex := 292, descriptorIndex := 25, attributes := #[] }, { accessFlags := 26, nameIndex := 108, descriptorIndex := 109, attributes := #[] }, { accessFlags := 25, nameIndex := 294, descriptorIndex := 25, attributes := #[] }])
  fields := #[{ name := "U", type := (.object "jdk/internal/misc/Unsafe"), accessFlags := 24, slot := 0, constantValue := 0 }, { name := "BIG_ENDIAN", type := .boolean, accessFlags := 26, slot := 1, constantValue := 0 }, { name := "LOG2_ARRAY_BOOLEAN_INDEX_SCALE", type := .int, accessFlags := 25, slot := 2, constantValue := 0 }, { name := "LOG2_ARRAY_BYTE_INDEX_SCALE", type := .int, accessFlags := 25, slot := 3, constantValue := 0 }, { name := "LOG2_ARRAY_CHAR_INDEX_SCALE", type := .int, accessFlags := 25, slot := 4, constantValue := 0 }, { name := "LOG2_ARRAY_SHORT_INDEX_SCALE", type := .int, accessFlags := 25, slot := 5, constantValue := 0 }, { name := "LOG2_ARRAY_INT_INDEX_SCALE", type := .int, accessFlags := 25, slot := 6, constantValue := 0 }, { name := "LOG2_ARRAY_LONG_INDEX_SCALE", type := .int, accessFlags := 25, slot := 7, constantValue := 0 }, { name := "LOG2_ARRAY_FLOAT_INDEX_SCALE", type := .int, accessFlags := 25, slot := 8, constantValue := 0 }, { name := "LOG2_ARRAY_DOUBLE_INDEX_SCALE", type := .int, accessFlags := 25, slot := 9, constantValue := 0 }, { name := "LOG2_BYTE_BIT_SIZE", type := .int, accessFlags := 26, slot := 10, constantValue := 0 }, { name := "T_BOOLEAN", type := .int, accessFlags := 25, slot := 11, constantValue := 0 }, { name := "T_CHAR", type := .int, accessFlags := 25, slot := 12, constantValue := 0 }, { name := "T_FLOAT", type := .int, accessFlags := 25, slot := 13, constantValue := 0 }, { name := "T_DOUBLE", type := .int, accessFlags := 25, slot := 14, constantValue := 0 }, { name := "T_BYTE", type := .int, accessFlags := 25, slot := 15, constantValue := 0 }, { name := "T_SHORT", type := .int, accessFlags := 25, slot := 16, constantValue := 0 }, { name := "T_INT", type := .int, accessFlags := 25, slot := 17, constantValue := 0 }, { name := "T_LONG", type := .int, accessFlags := 25, slot := 18, constantValue := 0 }, { name := "JLA", type := (.object "jdk/internal/access/JavaLangAccess"), accessFlags := 26, slot := 19, constantValue := 0 }, { name := "SOFT_MAX_ARRAY_LENGTH", type := .int, accessFlags := 25, slot := 20, constantValue := 0 }]
  methods := #[k13m0, k13m1]
  instanceTypes := #[]
  staticTypes := #[(.object "jdk/internal/misc/Unsafe"), .boolean, .int, .int, .int, .int, .int, .int, .int, .int, .int, .int, .int, .int, .int, .int, .int, .int, .int, (.object "jdk/internal/access/JavaLangAccess"), .int]
  resolved := Array.replicate 378 none
  statics := none }

def pool14 : Array CpInfo := pool [(4, .class_ 6), (1, u "java/lang/Object"), (0, u "<init>"), (0, u "()V"), (5, .class_ 16), (1, u "java/lang/StringLatin1"), (104, u "$assertionsDisabled"), (0, u "Z"), (98, .class_ 223), (1, u "java/lang/StringLatin1$LinesSpliterator"), (166, .class_ 391), (0, u "java/lang/StringLatin1$CharsSpliterator")] 3

def k14m0 : Method := { name := "<init>", desc := "()V", sig := { parameters := [], returnType := none }, accessFlags := 0, code := none }
/-- java/lang/StringLatin1 -/
def k14 : Class := { plain "java/lang/StringLatin1" (some 0) with
  accessFlags := 48
  interfaces := #[]
  cf := some (fileOf pool14 14 #[.nestMembers #[390, 221]] #[{ accessFlags := 0, nameIndex := 7, descriptorIndex := 8, attributes := #[] }] 48 4 #[] #[{ accessFlags := 4120, nameIndex := 121, descriptorIndex := 122, attributes := #[] }])
  fields := #[{ name := "$assertionsDisabled", type := .boolean, accessFlags := 4120, slot := 0, constantValue := 0 }]
  methods := #[k14m0]
  instanceTypes := #[]
  staticTypes := #[.boolean]
  resolved := Array.replicate 395 none
  statics := none }

def pool15 : Array CpInfo := pool [(2, .class_ 4), (1, u "java/lang/Object"), (0, u "<init>"), (0, u "()V"), (17, .class_ 26), (1, u "jdk/internal/util/Preconditions"), (28, .class_ 56), (0, u "jdk/internal/util/Preconditions$4"), (57, .class_ 115), (0, u "jdk/internal/util/Preconditions$1"), (7, u "SIOOBE_FORMATTER"), (0, u "Ljava/util/function/BiFunction;"), (0, .class_ 126), (0, u "jdk/internal/util/Preconditions$2"), (3, u "AIOOBE_FORMATTER"), (0, .class_ 132), (0, u "jdk/internal/util/Preconditions$3"), (3, u "IOOBE_FORMATTER")] 57

def k15m0 : Method := { name := "<init>", desc := "()V", sig := { parameters := [], returnType := none }, accessFlags := 1, code := none }
/-- jdk/internal/util/Preconditions -/
def k15 : Class := { plain "jdk/internal/util/Preconditions" (some 0) with
  accessFlags := 33
  interfaces := #[]
  cf := some (fileOf pool15 24 #[.nestMembers #[55, 131, 125, 114]] #[{ accessFlags := 1, nameIndex := 5, descriptorIndex := 6, attributes := #[] }] 33 2 #[] #[{ accessFlags := 25, nameIndex := 123, descriptorIndex := 124, attributes := #[] }, { accessFlags := 25, nameIndex := 130, descriptorIndex := 124, attributes := #[] }, { accessFlags := 25, nameIndex := 136, descriptorIndex := 124, attributes := #[] }])
  fields := #[{ name := "SIOOBE_FORMATTER", type := (.object "java/util/function/BiFunction"), accessFlags := 25, slot := 0, constantValue := 0 }, { name := "AIOOBE_FORMATTER", type := (.object "java/util/function/BiFunction"), accessFlags := 25, slot := 1, constantValue := 0 }, { name := "IOOBE_FORMATTER", type := (.object "java/util/function/BiFunction"), accessFlags := 25, slot := 2, constantValue := 0 }]
  methods := #[k15m0]
  instanceTypes := #[]
  staticTypes := #[(.object "java/util/function/BiFunction"), (.object "java/util/function/BiFunction"), (.object "java/util/function/BiFunction")]
  resolved := Array.replicate 194 none
  statics := some 1 }

def pool16 : Array CpInfo := pool [(1, u "java/lang/Cloneable"), (0, .class_ 1), (0, u "java/lang/Object"), (0, .class_ 3)] 3

/-- java/lang/Cloneable -/
def k16 : Class := { plain "java/lang/Cloneable" (some 0) with
  accessFlags := 1537
  interfaces := #[]
  cf := some (fileOf pool16 2 #[] #[] 1537 4 #[] #[])
  fields := #[]
  methods := #[]
  instanceTypes := #[]
  staticTypes := #[]
  resolved := Array.replicate 8 none
  statics := none }

/-- the primitive byte -/
def k17 : Class := { plain "byte" none with kind := .primitive 'B', accessFlags := 0x411 }
/-- [B -/
def k18 : Class := { plain "[B" (some 0) with kind := .array 17 .byte, interfaces := #[16, 2], accessFlags := 1041 }

/-- the primitive char -/
def k19 : Class := { plain "char" none with kind := .primitive 'C', accessFlags := 0x411 }
/-- [C -/
def k20 : Class := { plain "[C" (some 0) with kind := .array 19 .char, interfaces := #[16, 2], accessFlags := 1041 }

/-- the primitive int -/
def k21 : Class := { plain "int" none with kind := .primitive 'I', accessFlags := 0x411 }
/-- [I -/
def k22 : Class := { plain "[I" (some 0) with kind := .array 21 .int, interfaces := #[16, 2], accessFlags := 1041 }

def heap : Heap := #[{ cls := 7, slots := #[.long 0, .int 1, .null, .int 0, .null, .int 0, .int 0], vm := .statics 7 },
  { cls := 15, slots := #[.null, .null, .null], vm := .statics 15 }]
def classes : Array Class := #[k0, k1, k2, k3, k4, k5, k6, k7, k8, k9, k10, k11, k12, k13, k14, k15, k16, k17, k18, k19, k20, k21, k22]
def interned : List (Array UInt16 × Addr) := []
def slotsUsed : Nat := 10
def theMethod : MethodId := ⟨1, 1⟩
def args0 : Array Value := #[.int 5, .int 1, .int 2, .int 3]
def aboutOver (below : List Frame) : State where
  vm := { classes := classes, interned := interned.toArray }
  heap := heap
  slotsUsed := slotsUsed
  threads := #[{ frames := .invoking theMethod args0 :: below }]
def below0 : List Frame := [.native { method := ⟨0, 0⟩, args := #[] }]
def about1 : State := aboutOver below0
def p0 : Program := .bare "" "" ""
def e0 : Env := launch0.env 0 0 0
theorem w_frames : about1.frames = Frame.invoking theMethod args0 :: below0 := rfl
set_option maxRecDepth 65536 in
theorem w_args : argsFit about1.vm theMethod args0 = true := by decide +kernel
set_option maxRecDepth 65536 in
theorem w_heap : heapFits about1 = true := by decide +kernel
set_option maxRecDepth 65536 in
theorem w_runnable : about1.curStatus? = some .runnable := by decide +kernel
set_option maxRecDepth 65536 in
theorem w_alone : about1.alone = true := by decide +kernel
set_option maxRecDepth 65536 in
theorem w_named : about1.methodNamed? x = some theMethod := by decide +kernel
set_option maxRecDepth 65536 in
theorem w_hears : about1.hears theMethod below0 = true := by decide +kernel
set_option maxRecDepth 65536 in
theorem w_ripe : about1.ripe theMethod args0 below0 = true := by decide +kernel
theorem w_running : about1.status = .running := rfl
set_option maxRecDepth 65536 in
theorem w_room : about1.hasRoom e0.platform room_1 = true :=
  launch0.hasRoom_least _ room_1 (by decide +kernel) (by decide +kernel) (by decide +kernel) (by decide +kernel) (by decide +kernel) (by decide +kernel)
theorem allAtoms_all (ts : List Jvm.Cond) (a : Array Jvm.Value) (st : Jvm.State) : (allAtoms ts).before a st = ts.all (fun c => c.before a st) := by
  induction ts with
  | nil => rfl
  | cons c t ih =>
    show (Jvm.Cond.and c (allAtoms t)).before a st = _
    rw [Jvm.Cond.before_and, ih, List.all_cons]
def words1 : List Jvm.Cond := Jvm.Cond.code x code maxLocals ret :: tables_1
/-- a 'code' word, met by the world's own term for the bytes: nothing is compared byte by byte -/
theorem code_word {y : MethodName} {bytes : ByteArray} {mx : Nat} {rt : Option FieldType} {a : Array Value} {s : State} {m : MethodId} {meth : Method} {c : Code} (h1 : s.methodNamed? y = some m) (h2 : s.vm.method? m = some meth) (h3 : meth.code = some c) (h4 : c.code = bytes)
    (h5 : (c.maxLocals == mx && c.exceptionTable.isEmpty && decide (c.maxStack ≤ mostOperands) && decide (meth.sig.returnType = rt) && !meth.locks && decide (parseMethodDescriptor y.desc = some meth.sig)) = true) : (Jvm.Cond.code y bytes mx rt).before a s = true := by
  simp only [Bool.and_eq_true, beq_iff_eq, Bool.not_eq_true', decide_eq_true_eq] at h5
  obtain ⟨⟨⟨⟨⟨g1, g2⟩, g3⟩, g4⟩, g5⟩, g6⟩ := h5
  simp [Cond.before, Cond.holds, Cond.value, h1, h2, h3, h4, g1, g2, g3, g4, g5, g6]
def isCode : Jvm.Cond → Bool
  | .code _ _ _ _ => true
  | _ => false
theorem all_split {L : List Jvm.Cond} {P : Jvm.Cond → Bool} (h1 : L.all (fun c => isCode c || P c) = true) (h2 : ∀ c ∈ L.filter isCode, P c = true) : L.all P = true := by
  refine List.all_eq_true.mpr fun c hc => ?_
  have h := List.all_eq_true.mp h1 c hc
  rcases Bool.eq_false_or_eq_true (isCode c) with hi | hi
  · exact h2 c (List.mem_filter.mpr ⟨hc, hi⟩)
  · simpa [hi] using h
set_option maxRecDepth 65536 in
theorem w_c0 : (Jvm.Cond.code x code maxLocals ret).before args0 about1 = true := code_word (m := ⟨1, 1⟩) (meth := k1m1) (c := k1c1) (by decide +kernel) rfl rfl rfl (by decide +kernel)
set_option maxRecDepth 65536 in
theorem w_c1 : (Jvm.Cond.code ({ cls := "java/lang/String", name := "<init>", desc := "([C)V" } : Jvm.MethodName) jdk_42_method_3_code (2 : Nat) (Option.none : Option Jvm.ClassFile.FieldType)).before args0 about1 = true := code_word (m := ⟨7, 1⟩) (meth := k7m1) (c := k7c1) (by decide +kernel) rfl rfl rfl (by decide +kernel)
set_option maxRecDepth 65536 in
theorem w_c2 : (Jvm.Cond.code ({ cls := "java/lang/String", name := "<init>", desc := "([CIILjava/lang/Void;)V" } : Jvm.MethodName) jdk_42_method_149_code (6 : Nat) (Option.none : Option Jvm.ClassFile.FieldType)).before args0 about1 = true := code_word (m := ⟨7, 3⟩) (meth := k7m3) (c := k7c3) (by decide +kernel) rfl rfl rfl (by decide +kernel)
set_option maxRecDepth 65536 in
theorem w_c3 : (Jvm.Cond.code ({ cls := "java/lang/Object", name := "<init>", desc := "()V" } : Jvm.MethodName) object_method_1_code (1 : Nat) (Option.none : Option Jvm.ClassFile.FieldType)).before args0 about1 = true := code_word (m := ⟨0, 0⟩) (meth := k0m0) (c := k0c0) (by decide +kernel) rfl rfl rfl (by decide +kernel)
set_option maxRecDepth 65536 in
theorem w_c4 : (Jvm.Cond.code ({ cls := "java/lang/StringUTF16", name := "compress", desc := "([CII)[B" } : Jvm.MethodName) jdk_52_method_16_code (6 : Nat) (Option.some (Jvm.ClassFile.FieldType.array Jvm.ClassFile.FieldType.byte))).before args0 about1 = true := code_word (m := ⟨8, 2⟩) (meth := k8m2) (c := k8c2) (by decide +kernel) rfl rfl rfl (by decide +kernel)
set_option maxRecDepth 65536 in
theorem w_c5 : (Jvm.Cond.code ({ cls := "java/lang/StringUTF16", name := "compress", desc := "([CI[BII)I" } : Jvm.MethodName) jdk_52_method_21_code (7 : Nat) (Option.some Jvm.ClassFile.FieldType.int)).before args0 about1 = true := code_word (m := ⟨8, 3⟩) (meth := k8m3) (c := k8c3) (by decide +kernel) rfl rfl rfl (by decide +kernel)
set_option maxRecDepth 65536 in
theorem w_c6 : (Jvm.Cond.code ({ cls := "java/lang/StringUTF16", name := "coderFromArrayLen", desc := "([BI)B" } : Jvm.MethodName) jdk_52_method_15_code (2 : Nat) (Option.some Jvm.ClassFile.FieldType.byte)).before args0 about1 = true := code_word (m := ⟨8, 1⟩) (meth := k8m1) (c := k8c1) (by decide +kernel) rfl rfl rfl (by decide +kernel)
set_option maxRecDepth 65536 in
theorem w_c7 : (Jvm.Cond.code ({ cls := "com/example/westmount/westmount/RowRangeFirstPinLaw", name := "bytes", desc := "(II)[B" } : Jvm.MethodName) method_3_code (3 : Nat) (Option.some (Jvm.ClassFile.FieldType.array Jvm.ClassFile.FieldType.byte))).before args0 about1 = true := code_word (m := ⟨1, 2⟩) (meth := k1m2) (c := k1c2) (by decide +kernel) rfl rfl rfl (by decide +kernel)
set_option maxRecDepth 65536 in
theorem w_c8 : (Jvm.Cond.code ({ cls := "com/example/westmount/westmount/RowRange", name := "<init>", desc := "(Ljava/lang/String;[BZ[BZ)V" } : Jvm.MethodName) prog_13_method_1_code (6 : Nat) (Option.none : Option Jvm.ClassFile.FieldType)).before args0 about1 = true := code_word (m := ⟨10, 0⟩) (meth := k10m0) (c := k10c0) (by decide +kernel) rfl rfl rfl (by decide +kernel)
set_option maxRecDepth 65536 in
theorem w_c9 : (Jvm.Cond.code ({ cls := "java/lang/Record", name := "<init>", desc := "()V" } : Jvm.MethodName) jdk_30_method_1_code (1 : Nat) (Option.none : Option Jvm.ClassFile.FieldType)).before args0 about1 = true := code_word (m := ⟨9, 0⟩) (meth := k9m0) (c := k9c0) (by decide +kernel) rfl rfl rfl (by decide +kernel)
set_option maxRecDepth 65536 in
theorem w_c10 : (Jvm.Cond.code ({ cls := "com/example/westmount/westmount/RowRange", name := "first", desc := "()Lcom/example/westmount/westmount/RowKey;" } : Jvm.MethodName) prog_13_method_2_code (1 : Nat) (Option.some (Jvm.ClassFile.FieldType.object "com/example/westmount/westmount/RowKey"))).before args0 about1 = true := code_word (m := ⟨10, 1⟩) (meth := k10m1) (c := k10c1) (by decide +kernel) rfl rfl rfl (by decide +kernel)
set_option maxRecDepth 65536 in
theorem w_c11 : (Jvm.Cond.code ({ cls := "com/example/westmount/westmount/RowKey", name := "<init>", desc := "(Ljava/lang/String;[B)V" } : Jvm.MethodName) prog_12_method_1_code (3 : Nat) (Option.none : Option Jvm.ClassFile.FieldType)).before args0 about1 = true := code_word (m := ⟨11, 0⟩) (meth := k11m0) (c := k11c0) (by decide +kernel) rfl rfl rfl (by decide +kernel)
set_option maxRecDepth 65536 in
theorem w_c12 : (Jvm.Cond.code ({ cls := "com/example/westmount/westmount/RowKey", name := "table", desc := "()Ljava/lang/String;" } : Jvm.MethodName) prog_12_method_7_code (1 : Nat) (Option.some (Jvm.ClassFile.FieldType.object "java/lang/String"))).before args0 about1 = true := code_word (m := ⟨11, 2⟩) (meth := k11m2) (c := k11c2) (by decide +kernel) rfl rfl rfl (by decide +kernel)
set_option maxRecDepth 65536 in
theorem w_c13 : (Jvm.Cond.code ({ cls := "java/lang/String", name := "equals", desc := "(Ljava/lang/Object;)Z" } : Jvm.MethodName) jdk_42_method_66_code (3 : Nat) (Option.some Jvm.ClassFile.FieldType.boolean)).before args0 about1 = true := code_word (m := ⟨7, 2⟩) (meth := k7m2) (c := k7c2) (by decide +kernel) rfl rfl rfl (by decide +kernel)
set_option maxRecDepth 65536 in
theorem w_c14 : (Jvm.Cond.code ({ cls := "com/example/westmount/westmount/RowKey", name := "row", desc := "()[B" } : Jvm.MethodName) prog_12_method_8_code (1 : Nat) (Option.some (Jvm.ClassFile.FieldType.array Jvm.ClassFile.FieldType.byte))).before args0 about1 = true := code_word (m := ⟨11, 3⟩) (meth := k11m3) (c := k11c3) (by decide +kernel) rfl rfl rfl (by decide +kernel)
set_option maxRecDepth 65536 in
theorem w_c15 : (Jvm.Cond.code ({ cls := "com/example/westmount/westmount/RowRangeFirstPinLaw", name := "sameBytes", desc := "([BII)Z" } : Jvm.MethodName) method_4_code (3 : Nat) (Option.some Jvm.ClassFile.FieldType.boolean)).before args0 about1 = true := code_word (m := ⟨1, 3⟩) (meth := k1m3) (c := k1c3) (by decide +kernel) rfl rfl rfl (by decide +kernel)
set_option maxRecDepth 65536 in
theorem w_c16 : (Jvm.Cond.code ({ cls := "com/example/westmount/westmount/RowRange", name := "last", desc := "()Lcom/example/westmount/westmount/RowKey;" } : Jvm.MethodName) prog_13_method_3_code (1 : Nat) (Option.some (Jvm.ClassFile.FieldType.object "com/example/westmount/westmount/RowKey"))).before args0 about1 = true := code_word (m := ⟨10, 2⟩) (meth := k10m2) (c := k10c2) (by decide +kernel) rfl rfl rfl (by decide +kernel)
set_option maxRecDepth 65536 in
theorem w_c17 : (Jvm.Cond.code ({ cls := "com/example/westmount/westmount/RowKey", name := "equals", desc := "(Ljava/lang/Object;)Z" } : Jvm.MethodName) prog_12_method_3_code (3 : Nat) (Option.some Jvm.ClassFile.FieldType.boolean)).before args0 about1 = true := code_word (m := ⟨11, 1⟩) (meth := k11m1) (c := k11c1) (by decide +kernel) rfl rfl rfl (by decide +kernel)
set_option maxRecDepth 65536 in
theorem w_c18 : (Jvm.Cond.code ({ cls := "java/util/Arrays", name := "equals", desc := "([B[B)Z" } : Jvm.MethodName) jdk_65_method_89_code (3 : Nat) (Option.some Jvm.ClassFile.FieldType.boolean)).before args0 about1 = true := code_word (m := ⟨12, 1⟩) (meth := k12m1) (c := k12c1) (by decide +kernel) rfl rfl rfl (by decide +kernel)
set_option maxRecDepth 65536 in
theorem w_c19 : (Jvm.Cond.code ({ cls := "jdk/internal/util/ArraysSupport", name := "mismatch", desc := "([B[BI)I" } : Jvm.MethodName) jdk_48_method_13_code (4 : Nat) (Option.some Jvm.ClassFile.FieldType.int)).before args0 about1 = true := code_word (m := ⟨13, 1⟩) (meth := k13m1) (c := k13c1) (by decide +kernel) rfl rfl rfl (by decide +kernel)
def codes1 : List Jvm.Cond := [Jvm.Cond.code x code maxLocals ret, Jvm.Cond.code ({ cls := "java/lang/String", name := "<init>", desc := "([C)V" } : Jvm.MethodName) jdk_42_method_3_code (2 : Nat) (Option.none : Option Jvm.ClassFile.FieldType), Jvm.Cond.code ({ cls := "java/lang/String", name := "<init>", desc := "([CIILjava/lang/Void;)V" } : Jvm.MethodName) jdk_42_method_149_code (6 : Nat) (Option.none : Option Jvm.ClassFile.FieldType), Jvm.Cond.code ({ cls := "java/lang/Object", name := "<init>", desc := "()V" } : Jvm.MethodName) object_method_1_code (1 : Nat) (Option.none : Option Jvm.ClassFile.FieldType), Jvm.Cond.code ({ cls := "java/lang/StringUTF16", name := "compress", desc := "([CII)[B" } : Jvm.MethodName) jdk_52_method_16_code (6 : Nat) (Option.some (Jvm.ClassFile.FieldType.array Jvm.ClassFile.FieldType.byte)), Jvm.Cond.code ({ cls := "java/lang/StringUTF16", name := "compress", desc := "([CI[BII)I" } : Jvm.MethodName) jdk_52_method_21_code (7 : Nat) (Option.some Jvm.ClassFile.FieldType.int), Jvm.Cond.code ({ cls := "java/lang/StringUTF16", name := "coderFromArrayLen", desc := "([BI)B" } : Jvm.MethodName) jdk_52_method_15_code (2 : Nat) (Option.some Jvm.ClassFile.FieldType.byte), Jvm.Cond.code ({ cls := "com/example/westmount/westmount/RowRangeFirstPinLaw", name := "bytes", desc := "(II)[B" } : Jvm.MethodName) method_3_code (3 : Nat) (Option.some (Jvm.ClassFile.FieldType.array Jvm.ClassFile.FieldType.byte)), Jvm.Cond.code ({ cls := "com/example/westmount/westmount/RowRange", name := "<init>", desc := "(Ljava/lang/String;[BZ[BZ)V" } : Jvm.MethodName) prog_13_method_1_code (6 : Nat) (Option.none : Option Jvm.ClassFile.FieldType), Jvm.Cond.code ({ cls := "java/lang/Record", name := "<init>", desc := "()V" } : Jvm.MethodName) jdk_30_method_1_code (1 : Nat) (Option.none : Option Jvm.ClassFile.FieldType), Jvm.Cond.code ({ cls := "com/example/westmount/westmount/RowRange", name := "first", desc := "()Lcom/example/westmount/westmount/RowKey;" } : Jvm.MethodName) prog_13_method_2_code (1 : Nat) (Option.some (Jvm.ClassFile.FieldType.object "com/example/westmount/westmount/RowKey")), Jvm.Cond.code ({ cls := "com/example/westmount/westmount/RowKey", name := "<init>", desc := "(Ljava/lang/String;[B)V" } : Jvm.MethodName) prog_12_method_1_code (3 : Nat) (Option.none : Option Jvm.ClassFile.FieldType), Jvm.Cond.code ({ cls := "com/example/westmount/westmount/RowKey", name := "table", desc := "()Ljava/lang/String;" } : Jvm.MethodName) prog_12_method_7_code (1 : Nat) (Option.some (Jvm.ClassFile.FieldType.object "java/lang/String")), Jvm.Cond.code ({ cls := "java/lang/String", name := "equals", desc := "(Ljava/lang/Object;)Z" } : Jvm.MethodName) jdk_42_method_66_code (3 : Nat) (Option.some Jvm.ClassFile.FieldType.boolean), Jvm.Cond.code ({ cls := "com/example/westmount/westmount/RowKey", name := "row", desc := "()[B" } : Jvm.MethodName) prog_12_method_8_code (1 : Nat) (Option.some (Jvm.ClassFile.FieldType.array Jvm.ClassFile.FieldType.byte)), Jvm.Cond.code ({ cls := "com/example/westmount/westmount/RowRangeFirstPinLaw", name := "sameBytes", desc := "([BII)Z" } : Jvm.MethodName) method_4_code (3 : Nat) (Option.some Jvm.ClassFile.FieldType.boolean), Jvm.Cond.code ({ cls := "com/example/westmount/westmount/RowRange", name := "last", desc := "()Lcom/example/westmount/westmount/RowKey;" } : Jvm.MethodName) prog_13_method_3_code (1 : Nat) (Option.some (Jvm.ClassFile.FieldType.object "com/example/westmount/westmount/RowKey")), Jvm.Cond.code ({ cls := "com/example/westmount/westmount/RowKey", name := "equals", desc := "(Ljava/lang/Object;)Z" } : Jvm.MethodName) prog_12_method_3_code (3 : Nat) (Option.some Jvm.ClassFile.FieldType.boolean), Jvm.Cond.code ({ cls := "java/util/Arrays", name := "equals", desc := "([B[B)Z" } : Jvm.MethodName) jdk_65_method_89_code (3 : Nat) (Option.some Jvm.ClassFile.FieldType.boolean), Jvm.Cond.code ({ cls := "jdk/internal/util/ArraysSupport", name := "mismatch", desc := "([B[BI)I" } : Jvm.MethodName) jdk_48_method_13_code (4 : Nat) (Option.some Jvm.ClassFile.FieldType.int)]
set_option maxRecDepth 65536 in
theorem codes_eq : words1.filter isCode = codes1 := rfl
theorem w_codes : ∀ c ∈ words1.filter isCode, c.before args0 about1 = true := by
  rw [codes_eq]
  intro c hc
  simp only [codes1, List.mem_cons, List.not_mem_nil, or_false] at hc
  rcases hc with rfl | rfl | rfl | rfl | rfl | rfl | rfl | rfl | rfl | rfl | rfl | rfl | rfl | rfl | rfl | rfl | rfl | rfl | rfl | rfl
  · exact w_c0
  · exact w_c1
  · exact w_c2
  · exact w_c3
  · exact w_c4
  · exact w_c5
  · exact w_c6
  · exact w_c7
  · exact w_c8
  · exact w_c9
  · exact w_c10
  · exact w_c11
  · exact w_c12
  · exact w_c13
  · exact w_c14
  · exact w_c15
  · exact w_c16
  · exact w_c17
  · exact w_c18
  · exact w_c19
set_option maxRecDepth 65536 in
theorem w_t1 : (words1.take 24).all (fun c => isCode c || c.before args0 about1) = true := by decide +kernel
set_option maxRecDepth 65536 in
theorem w_t2 : ((words1.drop 24).take 24).all (fun c => isCode c || c.before args0 about1) = true := by decide +kernel
set_option maxRecDepth 65536 in
theorem w_t3 : (((words1.drop 24).drop 24).take 24).all (fun c => isCode c || c.before args0 about1) = true := by decide +kernel
set_option maxRecDepth 65536 in
theorem w_t4 : ((((words1.drop 24).drop 24).drop 24).take 24).all (fun c => isCode c || c.before args0 about1) = true := by decide +kernel
set_option maxRecDepth 65536 in
theorem w_t5 : ((((words1.drop 24).drop 24).drop 24).drop 24).all (fun c => isCode c || c.before args0 about1) = true := by decide +kernel
theorem w_tables : (allAtoms (Jvm.Cond.code x code maxLocals ret :: tables_1)).before args0 about1 = true := by
  rw [allAtoms_all]
  show words1.all (fun c => c.before args0 about1) = true
  refine all_split ?_ w_codes
  rw [← List.take_append_drop 24 words1, List.all_append, w_t1, ← List.take_append_drop 24 (words1.drop 24), List.all_append, w_t2, ← List.take_append_drop 24 ((words1.drop 24).drop 24), List.all_append, w_t3, ← List.take_append_drop 24 (((words1.drop 24).drop 24).drop 24), List.all_append, w_t4, w_t5]
  rfl
set_option maxRecDepth 65536 in
theorem w_rest : rest_1_c.before args0 about1 = true := by decide +kernel
set_option maxRecDepth 65536 in
theorem w_case : (Jvm.Cond.and given_1 narrow_1).before args0 about1 = true := by decide +kernel
set_option maxRecDepth 65536 in
theorem w_consts : constsHeld consts_1 about1 := Jvm.Lit.constsHeldB_iff.mp (by decide +kernel)
theorem w_applies : (headSpec (Jvm.Cond.code x code maxLocals ret :: tables_1) room_1).applies x e0.platform about1 = true :=
  (Spec.applies_iff w_frames).mpr ⟨w_running, w_runnable, w_alone, w_named, w_hears, w_ripe, w_room, w_tables⟩
theorem atStart : AtStart classFile x code maxLocals ret World_1 tables_1 room_1 Calls_1 rest_1 Pre_1 launch0 p0 e0 about1 theMethod args0 below0 :=
  ⟨lists_1, trivial, launch0.admits_env _ _ _, launch0.least_env, fairChoices_fair.cas, fairChoices_fair.clock, w_frames, w_args, w_heap, w_applies, ⟨w_consts, trivial⟩, w_rest, w_case⟩
end start1
theorem witness_1 : WitnessClaimed_1 := ⟨start1.p0, start1.e0, start1.about1, start1.theMethod, start1.args0, start1.below0, start1.atStart⟩
end Jvm.Pilot.@@N@@
