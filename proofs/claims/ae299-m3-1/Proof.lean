import JvmDerived
import JvmDerived.Pilot.@@N@@Statement
import JvmDerived.Pilot.@@N@@Code
set_option linter.unusedVariables false
set_option linter.unusedSimpArgs false
@@BLOCK:TracedD.lean.txt@@
namespace Jvm.Pilot.@@N@@
open Jvm Jvm.ClassFile Sem Op Lib Jvm.Free Jvm.Stand Jvm.LawKit Jvm.RoadKit Bundle Jvm.Pilot.@@N@@.Jvm.D
/-- from the frame g at T the run reaches a state of which P holds -/
def own_Go (p : Program) (e : Env) (below : List Frame) (P : State → Outcome → Prop) (T : State) (g : JFrame) : Prop := ∃ t o, Steps p.tables e below (T.setTop g) t ∧ P t o
/-- the run has left the method: what it returned, the heap and the places written are as Q says -/
def own_P (s : State) (below : List Frame) (R : Room) (Q : Option Value → Heap → List Loc → Prop) (t : State) (o : Outcome) : Prop := t.status = .running ∧ Ended t below o ∧ ∃ v L, o = .returned v ∧ Q v t.heap L ∧ FrameEnd s o t L R.cells R.slots
section OwnKit
variable {p : Program} {l : Launch} {e : Env} {R : Room} {s : State} {m : MethodId} {args : Array Value} {below : List Frame} {meth : Method} {c : Code} {T T' : State} {locs : List Loc} {cells slots : Nat} {P : State → Outcome → Prop} {g g' : JFrame}
theorem own_by (k : ∀ t, Steps p.tables e below (T'.setTop g') t → Steps p.tables e below (T.setTop g) t) (h : own_Go p e below P T' g') : own_Go p e below P T g := by
  obtain ⟨t, o, st, q⟩ := h
  exact ⟨t, o, k t st, q⟩
theorem own_via (k : Steps p.tables e below (T.setTop g) (T'.setTop g')) (h : own_Go p e below P T' g') : own_Go p e below P T g := own_by (fun _ st => k.trans st) h
theorem own_in (q : g = g') (h : own_Go p e below P T g') : own_Go p e below P T g := q ▸ h
theorem own_out {v : Option Value} {Q : Option Value → Heap → List Loc → Prop} (X : Stand p l e R s m args below meth c T locs cells slots) (hv : meth.sig.returnType = none → v = none) (hlk : meth.locks = false) (hc : cells ≤ R.cells) (hs : slots ≤ R.slots) (q : Q v T.heap locs)
    (k : ∀ fs, (∀ (f : JFrame) (acts : List Action), f.method = m → f.locked = none → f.entered = [] → (doReturn e (T.setTop f) acts v).1 = T.setFrames fs) → Steps p.tables e below (T.setTop g) (T.setFrames fs)) : own_Go p e below (own_P s below R Q) T g := by
  obtain ⟨fs, hr, hrun, hended, hW, hsame⟩ := X.leave (v := v) hv hlk
  exact ⟨_, _, k fs hr, hrun, hended, _, _, rfl, q, ⟨_, rfl⟩, hW, hsame.mono hc hs⟩
theorem own_some {t : FieldType} {w : Value} (h : meth.sig.returnType = some t) : meth.sig.returnType = none → some w = none := fun q => by rw [h] at q; cases q
theorem own_retN {pc : Nat} {Ls : Array Slot} {z : Int32} {t : FieldType} {rest : List Value} {Q : Option Value → Heap → List Loc → Prop} (X : Stand p l e R s m args below meth c T locs cells slots) (hx : p.tables.exec = Jvm.exec) (hret : meth.sig.returnType = some t) (ht : t = .boolean ∨ t = .byte ∨ t = .char ∨ t = .short)
    (hd : decode c.code pc = .ok (.ireturn, 1)) (hlk : meth.locks = false) (hc : cells ≤ R.cells) (hs : slots ≤ R.slots) (q : Q (some (.int (nar t z))) T.heap locs) : own_Go p e below (own_P s below R Q) T (mkF m pc Ls (.int z :: rest)) :=
  own_out X (own_some hret) hlk hc hs q fun _ hr => retN X hx hret ht hd hr
theorem own_retI {pc : Nat} {Ls : Array Slot} {z : Int32} {rest : List Value} {Q : Option Value → Heap → List Loc → Prop} (X : Stand p l e R s m args below meth c T locs cells slots) (hx : p.tables.exec = Jvm.exec) (hret : meth.sig.returnType = some .int)
    (hd : decode c.code pc = .ok (.ireturn, 1)) (hlk : meth.locks = false) (hc : cells ≤ R.cells) (hs : slots ≤ R.slots) (q : Q (some (.int z)) T.heap locs) : own_Go p e below (own_P s below R Q) T (mkF m pc Ls (.int z :: rest)) :=
  own_out X (own_some hret) hlk hc hs q fun _ hr => retOut X hx hret rfl (Or.inl ⟨rfl, Or.inl rfl, _, rfl⟩) hd hr
theorem own_retJ {pc : Nat} {Ls : Array Slot} {z : Int64} {rest : List Value} {Q : Option Value → Heap → List Loc → Prop} (X : Stand p l e R s m args below meth c T locs cells slots) (hx : p.tables.exec = Jvm.exec) (hret : meth.sig.returnType = some .long)
    (hd : decode c.code pc = .ok (.lreturn, 1)) (hlk : meth.locks = false) (hc : cells ≤ R.cells) (hs : slots ≤ R.slots) (q : Q (some (.long z)) T.heap locs) : own_Go p e below (own_P s below R Q) T (mkF m pc Ls (.long z :: rest)) :=
  own_out X (own_some hret) hlk hc hs q fun _ hr => retOut X hx hret rfl (Or.inr (Or.inl ⟨rfl, rfl, _, rfl⟩)) hd hr
theorem own_retR {pc : Nat} {Ls : Array Slot} {w : Value} {t : FieldType} {rest : List Value} {Q : Option Value → Heap → List Loc → Prop} (X : Stand p l e R s m args below meth c T locs cells slots) (hx : p.tables.exec = Jvm.exec) (hret : meth.sig.returnType = some t) (ht : t.isReference = true) (hw : w.isRef = true) (hn : narrow t w = w)
    (hd : decode c.code pc = .ok (.areturn, 1)) (hlk : meth.locks = false) (hc : cells ≤ R.cells) (hs : slots ≤ R.slots) (q : Q (some w) T.heap locs) : own_Go p e below (own_P s below R Q) T (mkF m pc Ls (w :: rest)) :=
  own_out X (own_some hret) hlk hc hs q fun _ hr => retOut X hx hret hn (Or.inr (Or.inr (Or.inr (Or.inr ⟨rfl, ht, hw⟩)))) hd hr
theorem own_ret0 {pc : Nat} {Ls : Array Slot} {Q : Option Value → Heap → List Loc → Prop} (X : Stand p l e R s m args below meth c T locs cells slots) (hx : p.tables.exec = Jvm.exec) (hret : meth.sig.returnType = none)
    (hd : decode c.code pc = .ok (.return_, 1)) (hlk : meth.locks = false) (hc : cells ≤ R.cells) (hs : slots ≤ R.slots) (q : Q none T.heap locs) : own_Go p e below (own_P s below R Q) T (mkF m pc Ls []) :=
  own_out X (fun _ => rfl) hlk hc hs q fun _ hr => X.returnOut hx hret hd hr
theorem own_hide {n0 : Nat} (X : Stand p l e R s m args below meth c T locs cells slots) (N : Fr n0 locs) : ∃ L, Stand p l e R s m args below meth c T L cells slots ∧ Fr n0 L := ⟨locs, X, N⟩
theorem own_cat1 {v : Value} (h : v.isRef = true) : v.category = 1 := by
  cases v <;> first | rfl | (simp [Value.isRef] at h)
theorem own_fitsR {C : String} {v : Value} (h : v.isRef = true) : fits (.object C) v = true := by
  cases v <;> first | rfl | (simp [Value.isRef] at h)
theorem own_tab (xs : List Int32) (d : Int32) (k : Nat) : (xs.map Value.int).getD k (.int d) = .int (xs.getD k d) := by
  simp only [List.getD_eq_getElem?_getD, List.getElem?_map]
  cases xs[k]? <;> rfl
end OwnKit
/-- as own_P, of a walk that may have loaded String constants: those of EL stay what they say -/
def own_PW (Z : State) (EL : List (String × Nat)) (s : State) (below : List Frame) (R : Room) (Q : Option Value → Heap → List Loc → Prop) (t : State) (o : Outcome) : Prop := t.status = .running ∧ Ended t below o ∧ ∃ v L, o = .returned v ∧ Q v t.heap L ∧ CHr Z EL s.vm s.heap t.vm t.heap ∧ ReturnedEndW s o t L R.cells R.slots
section OwnHeld
variable {p : Program} {l : Launch} {e : Env} {R : Room} {s : State} {m : MethodId} {args : Array Value} {below : List Frame} {meth : Method} {c : Code} {T : State} {locs : List Loc} {cells slots : Nat} {g : JFrame} {Z : State} {a0 : Array Value} {EL : List (String × Nat)} {vm0 : Vm} {k0 : Nat} {h h0 : Heap} {Q : Option Value → Heap → List Loc → Prop}
theorem own_outW {v : Option Value} (X : Stand p l e R (s.setVm vm0) m args below meth c T locs cells slots) (hZ : Z.Warmed39 vm0) (hEL : EW Z a0 EL) (hS : s.Since vm0 k0) (hk : k0 ≤ h.size) (eT : T.heap = h) (C : CHr Z EL s.vm h0 vm0 h) (eh : s.heap = h0) (hv : meth.sig.returnType = none → v = none) (hlk : meth.locks = false) (hc : cells ≤ R.cells) (hs : slots ≤ R.slots) (q : Q v T.heap locs)
    (k : ∀ fs, (∀ (f : JFrame) (acts : List Action), f.method = m → f.locked = none → f.entered = [] → (doReturn e (T.setTop f) acts v).1 = T.setFrames fs) → Steps p.tables e below (T.setTop g) (T.setFrames fs)) : own_Go p e below (own_PW Z EL s below R Q) T g := by
  subst eT eh
  obtain ⟨fs, hr, hrun, hended, hE⟩ := X.leaveW hS hk (v := v) hv hlk
  exact ⟨_, _, k fs hr, hrun, hended, _, _, rfl, q, C.trans (show CHr Z EL vm0 T.heap T.vm T.heap from CHv.at X hZ hEL C.1), hE.1, hE.2.1, hE.2.2.1, hE.2.2.2.mono hc hs⟩
theorem own_retNW {pc : Nat} {Ls : Array Slot} {z : Int32} {t : FieldType} {rest : List Value} (X : Stand p l e R (s.setVm vm0) m args below meth c T locs cells slots) (hZ : Z.Warmed39 vm0) (hEL : EW Z a0 EL) (hS : s.Since vm0 k0) (hk : k0 ≤ h.size) (eT : T.heap = h) (C : CHr Z EL s.vm h0 vm0 h) (eh : s.heap = h0) (hx : p.tables.exec = Jvm.exec) (hret : meth.sig.returnType = some t) (ht : t = .boolean ∨ t = .byte ∨ t = .char ∨ t = .short)
    (hd : decode c.code pc = .ok (.ireturn, 1)) (hlk : meth.locks = false) (hc : cells ≤ R.cells) (hs : slots ≤ R.slots) (q : Q (some (.int (nar t z))) T.heap locs) : own_Go p e below (own_PW Z EL s below R Q) T (mkF m pc Ls (.int z :: rest)) :=
  own_outW X hZ hEL hS hk eT C eh (own_some hret) hlk hc hs q fun _ hr => retN X hx hret ht hd hr
theorem own_retIW {pc : Nat} {Ls : Array Slot} {z : Int32} {rest : List Value} (X : Stand p l e R (s.setVm vm0) m args below meth c T locs cells slots) (hZ : Z.Warmed39 vm0) (hEL : EW Z a0 EL) (hS : s.Since vm0 k0) (hk : k0 ≤ h.size) (eT : T.heap = h) (C : CHr Z EL s.vm h0 vm0 h) (eh : s.heap = h0) (hx : p.tables.exec = Jvm.exec) (hret : meth.sig.returnType = some .int)
    (hd : decode c.code pc = .ok (.ireturn, 1)) (hlk : meth.locks = false) (hc : cells ≤ R.cells) (hs : slots ≤ R.slots) (q : Q (some (.int z)) T.heap locs) : own_Go p e below (own_PW Z EL s below R Q) T (mkF m pc Ls (.int z :: rest)) :=
  own_outW X hZ hEL hS hk eT C eh (own_some hret) hlk hc hs q fun _ hr => retOut X hx hret rfl (Or.inl ⟨rfl, Or.inl rfl, _, rfl⟩) hd hr
theorem own_retRW {pc : Nat} {Ls : Array Slot} {w : Value} {t : FieldType} {rest : List Value} (X : Stand p l e R (s.setVm vm0) m args below meth c T locs cells slots) (hZ : Z.Warmed39 vm0) (hEL : EW Z a0 EL) (hS : s.Since vm0 k0) (hk : k0 ≤ h.size) (eT : T.heap = h) (C : CHr Z EL s.vm h0 vm0 h) (eh : s.heap = h0) (hx : p.tables.exec = Jvm.exec) (hret : meth.sig.returnType = some t) (ht : t.isReference = true) (hw : w.isRef = true) (hn : narrow t w = w)
    (hd : decode c.code pc = .ok (.areturn, 1)) (hlk : meth.locks = false) (hc : cells ≤ R.cells) (hs : slots ≤ R.slots) (q : Q (some w) T.heap locs) : own_Go p e below (own_PW Z EL s below R Q) T (mkF m pc Ls (w :: rest)) :=
  own_outW X hZ hEL hS hk eT C eh (own_some hret) hlk hc hs q fun _ hr => retOut X hx hret hn (Or.inr (Or.inr (Or.inr (Or.inr ⟨rfl, ht, hw⟩)))) hd hr
theorem own_ret0W {pc : Nat} {Ls : Array Slot} (X : Stand p l e R (s.setVm vm0) m args below meth c T locs cells slots) (hZ : Z.Warmed39 vm0) (hEL : EW Z a0 EL) (hS : s.Since vm0 k0) (hk : k0 ≤ h.size) (eT : T.heap = h) (C : CHr Z EL s.vm h0 vm0 h) (eh : s.heap = h0) (hx : p.tables.exec = Jvm.exec) (hret : meth.sig.returnType = none)
    (hd : decode c.code pc = .ok (.return_, 1)) (hlk : meth.locks = false) (hc : cells ≤ R.cells) (hs : slots ≤ R.slots) (q : Q none T.heap locs) : own_Go p e below (own_PW Z EL s below R Q) T (mkF m pc Ls []) :=
  own_outW X hZ hEL hS hk eT C eh (fun _ => rfl) hlk hc hs q fun _ hr => X.returnOut hx hret hd hr
end OwnHeld
theorem own_atoms {Z : State} {a0 : Array Value} (hw : ∀ d ∈ tables_1, d.before a0 Z = true) : ∀ d ∈ Bundle.stringAtoms, d.before a0 Z = true := fun d hd => hw d ((by decide +kernel : ∀ d ∈ Bundle.stringAtoms, d ∈ tables_1) d hd)
def own_EL : List (String × Nat) := []
theorem own_ew {Z : State} {a0 : Array Value} (hw : ∀ d ∈ tables_1, d.before a0 Z = true) : EW Z a0 own_EL := EW.nil
theorem own_ch0 {Z : State} {vm vm1 : Vm} {h h' : Heap} (k : h.size ≤ h'.size) : CHr Z own_EL vm h vm1 h' := ⟨fun _ hp => (List.not_mem_nil hp).elim, k, fun _ B => by obtain ⟨_, hp, _⟩ := B; exact (List.not_mem_nil hp).elim⟩
def own_EN1 (Z : State) (wNON_EXISTENT_QUEUE : Addr) : Prop := Sta Z Z.heap "com/example/buzon/buzon/engine/ApiError" "NON_EXISTENT_QUEUE" "Lcom/example/buzon/buzon/engine/ApiError;" (.ref wNON_EXISTENT_QUEUE) ∧ Exa Z Z.heap wNON_EXISTENT_QUEUE "com/example/buzon/buzon/engine/ApiError"
def own_EN (Z : State) (wNON_EXISTENT_QUEUE : Addr) : Prop := own_EN1 Z wNON_EXISTENT_QUEUE
theorem own_len {s : State} {args : Array Value} {t : Term} {a : Addr} {cl : Cell} {ty : FieldType} {z : Int32} (ht : t.eval args s none [] s = some (.ref a)) (A : Arr s s.heap a cl ty) (h : (Term.length t).eval args s none [] s = some (.int z)) : cl.slots.size < 2 ^ 31 ∧ cl.slots.size.toInt32 = z := by
  have hl : cl.slots.size < 2 ^ 31 := Jvm.Free.SBG.length_lt ht (A.fin (Vm.Alike.refl _)) h
  exact ⟨hl, Value.int.inj (Option.some.inj ((len_f ht (A.fin (Vm.Alike.refl _)) hl).symm.trans h))⟩
theorem own_elem {s : State} {args : Array Value} {t u : Term} {a w : Addr} {cl : Cell} {ty : FieldType} {j : Int32} (ht : t.eval args s none [] s = some (.ref a)) (hu : u.eval args s none [] s = some (.ref w)) (A : Arr s s.heap a cl ty) (h : (Cond.eq (.elem t (.int j)) u).value args s none s [] = some true) : cl.slots[j.toNatClampNeg]? = some (.ref w) := by
  obtain ⟨x, y, e1, e2, k1, k2⟩ := cmp_v (Or.inl h)
  cases hu.symm.trans e2
  have hx : x.isRef = true := k2.2
  have e := gotT (eq_R e1 e2 hx rfl) h
  rw [e] at e1
  exact (elem_in e1 ht (Term.int_eval j) A.1).2
/-- what the library's law of fillInStackTrace() asks of class Throwable, out of the words that this statement holds (the fields' places are read off the receiver's class rc) -/
theorem own_bundle {s : State} {args : Array Value} {pl : Platform} {rc : String} (ho : pl.frameOwnsMonitors = true) (hn : pl.finalization = false) (hp : pl.magicAccessors = ({} : Platform).magicAccessors)
    (w0 : (Jvm.Cond.initialized tN).before args s = true) (w1 : (Jvm.Cond.superclass tN "java/lang/Object").before args s = true) (w2 : (Jvm.Cond.instanceMethod tFill).before args s = true) (w3 : (Jvm.Cond.codeSync tFill LibCode.Throwable.Fill.code 1 (some (.object tN))).before args s = true)
    (w4 : (Jvm.Cond.instanceMethod tFill0).before args s = true) (w5 : (Jvm.Cond.native tFill0).before args s = true) (w6 : (Jvm.Cond.instanceMethod oInit).before args s = true) (w7 : (Jvm.Cond.code oInit ⟨#[0xb1]⟩ 1 none).before args s = true)
    (m1 : (Jvm.Cond.methodLink tN 1 oInit).before args s = true) (m2 : (Jvm.Cond.methodLink tN 27 tFill).before args s = true) (m3 : (Jvm.Cond.methodLink tN 202 tFill0).before args s = true)
    (f1 : (Jvm.Cond.fieldLink tN 7 tN "cause" Exc.thD).before args s = true) (y1 : (Jvm.Cond.lays rc tN "cause" Exc.thD).before args s = true) (f2 : (Jvm.Cond.fieldLink tN 17 tN "stackTrace" steD).before args s = true) (y2 : (Jvm.Cond.lays rc tN "stackTrace" steD).before args s = true)
    (f3 : (Jvm.Cond.fieldLink tN 24 tN "suppressedExceptions" listD).before args s = true) (y3 : (Jvm.Cond.lays rc tN "suppressedExceptions" listD).before args s = true) (f4 : (Jvm.Cond.fieldLink tN 13 tN "UNASSIGNED_STACK" steD).before args s = true) (y4 : (Jvm.Cond.laysStatic tN "UNASSIGNED_STACK" steD).before args s = true)
    (f5 : (Jvm.Cond.fieldLink tN 20 tN "SUPPRESSED_SENTINEL" listD).before args s = true) (y5 : (Jvm.Cond.laysStatic tN "SUPPRESSED_SENTINEL" listD).before args s = true) (y6 : (Jvm.Cond.lays rc tN "detailMessage" Exc.msgD).before args s = true) :
    ∃ B : ThrowableC, B.Links pl s ∧ s.vm.findClass tN = some B.cT ∧ s.methodNamed? tFill = some B.fill ∧ s.methodNamed? tFill0 = some B.fill0 ∧ s.fieldFound? tN "stackTrace" steD = some (B.cT, B.kT, B.i17, B.fStack) ∧ s.fieldFound? tN "UNASSIGNED_STACK" steD = some (B.cT, B.kT, B.i13, B.fUnassigned) := by
  -- the class
  obtain ⟨⟨cC, jN⟩, dN, nN, aN, isN, cN, lN, sN⟩ := Jvm.Cond.native_spec w5
  have fT := findClass_of_methodNamed nN
  obtain ⟨K, hK, nameK⟩ := Vm.findClass_spec fT
  obtain ⟨-, K', -, -, hK', -, -, -, -, faceK⟩ := Jvm.Cond.superclass_spec fT w1
  cases hK.symm.trans hK'
  -- its two methods, and Object's constructor
  obtain ⟨jF, dF, nF, aF, tF, stF, abF, -, -⟩ := Jvm.Cond.ownMethod (x := tFill) fT hK w2
  obtain ⟨dF', uF, aF', cF, bF, xF, rF, lF, -, gF⟩ := Jvm.Cond.codeSync_spec nF w3
  cases aF.symm.trans aF'
  obtain ⟨j0, d0, n0, a0', t0, st0, ab0, nm0, ds0⟩ := Jvm.Cond.ownMethod (x := tFill0) fT hK w4
  obtain rfl : jN = j0 := by simpa using Option.some.inj (nN.symm.trans n0)
  cases aN.symm.trans a0'
  obtain ⟨mO, dO, nO, aO, stO, abO⟩ := Jvm.Cond.instanceMethod_spec w6
  obtain ⟨dO', uO, aO', cO, bO, -, -, lO, -, gO⟩ := Jvm.Cond.code_spec nO w7
  cases aO.symm.trans aO'
  obtain ⟨KO, hKO, nameO⟩ := Vm.findClass_spec (findClass_of_methodNamed nO)
  have names := name_of_methodNamed nO aO
  -- the links of its pool
  obtain ⟨q1, r1, P1, l1, g1, e1, p1⟩ := Jvm.Cond.linkedMethod fT hK nO m1 pl hp
  obtain ⟨q2, r2, P2, l2, g2, e2, p2⟩ := Jvm.Cond.linkedMethod fT hK nF m2 pl hp
  obtain ⟨q3, r3, P3, l3, g3, e3, p3⟩ := Jvm.Cond.linkedMethod fT hK nN m3 pl hp
  cases e1.symm.trans e2
  cases e1.symm.trans e3
  have ty1 : parseFieldDescriptor Exc.thD = some (.object tN) := by decide +kernel
  have ty2 : parseFieldDescriptor steD = some (.array (.object "java/lang/StackTraceElement")) := by decide +kernel
  have ty3 : parseFieldDescriptor listD = some (.object "java/util/List") := by decide +kernel
  obtain ⟨b1, i1, F1, k1, z1, at1, s1, u1, -, -, -⟩ := Jvm.Cond.ownField fT hK ty1 f1 y1 pl hp
  obtain ⟨b2, i2, F2, k2, z2, at2, s2, u2, v2, -, ff2⟩ := Jvm.Cond.ownField fT hK ty2 f2 y2 pl hp
  obtain ⟨b3, i3, F3, k3, z3, at3, s3, u3, v3, -, ff3⟩ := Jvm.Cond.ownField fT hK ty3 f3 y3 pl hp
  obtain ⟨b4, i4, F4, cell, -, k4, z4, at4, s4, -, -, sta, -, -, -, -, ff4⟩ := Jvm.Cond.ownStatic fT hK ty2 f4 y4 pl hp
  obtain ⟨b5, i5, F5, -, -, k5, z5, at5, s5, -, -, -, -, -, -, -, -⟩ := Jvm.Cond.ownStatic fT hK ty3 f5 y5 pl hp
  obtain ⟨cR, kR, -, -, -, FM, hR, hkR, -, sM, uM, -⟩ := Jvm.Cond.lays_spec y6
  -- stackTrace and suppressedExceptions lie apart, in rc
  obtain ⟨-, D2, hD2, nD2⟩ := Jvm.Cond.laysAt hR hkR ff2 y2
  obtain ⟨-, D3, hD3, nD3⟩ := Jvm.Cond.laysAt hR hkR ff3 y3
  have apart := Jvm.Cond.laysApart hD2 hD3 nD2 nD3 (by rw [v2, v3]; decide)
  have oneSig : ∀ {x : MethodName} {d : Method} {ps : List FieldType} {r : Option FieldType}, parseMethodDescriptor x.desc = some ⟨ps, r⟩ → parseMethodDescriptor x.desc = some d.sig → d.sig.parameters = ps := fun h1 h2 => by rw [h1] at h2; rw [← Option.some.inj h2]
  have pF : dF.sig.parameters = [] := oneSig (x := tFill) (ps := []) (r := some (.object tN)) (by decide +kernel) gF
  have pN : dN.sig.parameters = [.int] := oneSig (x := tFill0) (ps := [.int]) (r := some (.object tN)) (by decide +kernel) sN
  have pO : dO.sig.parameters.length = 0 := congrArg List.length (oneSig (x := oInit) (ps := []) (r := none) (by decide +kernel) gO)
  have boot := Vm.findClass_boot fT hK
  have ini := Jvm.Cond.initialized_spec fT hK w0
  have nmO := names.1
  have fnd : lookupSpecial s.vm mO.cls "<init>" dO.desc = .method mO := by rw [names.2]; exact lookupSpecial_of_named nO aO stO
  refine ⟨{ cT := cC, kT := K, cO := cC, aS := cell, fillIdx := jF, fill0Idx := jN, initSIdx := jF, obj := mO, kObj := KO, methFill := dF, methFill0 := dN, methInitS := dF, methObj := dO, codeFill := uF, codeInitS := uF, codeObj := uO, fBack := F1, fDepth := F1, fStack := F2, fCause := F1, fSupp := F3, fMsg := FM, fUnassigned := F4, fSentinel := F5, cfT := P1, ci1 := q1, n1 := r1, ci27 := q2, n27 := r2, ci202 := q3, n202 := r3, ci7 := b1, i7 := i1, ci13 := b4, i13 := i4, ci17 := b2, i17 := i2, ci20 := b5, i20 := i5, ci24 := b3, i24 := i3 }, ?_, fT, nF, nN, ff2, ff4⟩
  constructor
  all_goals assumption

theorem own_keepFill {h : Heap} {a : Addr} {H C cell : Cell} (hc : h[a]? = some cell) (h1 : C.cls = cell.cls) (h2 : C.vm = cell.vm) (h3 : C.slots.size = cell.slots.size) : Keep h ((h.push H).setIfInBounds a C) [a] ∧ ((h.push H).setIfInBounds a C)[a]? = some C := by
  have hlt : a < h.size := (Array.getElem?_eq_some_iff.mp hc).1
  have hs : ((h.push H).setIfInBounds a C)[a]? = some C := by
    rw [Array.getElem?_setIfInBounds_self_of_lt (by rw [Array.size_push]; exact Nat.lt_succ_of_lt hlt)]
  have ho : ∀ (x : Addr) (c : Cell), h[x]? = some c → x ≠ a → ((h.push H).setIfInBounds a C)[x]? = some c := fun x c hx ne => by
    have hl : x < h.size := (Array.getElem?_eq_some_iff.mp hx).1
    rw [Array.getElem?_setIfInBounds_ne (Ne.symm ne), Array.getElem?_push_lt hl]
    rw [← hx, Array.getElem?_eq_getElem hl]
  refine ⟨⟨by rw [Array.size_setIfInBounds, Array.size_push]; exact Nat.le_succ _, fun x c hx hn => ho x c hx (by simpa using hn), fun x c hx => ?_⟩, hs⟩
  by_cases ne : x = a
  · subst ne
    cases hc.symm.trans hx
    exact ⟨C, hs, h1, h2, h3⟩
  · exact ⟨c, ho x c hx ne, rfl, rfl, rfl⟩
set_option maxHeartbeats 1000000 in
set_option maxRecDepth 65536 in
theorem own_fill {p : Program} {l : Launch} {e : Env} {R : Room} {s : State} {m : MethodId} {args : Array Value} {below : List Frame} {meth : Method} {c : Code} {T : State} {locs : List Loc} {cells slots : Nat} {Z : State} {a0 : Array Value} {h : Heap}
    (X : Stand p l e R s m args below meth c T locs cells slots) (hx : p.tables.exec = Jvm.exec) (hl : l.stackTraces = true) (hZ : Z.Warmed39 s.vm) (hw : ∀ d ∈ tables_1, d.before a0 Z = true) (hT0 : ThS Z s.heap) (hTK : s.vm.MethodsKnown) (hBelow : s.vm.FramesKnown below) (hown : s.vm.findClass tN = some m.cls) (eT : T.heap = h)
    {a ua : Addr} (E : Exa Z h a "com/example/buzon/buzon/engine/ApiException") (N : Unt h a) (B : Fld Z h a tN "backtrace" Exc.obD .null) (Sf : Fld Z h a tN "stackTrace" steD (.ref ua)) (US : Sta Z h tN "UNASSIGNED_STACK" steD (.ref ua))
    {g : JFrame} (hg : g.method = m) (hsize : g.locals.size = c.maxLocals) {rest : List Value} (hs : g.stack = .ref a :: rest) {W : Nat} (hW : 2 * g.monitorRoom + (rest.map fun v => v.category).sum ≤ W) (hd : decode c.code g.pc = .ok (.invokevirtual 27, 3)) (hf : 2 < R.frames) (hlo : W + 42 ≤ R.locals) (hc : cells + 1 ≤ R.cells) (hsl : slots + 2752 ≤ R.slots) :
    ∃ (T' : State) (L : List Loc), Stand p l e R s m args below meth c T' (locs ++ L) (cells + 1) (slots + 2752) ∧ (∀ y ∈ L, y.base = a) ∧ Keep h T'.heap [a] ∧ Unt T'.heap a ∧ Steps p.tables e below (T.setTop g) (T'.setTop { g with pc := g.pc + 3, stack := .ref a :: rest }) := by
  have wd : ∀ {d : Jvm.Cond}, xOk d = true → d ∈ tables_1 → d.before args s = true := fun ok hd => mvX hT0 hZ ok (hw _ hd)
  obtain ⟨Bt, Lk, fT, nF, nN, ff17, ff13⟩ := own_bundle (s := s) (args := args) (pl := e.platform) (rc := "com/example/buzon/buzon/engine/ApiException") (by rw [X.admits.platform]) (by rw [X.admits.platform]) (by rw [X.admits.platform])
    (wd rfl (List.mem_of_getElem? (i := 54) rfl)) (wd rfl (List.mem_of_getElem? (i := 72) rfl)) (wd rfl (List.mem_of_getElem? (i := 67) rfl)) (wd rfl (List.mem_of_getElem? (i := 73) rfl)) (wd rfl (List.mem_of_getElem? (i := 74) rfl)) (wd rfl (List.mem_of_getElem? (i := 75) rfl)) (wd rfl (List.mem_of_getElem? (i := 30) rfl)) (wd rfl (List.mem_of_getElem? (i := 31) rfl))
    (wd rfl (List.mem_of_getElem? (i := 56) rfl)) (wd rfl (List.mem_of_getElem? (i := 65) rfl)) (wd rfl (List.mem_of_getElem? (i := 78) rfl)) (wd rfl (List.mem_of_getElem? (i := 57) rfl)) (wd rfl (List.mem_of_getElem? (i := 58) rfl)) (wd rfl (List.mem_of_getElem? (i := 60) rfl)) (wd rfl (List.mem_of_getElem? (i := 61) rfl)) (wd rfl (List.mem_of_getElem? (i := 63) rfl)) (wd rfl (List.mem_of_getElem? (i := 64) rfl))
    (wd rfl (List.mem_of_getElem? (i := 59) rfl)) (wd rfl (List.mem_of_getElem? (i := 85) rfl)) (wd rfl (List.mem_of_getElem? (i := 62) rfl)) (wd rfl (List.mem_of_getElem? (i := 86) rfl)) (wd rfl (List.mem_of_getElem? (i := 88) rfl))
  have hal : Z.vm.Alike s.vm := hZ.alike
  -- the receiver's cell and class
  obtain ⟨cell, hcell, hvm, hmon⟩ := N
  obtain ⟨cE, kE, e1, e2, e3, -, e5⟩ := E
  cases hcell.symm.trans e1
  have hfound : s.vm.findClass "com/example/buzon/buzon/engine/ApiException" = some cell.cls := by rw [hal.findClass]; exact e2
  obtain ⟨c1, kX, i1, i2, hord, -, -, -⟩ := Jvm.Cond.instantiable_spec (wd (d := .instantiable "com/example/buzon/buzon/engine/ApiException" 7) rfl (List.mem_of_getElem? (i := 8) rfl))
  cases hfound.symm.trans i1
  obtain ⟨k', j1, j2⟩ := hal.2.2 _ _ e3
  cases j1.symm.trans i2
  have hsz : cell.slots.size = kX.instanceTypes.size := by rw [e5 (by rw [j2] at hord; exact hord), j2]
  have tk : ∀ {f : Field} {v : Value}, Jvm.Takes s (Jvm.freshCell cell.cls kX) f v → Jvm.Takes s cell f v := fun h => ⟨by rw [hsz]; simpa using h.1, by rw [hvm]; exact h.2⟩
  -- stackTrace, backtrace, the statics
  have sameF : ∀ {O nm d : String} {cf i cf' i' : Nat} {k k' : Class} {f f' : Field}, Z.fieldFound? O nm d = some (cf, k, i, f) → s.fieldFound? O nm d = some (cf', k', i', f') → f = f' ∧ k'.statics = k.statics := fun h1 h2 => by
    obtain ⟨k3, q3, q4⟩ := State.fieldFound?_setVm (s := Z) hal h1
    cases (show s.fieldFound? _ _ _ = _ from q3).symm.trans h2
    exact ⟨rfl, by rw [q4]⟩
  obtain ⟨cS', cf, kS, iS, fS, a1, a2, -, -, -, -, a7⟩ := Sf
  cases hcell.symm.trans a1
  obtain ⟨rfl, -⟩ := sameF a2 ff17
  obtain ⟨b198, i198, F198, k198, z198, at198, s198, -, -, t198, ff198⟩ := Jvm.Cond.ownField fT Lk.cls (by decide +kernel : parseFieldDescriptor Exc.obD = some (.object "java/lang/Object")) (wd rfl (List.mem_of_getElem? (i := 83) rfl)) (wd (d := .lays "com/example/buzon/buzon/engine/ApiException" tN "backtrace" Exc.obD) rfl (List.mem_of_getElem? (i := 89) rfl)) e.platform (by rw [X.admits.platform])
  obtain ⟨cB', cfB, kB, iB, fB, b1, b2, -, -, -, -, b7⟩ := B
  cases hcell.symm.trans b1
  obtain ⟨rfl, -⟩ := sameF b2 ff198
  obtain ⟨cfU, iU, kU, fU, st, cellS, u1, -, -, u4, u5, u6, u7⟩ := US
  obtain ⟨rfl, hst⟩ := sameF u1 ff13
  have eS : st = Bt.aS := by have := Lk.statics; rw [hst, u4] at this; exact Option.some.inj this
  subst eS
  have hneS : Bt.aS ≠ a := fun q => by
    rw [q, hcell] at u5
    rw [← Option.some.inj u5, hvm] at u6
    cases u6
  have hsel0 : selectMethod e.platform s.vm cell.cls Bt.fill0 = .method Bt.fill0 := by
    obtain ⟨c2, r2, m2, q1, q2, q3, q4, -⟩ := Jvm.Cond.selects_spec (wd (d := .selects "com/example/buzon/buzon/engine/ApiException" tFill0 tFill0) rfl (List.mem_of_getElem? (i := 87) rfl))
    cases hfound.symm.trans q1
    cases q2.symm.trans (State.methodFound?_of_named nN (by decide))
    cases q3.symm.trans nN
    rw [Launch.admits_selectMethod X.admits]; exact q4
  obtain ⟨cO, kO, comp, fb, fd, hO, hkO, hkindO, hfb, hfd, htB, htD⟩ := traceWords hfound i2 hord fT Lk.cls (wd rfl (List.mem_of_getElem? (i := 69) rfl)) (wd rfl (List.mem_of_getElem? (i := 70) rfl)) (wd rfl (List.mem_of_getElem? (i := 71) rfl)) (wd rfl (List.mem_of_getElem? (i := 89) rfl)) (wd rfl (List.mem_of_getElem? (i := 90) rfl))
  have tyS := (Jvm.Cond.laysAt hfound i2 ff17 (wd (d := .lays "com/example/buzon/buzon/engine/ApiException" tN "stackTrace" steD) rfl (List.mem_of_getElem? (i := 61) rfl))).1
  have tS : Jvm.Takes s cell Bt.fStack (.ref ua) := tk (Jvm.Takes.of_laid i2 hord tyS (by rw [(State.fieldFound?_type ff17 (by decide +kernel : parseFieldDescriptor steD = some (.array (.object "java/lang/StackTraceElement")))).2]; rfl))
  have hSE := wd (d := .selects "com/example/buzon/buzon/engine/ApiException" tFill tFill) rfl (List.mem_of_getElem? (i := 68) rfl)
  have htr : e.platform.stackTraces = true := by rw [X.admits.platform]; exact hl
  obtain ⟨v, vm1, ⟨T', L', c', n'⟩, -, X', ⟨hv, vm7, lines, hlines, -, hU, hL, hc', hn'⟩, come⟩ := X.virtualBack hx (own := tN) (C := "com/example/buzon/buzon/engine/ApiException") (index := 27) (y := tFill) (z := tFill) hown (wd rfl (List.mem_of_getElem? (i := 65) rfl)) (wd rfl (List.mem_of_getElem? (i := 66) rfl)) (notFace_of_selects hSE) hSE (wd rfl (List.mem_of_getElem? (i := 67) rfl)) (by decide)
    (Jvm.Free.Str.fillPays (l := l) (W := W) hx htr Bt Lk nF (u0 := ⟨.ref ua, rfl⟩) (by simp) (self := a) (cell := cell) (cellS := cellS) (fun _ => by rw [hvm]; simp) (by rw [hvm]; simp) (by rw [hmon]) (by rw [hmon]) a7 hsel0 hneS (fun q => by rw [q] at u6; cases u6) u7 tS
      ⟨{ ci198 := b198, i198 := i198, fBack := fB }, ⟨k198, z198, at198, s198⟩, b7⟩ hTK hBelow fT hO hkO hkindO hfb hfd (fun x => tk (htB x)) (fun x => tk (htD x)) hf hlo)
    (b := a) (cB := cell.cls) hfound ⟨cell, by rw [eT]; exact hcell, rfl, by rw [hvm]; rfl⟩ (g := g) hg hsize (Steps.refl _) (argsL := []) (rest := rest)
    (fun sig q => by rw [show parseMethodDescriptor tFill.desc = some ⟨[], some (.object tN)⟩ from by decide +kernel] at q; rw [← Option.some.inj q]; rfl) hs hW hd (fun _ _ => ⟨rfl, hc, hsl, by show T.heap[a]? = _; rw [eT]; exact hcell, by show T.heap[_]? = _; rw [eT]; exact u5⟩)
  dsimp only [Pt.U, Pt.locs, Pt.cells, Pt.slots] at X' hU hL hc' hn' come
  subst hv hL hc' hn'
  have hh : T'.heap = ((h.push (traceHolder cO lines)).setIfInBounds a (Jvm.Free.Str.filledOn Bt.toThrowableT fb fd cell ⟨.ref ua, rfl⟩ h.size lines.length.toInt32)) := by rw [hU, ← eT]; rfl
  obtain ⟨K, hC⟩ := own_keepFill (H := traceHolder cO lines) (C := Jvm.Free.Str.filledOn Bt.toThrowableT fb fd cell ⟨.ref ua, rfl⟩ h.size lines.length.toInt32) hcell rfl rfl (by simp [Jvm.Free.Str.filledOn, Cell.setSlot])
  rw [← hh] at K hC
  exact ⟨T', _, X'.more (Nat.le_refl _) (Nat.add_le_add_left (traceHolder_size_le cO hlines) _), fun y hy => by simp only [List.mem_cons, List.not_mem_nil, or_false] at hy; rcases hy with rfl | rfl | rfl <;> rfl, K, ⟨_, hC, by show cell.vm = _; exact hvm, by show cell.monitor = _; exact hmon⟩, come⟩

theorem d3_0 : decode jdk_43_method_3_code 0 = .ok (.iload_n 0, 1) := by decide +kernel
theorem d3_1 : decode jdk_43_method_3_code 1 = .ok (.sipush 255, 3) := by decide +kernel
theorem d3_4 : decode jdk_43_method_3_code 4 = .ok (.if_icmp .gt 7, 3) := by decide +kernel
theorem d3_11 : decode jdk_43_method_3_code 11 = .ok (.iconst 0, 1) := by decide +kernel
theorem d3_7 : decode jdk_43_method_3_code 7 = .ok (.iconst 1, 1) := by decide +kernel
theorem d3_8 : decode jdk_43_method_3_code 8 = .ok (.goto 4, 3) := by decide +kernel
theorem d3_12 : decode jdk_43_method_3_code 12 = .ok (.ireturn, 1) := by decide +kernel
theorem pn_java_lang_StringLatin1 : plainName "java/lang/StringLatin1" = true := by first | (simp [plainName, overriddenIn]; done) | decide +kernel
def own_F3 (p3_0 : Int32) : Int32 := (if (255 : Int32) < p3_0 then (0 : Int32) else (1 : Int32))
theorem own_ef3 (m : MethodId) (x0 : Int32) : entryFrame m #[(.int x0)] 1 = mkF m 0 #[.val (.int x0)] [] := by first | (simp [entryFrame, mkF, argsToLocals, Value.category]; done) | rfl
def own_Q3 (r : Int32) (h0 : Heap) (n0 : Nat) (v : Option Value) (h : Heap) (L : List Loc) : Prop := v = some (.int r) ∧ Fr n0 L ∧ h = h0
set_option maxRecDepth 65536 in
set_option maxHeartbeats 40000000 in
theorem own_rm3 (l : Launch) (Z : State) (a0 : Array Value) (hw : ∀ d ∈ tables_1, d.before a0 Z = true) (ws : List Jvm.Cond) (p3_0 : Int32) (h0 : Heap) (n0 : Nat) (Z0 : n0 ≤ h0.size) :
    MetFree l (⟨"java/lang/StringLatin1", "canEncode", "(C)Z"⟩ : MethodName) (head1 (Jvm.Cond.code (⟨"java/lang/StringLatin1", "canEncode", "(C)Z"⟩ : MethodName) jdk_43_method_3_code 1 (some .boolean) :: ws) ({ frames := 0, cells := 0, slots := 0, locals := 0 } : Room)) (fun a U => a = #[(.int p3_0)] ∧ Z.Warmed39 U.vm ∧ U.heap = h0) (fun _ _ _ _ _ => True) (fun _ U o U' => ∃ v L, o = .returned v ∧ own_Q3 (own_F3 p3_0) h0 n0 v U'.heap L ∧ FrameEnd U o U' L ({ frames := 0, cells := 0, slots := 0, locals := 0 } : Room).cells ({ frames := 0, cells := 0, slots := 0, locals := 0 } : Room).slots) := by
  refine MetFree.of_bodySF (plainFor_of_name pn_java_lang_StringLatin1) hisR ?_
  intro p e s m args below meth c s₁ Bd hml0 hP hK
  obtain ⟨rfl, hZ, hh⟩ := hP
  have hx := Bd.exec
  have hby := Bd.bytes
  have hlk : meth.locks = false := BodyLoose.notSynchronized Bd
  have hml : c.maxLocals = 1 := hml0
  have hown : s.vm.findClass "java/lang/StringLatin1" = some m.cls := findClass_of_methodNamed Bd.named
  have hnm := (name_of_methodNamed Bd.named Bd.method).1
  have X0 : Stand p l e ({ frames := 0, cells := 0, slots := 0, locals := 0 } : Room) s m #[(.int p3_0)] below meth c s₁ [] 0 0 := Stand.of_body Bd
  have e0 : s₁.heap = h0 := by rw [← hh, Bd.state]; rfl
  have N0 := Fr.nil n0
  show own_Go p e below (own_P s below ({ frames := 0, cells := 0, slots := 0, locals := 0 } : Room) (own_Q3 (own_F3 p3_0) h0 n0)) s₁ (entryFrame m #[(.int p3_0)] 1)
  refine own_in (own_ef3 m p3_0) ?_
  refine own_by (T' := s₁) (g' := (mkF m 4 #[.val (.int p3_0)] [(.int (255 : Int32)), (.int p3_0)])) (fun t k => ?_) ?_
  · show Steps p.tables e below (s₁.setTop (mkF m 0 #[.val (.int p3_0)] [])) t
    refine XS.iloadN X0.here hx rfl (hb hby d3_0) rfl ?_
    show Steps p.tables e below (s₁.setTop (mkF m 1 #[.val (.int p3_0)] [(.int p3_0)])) t
    refine XS.sipush X0.here hx rfl (hb hby d3_1) ?_
    show Steps p.tables e below (s₁.setTop (mkF m 4 #[.val (.int p3_0)] [(.int (255 : Int32)), (.int p3_0)])) t
    exact k
  by_cases hc1 : (255 : Int32) < p3_0
  · skip
    refine own_by (T' := s₁) (g' := (mkF m 12 #[.val (.int p3_0)] [(.int (0 : Int32))])) (fun t k => ?_) ?_
    · show Steps p.tables e below (s₁.setTop (mkF m 4 #[.val (.int p3_0)] [(.int (255 : Int32)), (.int p3_0)])) t
      refine XS.icmpYes X0.here hx rfl (pc0 := 4) (pc' := 11) rfl (hb hby d3_4) rfl (tlt hc1).2.2.1 (by decide) (by decide) ?_
      show Steps p.tables e below (s₁.setTop (mkF m 11 #[.val (.int p3_0)] [])) t
      refine XS.iconst X0.here hx rfl (hb hby d3_11) ?_
      show Steps p.tables e below (s₁.setTop (mkF m 12 #[.val (.int p3_0)] [(.int (0 : Int32))])) t
      exact k
    rw [show own_F3 p3_0 = (0 : Int32) from ((if_pos hc1).trans rfl)]
    exact own_retN X0 hx (t := .boolean) Bd.returns (by simp) (hb hby d3_12) hlk (by decide) (by decide) ⟨rfl, N0, e0⟩
  · skip
    refine own_by (T' := s₁) (g' := (mkF m 12 #[.val (.int p3_0)] [(.int (1 : Int32))])) (fun t k => ?_) ?_
    · show Steps p.tables e below (s₁.setTop (mkF m 4 #[.val (.int p3_0)] [(.int (255 : Int32)), (.int p3_0)])) t
      refine XS.icmpNo X0.here hx rfl (hb hby d3_4) rfl (flt hc1).2.2.1 ?_
      show Steps p.tables e below (s₁.setTop (mkF m 7 #[.val (.int p3_0)] [])) t
      refine XS.iconst X0.here hx rfl (hb hby d3_7) ?_
      show Steps p.tables e below (s₁.setTop (mkF m 8 #[.val (.int p3_0)] [(.int (1 : Int32))])) t
      refine XS.goto X0.here hx rfl (pc0 := 8) (pc' := 12) rfl (hb hby d3_8) (by decide) (by decide) ?_
      show Steps p.tables e below (s₁.setTop (mkF m 12 #[.val (.int p3_0)] [(.int (1 : Int32))])) t
      exact k
    rw [show own_F3 p3_0 = (1 : Int32) from ((if_neg hc1).trans rfl)]
    exact own_retN X0 hx (t := .boolean) Bd.returns (by simp) (hb hby d3_12) hlk (by decide) (by decide) ⟨rfl, N0, e0⟩
theorem own_and_le (x m : Int32) (k : Nat) (hm : m.toBitVec.toNat = k) (hk : k < 2147483648) : 0 ≤ (x &&& m).toInt ∧ (x &&& m).toInt ≤ k := by
  have h1 : (x &&& m).toBitVec.toNat ≤ k := by
    rw [Int32.toBitVec_and, BitVec.toNat_and, hm]; exact Nat.and_le_right
  have h2 : (x &&& m).toInt = ((x &&& m).toBitVec.toNat : Int) := BitVec.toInt_eq_toNat_of_lt (by omega)
  omega
/-- i2c of a value that is a char already -/
theorem own_i2c (x : Int32) (h0 : 0 ≤ x.toInt) (h1 : x.toInt < 65536) : x.toUInt32.toUInt16.toUInt32.toInt32 = x := by
  have e : x.toInt = (x.toBitVec.toNat : Int) := by
    have := x.toBitVec.isLt
    have q : x.toInt = x.toBitVec.toInt := rfl
    rw [q, BitVec.toInt_eq_toNat_cond] at h0 h1 ⊢
    split at h0 <;> omega
  apply Int32.toBitVec_inj.mp
  apply BitVec.eq_of_toNat_eq
  show ((x.toBitVec.setWidth 16).setWidth 32).toNat = x.toBitVec.toNat
  rw [BitVec.toNat_setWidth, BitVec.toNat_setWidth]
  have : x.toBitVec.toNat < 65536 := by omega
  omega
theorem own_enc (x : Int32) : ¬ ((own_F3 ((x &&& (255 : Int32)).toUInt32.toUInt16.toUInt32.toInt32)) = (0 : Int32)) := by
  have h := own_and_le x 255 255 (by decide) (by decide)
  rw [own_i2c _ h.1 (by omega)]
  unfold own_F3
  rw [if_neg (by rw [Int32.lt_iff_toInt_lt, show (255 : Int32).toInt = 255 from by decide]; omega)]
  decide

theorem own_iidx (x : Int32) (h1 : ¬ x < (-128 : Int32)) (h2 : ¬ (127 : Int32) < x) : ¬ (x + (128 : Int32)) < 0 ∧ (x + (128 : Int32)) < (256 : Int32) := by
  rw [Int32.lt_iff_toInt_lt, show (-128 : Int32).toInt = -128 from by decide] at h1
  rw [Int32.lt_iff_toInt_lt, show (127 : Int32).toInt = 127 from by decide] at h2
  have e2 : (x + 128).toInt = x.toInt + 128 := by
    rw [Int32.toInt_add, show (128 : Int32).toInt = 128 from by decide, Int.bmod_def]
    split <;> omega
  rw [Int32.lt_iff_toInt_lt, Int32.lt_iff_toInt_lt, e2, show (0 : Int32).toInt = 0 from by decide, show (256 : Int32).toInt = 256 from by decide]
  omega

theorem d18_0 : decode jdk_18_method_1_code 0 = .ok (.aload_n 0, 1) := by decide +kernel
theorem d18_1 : decode jdk_18_method_1_code 1 = .ok (.invokespecial 1, 3) := by decide +kernel
theorem d18_4 : decode jdk_18_method_1_code 4 = .ok (.return_, 1) := by decide +kernel
theorem pn_java_lang_Number : plainName "java/lang/Number" = true := by first | (simp [plainName, overriddenIn]; done) | decide +kernel
theorem own_ef18 (m : MethodId) (x0 : Addr) : entryFrame m #[(.ref x0)] 1 = mkF m 0 #[.val (.ref x0)] [] := by first | (simp [entryFrame, mkF, argsToLocals, Value.category]; done) | rfl
def own_Q18 (Z : State) (a18_0 : Addr) (h0 : Heap) (n0 : Nat) (v : Option Value) (h : Heap) (L : List Loc) : Prop := v = none ∧ Fr n0 L ∧ Keep h0 h []
set_option maxRecDepth 65536 in
set_option maxHeartbeats 40000000 in
theorem own_rm18 (l : Launch) (Z : State) (a0 : Array Value) (hw : ∀ d ∈ tables_1, d.before a0 Z = true) (ws : List Jvm.Cond) (a18_0 : Addr) (h0 : Heap) (n0 : Nat) (Z0 : n0 ≤ h0.size) :
    MetFree l (⟨"java/lang/Number", "<init>", "()V"⟩ : MethodName) (head1 (Jvm.Cond.code (⟨"java/lang/Number", "<init>", "()V"⟩ : MethodName) jdk_18_method_1_code 1 none :: ws) ({ frames := 1, cells := 0, slots := 0, locals := 12 } : Room)) (fun a U => a = #[(.ref a18_0)] ∧ Z.Warmed39 U.vm ∧ U.heap = h0) (fun _ _ _ _ _ => True) (fun _ U o U' => ∃ v L, o = .returned v ∧ own_Q18 Z a18_0 h0 n0 v U'.heap L ∧ FrameEnd U o U' L ({ frames := 1, cells := 0, slots := 0, locals := 12 } : Room).cells ({ frames := 1, cells := 0, slots := 0, locals := 12 } : Room).slots) := by
  refine MetFree.of_bodySF (plainFor_of_name pn_java_lang_Number) hisR ?_
  intro p e s m args below meth c s₁ Bd hml0 hP hK
  obtain ⟨rfl, hZ, hh⟩ := hP
  have hx := Bd.exec
  have hby := Bd.bytes
  have hlk : meth.locks = false := BodyLoose.notSynchronized Bd
  have hml : c.maxLocals = 1 := hml0
  have hown : s.vm.findClass "java/lang/Number" = some m.cls := findClass_of_methodNamed Bd.named
  have hnm := (name_of_methodNamed Bd.named Bd.method).1
  have X0 : Stand p l e ({ frames := 1, cells := 0, slots := 0, locals := 12 } : Room) s m #[(.ref a18_0)] below meth c s₁ [] 0 0 := Stand.of_body Bd
  have e0 : s₁.heap = h0 := by rw [← hh, Bd.state]; rfl
  have N0 := Fr.nil n0
  show own_Go p e below (own_P s below ({ frames := 1, cells := 0, slots := 0, locals := 12 } : Room) (own_Q18 Z a18_0 h0 n0)) s₁ (entryFrame m #[(.ref a18_0)] 1)
  refine own_in (own_ef18 m a18_0) ?_
  refine own_by (T' := s₁) (g' := (mkF m 1 #[.val (.ref a18_0)] [(.ref a18_0)])) (fun t k => ?_) ?_
  · show Steps p.tables e below (s₁.setTop (mkF m 0 #[.val (.ref a18_0)] [])) t
    refine XS.aloadN X0.here hx rfl (hb hby d18_0) rfl rfl ?_
    show Steps p.tables e below (s₁.setTop (mkF m 1 #[.val (.ref a18_0)] [(.ref a18_0)])) t
    exact k
  obtain ⟨T2, X2, e2, st2⟩ := initO X0 hx hZ hown (hw _ (List.mem_of_getElem? (i := 139) rfl)) (hw _ (List.mem_of_getElem? (i := 30) rfl)) (hw _ (List.mem_of_getElem? (i := 31) rfl)) e0 (g := (mkF m 1 #[.val (.ref a18_0)] [(.ref a18_0)])) rfl (by rw [hml]; rfl) rfl (hb hby d18_1) (by decide) (W := 0) (by show 2 * 0 + _ ≤ _; exact Nat.le_of_eq rfl) (by decide)
  refine own_by (T' := T2) (g' := (mkF m 4 #[.val (.ref a18_0)] [])) st2 ?_
  exact own_ret0 X2 hx Bd.returns (hb hby d18_4) hlk (by decide) (by decide) (by rw [e2]; exact ⟨rfl, N0, (Keep.refl h0 [])⟩)
theorem d17_0 : decode jdk_33_method_23_code 0 = .ok (.aload_n 0, 1) := by decide +kernel
theorem d17_1 : decode jdk_33_method_23_code 1 = .ok (.invokespecial 202, 3) := by decide +kernel
theorem pd___V : parseMethodDescriptor "()V" = some ⟨[], none⟩ := by decide +kernel
theorem d17_4 : decode jdk_33_method_23_code 4 = .ok (.aload_n 0, 1) := by decide +kernel
theorem d17_5 : decode jdk_33_method_23_code 5 = .ok (.iload_n 1, 1) := by decide +kernel
theorem d17_6 : decode jdk_33_method_23_code 6 = .ok (.putfield 205, 3) := by decide +kernel
theorem d17_9 : decode jdk_33_method_23_code 9 = .ok (.return_, 1) := by decide +kernel
theorem pn_java_lang_Integer : plainName "java/lang/Integer" = true := by first | (simp [plainName, overriddenIn]; done) | decide +kernel
theorem own_ef17 (m : MethodId) (x0 : Addr) (x1 : Int32) : entryFrame m #[(.ref x0), (.int x1)] 2 = mkF m 0 #[.val (.ref x0), .val (.int x1)] [] := by first | (simp [entryFrame, mkF, argsToLocals, Value.category]; done) | rfl
def own_Q17 (Z : State) (a17_0 : Addr) (p17_1 : Int32) (u_value_a17_0 : Value) (h0 : Heap) (n0 : Nat) (v : Option Value) (h : Heap) (L : List Loc) : Prop := v = none ∧ Fr n0 L ∧ Keep h0 h [a17_0] ∧ Exa Z h a17_0 "java/lang/Integer" ∧ Fld Z h a17_0 "java/lang/Integer" "value" "I" (.int p17_1)
set_option maxRecDepth 65536 in
set_option maxHeartbeats 40000000 in
theorem own_rm17 (l : Launch) (Z : State) (a0 : Array Value) (hw : ∀ d ∈ tables_1, d.before a0 Z = true) (ws : List Jvm.Cond) (a17_0 : Addr) (p17_1 : Int32) (u_value_a17_0 : Value) (h0 : Heap) (n0 : Nat) (Z0 : n0 ≤ h0.size) (E_a17_0 : Exa Z h0 a17_0 "java/lang/Integer") (F_value_a17_0 : Fld Z h0 a17_0 "java/lang/Integer" "value" "I" u_value_a17_0) (ge_a17_0 : n0 ≤ a17_0) :
    MetFree l (⟨"java/lang/Integer", "<init>", "(I)V"⟩ : MethodName) (head1 (Jvm.Cond.code (⟨"java/lang/Integer", "<init>", "(I)V"⟩ : MethodName) jdk_33_method_23_code 2 none :: ws) ({ frames := 2, cells := 0, slots := 0, locals := 24 } : Room)) (fun a U => a = #[(.ref a17_0), (.int p17_1)] ∧ Z.Warmed39 U.vm ∧ U.heap = h0) (fun _ _ _ _ _ => True) (fun _ U o U' => ∃ v L, o = .returned v ∧ own_Q17 Z a17_0 p17_1 u_value_a17_0 h0 n0 v U'.heap L ∧ FrameEnd U o U' L ({ frames := 2, cells := 0, slots := 0, locals := 24 } : Room).cells ({ frames := 2, cells := 0, slots := 0, locals := 24 } : Room).slots) := by
  refine MetFree.of_bodySF (plainFor_of_name pn_java_lang_Integer) hisR ?_
  intro p e s m args below meth c s₁ Bd hml0 hP hK
  obtain ⟨rfl, hZ, hh⟩ := hP
  have hx := Bd.exec
  have hby := Bd.bytes
  have hlk : meth.locks = false := BodyLoose.notSynchronized Bd
  have hml : c.maxLocals = 2 := hml0
  have hown : s.vm.findClass "java/lang/Integer" = some m.cls := findClass_of_methodNamed Bd.named
  have hnm := (name_of_methodNamed Bd.named Bd.method).1
  have X0 : Stand p l e ({ frames := 2, cells := 0, slots := 0, locals := 24 } : Room) s m #[(.ref a17_0), (.int p17_1)] below meth c s₁ [] 0 0 := Stand.of_body Bd
  have e0 : s₁.heap = h0 := by rw [← hh, Bd.state]; rfl
  have N0 := Fr.nil n0
  show own_Go p e below (own_P s below ({ frames := 2, cells := 0, slots := 0, locals := 24 } : Room) (own_Q17 Z a17_0 p17_1 u_value_a17_0 h0 n0)) s₁ (entryFrame m #[(.ref a17_0), (.int p17_1)] 2)
  refine own_in (own_ef17 m a17_0 p17_1) ?_
  refine own_by (T' := s₁) (g' := (mkF m 1 #[.val (.ref a17_0), .val (.int p17_1)] [(.ref a17_0)])) (fun t k => ?_) ?_
  · show Steps p.tables e below (s₁.setTop (mkF m 0 #[.val (.ref a17_0), .val (.int p17_1)] [])) t
    refine XS.aloadN X0.here hx rfl (hb hby d17_0) rfl rfl ?_
    show Steps p.tables e below (s₁.setTop (mkF m 1 #[.val (.ref a17_0), .val (.int p17_1)] [(.ref a17_0)])) t
    exact k
  obtain ⟨v3, _, ⟨T3, L3, k3, n3⟩, -, X3, ⟨Lc3, hQ3, l3, y3, z3⟩, st3⟩ := X0.specialBack hx (y := (⟨"java/lang/Number", "<init>", "()V"⟩ : MethodName)) rfl hown (mvT hZ (hw _ (List.mem_of_getElem? (i := 133) rfl))) (mvT hZ (hw _ (List.mem_of_getElem? (i := 134) rfl))) (mvT hZ (hw _ (List.mem_of_getElem? (i := 138) rfl))) (by decide) (backOf (W := 0) (own_rm18 l Z a0 hw [] a17_0 h0 n0 Z0) hZ (hw _ (List.mem_of_getElem? (i := 138) rfl)) (hw _ (List.mem_of_getElem? (i := 137) rfl)) (by decide) (by decide)) (g := (mkF m 1 #[.val (.ref a17_0), .val (.int p17_1)] [(.ref a17_0)])) rfl (by rw [hml]; rfl) (Steps.refl _) (a := a17_0) (argsL := []) (rest := []) (lenOf pd___V rfl) rfl (by show 2 * 0 + _ ≤ _; exact Nat.le_of_eq rfl) (hb hby d17_1) (fun _ _ => ⟨rfl, e0, (by decide : 0 + 0 ≤ _), (by decide : 0 + 0 ≤ _)⟩)
  dsimp only [Pt.U, Pt.locs, Pt.cells, Pt.slots] at X3 l3 y3 z3 st3 hQ3
  subst y3 z3
  obtain ⟨rfl, M3, K3⟩ := hQ3
  have f4 := E_a17_0.keep K3
  have f5 := F_value_a17_0.keep K3 nin0
  have K6 : Keep h0 T3.heap [a17_0] := (Keep.refl h0 [a17_0]).trans K3 all0
  have Z7 := Nat.le_trans Z0 K3.1
  have N8 : Fr n0 L3 := by rw [l3]; exact Fr.app N0 M3
  refine own_via (T' := T3) (g' := (mkF m 4 #[.val (.ref a17_0), .val (.int p17_1)] [])) st3 ?_
  refine own_by (T' := T3) (g' := (mkF m 6 #[.val (.ref a17_0), .val (.int p17_1)] [(.int p17_1), (.ref a17_0)])) (fun t k => ?_) ?_
  · show Steps p.tables e below (T3.setTop (mkF m 4 #[.val (.ref a17_0), .val (.int p17_1)] [])) t
    refine XS.aloadN X3.here hx rfl (hb hby d17_4) rfl rfl ?_
    show Steps p.tables e below (T3.setTop (mkF m 5 #[.val (.ref a17_0), .val (.int p17_1)] [(.ref a17_0)])) t
    refine XS.iloadN X3.here hx rfl (hb hby d17_5) rfl ?_
    show Steps p.tables e below (T3.setTop (mkF m 6 #[.val (.ref a17_0), .val (.int p17_1)] [(.int p17_1), (.ref a17_0)])) t
    exact k
  obtain ⟨T9, h9, X9, e9, W9, st9⟩ := putF X3 hx hZ hown (host := "") (Or.inl (hw _ (List.mem_of_getElem? (i := 140) rfl))) Via.refl rfl f5 f4 (Or.inr ⟨(hw _ (List.mem_of_getElem? (i := 141) rfl)), rfl, hnm⟩) (hw _ (List.mem_of_getElem? (i := 128) rfl)) (ty := .int) (by decide) rfl rfl (g := (mkF m 6 #[.val (.ref a17_0), .val (.int p17_1)] [(.int p17_1), (.ref a17_0)])) rfl rfl (hb hby d17_6)
  have f10 := f5.same W9
  have f11 := f4.wr W9
  have K13 : Keep h0 h9 [a17_0] := K6.wr W9 (Or.inl (List.mem_of_getElem? (i := 0) rfl))
  have N14 := Fr.snoc X9 N8 ge_a17_0
  obtain ⟨Lh9, X9, N14⟩ := own_hide X9 N14
  have Z15 := Nat.le_trans Z7 (Keep.of_wr W9).1
  refine own_by (T' := T9) (g' := (mkF m 9 #[.val (.ref a17_0), .val (.int p17_1)] [])) st9 ?_
  exact own_ret0 X9 hx Bd.returns (hb hby d17_9) hlk (by decide) (by decide) (by rw [e9]; exact ⟨rfl, N14, K13, f11, f10⟩)
theorem d4_0 : decode jdk_43_method_46_code 0 = .ok (.iconst 1, 1) := by decide +kernel
theorem d4_1 : decode jdk_43_method_46_code 1 = .ok (.newarray .byte, 2) := by decide +kernel
theorem d4_3 : decode jdk_43_method_46_code 3 = .ok (.dup, 1) := by decide +kernel
theorem d4_4 : decode jdk_43_method_46_code 4 = .ok (.iconst 0, 1) := by decide +kernel
theorem d4_5 : decode jdk_43_method_46_code 5 = .ok (.iload_n 0, 1) := by decide +kernel
theorem d4_6 : decode jdk_43_method_46_code 6 = .ok (.i2b, 1) := by decide +kernel
theorem d4_7 : decode jdk_43_method_46_code 7 = .ok (.bastore, 1) := by decide +kernel
theorem d4_8 : decode jdk_43_method_46_code 8 = .ok (.areturn, 1) := by decide +kernel
theorem own_ef4 (m : MethodId) (x0 : Int32) : entryFrame m #[(.int x0)] 1 = mkF m 0 #[.val (.int x0)] [] := by first | (simp [entryFrame, mkF, argsToLocals, Value.category]; done) | rfl
def own_Q4 (Z : State) (p4_0 : Int32) (h0 : Heap) (n0 : Nat) (v : Option Value) (h : Heap) (L : List Loc) : Prop := ∃ b : Addr, v = some (.ref b) ∧ Fr n0 L ∧ Keep h0 h [] ∧ h0.size ≤ b ∧ n0 ≤ b
set_option maxRecDepth 65536 in
set_option maxHeartbeats 40000000 in
theorem own_rm4 (l : Launch) (Z : State) (a0 : Array Value) (hw : ∀ d ∈ tables_1, d.before a0 Z = true) (ws : List Jvm.Cond) (p4_0 : Int32) (h0 : Heap) (n0 : Nat) (Z0 : n0 ≤ h0.size) :
    MetFree l (⟨"java/lang/StringLatin1", "toBytes", "(C)[B"⟩ : MethodName) (head1 (Jvm.Cond.code (⟨"java/lang/StringLatin1", "toBytes", "(C)[B"⟩ : MethodName) jdk_43_method_46_code 1 (some (.array .byte)) :: ws) ({ frames := 0, cells := 1, slots := 1, locals := 0 } : Room)) (fun a U => a = #[(.int p4_0)] ∧ Z.Warmed39 U.vm ∧ U.heap = h0) (fun _ _ _ _ _ => True) (fun _ U o U' => ∃ v L, o = .returned v ∧ own_Q4 Z p4_0 h0 n0 v U'.heap L ∧ FrameEnd U o U' L ({ frames := 0, cells := 1, slots := 1, locals := 0 } : Room).cells ({ frames := 0, cells := 1, slots := 1, locals := 0 } : Room).slots) := by
  refine MetFree.of_bodySF (plainFor_of_name pn_java_lang_StringLatin1) hisR ?_
  intro p e s m args below meth c s₁ Bd hml0 hP hK
  obtain ⟨rfl, hZ, hh⟩ := hP
  have hx := Bd.exec
  have hby := Bd.bytes
  have hlk : meth.locks = false := BodyLoose.notSynchronized Bd
  have hml : c.maxLocals = 1 := hml0
  have hown : s.vm.findClass "java/lang/StringLatin1" = some m.cls := findClass_of_methodNamed Bd.named
  have hnm := (name_of_methodNamed Bd.named Bd.method).1
  have X0 : Stand p l e ({ frames := 0, cells := 1, slots := 1, locals := 0 } : Room) s m #[(.int p4_0)] below meth c s₁ [] 0 0 := Stand.of_body Bd
  have e0 : s₁.heap = h0 := by rw [← hh, Bd.state]; rfl
  have N0 := Fr.nil n0
  show own_Go p e below (own_P s below ({ frames := 0, cells := 1, slots := 1, locals := 0 } : Room) (own_Q4 Z p4_0 h0 n0)) s₁ (entryFrame m #[(.int p4_0)] 1)
  refine own_in (own_ef4 m p4_0) ?_
  refine own_by (T' := s₁) (g' := (mkF m 1 #[.val (.int p4_0)] [(.int (1 : Int32))])) (fun t k => ?_) ?_
  · show Steps p.tables e below (s₁.setTop (mkF m 0 #[.val (.int p4_0)] [])) t
    refine XS.iconst X0.here hx rfl (hb hby d4_0) ?_
    show Steps p.tables e below (s₁.setTop (mkF m 1 #[.val (.int p4_0)] [(.int (1 : Int32))])) t
    exact k
  obtain ⟨T16, h16, k16, X16, e16, E16, A16, st16⟩ := newP X0 hx hZ (hw _ (List.mem_of_getElem? (i := 24) rfl)) e0 (g := (mkF m 1 #[.val (.int p4_0)] [(.int (1 : Int32))])) rfl (hb hby d4_1) rfl (by decide) (cap := 1) (by decide) (by decide) (by decide) (by decide)
  obtain ⟨b16, g16⟩ : ∃ z, z = h0.size := ⟨_, rfl⟩
  rw [← g16] at A16 st16
  have gn_b16 : n0 ≤ b16 := Nat.le_trans Z0 (Nat.le_of_eq g16.symm)
  have sz_b16 : h0.size ≤ b16 := Nat.le_trans (Keep.refl h0 []).1 (Nat.le_of_eq g16.symm)
  have K17 : Keep h0 h16 [] := (Keep.refl h0 []).ext E16
  have Z18 := Nat.le_trans Z0 E16.1
  have f19 : Arv Z h16 b16 k16 .byte (1 : Int32) [(.int (0 : Int32))] (.int (0 : Int32)) := (Arv.new A16 (by decide)).pad (pad_rep [] (.int (0 : Int32)) 1)
  refine own_by (T' := T16) (g' := (mkF m 3 #[.val (.int p4_0)] [(.ref b16)])) st16 ?_
  refine own_by (T' := T16) (g' := (mkF m 7 #[.val (.int p4_0)] [(.int (p4_0.toInt8.toInt32)), (.int (0 : Int32)), (.ref b16), (.ref b16)])) (fun t k => ?_) ?_
  · show Steps p.tables e below (T16.setTop (mkF m 3 #[.val (.int p4_0)] [(.ref b16)])) t
    refine XS.dup X16.here hx rfl (hb hby d4_3) rfl rfl ?_
    show Steps p.tables e below (T16.setTop (mkF m 4 #[.val (.int p4_0)] [(.ref b16), (.ref b16)])) t
    refine XS.iconst X16.here hx rfl (hb hby d4_4) ?_
    show Steps p.tables e below (T16.setTop (mkF m 5 #[.val (.int p4_0)] [(.int (0 : Int32)), (.ref b16), (.ref b16)])) t
    refine XS.iloadN X16.here hx rfl (hb hby d4_5) rfl ?_
    show Steps p.tables e below (T16.setTop (mkF m 6 #[.val (.int p4_0)] [(.int p4_0), (.int (0 : Int32)), (.ref b16), (.ref b16)])) t
    refine XS.i2b X16.here hx rfl (hb hby d4_6) rfl ?_
    show Steps p.tables e below (T16.setTop (mkF m 7 #[.val (.int p4_0)] [(.int (p4_0.toInt8.toInt32)), (.int (0 : Int32)), (.ref b16), (.ref b16)])) t
    exact k
  obtain ⟨cl20, Ar20, q20, S20, N20, H20, G20⟩ := f19
  obtain ⟨T21, h21, X21, e21, W21, st21⟩ := stB X16 hx hZ e16 Ar20 (j := (0 : Int32)) (inb_of S20 ⟨by decide, by decide⟩) (g := (mkF m 7 #[.val (.int p4_0)] [(.int (p4_0.toInt8.toInt32)), (.int (0 : Int32)), (.ref b16), (.ref b16)])) rfl rfl (hb hby d4_7)
  have f22 : Arv Z h21 b16 k16 .byte (1 : Int32) [(.int (nar .byte (p4_0.toInt8.toInt32)))] (.int (0 : Int32)) := Arv.set Ar20 q20 S20 N20 H20 G20 (fits_nar_byte _) W21 0 rfl (Nat.le_of_ble_eq_true rfl)
  have K24 : Keep h0 h21 [] := K17.wr W21 (Or.inr sz_b16)
  have N25 := Fr.snoc X21 N0 gn_b16
  obtain ⟨Lh21, X21, N25⟩ := own_hide X21 N25
  have Z26 := Nat.le_trans Z18 (Keep.of_wr W21).1
  refine own_by (T' := T21) (g' := (mkF m 8 #[.val (.int p4_0)] [(.ref b16)])) st21 ?_
  exact own_retR X21 hx Bd.returns rfl rfl rfl (hb hby d4_8) hlk (by decide) (by decide) (by rw [e21]; exact ⟨b16, rfl, N25, K24, sz_b16, gn_b16⟩)
theorem d5_0 : decode jdk_42_method_151_code 0 = .ok (.aload_n 0, 1) := by decide +kernel
theorem d5_1 : decode jdk_42_method_151_code 1 = .ok (.invokespecial 1, 3) := by decide +kernel
theorem d5_4 : decode jdk_42_method_151_code 4 = .ok (.aload_n 0, 1) := by decide +kernel
theorem d5_5 : decode jdk_42_method_151_code 5 = .ok (.aload_n 1, 1) := by decide +kernel
theorem d5_6 : decode jdk_42_method_151_code 6 = .ok (.putfield 9, 3) := by decide +kernel
theorem d5_9 : decode jdk_42_method_151_code 9 = .ok (.aload_n 0, 1) := by decide +kernel
theorem d5_10 : decode jdk_42_method_151_code 10 = .ok (.iload_n 2, 1) := by decide +kernel
theorem d5_11 : decode jdk_42_method_151_code 11 = .ok (.putfield 15, 3) := by decide +kernel
theorem d5_14 : decode jdk_42_method_151_code 14 = .ok (.return_, 1) := by decide +kernel
theorem pn_java_lang_String : plainName "java/lang/String" = true := by first | (simp [plainName, overriddenIn]; done) | decide +kernel
theorem own_ef5 (m : MethodId) (x0 : Addr) (x1 : Addr) (x2 : Int32) : entryFrame m #[(.ref x0), (.ref x1), (.int x2)] 3 = mkF m 0 #[.val (.ref x0), .val (.ref x1), .val (.int x2)] [] := by first | (simp [entryFrame, mkF, argsToLocals, Value.category]; done) | rfl
def own_Q5 (Z : State) (a5_0 : Addr) (a5_1 : Addr) (p5_2 : Int32) (u_value_a5_0 : Value) (u_coder_a5_0 : Value) (h0 : Heap) (n0 : Nat) (v : Option Value) (h : Heap) (L : List Loc) : Prop := v = none ∧ Fr n0 L ∧ Keep h0 h [a5_0] ∧ Exa Z h a5_0 "java/lang/String" ∧ Fld Z h a5_0 "java/lang/String" "value" "[B" (.ref a5_1) ∧ Fld Z h a5_0 "java/lang/String" "coder" "B" (.int (nar .byte p5_2))
set_option maxRecDepth 65536 in
set_option maxHeartbeats 40000000 in
theorem own_rm5 (l : Launch) (Z : State) (a0 : Array Value) (hw : ∀ d ∈ tables_1, d.before a0 Z = true) (ws : List Jvm.Cond) (a5_0 : Addr) (a5_1 : Addr) (p5_2 : Int32) (u_value_a5_0 : Value) (u_coder_a5_0 : Value) (h0 : Heap) (n0 : Nat) (Z0 : n0 ≤ h0.size) (E_a5_0 : Exa Z h0 a5_0 "java/lang/String") (F_value_a5_0 : Fld Z h0 a5_0 "java/lang/String" "value" "[B" u_value_a5_0) (ge_a5_0 : n0 ≤ a5_0) (F_coder_a5_0 : Fld Z h0 a5_0 "java/lang/String" "coder" "B" u_coder_a5_0) :
    MetFree l (⟨"java/lang/String", "<init>", "([BB)V"⟩ : MethodName) (head1 (Jvm.Cond.code (⟨"java/lang/String", "<init>", "([BB)V"⟩ : MethodName) jdk_42_method_151_code 3 none :: ws) ({ frames := 1, cells := 0, slots := 0, locals := 12 } : Room)) (fun a U => a = #[(.ref a5_0), (.ref a5_1), (.int p5_2)] ∧ Z.Warmed39 U.vm ∧ U.heap = h0) (fun _ _ _ _ _ => True) (fun _ U o U' => ∃ v L, o = .returned v ∧ own_Q5 Z a5_0 a5_1 p5_2 u_value_a5_0 u_coder_a5_0 h0 n0 v U'.heap L ∧ FrameEnd U o U' L ({ frames := 1, cells := 0, slots := 0, locals := 12 } : Room).cells ({ frames := 1, cells := 0, slots := 0, locals := 12 } : Room).slots) := by
  refine MetFree.of_bodySF (plainFor_of_name pn_java_lang_String) hisR ?_
  intro p e s m args below meth c s₁ Bd hml0 hP hK
  obtain ⟨rfl, hZ, hh⟩ := hP
  have hx := Bd.exec
  have hby := Bd.bytes
  have hlk : meth.locks = false := BodyLoose.notSynchronized Bd
  have hml : c.maxLocals = 3 := hml0
  have hown : s.vm.findClass "java/lang/String" = some m.cls := findClass_of_methodNamed Bd.named
  have hnm := (name_of_methodNamed Bd.named Bd.method).1
  have X0 : Stand p l e ({ frames := 1, cells := 0, slots := 0, locals := 12 } : Room) s m #[(.ref a5_0), (.ref a5_1), (.int p5_2)] below meth c s₁ [] 0 0 := Stand.of_body Bd
  have e0 : s₁.heap = h0 := by rw [← hh, Bd.state]; rfl
  have N0 := Fr.nil n0
  show own_Go p e below (own_P s below ({ frames := 1, cells := 0, slots := 0, locals := 12 } : Room) (own_Q5 Z a5_0 a5_1 p5_2 u_value_a5_0 u_coder_a5_0 h0 n0)) s₁ (entryFrame m #[(.ref a5_0), (.ref a5_1), (.int p5_2)] 3)
  refine own_in (own_ef5 m a5_0 a5_1 p5_2) ?_
  refine own_by (T' := s₁) (g' := (mkF m 1 #[.val (.ref a5_0), .val (.ref a5_1), .val (.int p5_2)] [(.ref a5_0)])) (fun t k => ?_) ?_
  · show Steps p.tables e below (s₁.setTop (mkF m 0 #[.val (.ref a5_0), .val (.ref a5_1), .val (.int p5_2)] [])) t
    refine XS.aloadN X0.here hx rfl (hb hby d5_0) rfl rfl ?_
    show Steps p.tables e below (s₁.setTop (mkF m 1 #[.val (.ref a5_0), .val (.ref a5_1), .val (.int p5_2)] [(.ref a5_0)])) t
    exact k
  obtain ⟨T27, X27, e27, st27⟩ := initO X0 hx hZ hown (hw _ (List.mem_of_getElem? (i := 29) rfl)) (hw _ (List.mem_of_getElem? (i := 30) rfl)) (hw _ (List.mem_of_getElem? (i := 31) rfl)) e0 (g := (mkF m 1 #[.val (.ref a5_0), .val (.ref a5_1), .val (.int p5_2)] [(.ref a5_0)])) rfl (by rw [hml]; rfl) rfl (hb hby d5_1) (by decide) (W := 0) (by show 2 * 0 + _ ≤ _; exact Nat.le_of_eq rfl) (by decide)
  refine own_by (T' := T27) (g' := (mkF m 4 #[.val (.ref a5_0), .val (.ref a5_1), .val (.int p5_2)] [])) st27 ?_
  refine own_by (T' := T27) (g' := (mkF m 6 #[.val (.ref a5_0), .val (.ref a5_1), .val (.int p5_2)] [(.ref a5_1), (.ref a5_0)])) (fun t k => ?_) ?_
  · show Steps p.tables e below (T27.setTop (mkF m 4 #[.val (.ref a5_0), .val (.ref a5_1), .val (.int p5_2)] [])) t
    refine XS.aloadN X27.here hx rfl (hb hby d5_4) rfl rfl ?_
    show Steps p.tables e below (T27.setTop (mkF m 5 #[.val (.ref a5_0), .val (.ref a5_1), .val (.int p5_2)] [(.ref a5_0)])) t
    refine XS.aloadN X27.here hx rfl (hb hby d5_5) rfl rfl ?_
    show Steps p.tables e below (T27.setTop (mkF m 6 #[.val (.ref a5_0), .val (.ref a5_1), .val (.int p5_2)] [(.ref a5_1), (.ref a5_0)])) t
    exact k
  obtain ⟨T28, h28, X28, e28, W28, st28⟩ := putF X27 hx hZ hown (host := "") (Or.inl (hw _ (List.mem_of_getElem? (i := 32) rfl))) Via.refl e27 F_value_a5_0 E_a5_0 (Or.inr ⟨(hw _ (List.mem_of_getElem? (i := 33) rfl)), rfl, hnm⟩) (hw _ (List.mem_of_getElem? (i := 20) rfl)) (ty := (.array .byte)) (by decide) rfl rfl (g := (mkF m 6 #[.val (.ref a5_0), .val (.ref a5_1), .val (.int p5_2)] [(.ref a5_1), (.ref a5_0)])) rfl rfl (hb hby d5_6)
  have f29 := F_value_a5_0.same W28
  have f30 := E_a5_0.wr W28
  have f32 := F_coder_a5_0.other W28 (Or.inr (slot_ne (Or.inr (hw _ (List.mem_of_getElem? (i := 35) rfl))) (Or.inr (hw _ (List.mem_of_getElem? (i := 33) rfl))) (by decide) (t := .byte) (t' := (.array .byte)) (by decide) (by decide)))
  have K33 : Keep h0 h28 [a5_0] := (Keep.refl h0 [a5_0]).wr W28 (Or.inl (List.mem_of_getElem? (i := 0) rfl))
  have N34 := Fr.snoc X28 N0 ge_a5_0
  obtain ⟨Lh28, X28, N34⟩ := own_hide X28 N34
  have Z35 := Nat.le_trans Z0 (Keep.of_wr W28).1
  refine own_by (T' := T28) (g' := (mkF m 9 #[.val (.ref a5_0), .val (.ref a5_1), .val (.int p5_2)] [])) st28 ?_
  refine own_by (T' := T28) (g' := (mkF m 11 #[.val (.ref a5_0), .val (.ref a5_1), .val (.int p5_2)] [(.int p5_2), (.ref a5_0)])) (fun t k => ?_) ?_
  · show Steps p.tables e below (T28.setTop (mkF m 9 #[.val (.ref a5_0), .val (.ref a5_1), .val (.int p5_2)] [])) t
    refine XS.aloadN X28.here hx rfl (hb hby d5_9) rfl rfl ?_
    show Steps p.tables e below (T28.setTop (mkF m 10 #[.val (.ref a5_0), .val (.ref a5_1), .val (.int p5_2)] [(.ref a5_0)])) t
    refine XS.iloadN X28.here hx rfl (hb hby d5_10) rfl ?_
    show Steps p.tables e below (T28.setTop (mkF m 11 #[.val (.ref a5_0), .val (.ref a5_1), .val (.int p5_2)] [(.int p5_2), (.ref a5_0)])) t
    exact k
  obtain ⟨T36, h36, X36, e36, W36, st36⟩ := putFN X28 hx hZ hown (hw _ (List.mem_of_getElem? (i := 34) rfl)) Via.refl e28 f32 f30 (Or.inr ⟨(hw _ (List.mem_of_getElem? (i := 35) rfl)), rfl, hnm⟩) (hw _ (List.mem_of_getElem? (i := 20) rfl)) (ty := .byte) (v' := (.int (nar .byte p5_2))) (by decide) rfl (fits_nar_byte _) (g := (mkF m 11 #[.val (.ref a5_0), .val (.ref a5_1), .val (.int p5_2)] [(.int p5_2), (.ref a5_0)])) rfl rfl (hb hby d5_11)
  have f37 := f32.same W36
  have f38 := f30.wr W36
  have f39 := f29.other W36 (Or.inr (slot_ne (Or.inr (hw _ (List.mem_of_getElem? (i := 33) rfl))) (Or.inr (hw _ (List.mem_of_getElem? (i := 35) rfl))) (by decide) (t := (.array .byte)) (t' := .byte) (by decide) (by decide)))
  have K41 : Keep h0 h36 [a5_0] := K33.wr W36 (Or.inl (List.mem_of_getElem? (i := 0) rfl))
  have N42 := Fr.snoc X36 N34 ge_a5_0
  obtain ⟨Lh36, X36, N42⟩ := own_hide X36 N42
  have Z43 := Nat.le_trans Z35 (Keep.of_wr W36).1
  refine own_by (T' := T36) (g' := (mkF m 14 #[.val (.ref a5_0), .val (.ref a5_1), .val (.int p5_2)] [])) st36 ?_
  exact own_ret0 X36 hx Bd.returns (hb hby d5_14) hlk (by decide) (by decide) (by rw [e36]; exact ⟨rfl, N42, K41, f38, f39, f37⟩)
theorem d14_0 : decode jdk_30_method_1_code 0 = .ok (.aload_n 0, 1) := by decide +kernel
theorem d14_1 : decode jdk_30_method_1_code 1 = .ok (.invokespecial 1, 3) := by decide +kernel
theorem d14_4 : decode jdk_30_method_1_code 4 = .ok (.return_, 1) := by decide +kernel
theorem pn_java_lang_Record : plainName "java/lang/Record" = true := by first | (simp [plainName, overriddenIn]; done) | decide +kernel
theorem own_ef14 (m : MethodId) (x0 : Addr) : entryFrame m #[(.ref x0)] 1 = mkF m 0 #[.val (.ref x0)] [] := by first | (simp [entryFrame, mkF, argsToLocals, Value.category]; done) | rfl
def own_Q14 (Z : State) (a14_0 : Addr) (h0 : Heap) (n0 : Nat) (v : Option Value) (h : Heap) (L : List Loc) : Prop := v = none ∧ Fr n0 L ∧ Keep h0 h []
set_option maxRecDepth 65536 in
set_option maxHeartbeats 40000000 in
theorem own_rm14 (l : Launch) (Z : State) (a0 : Array Value) (hw : ∀ d ∈ tables_1, d.before a0 Z = true) (ws : List Jvm.Cond) (a14_0 : Addr) (h0 : Heap) (n0 : Nat) (Z0 : n0 ≤ h0.size) :
    MetFree l (⟨"java/lang/Record", "<init>", "()V"⟩ : MethodName) (head1 (Jvm.Cond.code (⟨"java/lang/Record", "<init>", "()V"⟩ : MethodName) jdk_30_method_1_code 1 none :: ws) ({ frames := 1, cells := 0, slots := 0, locals := 12 } : Room)) (fun a U => a = #[(.ref a14_0)] ∧ Z.Warmed39 U.vm ∧ U.heap = h0) (fun _ _ _ _ _ => True) (fun _ U o U' => ∃ v L, o = .returned v ∧ own_Q14 Z a14_0 h0 n0 v U'.heap L ∧ FrameEnd U o U' L ({ frames := 1, cells := 0, slots := 0, locals := 12 } : Room).cells ({ frames := 1, cells := 0, slots := 0, locals := 12 } : Room).slots) := by
  refine MetFree.of_bodySF (plainFor_of_name pn_java_lang_Record) hisR ?_
  intro p e s m args below meth c s₁ Bd hml0 hP hK
  obtain ⟨rfl, hZ, hh⟩ := hP
  have hx := Bd.exec
  have hby := Bd.bytes
  have hlk : meth.locks = false := BodyLoose.notSynchronized Bd
  have hml : c.maxLocals = 1 := hml0
  have hown : s.vm.findClass "java/lang/Record" = some m.cls := findClass_of_methodNamed Bd.named
  have hnm := (name_of_methodNamed Bd.named Bd.method).1
  have X0 : Stand p l e ({ frames := 1, cells := 0, slots := 0, locals := 12 } : Room) s m #[(.ref a14_0)] below meth c s₁ [] 0 0 := Stand.of_body Bd
  have e0 : s₁.heap = h0 := by rw [← hh, Bd.state]; rfl
  have N0 := Fr.nil n0
  show own_Go p e below (own_P s below ({ frames := 1, cells := 0, slots := 0, locals := 12 } : Room) (own_Q14 Z a14_0 h0 n0)) s₁ (entryFrame m #[(.ref a14_0)] 1)
  refine own_in (own_ef14 m a14_0) ?_
  refine own_by (T' := s₁) (g' := (mkF m 1 #[.val (.ref a14_0)] [(.ref a14_0)])) (fun t k => ?_) ?_
  · show Steps p.tables e below (s₁.setTop (mkF m 0 #[.val (.ref a14_0)] [])) t
    refine XS.aloadN X0.here hx rfl (hb hby d14_0) rfl rfl ?_
    show Steps p.tables e below (s₁.setTop (mkF m 1 #[.val (.ref a14_0)] [(.ref a14_0)])) t
    exact k
  obtain ⟨T44, X44, e44, st44⟩ := initO X0 hx hZ hown (hw _ (List.mem_of_getElem? (i := 106) rfl)) (hw _ (List.mem_of_getElem? (i := 30) rfl)) (hw _ (List.mem_of_getElem? (i := 31) rfl)) e0 (g := (mkF m 1 #[.val (.ref a14_0)] [(.ref a14_0)])) rfl (by rw [hml]; rfl) rfl (hb hby d14_1) (by decide) (W := 0) (by show 2 * 0 + _ ≤ _; exact Nat.le_of_eq rfl) (by decide)
  refine own_by (T' := T44) (g' := (mkF m 4 #[.val (.ref a14_0)] [])) st44 ?_
  exact own_ret0 X44 hx Bd.returns (hb hby d14_4) hlk (by decide) (by decide) (by rw [e44]; exact ⟨rfl, N0, (Keep.refl h0 [])⟩)
theorem d1_0 : decode jdk_33_method_22_code 0 = .ok (.iload_n 0, 1) := by decide +kernel
theorem d1_1 : decode jdk_33_method_22_code 1 = .ok (.bipush (-128), 2) := by decide +kernel
theorem d1_3 : decode jdk_33_method_22_code 3 = .ok (.if_icmp .lt 20, 3) := by decide +kernel
theorem d1_23 : decode jdk_33_method_22_code 23 = .ok (.new 1, 3) := by decide +kernel
theorem d1_26 : decode jdk_33_method_22_code 26 = .ok (.dup, 1) := by decide +kernel
theorem d1_27 : decode jdk_33_method_22_code 27 = .ok (.iload_n 0, 1) := by decide +kernel
theorem d1_28 : decode jdk_33_method_22_code 28 = .ok (.invokespecial 199, 3) := by decide +kernel
theorem pd__I_V : parseMethodDescriptor "(I)V" = some ⟨[.int], none⟩ := by decide +kernel
theorem d1_31 : decode jdk_33_method_22_code 31 = .ok (.areturn, 1) := by decide +kernel
theorem d1_6 : decode jdk_33_method_22_code 6 = .ok (.iload_n 0, 1) := by decide +kernel
theorem d1_7 : decode jdk_33_method_22_code 7 = .ok (.getstatic 191, 3) := by decide +kernel
theorem d1_10 : decode jdk_33_method_22_code 10 = .ok (.if_icmp .gt 13, 3) := by decide +kernel
theorem d1_13 : decode jdk_33_method_22_code 13 = .ok (.getstatic 195, 3) := by decide +kernel
theorem d1_16 : decode jdk_33_method_22_code 16 = .ok (.iload_n 0, 1) := by decide +kernel
theorem d1_17 : decode jdk_33_method_22_code 17 = .ok (.sipush 128, 3) := by decide +kernel
theorem d1_20 : decode jdk_33_method_22_code 20 = .ok (.iadd, 1) := by decide +kernel
theorem d1_21 : decode jdk_33_method_22_code 21 = .ok (.aaload, 1) := by decide +kernel
theorem d1_22 : decode jdk_33_method_22_code 22 = .ok (.areturn, 1) := by decide +kernel
theorem own_ef1 (m : MethodId) (x0 : Int32) : entryFrame m #[(.int x0)] 1 = mkF m 0 #[.val (.int x0)] [] := by first | (simp [entryFrame, mkF, argsToLocals, Value.category]; done) | rfl
def own_Q1 (Z : State) (p1_0 : Int32) (wIC : Addr) (cIC : Cell) (h0 : Heap) (n0 : Nat) (v : Option Value) (h : Heap) (L : List Loc) : Prop := ∃ b : Addr, v = some (.ref b) ∧ Fr n0 L ∧ Keep h0 h [] ∧ Exa Z h b "java/lang/Integer"
set_option maxRecDepth 65536 in
set_option maxHeartbeats 40000000 in
theorem own_rm1 (l : Launch) (Z : State) (a0 : Array Value) (hw : ∀ d ∈ tables_1, d.before a0 Z = true) (ws : List Jvm.Cond) (p1_0 : Int32) (wIC : Addr) (cIC : Cell) (h0 : Heap) (n0 : Nat) (Z0 : n0 ≤ h0.size) (O0 : Old Z n0 h0) (SHi : Sta Z Z.heap "java/lang/Integer$IntegerCache" "high" "I" (.int (127 : Int32))) (SIC : Sta Z Z.heap "java/lang/Integer$IntegerCache" "cache" "[Ljava/lang/Integer;" (.ref wIC)) (BIC : Bxs Z wIC cIC "java/lang/Integer" "I" (256 : Int32) (fun j => .int (j - 128))) :
    MetFree l (⟨"java/lang/Integer", "valueOf", "(I)Ljava/lang/Integer;"⟩ : MethodName) (head1 (Jvm.Cond.code (⟨"java/lang/Integer", "valueOf", "(I)Ljava/lang/Integer;"⟩ : MethodName) jdk_33_method_22_code 1 (some (.object "java/lang/Integer")) :: ws) ({ frames := 3, cells := 1, slots := 1, locals := 38 } : Room)) (fun a U => a = #[(.int p1_0)] ∧ Z.Warmed39 U.vm ∧ U.heap = h0) (fun _ _ _ _ _ => True) (fun _ U o U' => ∃ v L, o = .returned v ∧ own_Q1 Z p1_0 wIC cIC h0 n0 v U'.heap L ∧ FrameEnd U o U' L ({ frames := 3, cells := 1, slots := 1, locals := 38 } : Room).cells ({ frames := 3, cells := 1, slots := 1, locals := 38 } : Room).slots) := by
  refine MetFree.of_bodySF (plainFor_of_name pn_java_lang_Integer) hisR ?_
  intro p e s m args below meth c s₁ Bd hml0 hP hK
  obtain ⟨rfl, hZ, hh⟩ := hP
  have hx := Bd.exec
  have hby := Bd.bytes
  have hlk : meth.locks = false := BodyLoose.notSynchronized Bd
  have hml : c.maxLocals = 1 := hml0
  have hown : s.vm.findClass "java/lang/Integer" = some m.cls := findClass_of_methodNamed Bd.named
  have hnm := (name_of_methodNamed Bd.named Bd.method).1
  have X0 : Stand p l e ({ frames := 3, cells := 1, slots := 1, locals := 38 } : Room) s m #[(.int p1_0)] below meth c s₁ [] 0 0 := Stand.of_body Bd
  have e0 : s₁.heap = h0 := by rw [← hh, Bd.state]; rfl
  have N0 := Fr.nil n0
  show own_Go p e below (own_P s below ({ frames := 3, cells := 1, slots := 1, locals := 38 } : Room) (own_Q1 Z p1_0 wIC cIC h0 n0)) s₁ (entryFrame m #[(.int p1_0)] 1)
  refine own_in (own_ef1 m p1_0) ?_
  refine own_by (T' := s₁) (g' := (mkF m 3 #[.val (.int p1_0)] [(.int (-128 : Int32)), (.int p1_0)])) (fun t k => ?_) ?_
  · show Steps p.tables e below (s₁.setTop (mkF m 0 #[.val (.int p1_0)] [])) t
    refine XS.iloadN X0.here hx rfl (hb hby d1_0) rfl ?_
    show Steps p.tables e below (s₁.setTop (mkF m 1 #[.val (.int p1_0)] [(.int p1_0)])) t
    refine XS.bipush X0.here hx rfl (hb hby d1_1) ?_
    show Steps p.tables e below (s₁.setTop (mkF m 3 #[.val (.int p1_0)] [(.int (-128 : Int32)), (.int p1_0)])) t
    exact k
  by_cases hc45 : p1_0 < (-128 : Int32)
  · skip
    refine own_by (T' := s₁) (g' := (mkF m 23 #[.val (.int p1_0)] [])) (fun t k => ?_) ?_
    · show Steps p.tables e below (s₁.setTop (mkF m 3 #[.val (.int p1_0)] [(.int (-128 : Int32)), (.int p1_0)])) t
      refine XS.icmpYes X0.here hx rfl (pc0 := 3) (pc' := 23) rfl (hb hby d1_3) rfl (tlt hc45).1 (by decide) (by decide) ?_
      show Steps p.tables e below (s₁.setTop (mkF m 23 #[.val (.int p1_0)] [])) t
      exact k
    obtain ⟨T46, h46, X46, e46, E46, A46, D46, U46, st46⟩ := newO X0 hx hZ hown (hw _ (List.mem_of_getElem? (i := 127) rfl)) (hw _ (List.mem_of_getElem? (i := 128) rfl)) (hw _ (List.mem_of_getElem? (i := 2) rfl)) e0 (g := (mkF m 23 #[.val (.int p1_0)] [])) rfl (hb hby d1_23) (by decide) (by decide)
    obtain ⟨b46, g46⟩ : ∃ z, z = h0.size := ⟨_, rfl⟩
    rw [← g46] at A46 D46 U46 st46
    have gn_b46 : n0 ≤ b46 := Nat.le_trans Z0 (Nat.le_of_eq g46.symm)
    have sz_b46 : h0.size ≤ b46 := Nat.le_trans (Keep.refl h0 []).1 (Nat.le_of_eq g46.symm)
    have K47 : Keep h0 h46 [] := (Keep.refl h0 []).ext E46
    have O48 := O0.ext E46
    have Z49 := Nat.le_trans Z0 E46.1
    have f50 : Fld Z h46 b46 "java/lang/Integer" "value" "I" (.int (0 : Int32)) := D46 (Or.inr (hw _ (List.mem_of_getElem? (i := 141) rfl))) (ty := .int) (by decide)
    refine own_by (T' := T46) (g' := (mkF m 26 #[.val (.int p1_0)] [(.ref b46)])) st46 ?_
    refine own_by (T' := T46) (g' := (mkF m 28 #[.val (.int p1_0)] [(.int p1_0), (.ref b46), (.ref b46)])) (fun t k => ?_) ?_
    · show Steps p.tables e below (T46.setTop (mkF m 26 #[.val (.int p1_0)] [(.ref b46)])) t
      refine XS.dup X46.here hx rfl (hb hby d1_26) rfl rfl ?_
      show Steps p.tables e below (T46.setTop (mkF m 27 #[.val (.int p1_0)] [(.ref b46), (.ref b46)])) t
      refine XS.iloadN X46.here hx rfl (hb hby d1_27) rfl ?_
      show Steps p.tables e below (T46.setTop (mkF m 28 #[.val (.int p1_0)] [(.int p1_0), (.ref b46), (.ref b46)])) t
      exact k
    obtain ⟨v51, _, ⟨T51, L51, k51, n51⟩, -, X51, ⟨Lc51, hQ51, l51, y51, z51⟩, st51⟩ := X46.specialBack hx (y := (⟨"java/lang/Integer", "<init>", "(I)V"⟩ : MethodName)) rfl hown (mvT hZ (hw _ (List.mem_of_getElem? (i := 129) rfl))) (mvT hZ (hw _ (List.mem_of_getElem? (i := 130) rfl))) (mvT hZ (hw _ (List.mem_of_getElem? (i := 132) rfl))) (by decide) (backOf (W := 1) (own_rm17 l Z a0 hw [] b46 p1_0 (.int (0 : Int32)) h46 n0 Z49 A46 f50 gn_b46) hZ (hw _ (List.mem_of_getElem? (i := 132) rfl)) (hw _ (List.mem_of_getElem? (i := 2) rfl)) (by decide) (by decide)) (g := (mkF m 28 #[.val (.int p1_0)] [(.int p1_0), (.ref b46), (.ref b46)])) rfl (by rw [hml]; rfl) (Steps.refl _) (a := b46) (argsL := [(.int p1_0)]) (rest := [(.ref b46)]) (lenOf pd__I_V rfl) rfl (by show 2 * 0 + _ ≤ _; exact Nat.le_of_eq rfl) (hb hby d1_28) (fun _ _ => ⟨rfl, e46, (by decide : 1 + 0 ≤ _), (by decide : 1 + 0 ≤ _)⟩)
    dsimp only [Pt.U, Pt.locs, Pt.cells, Pt.slots] at X51 l51 y51 z51 st51 hQ51
    subst y51 z51
    obtain ⟨rfl, M51, K51, f52, f53⟩ := hQ51
    have f54 := A46.keep K51
    have K55 : Keep h0 T51.heap [] := K47.trans K51 (allS (Or.inr sz_b46) all0)
    have O56 := O48.keep K51 (allS gn_b46 all0)
    have Z57 := Nat.le_trans Z49 K51.1
    have N58 : Fr n0 L51 := by rw [l51]; exact Fr.app N0 M51
    refine own_via (T' := T51) (g' := (mkF m 31 #[.val (.int p1_0)] [(.ref b46)])) st51 ?_
    exact own_retR X51 hx Bd.returns rfl rfl rfl (hb hby d1_31) hlk (by decide) (by decide) ⟨b46, rfl, N58, K55, f52⟩
  · skip
    refine own_by (T' := s₁) (g' := (mkF m 7 #[.val (.int p1_0)] [(.int p1_0)])) (fun t k => ?_) ?_
    · show Steps p.tables e below (s₁.setTop (mkF m 3 #[.val (.int p1_0)] [(.int (-128 : Int32)), (.int p1_0)])) t
      refine XS.icmpNo X0.here hx rfl (hb hby d1_3) rfl (flt hc45).1 ?_
      show Steps p.tables e below (s₁.setTop (mkF m 6 #[.val (.int p1_0)] [])) t
      refine XS.iloadN X0.here hx rfl (hb hby d1_6) rfl ?_
      show Steps p.tables e below (s₁.setTop (mkF m 7 #[.val (.int p1_0)] [(.int p1_0)])) t
      exact k
    obtain ⟨T59, X59, e59, st59⟩ := getS2 X0 hx hZ hown (host := "") (Or.inl (hw _ (List.mem_of_getElem? (i := 4) rfl))) Via.refl e0 (SHi.ext O0.2) (g := (mkF m 7 #[.val (.int p1_0)] [(.int p1_0)])) rfl (hb hby d1_7)
    refine own_by (T' := T59) (g' := (mkF m 10 #[.val (.int p1_0)] [(.int (127 : Int32)), (.int p1_0)])) st59 ?_
    by_cases hc60 : (127 : Int32) < p1_0
    · skip
      refine own_by (T' := T59) (g' := (mkF m 23 #[.val (.int p1_0)] [])) (fun t k => ?_) ?_
      · show Steps p.tables e below (T59.setTop (mkF m 10 #[.val (.int p1_0)] [(.int (127 : Int32)), (.int p1_0)])) t
        refine XS.icmpYes X59.here hx rfl (pc0 := 10) (pc' := 23) rfl (hb hby d1_10) rfl (tlt hc60).2.2.1 (by decide) (by decide) ?_
        show Steps p.tables e below (T59.setTop (mkF m 23 #[.val (.int p1_0)] [])) t
        exact k
      obtain ⟨T61, h61, X61, e61, E61, A61, D61, U61, st61⟩ := newO X59 hx hZ hown (hw _ (List.mem_of_getElem? (i := 127) rfl)) (hw _ (List.mem_of_getElem? (i := 128) rfl)) (hw _ (List.mem_of_getElem? (i := 2) rfl)) e59 (g := (mkF m 23 #[.val (.int p1_0)] [])) rfl (hb hby d1_23) (by decide) (by decide)
      obtain ⟨b61, g61⟩ : ∃ z, z = h0.size := ⟨_, rfl⟩
      rw [← g61] at A61 D61 U61 st61
      have gn_b61 : n0 ≤ b61 := Nat.le_trans Z0 (Nat.le_of_eq g61.symm)
      have sz_b61 : h0.size ≤ b61 := Nat.le_trans (Keep.refl h0 []).1 (Nat.le_of_eq g61.symm)
      have K62 : Keep h0 h61 [] := (Keep.refl h0 []).ext E61
      have O63 := O0.ext E61
      have Z64 := Nat.le_trans Z0 E61.1
      have f65 : Fld Z h61 b61 "java/lang/Integer" "value" "I" (.int (0 : Int32)) := D61 (Or.inr (hw _ (List.mem_of_getElem? (i := 141) rfl))) (ty := .int) (by decide)
      refine own_by (T' := T61) (g' := (mkF m 26 #[.val (.int p1_0)] [(.ref b61)])) st61 ?_
      refine own_by (T' := T61) (g' := (mkF m 28 #[.val (.int p1_0)] [(.int p1_0), (.ref b61), (.ref b61)])) (fun t k => ?_) ?_
      · show Steps p.tables e below (T61.setTop (mkF m 26 #[.val (.int p1_0)] [(.ref b61)])) t
        refine XS.dup X61.here hx rfl (hb hby d1_26) rfl rfl ?_
        show Steps p.tables e below (T61.setTop (mkF m 27 #[.val (.int p1_0)] [(.ref b61), (.ref b61)])) t
        refine XS.iloadN X61.here hx rfl (hb hby d1_27) rfl ?_
        show Steps p.tables e below (T61.setTop (mkF m 28 #[.val (.int p1_0)] [(.int p1_0), (.ref b61), (.ref b61)])) t
        exact k
      obtain ⟨v66, _, ⟨T66, L66, k66, n66⟩, -, X66, ⟨Lc66, hQ66, l66, y66, z66⟩, st66⟩ := X61.specialBack hx (y := (⟨"java/lang/Integer", "<init>", "(I)V"⟩ : MethodName)) rfl hown (mvT hZ (hw _ (List.mem_of_getElem? (i := 129) rfl))) (mvT hZ (hw _ (List.mem_of_getElem? (i := 130) rfl))) (mvT hZ (hw _ (List.mem_of_getElem? (i := 132) rfl))) (by decide) (backOf (W := 1) (own_rm17 l Z a0 hw [] b61 p1_0 (.int (0 : Int32)) h61 n0 Z64 A61 f65 gn_b61) hZ (hw _ (List.mem_of_getElem? (i := 132) rfl)) (hw _ (List.mem_of_getElem? (i := 2) rfl)) (by decide) (by decide)) (g := (mkF m 28 #[.val (.int p1_0)] [(.int p1_0), (.ref b61), (.ref b61)])) rfl (by rw [hml]; rfl) (Steps.refl _) (a := b61) (argsL := [(.int p1_0)]) (rest := [(.ref b61)]) (lenOf pd__I_V rfl) rfl (by show 2 * 0 + _ ≤ _; exact Nat.le_of_eq rfl) (hb hby d1_28) (fun _ _ => ⟨rfl, e61, (by decide : 1 + 0 ≤ _), (by decide : 1 + 0 ≤ _)⟩)
      dsimp only [Pt.U, Pt.locs, Pt.cells, Pt.slots] at X66 l66 y66 z66 st66 hQ66
      subst y66 z66
      obtain ⟨rfl, M66, K66, f67, f68⟩ := hQ66
      have f69 := A61.keep K66
      have K70 : Keep h0 T66.heap [] := K62.trans K66 (allS (Or.inr sz_b61) all0)
      have O71 := O63.keep K66 (allS gn_b61 all0)
      have Z72 := Nat.le_trans Z64 K66.1
      have N73 : Fr n0 L66 := by rw [l66]; exact Fr.app N0 M66
      refine own_via (T' := T66) (g' := (mkF m 31 #[.val (.int p1_0)] [(.ref b61)])) st66 ?_
      exact own_retR X66 hx Bd.returns rfl rfl rfl (hb hby d1_31) hlk (by decide) (by decide) ⟨b61, rfl, N73, K70, f67⟩
    · skip
      refine own_by (T' := T59) (g' := (mkF m 13 #[.val (.int p1_0)] [])) (fun t k => ?_) ?_
      · show Steps p.tables e below (T59.setTop (mkF m 10 #[.val (.int p1_0)] [(.int (127 : Int32)), (.int p1_0)])) t
        refine XS.icmpNo X59.here hx rfl (hb hby d1_10) rfl (flt hc60).2.2.1 ?_
        show Steps p.tables e below (T59.setTop (mkF m 13 #[.val (.int p1_0)] [])) t
        exact k
      obtain ⟨T74, X74, e74, st74⟩ := getS2 X59 hx hZ hown (host := "") (Or.inl (hw _ (List.mem_of_getElem? (i := 6) rfl))) Via.refl e59 (SIC.ext O0.2) (g := (mkF m 13 #[.val (.int p1_0)] [])) rfl (hb hby d1_13)
      refine own_by (T' := T74) (g' := (mkF m 16 #[.val (.int p1_0)] [(.ref wIC)])) st74 ?_
      refine own_by (T' := T74) (g' := (mkF m 21 #[.val (.int p1_0)] [(.int (p1_0 + (128 : Int32))), (.ref wIC)])) (fun t k => ?_) ?_
      · show Steps p.tables e below (T74.setTop (mkF m 16 #[.val (.int p1_0)] [(.ref wIC)])) t
        refine XS.iloadN X74.here hx rfl (hb hby d1_16) rfl ?_
        show Steps p.tables e below (T74.setTop (mkF m 17 #[.val (.int p1_0)] [(.int p1_0), (.ref wIC)])) t
        refine XS.sipush X74.here hx rfl (hb hby d1_17) ?_
        show Steps p.tables e below (T74.setTop (mkF m 20 #[.val (.int p1_0)] [(.int (128 : Int32)), (.int p1_0), (.ref wIC)])) t
        refine XS.iadd X74.here hx rfl (hb hby d1_20) rfl ?_
        show Steps p.tables e below (T74.setTop (mkF m 21 #[.val (.int p1_0)] [(.int (p1_0 + (128 : Int32))), (.ref wIC)])) t
        exact k
      have hin75 := inb_of BIC.2.1 (j := (p1_0 + (128 : Int32))) (own_iidx p1_0 hc45 hc60)
      obtain ⟨c75, hp75, Ee75, Fe75⟩ := BIC.2.2.2 _ hin75
      refine own_by (T' := T74) (g' := (mkF m 22 #[.val (.int p1_0)] [(.ref c75)])) (fun t k => X74.aaload hx (j := (p1_0 + (128 : Int32))) (v := (.ref c75)) (by rw [e74]; exact (BIC.1.ext O0.2).1) (State.isArrayOf_alike hZ.alike BIC.1.2.1) rfl BIC.1.2.2 hin75 hp75 (g := (mkF m 21 #[.val (.int p1_0)] [(.int (p1_0 + (128 : Int32))), (.ref wIC)])) rfl rfl (hb hby d1_21) t k) ?_
      exact own_retR X74 hx Bd.returns rfl rfl rfl (hb hby d1_22) hlk (by decide) (by decide) (by rw [e74]; exact ⟨c75, rfl, N0, (Keep.refl h0 []), (Ee75.ext O0.2)⟩)
theorem d2_0 : decode jdk_42_method_139_code 0 = .ok (.getstatic 38, 3) := by decide +kernel
theorem d2_3 : decode jdk_42_method_139_code 3 = .ok (.ifCond .eq 23, 3) := by decide +kernel
theorem d2_6 : decode jdk_42_method_139_code 6 = .ok (.iload_n 0, 1) := by decide +kernel
theorem d2_7 : decode jdk_42_method_139_code 7 = .ok (.invokestatic 1015, 3) := by decide +kernel
theorem pd__C_Z : parseMethodDescriptor "(C)Z" = some ⟨[.char], some .boolean⟩ := by decide +kernel
theorem d2_10 : decode jdk_42_method_139_code 10 = .ok (.ifCond .eq 16, 3) := by decide +kernel
theorem d2_13 : decode jdk_42_method_139_code 13 = .ok (.new 10, 3) := by decide +kernel
theorem d2_16 : decode jdk_42_method_139_code 16 = .ok (.dup, 1) := by decide +kernel
theorem d2_17 : decode jdk_42_method_139_code 17 = .ok (.iload_n 0, 1) := by decide +kernel
theorem d2_18 : decode jdk_42_method_139_code 18 = .ok (.invokestatic 1018, 3) := by decide +kernel
theorem pd__C__B : parseMethodDescriptor "(C)[B" = some ⟨[.char], some (.array .byte)⟩ := by decide +kernel
theorem d2_21 : decode jdk_42_method_139_code 21 = .ok (.iconst 0, 1) := by decide +kernel
theorem d2_22 : decode jdk_42_method_139_code 22 = .ok (.invokespecial 209, 3) := by decide +kernel
theorem pd___BB_V : parseMethodDescriptor "([BB)V" = some ⟨[(.array .byte), .byte], none⟩ := by decide +kernel
theorem d2_25 : decode jdk_42_method_139_code 25 = .ok (.areturn, 1) := by decide +kernel
theorem own_ef2 (m : MethodId) (x0 : Int32) : entryFrame m #[(.int x0)] 1 = mkF m 0 #[.val (.int x0)] [] := by first | (simp [entryFrame, mkF, argsToLocals, Value.category]; done) | rfl
def own_Q2 (Z : State) (p2_0 : Int32) (cs : Int32) (h0 : Heap) (n0 : Nat) (v : Option Value) (h : Heap) (L : List Loc) : Prop := ∃ b : Addr, v = some (.ref b) ∧ Fr n0 L ∧ Keep h0 h [] ∧ h0.size ≤ b ∧ n0 ≤ b ∧ Exa Z h b "java/lang/String" ∧ Fld Z h b "java/lang/String" "coder" "B" (.int (nar .byte (0 : Int32)))
set_option maxRecDepth 65536 in
set_option maxHeartbeats 40000000 in
theorem own_rm2 (l : Launch) (Z : State) (a0 : Array Value) (hw : ∀ d ∈ tables_1, d.before a0 Z = true) (ws : List Jvm.Cond) (p2_0 : Int32) (cs : Int32) (h0 : Heap) (n0 : Nat) (Z0 : n0 ≤ h0.size) (O0 : Old Z n0 h0) (HC : ¬ ((own_F3 p2_0) = (0 : Int32))) (SC : Sta Z Z.heap "java/lang/String" "COMPACT_STRINGS" "Z" (.int cs)) (HCS : ¬ (cs = (0 : Int32))) :
    MetFree l (⟨"java/lang/String", "valueOf", "(C)Ljava/lang/String;"⟩ : MethodName) (head1 (Jvm.Cond.code (⟨"java/lang/String", "valueOf", "(C)Ljava/lang/String;"⟩ : MethodName) jdk_42_method_139_code 1 (some (.object "java/lang/String")) :: ws) ({ frames := 2, cells := 2, slots := 5, locals := 27 } : Room)) (fun a U => a = #[(.int p2_0)] ∧ Z.Warmed39 U.vm ∧ U.heap = h0) (fun _ _ _ _ _ => True) (fun _ U o U' => ∃ v L, o = .returned v ∧ own_Q2 Z p2_0 cs h0 n0 v U'.heap L ∧ FrameEnd U o U' L ({ frames := 2, cells := 2, slots := 5, locals := 27 } : Room).cells ({ frames := 2, cells := 2, slots := 5, locals := 27 } : Room).slots) := by
  refine MetFree.of_bodySF (plainFor_of_name pn_java_lang_String) hisR ?_
  intro p e s m args below meth c s₁ Bd hml0 hP hK
  obtain ⟨rfl, hZ, hh⟩ := hP
  have hx := Bd.exec
  have hby := Bd.bytes
  have hlk : meth.locks = false := BodyLoose.notSynchronized Bd
  have hml : c.maxLocals = 1 := hml0
  have hown : s.vm.findClass "java/lang/String" = some m.cls := findClass_of_methodNamed Bd.named
  have hnm := (name_of_methodNamed Bd.named Bd.method).1
  have X0 : Stand p l e ({ frames := 2, cells := 2, slots := 5, locals := 27 } : Room) s m #[(.int p2_0)] below meth c s₁ [] 0 0 := Stand.of_body Bd
  have e0 : s₁.heap = h0 := by rw [← hh, Bd.state]; rfl
  have N0 := Fr.nil n0
  show own_Go p e below (own_P s below ({ frames := 2, cells := 2, slots := 5, locals := 27 } : Room) (own_Q2 Z p2_0 cs h0 n0)) s₁ (entryFrame m #[(.int p2_0)] 1)
  refine own_in (own_ef2 m p2_0) ?_
  obtain ⟨T76, X76, e76, st76⟩ := getS2 X0 hx hZ hown (host := "") (Or.inl (hw _ (List.mem_of_getElem? (i := 14) rfl))) Via.refl e0 (SC.ext O0.2) (g := (mkF m 0 #[.val (.int p2_0)] [])) rfl (hb hby d2_0)
  refine own_by (T' := T76) (g' := (mkF m 3 #[.val (.int p2_0)] [(.int cs)])) st76 ?_
  refine own_by (T' := T76) (g' := (mkF m 7 #[.val (.int p2_0)] [(.int p2_0)])) (fun t k => ?_) ?_
  · show Steps p.tables e below (T76.setTop (mkF m 3 #[.val (.int p2_0)] [(.int cs)])) t
    refine XS.ifNo X76.here hx rfl (hb hby d2_3) rfl ((if0 _ _).trans (feq HCS).1) ?_
    show Steps p.tables e below (T76.setTop (mkF m 6 #[.val (.int p2_0)] [])) t
    refine XS.iloadN X76.here hx rfl (hb hby d2_6) rfl ?_
    show Steps p.tables e below (T76.setTop (mkF m 7 #[.val (.int p2_0)] [(.int p2_0)])) t
    exact k
  obtain ⟨v77, _, ⟨T77, L77, k77, n77⟩, -, X77, ⟨Lc77, hQ77, l77, y77, z77⟩, st77⟩ := Jvm.LawKit.callS X76 hx (y := (⟨"java/lang/StringLatin1", "canEncode", "(C)Z"⟩ : MethodName)) hown (mvT hZ (hw _ (List.mem_of_getElem? (i := 15) rfl))) (mvT hZ (hw _ (List.mem_of_getElem? (i := 16) rfl))) (mvT hZ (hw _ (List.mem_of_getElem? (i := 17) rfl))) (mvT hZ (hw _ (List.mem_of_getElem? (i := 18) rfl))) (by decide) (backOf (W := 0) (own_rm3 l Z a0 hw [] p2_0 h0 n0 Z0) hZ (hw _ (List.mem_of_getElem? (i := 18) rfl)) (hw _ (List.mem_of_getElem? (i := 17) rfl)) (by decide) (by decide)) (g := (mkF m 7 #[.val (.int p2_0)] [(.int p2_0)])) rfl (by rw [hml]; rfl) (argsL := [(.int p2_0)]) (rest := []) (lenOf pd__C_Z rfl) rfl (by show 2 * 0 + _ ≤ _; exact Nat.le_of_eq rfl) (hb hby d2_7) (fun _ _ => ⟨rfl, e76, (by decide : 0 + 0 ≤ _), (by decide : 0 + 0 ≤ _)⟩)
  dsimp only [Pt.U, Pt.locs, Pt.cells, Pt.slots] at X77 l77 y77 z77 st77 hQ77
  subst y77 z77
  obtain ⟨rfl, M77, e77⟩ := hQ77
  have N78 : Fr n0 L77 := by rw [l77]; exact Fr.app N0 M77
  refine own_by (T' := T77) (g' := (mkF m 10 #[.val (.int p2_0)] [(.int (own_F3 p2_0))])) st77 ?_
  refine own_by (T' := T77) (g' := (mkF m 13 #[.val (.int p2_0)] [])) (fun t k => ?_) ?_
  · show Steps p.tables e below (T77.setTop (mkF m 10 #[.val (.int p2_0)] [(.int (own_F3 p2_0))])) t
    refine XS.ifNo X77.here hx rfl (hb hby d2_10) rfl ((if0 _ _).trans (feq HC).1) ?_
    show Steps p.tables e below (T77.setTop (mkF m 13 #[.val (.int p2_0)] [])) t
    exact k
  obtain ⟨T79, h79, X79, e79, E79, A79, D79, U79, st79⟩ := newO X77 hx hZ hown (hw _ (List.mem_of_getElem? (i := 19) rfl)) (hw _ (List.mem_of_getElem? (i := 20) rfl)) (hw _ (List.mem_of_getElem? (i := 12) rfl)) e77 (g := (mkF m 13 #[.val (.int p2_0)] [])) rfl (hb hby d2_13) (by decide) (by decide)
  obtain ⟨b79, g79⟩ : ∃ z, z = h0.size := ⟨_, rfl⟩
  rw [← g79] at A79 D79 U79 st79
  have gn_b79 : n0 ≤ b79 := Nat.le_trans Z0 (Nat.le_of_eq g79.symm)
  have sz_b79 : h0.size ≤ b79 := Nat.le_trans (Keep.refl h0 []).1 (Nat.le_of_eq g79.symm)
  have K80 : Keep h0 h79 [] := (Keep.refl h0 []).ext E79
  have O81 := O0.ext E79
  have Z82 := Nat.le_trans Z0 E79.1
  have f83 : Fld Z h79 b79 "java/lang/String" "value" "[B" .null := D79 (Or.inr (hw _ (List.mem_of_getElem? (i := 33) rfl))) (ty := (.array .byte)) (by decide)
  have f84 : Fld Z h79 b79 "java/lang/String" "coder" "B" (.int (0 : Int32)) := D79 (Or.inr (hw _ (List.mem_of_getElem? (i := 35) rfl))) (ty := .byte) (by decide)
  refine own_by (T' := T79) (g' := (mkF m 16 #[.val (.int p2_0)] [(.ref b79)])) st79 ?_
  refine own_by (T' := T79) (g' := (mkF m 18 #[.val (.int p2_0)] [(.int p2_0), (.ref b79), (.ref b79)])) (fun t k => ?_) ?_
  · show Steps p.tables e below (T79.setTop (mkF m 16 #[.val (.int p2_0)] [(.ref b79)])) t
    refine XS.dup X79.here hx rfl (hb hby d2_16) rfl rfl ?_
    show Steps p.tables e below (T79.setTop (mkF m 17 #[.val (.int p2_0)] [(.ref b79), (.ref b79)])) t
    refine XS.iloadN X79.here hx rfl (hb hby d2_17) rfl ?_
    show Steps p.tables e below (T79.setTop (mkF m 18 #[.val (.int p2_0)] [(.int p2_0), (.ref b79), (.ref b79)])) t
    exact k
  obtain ⟨v85, _, ⟨T85, L85, k85, n85⟩, -, X85, ⟨Lc85, hQ85, l85, y85, z85⟩, st85⟩ := Jvm.LawKit.callS X79 hx (y := (⟨"java/lang/StringLatin1", "toBytes", "(C)[B"⟩ : MethodName)) hown (mvT hZ (hw _ (List.mem_of_getElem? (i := 21) rfl))) (mvT hZ (hw _ (List.mem_of_getElem? (i := 22) rfl))) (mvT hZ (hw _ (List.mem_of_getElem? (i := 17) rfl))) (mvT hZ (hw _ (List.mem_of_getElem? (i := 23) rfl))) (by decide) (backOf (W := 2) (own_rm4 l Z a0 hw [] p2_0 h79 n0 Z82) hZ (hw _ (List.mem_of_getElem? (i := 23) rfl)) (hw _ (List.mem_of_getElem? (i := 17) rfl)) (by decide) (by decide)) (g := (mkF m 18 #[.val (.int p2_0)] [(.int p2_0), (.ref b79), (.ref b79)])) rfl (by rw [hml]; rfl) (argsL := [(.int p2_0)]) (rest := [(.ref b79), (.ref b79)]) (lenOf pd__C__B rfl) rfl (by show 2 * 0 + _ ≤ _; exact Nat.le_of_eq rfl) (hb hby d2_18) (fun _ _ => ⟨rfl, e79, (by decide : 1 + 1 ≤ _), (by decide : 4 + 1 ≤ _)⟩)
  dsimp only [Pt.U, Pt.locs, Pt.cells, Pt.slots] at X85 l85 y85 z85 st85 hQ85
  subst y85 z85
  obtain ⟨b85, rfl, M85, K85, sz85, gn85⟩ := hQ85
  have f86 := A79.keep K85
  have f87 := f83.keep K85 nin0
  have f88 := f84.keep K85 nin0
  have K89 : Keep h0 T85.heap [] := K80.trans K85 all0
  have O90 := O81.keep K85 all0
  have Z91 := Nat.le_trans Z82 K85.1
  have sz_b85 : h0.size ≤ b85 := Nat.le_trans K80.1 sz85
  have ne_b79_b85 : b79 ≠ b85 := Nat.ne_of_lt (Nat.lt_of_lt_of_le f84.lt sz85)
  have N92 : Fr n0 L85 := by rw [l85]; exact Fr.app N78 M85
  refine own_by (T' := T85) (g' := (mkF m 21 #[.val (.int p2_0)] [(.ref b85), (.ref b79), (.ref b79)])) st85 ?_
  refine own_by (T' := T85) (g' := (mkF m 22 #[.val (.int p2_0)] [(.int (0 : Int32)), (.ref b85), (.ref b79), (.ref b79)])) (fun t k => ?_) ?_
  · show Steps p.tables e below (T85.setTop (mkF m 21 #[.val (.int p2_0)] [(.ref b85), (.ref b79), (.ref b79)])) t
    refine XS.iconst X85.here hx rfl (hb hby d2_21) ?_
    show Steps p.tables e below (T85.setTop (mkF m 22 #[.val (.int p2_0)] [(.int (0 : Int32)), (.ref b85), (.ref b79), (.ref b79)])) t
    exact k
  obtain ⟨v93, _, ⟨T93, L93, k93, n93⟩, -, X93, ⟨Lc93, hQ93, l93, y93, z93⟩, st93⟩ := X85.specialBack hx (y := (⟨"java/lang/String", "<init>", "([BB)V"⟩ : MethodName)) rfl hown (mvT hZ (hw _ (List.mem_of_getElem? (i := 25) rfl))) (mvT hZ (hw _ (List.mem_of_getElem? (i := 26) rfl))) (mvT hZ (hw _ (List.mem_of_getElem? (i := 28) rfl))) (by decide) (backOf (W := 1) (own_rm5 l Z a0 hw [] b79 b85 (0 : Int32) .null (.int (0 : Int32)) T85.heap n0 Z91 f86 f87 gn_b79 f88) hZ (hw _ (List.mem_of_getElem? (i := 28) rfl)) (hw _ (List.mem_of_getElem? (i := 12) rfl)) (by decide) (by decide)) (g := (mkF m 22 #[.val (.int p2_0)] [(.int (0 : Int32)), (.ref b85), (.ref b79), (.ref b79)])) rfl (by rw [hml]; rfl) (Steps.refl _) (a := b79) (argsL := [(.ref b85), (.int (0 : Int32))]) (rest := [(.ref b79)]) (lenOf pd___BB_V rfl) rfl (by show 2 * 0 + _ ≤ _; exact Nat.le_of_eq rfl) (hb hby d2_22) (fun _ _ => ⟨rfl, rfl, (by decide : 2 + 0 ≤ _), (by decide : 5 + 0 ≤ _)⟩)
  dsimp only [Pt.U, Pt.locs, Pt.cells, Pt.slots] at X93 l93 y93 z93 st93 hQ93
  subst y93 z93
  obtain ⟨rfl, M93, K93, f94, f95, f96⟩ := hQ93
  have f97 := f86.keep K93
  have K98 : Keep h0 T93.heap [] := K89.trans K93 (allS (Or.inr sz_b79) all0)
  have O99 := O90.keep K93 (allS gn_b79 all0)
  have Z100 := Nat.le_trans Z91 K93.1
  have N101 : Fr n0 L93 := by rw [l93]; exact Fr.app N92 M93
  refine own_via (T' := T93) (g' := (mkF m 25 #[.val (.int p2_0)] [(.ref b79)])) st93 ?_
  exact own_retR X93 hx Bd.returns rfl rfl rfl (hb hby d2_25) hlk (by decide) (by decide) ⟨b79, rfl, N101, K98, sz_b79, gn_b79, f94, f96⟩
theorem d10_0 : decode jdk_78_method_2_code 0 = .ok (.aload_n 0, 1) := by decide +kernel
theorem d10_1 : decode jdk_78_method_2_code 1 = .ok (.invokespecial 1, 3) := by decide +kernel
theorem d10_4 : decode jdk_78_method_2_code 4 = .ok (.aload_n 0, 1) := by decide +kernel
theorem d10_5 : decode jdk_78_method_2_code 5 = .ok (.aload_n 0, 1) := by decide +kernel
theorem d10_6 : decode jdk_78_method_2_code 6 = .ok (.putfield 7, 3) := by decide +kernel
theorem d10_9 : decode jdk_78_method_2_code 9 = .ok (.aload_n 0, 1) := by decide +kernel
theorem d10_10 : decode jdk_78_method_2_code 10 = .ok (.getstatic 13, 3) := by decide +kernel
theorem d10_13 : decode jdk_78_method_2_code 13 = .ok (.putfield 17, 3) := by decide +kernel
theorem d10_16 : decode jdk_78_method_2_code 16 = .ok (.aload_n 0, 1) := by decide +kernel
theorem d10_17 : decode jdk_78_method_2_code 17 = .ok (.getstatic 20, 3) := by decide +kernel
theorem d10_20 : decode jdk_78_method_2_code 20 = .ok (.putfield 24, 3) := by decide +kernel
theorem d10_23 : decode jdk_78_method_2_code 23 = .ok (.aload_n 0, 1) := by decide +kernel
theorem d10_24 : decode jdk_78_method_2_code 24 = .ok (.invokevirtual 27, 3) := by decide +kernel
theorem d10_27 : decode jdk_78_method_2_code 27 = .ok (.pop, 1) := by decide +kernel
theorem d10_28 : decode jdk_78_method_2_code 28 = .ok (.aload_n 0, 1) := by decide +kernel
theorem d10_29 : decode jdk_78_method_2_code 29 = .ok (.aload_n 1, 1) := by decide +kernel
theorem d10_30 : decode jdk_78_method_2_code 30 = .ok (.putfield 31, 3) := by decide +kernel
theorem d10_33 : decode jdk_78_method_2_code 33 = .ok (.return_, 1) := by decide +kernel
theorem pn_java_lang_Throwable : plainName "java/lang/Throwable" = true := by first | (simp [plainName, overriddenIn]; done) | decide +kernel
theorem own_ef10 (m : MethodId) (x0 : Addr) (v10_1 : Value) (hr_v10_1 : v10_1.isRef = true) : entryFrame m #[(.ref x0), v10_1] 2 = mkF m 0 #[.val (.ref x0), .val v10_1] [] := by
  rcases ref_cases hr_v10_1 with rfl | ⟨_, rfl⟩ <;> simp [entryFrame, mkF, argsToLocals, Value.category]
def own_Q10 (Z : State) (a10_0 : Addr) (v10_1 : Value) (ua : Addr) (sa : Addr) (h0 : Heap) (n0 : Nat) (v : Option Value) (h : Heap) (L : List Loc) : Prop := v = none ∧ Fr n0 L ∧ Keep h0 h [a10_0] ∧ Exa Z h a10_0 "com/example/buzon/buzon/engine/ApiException" ∧ Unt h a10_0
set_option maxRecDepth 65536 in
set_option maxHeartbeats 40000000 in
theorem own_rm10 (l : Launch) (Z : State) (a0 : Array Value) (hw : ∀ d ∈ tables_1, d.before a0 Z = true) (ws : List Jvm.Cond) (a10_0 : Addr) (v10_1 : Value) (ua : Addr) (sa : Addr) (h0 : Heap) (n0 : Nat) (Z0 : n0 ≤ h0.size) (O0 : Old Z n0 h0) (hr_v10_1 : v10_1.isRef = true) (U_a10_0 : Unt h0 a10_0) (E_a10_0 : Exa Z h0 a10_0 "com/example/buzon/buzon/engine/ApiException") (ge_a10_0 : n0 ≤ a10_0) (F_backtrace_a10_0 : Fld Z h0 a10_0 "java/lang/Throwable" "backtrace" "Ljava/lang/Object;" .null) (hl : l.stackTraces = true) (SUS : Sta Z Z.heap "java/lang/Throwable" "UNASSIGNED_STACK" "[Ljava/lang/StackTraceElement;" (.ref ua)) (SSS : Sta Z Z.heap "java/lang/Throwable" "SUPPRESSED_SENTINEL" "Ljava/util/List;" (.ref sa)) :
    MetFree l (⟨"java/lang/Throwable", "<init>", "(Ljava/lang/String;)V"⟩ : MethodName) (head1 (Jvm.Cond.code (⟨"java/lang/Throwable", "<init>", "(Ljava/lang/String;)V"⟩ : MethodName) jdk_78_method_2_code 2 none :: ws) ({ frames := 3, cells := 1, slots := 2752, locals := 42 } : Room)) (fun a U => a = #[(.ref a10_0), v10_1] ∧ Z.Warmed39 U.vm ∧ U.heap = h0) (fun _ _ bl s _ => s.vm.MethodsKnown ∧ s.vm.FramesKnown bl) (fun _ U o U' => ∃ v L, o = .returned v ∧ own_Q10 Z a10_0 v10_1 ua sa h0 n0 v U'.heap L ∧ FrameEnd U o U' L ({ frames := 3, cells := 1, slots := 2752, locals := 42 } : Room).cells ({ frames := 3, cells := 1, slots := 2752, locals := 42 } : Room).slots) := by
  refine MetFree.of_bodySF (plainFor_of_name pn_java_lang_Throwable) hisR ?_
  intro p e s m args below meth c s₁ Bd hml0 hP hK
  obtain ⟨rfl, hZ, hh⟩ := hP
  obtain ⟨hTK, hBelow⟩ := hK
  have hx := Bd.exec
  have hby := Bd.bytes
  have hlk : meth.locks = false := BodyLoose.notSynchronized Bd
  have hml : c.maxLocals = 2 := hml0
  have hown : s.vm.findClass "java/lang/Throwable" = some m.cls := findClass_of_methodNamed Bd.named
  have hnm := (name_of_methodNamed Bd.named Bd.method).1
  have X0 : Stand p l e ({ frames := 3, cells := 1, slots := 2752, locals := 42 } : Room) s m #[(.ref a10_0), v10_1] below meth c s₁ [] 0 0 := Stand.of_body Bd
  have e0 : s₁.heap = h0 := by rw [← hh, Bd.state]; rfl
  have N0 := Fr.nil n0
  show own_Go p e below (own_P s below ({ frames := 3, cells := 1, slots := 2752, locals := 42 } : Room) (own_Q10 Z a10_0 v10_1 ua sa h0 n0)) s₁ (entryFrame m #[(.ref a10_0), v10_1] 2)
  refine own_in (own_ef10 m a10_0 v10_1 hr_v10_1) ?_
  refine own_by (T' := s₁) (g' := (mkF m 1 #[.val (.ref a10_0), .val v10_1] [(.ref a10_0)])) (fun t k => ?_) ?_
  · show Steps p.tables e below (s₁.setTop (mkF m 0 #[.val (.ref a10_0), .val v10_1] [])) t
    refine XS.aloadN X0.here hx rfl (hb hby d10_0) rfl rfl ?_
    show Steps p.tables e below (s₁.setTop (mkF m 1 #[.val (.ref a10_0), .val v10_1] [(.ref a10_0)])) t
    exact k
  obtain ⟨T102, X102, e102, st102⟩ := initO X0 hx hZ hown (hw _ (List.mem_of_getElem? (i := 56) rfl)) (hw _ (List.mem_of_getElem? (i := 30) rfl)) (hw _ (List.mem_of_getElem? (i := 31) rfl)) e0 (g := (mkF m 1 #[.val (.ref a10_0), .val v10_1] [(.ref a10_0)])) rfl (by rw [hml]; rfl) rfl (hb hby d10_1) (by decide) (W := 0) (by show 2 * 0 + _ ≤ _; exact Nat.le_of_eq rfl) (by decide)
  refine own_by (T' := T102) (g' := (mkF m 4 #[.val (.ref a10_0), .val v10_1] [])) st102 ?_
  refine own_by (T' := T102) (g' := (mkF m 6 #[.val (.ref a10_0), .val v10_1] [(.ref a10_0), (.ref a10_0)])) (fun t k => ?_) ?_
  · show Steps p.tables e below (T102.setTop (mkF m 4 #[.val (.ref a10_0), .val v10_1] [])) t
    refine XS.aloadN X102.here hx rfl (hb hby d10_4) rfl rfl ?_
    show Steps p.tables e below (T102.setTop (mkF m 5 #[.val (.ref a10_0), .val v10_1] [(.ref a10_0)])) t
    refine XS.aloadN X102.here hx rfl (hb hby d10_5) rfl rfl ?_
    show Steps p.tables e below (T102.setTop (mkF m 6 #[.val (.ref a10_0), .val v10_1] [(.ref a10_0), (.ref a10_0)])) t
    exact k
  obtain ⟨u103, fu103⟩ := fld_laid (O := "java/lang/Throwable") (n := "cause") (d := "Ljava/lang/Throwable;") E_a10_0 (Unt.known U_a10_0) (hw _ (List.mem_of_getElem? (i := 8) rfl)) (Or.inl (hw _ (List.mem_of_getElem? (i := 58) rfl)))
  obtain ⟨T104, h104, X104, e104, W104, st104⟩ := putF X102 hx hZ hown (host := "") (Or.inl (hw _ (List.mem_of_getElem? (i := 57) rfl))) Via.refl e102 fu103 E_a10_0 (Or.inl (hw _ (List.mem_of_getElem? (i := 58) rfl))) (hw _ (List.mem_of_getElem? (i := 8) rfl)) (ty := (.object "java/lang/Throwable")) (by decide) rfl rfl (g := (mkF m 6 #[.val (.ref a10_0), .val v10_1] [(.ref a10_0), (.ref a10_0)])) rfl rfl (hb hby d10_6)
  have f105 := fu103.same W104
  have f106 := U_a10_0.wr W104
  have f107 := E_a10_0.wr W104
  have f108 := F_backtrace_a10_0.other W104 (Or.inr (slot_ne (Or.inl (hw _ (List.mem_of_getElem? (i := 89) rfl))) (Or.inl (hw _ (List.mem_of_getElem? (i := 58) rfl))) (by decide) (t := (.object "java/lang/Object")) (t' := (.object "java/lang/Throwable")) (by decide) (by decide)))
  have K110 : Keep h0 h104 [a10_0] := (Keep.refl h0 [a10_0]).wr W104 (Or.inl (List.mem_of_getElem? (i := 0) rfl))
  have N111 := Fr.snoc X104 N0 ge_a10_0
  obtain ⟨Lh104, X104, N111⟩ := own_hide X104 N111
  have O112 := O0.wr W104 ge_a10_0
  have Z113 := Nat.le_trans Z0 (Keep.of_wr W104).1
  refine own_by (T' := T104) (g' := (mkF m 9 #[.val (.ref a10_0), .val v10_1] [])) st104 ?_
  refine own_by (T' := T104) (g' := (mkF m 10 #[.val (.ref a10_0), .val v10_1] [(.ref a10_0)])) (fun t k => ?_) ?_
  · show Steps p.tables e below (T104.setTop (mkF m 9 #[.val (.ref a10_0), .val v10_1] [])) t
    refine XS.aloadN X104.here hx rfl (hb hby d10_9) rfl rfl ?_
    show Steps p.tables e below (T104.setTop (mkF m 10 #[.val (.ref a10_0), .val v10_1] [(.ref a10_0)])) t
    exact k
  obtain ⟨T114, X114, e114, st114⟩ := getS2 X104 hx hZ hown (host := "") (Or.inl (hw _ (List.mem_of_getElem? (i := 59) rfl))) Via.refl e104 (SUS.ext O112.2) (g := (mkF m 10 #[.val (.ref a10_0), .val v10_1] [(.ref a10_0)])) rfl (hb hby d10_10)
  refine own_by (T' := T114) (g' := (mkF m 13 #[.val (.ref a10_0), .val v10_1] [(.ref ua), (.ref a10_0)])) st114 ?_
  obtain ⟨u115, fu115⟩ := fld_laid (O := "java/lang/Throwable") (n := "stackTrace") (d := "[Ljava/lang/StackTraceElement;") f107 (Unt.known f106) (hw _ (List.mem_of_getElem? (i := 8) rfl)) (Or.inl (hw _ (List.mem_of_getElem? (i := 61) rfl)))
  obtain ⟨T116, h116, X116, e116, W116, st116⟩ := putF X114 hx hZ hown (host := "") (Or.inl (hw _ (List.mem_of_getElem? (i := 60) rfl))) Via.refl e114 fu115 f107 (Or.inl (hw _ (List.mem_of_getElem? (i := 61) rfl))) (hw _ (List.mem_of_getElem? (i := 8) rfl)) (ty := (.array (.object "java/lang/StackTraceElement"))) (by decide) rfl rfl (g := (mkF m 13 #[.val (.ref a10_0), .val v10_1] [(.ref ua), (.ref a10_0)])) rfl rfl (hb hby d10_13)
  have f117 := fu115.same W116
  have f118 := f106.wr W116
  have f119 := f107.wr W116
  have f120 := f108.other W116 (Or.inr (slot_ne (Or.inl (hw _ (List.mem_of_getElem? (i := 89) rfl))) (Or.inl (hw _ (List.mem_of_getElem? (i := 61) rfl))) (by decide) (t := (.object "java/lang/Object")) (t' := (.array (.object "java/lang/StackTraceElement"))) (by decide) (by decide)))
  have f121 := f105.other W116 (Or.inr (slot_ne (Or.inl (hw _ (List.mem_of_getElem? (i := 58) rfl))) (Or.inl (hw _ (List.mem_of_getElem? (i := 61) rfl))) (by decide) (t := (.object "java/lang/Throwable")) (t' := (.array (.object "java/lang/StackTraceElement"))) (by decide) (by decide)))
  have K123 : Keep h0 h116 [a10_0] := K110.wr W116 (Or.inl (List.mem_of_getElem? (i := 0) rfl))
  have N124 := Fr.snoc X116 N111 ge_a10_0
  obtain ⟨Lh116, X116, N124⟩ := own_hide X116 N124
  have O125 := O112.wr W116 ge_a10_0
  have Z126 := Nat.le_trans Z113 (Keep.of_wr W116).1
  refine own_by (T' := T116) (g' := (mkF m 16 #[.val (.ref a10_0), .val v10_1] [])) st116 ?_
  refine own_by (T' := T116) (g' := (mkF m 17 #[.val (.ref a10_0), .val v10_1] [(.ref a10_0)])) (fun t k => ?_) ?_
  · show Steps p.tables e below (T116.setTop (mkF m 16 #[.val (.ref a10_0), .val v10_1] [])) t
    refine XS.aloadN X116.here hx rfl (hb hby d10_16) rfl rfl ?_
    show Steps p.tables e below (T116.setTop (mkF m 17 #[.val (.ref a10_0), .val v10_1] [(.ref a10_0)])) t
    exact k
  obtain ⟨T127, X127, e127, st127⟩ := getS2 X116 hx hZ hown (host := "") (Or.inl (hw _ (List.mem_of_getElem? (i := 62) rfl))) Via.refl e116 (SSS.ext O125.2) (g := (mkF m 17 #[.val (.ref a10_0), .val v10_1] [(.ref a10_0)])) rfl (hb hby d10_17)
  refine own_by (T' := T127) (g' := (mkF m 20 #[.val (.ref a10_0), .val v10_1] [(.ref sa), (.ref a10_0)])) st127 ?_
  obtain ⟨u128, fu128⟩ := fld_laid (O := "java/lang/Throwable") (n := "suppressedExceptions") (d := "Ljava/util/List;") f119 (Unt.known f118) (hw _ (List.mem_of_getElem? (i := 8) rfl)) (Or.inl (hw _ (List.mem_of_getElem? (i := 64) rfl)))
  obtain ⟨T129, h129, X129, e129, W129, st129⟩ := putF X127 hx hZ hown (host := "") (Or.inl (hw _ (List.mem_of_getElem? (i := 63) rfl))) Via.refl e127 fu128 f119 (Or.inl (hw _ (List.mem_of_getElem? (i := 64) rfl))) (hw _ (List.mem_of_getElem? (i := 8) rfl)) (ty := (.object "java/util/List")) (by decide) rfl rfl (g := (mkF m 20 #[.val (.ref a10_0), .val v10_1] [(.ref sa), (.ref a10_0)])) rfl rfl (hb hby d10_20)
  have f130 := fu128.same W129
  have f131 := f118.wr W129
  have f132 := f119.wr W129
  have f133 := f120.other W129 (Or.inr (slot_ne (Or.inl (hw _ (List.mem_of_getElem? (i := 89) rfl))) (Or.inl (hw _ (List.mem_of_getElem? (i := 64) rfl))) (by decide) (t := (.object "java/lang/Object")) (t' := (.object "java/util/List")) (by decide) (by decide)))
  have f134 := f121.other W129 (Or.inr (slot_ne (Or.inl (hw _ (List.mem_of_getElem? (i := 58) rfl))) (Or.inl (hw _ (List.mem_of_getElem? (i := 64) rfl))) (by decide) (t := (.object "java/lang/Throwable")) (t' := (.object "java/util/List")) (by decide) (by decide)))
  have f135 := f117.other W129 (Or.inr (slot_ne (Or.inl (hw _ (List.mem_of_getElem? (i := 61) rfl))) (Or.inl (hw _ (List.mem_of_getElem? (i := 64) rfl))) (by decide) (t := (.array (.object "java/lang/StackTraceElement"))) (t' := (.object "java/util/List")) (by decide) (by decide)))
  have K137 : Keep h0 h129 [a10_0] := K123.wr W129 (Or.inl (List.mem_of_getElem? (i := 0) rfl))
  have N138 := Fr.snoc X129 N124 ge_a10_0
  obtain ⟨Lh129, X129, N138⟩ := own_hide X129 N138
  have O139 := O125.wr W129 ge_a10_0
  have Z140 := Nat.le_trans Z126 (Keep.of_wr W129).1
  refine own_by (T' := T129) (g' := (mkF m 23 #[.val (.ref a10_0), .val v10_1] [])) st129 ?_
  refine own_by (T' := T129) (g' := (mkF m 24 #[.val (.ref a10_0), .val v10_1] [(.ref a10_0)])) (fun t k => ?_) ?_
  · show Steps p.tables e below (T129.setTop (mkF m 23 #[.val (.ref a10_0), .val v10_1] [])) t
    refine XS.aloadN X129.here hx rfl (hb hby d10_23) rfl rfl ?_
    show Steps p.tables e below (T129.setTop (mkF m 24 #[.val (.ref a10_0), .val v10_1] [(.ref a10_0)])) t
    exact k
  obtain ⟨T141, L141, X141, B141, K141, U141, st141⟩ := own_fill X129 hx hl hZ hw (by rw [hh]; exact ThS.ext O0.2 ThS.start) hTK hBelow hown e129 f132 f131 f133 f135 (SUS.ext O139.2) (g := (mkF m 24 #[.val (.ref a10_0), .val v10_1] [(.ref a10_0)])) rfl (by rw [hml]; rfl) (rest := []) rfl (W := 0) (by show 2 * 0 + _ ≤ _; exact Nat.le_of_eq rfl) (hb hby d10_24) (by decide) (by decide) (by decide) (by decide)
  have f142 := U141
  have f143 := f132.keep K141
  have K148 : Keep h0 T141.heap [a10_0] := K137.trans K141 (allS (Or.inl (List.mem_of_getElem? (i := 0) rfl)) all0)
  have O149 := O139.keep K141 (allS ge_a10_0 all0)
  have Z150 := Nat.le_trans Z140 K141.1
  have N151 := Fr.app N138 (fun y hy => by rw [B141 y hy]; exact ge_a10_0 : Fr n0 L141)
  obtain ⟨Lh141, X141, N151⟩ := own_hide X141 N151
  refine own_via (T' := T141) (g' := (mkF m 27 #[.val (.ref a10_0), .val v10_1] [(.ref a10_0)])) st141 ?_
  refine own_by (T' := T141) (g' := (mkF m 30 #[.val (.ref a10_0), .val v10_1] [v10_1, (.ref a10_0)])) (fun t k => ?_) ?_
  · show Steps p.tables e below (T141.setTop (mkF m 27 #[.val (.ref a10_0), .val v10_1] [(.ref a10_0)])) t
    refine XS.pop X141.here hx rfl (hb hby d10_27) rfl rfl ?_
    show Steps p.tables e below (T141.setTop (mkF m 28 #[.val (.ref a10_0), .val v10_1] [])) t
    refine XS.aloadN X141.here hx rfl (hb hby d10_28) rfl rfl ?_
    show Steps p.tables e below (T141.setTop (mkF m 29 #[.val (.ref a10_0), .val v10_1] [(.ref a10_0)])) t
    refine XS.aloadN X141.here hx rfl (hb hby d10_29) rfl hr_v10_1 ?_
    show Steps p.tables e below (T141.setTop (mkF m 30 #[.val (.ref a10_0), .val v10_1] [v10_1, (.ref a10_0)])) t
    exact k
  obtain ⟨u152, fu152⟩ := fld_laid (O := "java/lang/Throwable") (n := "detailMessage") (d := "Ljava/lang/String;") f143 (Unt.known f142) (hw _ (List.mem_of_getElem? (i := 8) rfl)) (Or.inl (hw _ (List.mem_of_getElem? (i := 88) rfl)))
  obtain ⟨T153, h153, X153, e153, W153, st153⟩ := putF X141 hx hZ hown (host := "") (Or.inl (hw _ (List.mem_of_getElem? (i := 92) rfl))) Via.refl rfl fu152 f143 (Or.inl (hw _ (List.mem_of_getElem? (i := 88) rfl))) (hw _ (List.mem_of_getElem? (i := 8) rfl)) (ty := (.object "java/lang/String")) (by decide) rfl (own_fitsR hr_v10_1) (g := (mkF m 30 #[.val (.ref a10_0), .val v10_1] [v10_1, (.ref a10_0)])) rfl rfl (hb hby d10_30)
  have f154 := fu152.same W153
  have f155 := f142.wr W153
  have f156 := f143.wr W153
  have K158 : Keep h0 h153 [a10_0] := K148.wr W153 (Or.inl (List.mem_of_getElem? (i := 0) rfl))
  have N159 := Fr.snoc X153 N151 ge_a10_0
  obtain ⟨Lh153, X153, N159⟩ := own_hide X153 N159
  have O160 := O149.wr W153 ge_a10_0
  have Z161 := Nat.le_trans Z150 (Keep.of_wr W153).1
  refine own_by (T' := T153) (g' := (mkF m 33 #[.val (.ref a10_0), .val v10_1] [])) st153 ?_
  exact own_ret0 X153 hx Bd.returns (hb hby d10_33) hlk (by decide) (by decide) (by rw [e153]; exact ⟨rfl, N159, K158, f156, f155⟩)
theorem d9_0 : decode jdk_59_method_2_code 0 = .ok (.aload_n 0, 1) := by decide +kernel
theorem d9_1 : decode jdk_59_method_2_code 1 = .ok (.aload_n 1, 1) := by decide +kernel
theorem d9_2 : decode jdk_59_method_2_code 2 = .ok (.invokespecial 7, 3) := by decide +kernel
theorem pd__Ljava_lang_String__V : parseMethodDescriptor "(Ljava/lang/String;)V" = some ⟨[(.object "java/lang/String")], none⟩ := by decide +kernel
theorem d9_5 : decode jdk_59_method_2_code 5 = .ok (.return_, 1) := by decide +kernel
theorem pn_java_lang_Exception : plainName "java/lang/Exception" = true := by first | (simp [plainName, overriddenIn]; done) | decide +kernel
theorem own_ef9 (m : MethodId) (x0 : Addr) (v9_1 : Value) (hr_v9_1 : v9_1.isRef = true) : entryFrame m #[(.ref x0), v9_1] 2 = mkF m 0 #[.val (.ref x0), .val v9_1] [] := by
  rcases ref_cases hr_v9_1 with rfl | ⟨_, rfl⟩ <;> simp [entryFrame, mkF, argsToLocals, Value.category]
def own_Q9 (Z : State) (a9_0 : Addr) (v9_1 : Value) (ua : Addr) (sa : Addr) (h0 : Heap) (n0 : Nat) (v : Option Value) (h : Heap) (L : List Loc) : Prop := v = none ∧ Fr n0 L ∧ Keep h0 h [a9_0] ∧ Exa Z h a9_0 "com/example/buzon/buzon/engine/ApiException" ∧ Unt h a9_0
set_option maxRecDepth 65536 in
set_option maxHeartbeats 40000000 in
theorem own_rm9 (l : Launch) (Z : State) (a0 : Array Value) (hw : ∀ d ∈ tables_1, d.before a0 Z = true) (ws : List Jvm.Cond) (a9_0 : Addr) (v9_1 : Value) (ua : Addr) (sa : Addr) (h0 : Heap) (n0 : Nat) (Z0 : n0 ≤ h0.size) (O0 : Old Z n0 h0) (hr_v9_1 : v9_1.isRef = true) (U_a9_0 : Unt h0 a9_0) (E_a9_0 : Exa Z h0 a9_0 "com/example/buzon/buzon/engine/ApiException") (ge_a9_0 : n0 ≤ a9_0) (F_backtrace_a9_0 : Fld Z h0 a9_0 "java/lang/Throwable" "backtrace" "Ljava/lang/Object;" .null) (hl : l.stackTraces = true) (SUS : Sta Z Z.heap "java/lang/Throwable" "UNASSIGNED_STACK" "[Ljava/lang/StackTraceElement;" (.ref ua)) (SSS : Sta Z Z.heap "java/lang/Throwable" "SUPPRESSED_SENTINEL" "Ljava/util/List;" (.ref sa)) :
    MetFree l (⟨"java/lang/Exception", "<init>", "(Ljava/lang/String;)V"⟩ : MethodName) (head1 (Jvm.Cond.code (⟨"java/lang/Exception", "<init>", "(Ljava/lang/String;)V"⟩ : MethodName) jdk_59_method_2_code 2 none :: ws) ({ frames := 4, cells := 1, slots := 2752, locals := 55 } : Room)) (fun a U => a = #[(.ref a9_0), v9_1] ∧ Z.Warmed39 U.vm ∧ U.heap = h0) (fun _ _ bl s _ => s.vm.MethodsKnown ∧ s.vm.FramesKnown bl) (fun _ U o U' => ∃ v L, o = .returned v ∧ own_Q9 Z a9_0 v9_1 ua sa h0 n0 v U'.heap L ∧ FrameEnd U o U' L ({ frames := 4, cells := 1, slots := 2752, locals := 55 } : Room).cells ({ frames := 4, cells := 1, slots := 2752, locals := 55 } : Room).slots) := by
  refine MetFree.of_bodySF (plainFor_of_name pn_java_lang_Exception) hisR ?_
  intro p e s m args below meth c s₁ Bd hml0 hP hK
  obtain ⟨rfl, hZ, hh⟩ := hP
  obtain ⟨hTK, hBelow⟩ := hK
  have hx := Bd.exec
  have hby := Bd.bytes
  have hlk : meth.locks = false := BodyLoose.notSynchronized Bd
  have hml : c.maxLocals = 2 := hml0
  have hown : s.vm.findClass "java/lang/Exception" = some m.cls := findClass_of_methodNamed Bd.named
  have hnm := (name_of_methodNamed Bd.named Bd.method).1
  have X0 : Stand p l e ({ frames := 4, cells := 1, slots := 2752, locals := 55 } : Room) s m #[(.ref a9_0), v9_1] below meth c s₁ [] 0 0 := Stand.of_body Bd
  have e0 : s₁.heap = h0 := by rw [← hh, Bd.state]; rfl
  have N0 := Fr.nil n0
  show own_Go p e below (own_P s below ({ frames := 4, cells := 1, slots := 2752, locals := 55 } : Room) (own_Q9 Z a9_0 v9_1 ua sa h0 n0)) s₁ (entryFrame m #[(.ref a9_0), v9_1] 2)
  refine own_in (own_ef9 m a9_0 v9_1 hr_v9_1) ?_
  refine own_by (T' := s₁) (g' := (mkF m 2 #[.val (.ref a9_0), .val v9_1] [v9_1, (.ref a9_0)])) (fun t k => ?_) ?_
  · show Steps p.tables e below (s₁.setTop (mkF m 0 #[.val (.ref a9_0), .val v9_1] [])) t
    refine XS.aloadN X0.here hx rfl (hb hby d9_0) rfl rfl ?_
    show Steps p.tables e below (s₁.setTop (mkF m 1 #[.val (.ref a9_0), .val v9_1] [(.ref a9_0)])) t
    refine XS.aloadN X0.here hx rfl (hb hby d9_1) rfl hr_v9_1 ?_
    show Steps p.tables e below (s₁.setTop (mkF m 2 #[.val (.ref a9_0), .val v9_1] [v9_1, (.ref a9_0)])) t
    exact k
  obtain ⟨v162, _, ⟨T162, L162, k162, n162⟩, -, X162, ⟨Lc162, hQ162, l162, y162, z162⟩, st162⟩ := X0.specialBack hx (y := (⟨"java/lang/Throwable", "<init>", "(Ljava/lang/String;)V"⟩ : MethodName)) rfl hown (mvT hZ (hw _ (List.mem_of_getElem? (i := 50) rfl))) (mvT hZ (hw _ (List.mem_of_getElem? (i := 51) rfl))) (mvT hZ (hw _ (List.mem_of_getElem? (i := 55) rfl))) (by decide) (backOfKL (W := 0) (own_rm10 l Z a0 hw [] a9_0 v9_1 ua sa h0 n0 Z0 O0 hr_v9_1 U_a9_0 E_a9_0 ge_a9_0 F_backtrace_a9_0 hl SUS SSS) hZ (hw _ (List.mem_of_getElem? (i := 55) rfl)) (hw _ (List.mem_of_getElem? (i := 54) rfl)) (by decide) (by decide) hTK hBelow) (g := (mkF m 2 #[.val (.ref a9_0), .val v9_1] [v9_1, (.ref a9_0)])) rfl (by rw [hml]; rfl) (Steps.refl _) (a := a9_0) (argsL := [v9_1]) (rest := []) (lenOf pd__Ljava_lang_String__V rfl) rfl (by show 2 * 0 + _ ≤ _; exact Nat.le_of_eq rfl) (hb hby d9_2) (fun _ _ => ⟨rfl, e0, (by decide : 0 + 1 ≤ _), (by decide : 0 + 2752 ≤ _)⟩)
  dsimp only [Pt.U, Pt.locs, Pt.cells, Pt.slots] at X162 l162 y162 z162 st162 hQ162
  subst y162 z162
  obtain ⟨rfl, M162, K162, f163, f164⟩ := hQ162
  have f165 := E_a9_0.keep K162
  have K166 : Keep h0 T162.heap [a9_0] := (Keep.refl h0 [a9_0]).trans K162 (allS (Or.inl (List.mem_of_getElem? (i := 0) rfl)) all0)
  have O167 := O0.keep K162 (allS ge_a9_0 all0)
  have Z168 := Nat.le_trans Z0 K162.1
  have N169 : Fr n0 L162 := by rw [l162]; exact Fr.app N0 M162
  refine own_via (T' := T162) (g' := (mkF m 5 #[.val (.ref a9_0), .val v9_1] [])) st162 ?_
  exact own_ret0 X162 hx Bd.returns (hb hby d9_5) hlk (by decide) (by decide) ⟨rfl, N169, K166, f163, f164⟩
theorem d8_0 : decode jdk_58_method_2_code 0 = .ok (.aload_n 0, 1) := by decide +kernel
theorem d8_1 : decode jdk_58_method_2_code 1 = .ok (.aload_n 1, 1) := by decide +kernel
theorem d8_2 : decode jdk_58_method_2_code 2 = .ok (.invokespecial 7, 3) := by decide +kernel
theorem d8_5 : decode jdk_58_method_2_code 5 = .ok (.return_, 1) := by decide +kernel
theorem pn_java_lang_RuntimeException : plainName "java/lang/RuntimeException" = true := by first | (simp [plainName, overriddenIn]; done) | decide +kernel
theorem own_ef8 (m : MethodId) (x0 : Addr) (v8_1 : Value) (hr_v8_1 : v8_1.isRef = true) : entryFrame m #[(.ref x0), v8_1] 2 = mkF m 0 #[.val (.ref x0), .val v8_1] [] := by
  rcases ref_cases hr_v8_1 with rfl | ⟨_, rfl⟩ <;> simp [entryFrame, mkF, argsToLocals, Value.category]
def own_Q8 (Z : State) (a8_0 : Addr) (v8_1 : Value) (ua : Addr) (sa : Addr) (h0 : Heap) (n0 : Nat) (v : Option Value) (h : Heap) (L : List Loc) : Prop := v = none ∧ Fr n0 L ∧ Keep h0 h [a8_0] ∧ Exa Z h a8_0 "com/example/buzon/buzon/engine/ApiException" ∧ Unt h a8_0
set_option maxRecDepth 65536 in
set_option maxHeartbeats 40000000 in
theorem own_rm8 (l : Launch) (Z : State) (a0 : Array Value) (hw : ∀ d ∈ tables_1, d.before a0 Z = true) (ws : List Jvm.Cond) (a8_0 : Addr) (v8_1 : Value) (ua : Addr) (sa : Addr) (h0 : Heap) (n0 : Nat) (Z0 : n0 ≤ h0.size) (O0 : Old Z n0 h0) (hr_v8_1 : v8_1.isRef = true) (U_a8_0 : Unt h0 a8_0) (E_a8_0 : Exa Z h0 a8_0 "com/example/buzon/buzon/engine/ApiException") (ge_a8_0 : n0 ≤ a8_0) (F_backtrace_a8_0 : Fld Z h0 a8_0 "java/lang/Throwable" "backtrace" "Ljava/lang/Object;" .null) (hl : l.stackTraces = true) (SUS : Sta Z Z.heap "java/lang/Throwable" "UNASSIGNED_STACK" "[Ljava/lang/StackTraceElement;" (.ref ua)) (SSS : Sta Z Z.heap "java/lang/Throwable" "SUPPRESSED_SENTINEL" "Ljava/util/List;" (.ref sa)) :
    MetFree l (⟨"java/lang/RuntimeException", "<init>", "(Ljava/lang/String;)V"⟩ : MethodName) (head1 (Jvm.Cond.code (⟨"java/lang/RuntimeException", "<init>", "(Ljava/lang/String;)V"⟩ : MethodName) jdk_58_method_2_code 2 none :: ws) ({ frames := 5, cells := 1, slots := 2752, locals := 68 } : Room)) (fun a U => a = #[(.ref a8_0), v8_1] ∧ Z.Warmed39 U.vm ∧ U.heap = h0) (fun _ _ bl s _ => s.vm.MethodsKnown ∧ s.vm.FramesKnown bl) (fun _ U o U' => ∃ v L, o = .returned v ∧ own_Q8 Z a8_0 v8_1 ua sa h0 n0 v U'.heap L ∧ FrameEnd U o U' L ({ frames := 5, cells := 1, slots := 2752, locals := 68 } : Room).cells ({ frames := 5, cells := 1, slots := 2752, locals := 68 } : Room).slots) := by
  refine MetFree.of_bodySF (plainFor_of_name pn_java_lang_RuntimeException) hisR ?_
  intro p e s m args below meth c s₁ Bd hml0 hP hK
  obtain ⟨rfl, hZ, hh⟩ := hP
  obtain ⟨hTK, hBelow⟩ := hK
  have hx := Bd.exec
  have hby := Bd.bytes
  have hlk : meth.locks = false := BodyLoose.notSynchronized Bd
  have hml : c.maxLocals = 2 := hml0
  have hown : s.vm.findClass "java/lang/RuntimeException" = some m.cls := findClass_of_methodNamed Bd.named
  have hnm := (name_of_methodNamed Bd.named Bd.method).1
  have X0 : Stand p l e ({ frames := 5, cells := 1, slots := 2752, locals := 68 } : Room) s m #[(.ref a8_0), v8_1] below meth c s₁ [] 0 0 := Stand.of_body Bd
  have e0 : s₁.heap = h0 := by rw [← hh, Bd.state]; rfl
  have N0 := Fr.nil n0
  show own_Go p e below (own_P s below ({ frames := 5, cells := 1, slots := 2752, locals := 68 } : Room) (own_Q8 Z a8_0 v8_1 ua sa h0 n0)) s₁ (entryFrame m #[(.ref a8_0), v8_1] 2)
  refine own_in (own_ef8 m a8_0 v8_1 hr_v8_1) ?_
  refine own_by (T' := s₁) (g' := (mkF m 2 #[.val (.ref a8_0), .val v8_1] [v8_1, (.ref a8_0)])) (fun t k => ?_) ?_
  · show Steps p.tables e below (s₁.setTop (mkF m 0 #[.val (.ref a8_0), .val v8_1] [])) t
    refine XS.aloadN X0.here hx rfl (hb hby d8_0) rfl rfl ?_
    show Steps p.tables e below (s₁.setTop (mkF m 1 #[.val (.ref a8_0), .val v8_1] [(.ref a8_0)])) t
    refine XS.aloadN X0.here hx rfl (hb hby d8_1) rfl hr_v8_1 ?_
    show Steps p.tables e below (s₁.setTop (mkF m 2 #[.val (.ref a8_0), .val v8_1] [v8_1, (.ref a8_0)])) t
    exact k
  obtain ⟨v170, _, ⟨T170, L170, k170, n170⟩, -, X170, ⟨Lc170, hQ170, l170, y170, z170⟩, st170⟩ := X0.specialBack hx (y := (⟨"java/lang/Exception", "<init>", "(Ljava/lang/String;)V"⟩ : MethodName)) rfl hown (mvT hZ (hw _ (List.mem_of_getElem? (i := 44) rfl))) (mvT hZ (hw _ (List.mem_of_getElem? (i := 45) rfl))) (mvT hZ (hw _ (List.mem_of_getElem? (i := 49) rfl))) (by decide) (backOfKL (W := 0) (own_rm9 l Z a0 hw [] a8_0 v8_1 ua sa h0 n0 Z0 O0 hr_v8_1 U_a8_0 E_a8_0 ge_a8_0 F_backtrace_a8_0 hl SUS SSS) hZ (hw _ (List.mem_of_getElem? (i := 49) rfl)) (hw _ (List.mem_of_getElem? (i := 48) rfl)) (by decide) (by decide) hTK hBelow) (g := (mkF m 2 #[.val (.ref a8_0), .val v8_1] [v8_1, (.ref a8_0)])) rfl (by rw [hml]; rfl) (Steps.refl _) (a := a8_0) (argsL := [v8_1]) (rest := []) (lenOf pd__Ljava_lang_String__V rfl) rfl (by show 2 * 0 + _ ≤ _; exact Nat.le_of_eq rfl) (hb hby d8_2) (fun _ _ => ⟨rfl, e0, (by decide : 0 + 1 ≤ _), (by decide : 0 + 2752 ≤ _)⟩)
  dsimp only [Pt.U, Pt.locs, Pt.cells, Pt.slots] at X170 l170 y170 z170 st170 hQ170
  subst y170 z170
  obtain ⟨rfl, M170, K170, f171, f172⟩ := hQ170
  have f173 := E_a8_0.keep K170
  have K174 : Keep h0 T170.heap [a8_0] := (Keep.refl h0 [a8_0]).trans K170 (allS (Or.inl (List.mem_of_getElem? (i := 0) rfl)) all0)
  have O175 := O0.keep K170 (allS ge_a8_0 all0)
  have Z176 := Nat.le_trans Z0 K170.1
  have N177 : Fr n0 L170 := by rw [l170]; exact Fr.app N0 M170
  refine own_via (T' := T170) (g' := (mkF m 5 #[.val (.ref a8_0), .val v8_1] [])) st170 ?_
  exact own_ret0 X170 hx Bd.returns (hb hby d8_5) hlk (by decide) (by decide) ⟨rfl, N177, K174, f171, f172⟩
theorem d7_0 : decode prog_2_method_1_code 0 = .ok (.aload_n 0, 1) := by decide +kernel
theorem d7_1 : decode prog_2_method_1_code 1 = .ok (.aload_n 2, 1) := by decide +kernel
theorem d7_2 : decode prog_2_method_1_code 2 = .ok (.invokespecial 1, 3) := by decide +kernel
theorem d7_5 : decode prog_2_method_1_code 5 = .ok (.aload_n 0, 1) := by decide +kernel
theorem d7_6 : decode prog_2_method_1_code 6 = .ok (.aload_n 1, 1) := by decide +kernel
theorem d7_7 : decode prog_2_method_1_code 7 = .ok (.putfield 7, 3) := by decide +kernel
theorem d7_10 : decode prog_2_method_1_code 10 = .ok (.return_, 1) := by decide +kernel
theorem pn_com_example_buzon_buzon_engine_ApiException : plainName "com/example/buzon/buzon/engine/ApiException" = true := by first | (simp [plainName, overriddenIn]; done) | decide +kernel
theorem own_ef7 (m : MethodId) (x0 : Addr) (v7_1 : Value) (hr_v7_1 : v7_1.isRef = true) (v7_2 : Value) (hr_v7_2 : v7_2.isRef = true) : entryFrame m #[(.ref x0), v7_1, v7_2] 3 = mkF m 0 #[.val (.ref x0), .val v7_1, .val v7_2] [] := by
  rcases ref_cases hr_v7_1 with rfl | ⟨_, rfl⟩ <;> rcases ref_cases hr_v7_2 with rfl | ⟨_, rfl⟩ <;> simp [entryFrame, mkF, argsToLocals, Value.category]
def own_Q7 (Z : State) (a7_0 : Addr) (v7_1 : Value) (v7_2 : Value) (ua : Addr) (sa : Addr) (h0 : Heap) (n0 : Nat) (v : Option Value) (h : Heap) (L : List Loc) : Prop := v = none ∧ Fr n0 L ∧ Keep h0 h [a7_0] ∧ Exa Z h a7_0 "com/example/buzon/buzon/engine/ApiException" ∧ Unt h a7_0
set_option maxRecDepth 65536 in
set_option maxHeartbeats 40000000 in
theorem own_rm7 (l : Launch) (Z : State) (a0 : Array Value) (hw : ∀ d ∈ tables_1, d.before a0 Z = true) (ws : List Jvm.Cond) (a7_0 : Addr) (v7_1 : Value) (v7_2 : Value) (ua : Addr) (sa : Addr) (h0 : Heap) (n0 : Nat) (Z0 : n0 ≤ h0.size) (O0 : Old Z n0 h0) (hr_v7_1 : v7_1.isRef = true) (hr_v7_2 : v7_2.isRef = true) (U_a7_0 : Unt h0 a7_0) (E_a7_0 : Exa Z h0 a7_0 "com/example/buzon/buzon/engine/ApiException") (ge_a7_0 : n0 ≤ a7_0) (F_backtrace_a7_0 : Fld Z h0 a7_0 "java/lang/Throwable" "backtrace" "Ljava/lang/Object;" .null) (hl : l.stackTraces = true) (SUS : Sta Z Z.heap "java/lang/Throwable" "UNASSIGNED_STACK" "[Ljava/lang/StackTraceElement;" (.ref ua)) (SSS : Sta Z Z.heap "java/lang/Throwable" "SUPPRESSED_SENTINEL" "Ljava/util/List;" (.ref sa)) :
    MetFree l (⟨"com/example/buzon/buzon/engine/ApiException", "<init>", "(Lcom/example/buzon/buzon/engine/ApiError;Ljava/lang/String;)V"⟩ : MethodName) (head1 (Jvm.Cond.code (⟨"com/example/buzon/buzon/engine/ApiException", "<init>", "(Lcom/example/buzon/buzon/engine/ApiError;Ljava/lang/String;)V"⟩ : MethodName) prog_2_method_1_code 3 none :: ws) ({ frames := 6, cells := 1, slots := 2752, locals := 81 } : Room)) (fun a U => a = #[(.ref a7_0), v7_1, v7_2] ∧ Z.Warmed39 U.vm ∧ U.heap = h0) (fun _ _ bl s _ => s.vm.MethodsKnown ∧ s.vm.FramesKnown bl) (fun _ U o U' => ∃ v L, o = .returned v ∧ own_Q7 Z a7_0 v7_1 v7_2 ua sa h0 n0 v U'.heap L ∧ FrameEnd U o U' L ({ frames := 6, cells := 1, slots := 2752, locals := 81 } : Room).cells ({ frames := 6, cells := 1, slots := 2752, locals := 81 } : Room).slots) := by
  refine MetFree.of_bodySF (plainFor_of_name pn_com_example_buzon_buzon_engine_ApiException) hisR ?_
  intro p e s m args below meth c s₁ Bd hml0 hP hK
  obtain ⟨rfl, hZ, hh⟩ := hP
  obtain ⟨hTK, hBelow⟩ := hK
  have hx := Bd.exec
  have hby := Bd.bytes
  have hlk : meth.locks = false := BodyLoose.notSynchronized Bd
  have hml : c.maxLocals = 3 := hml0
  have hown : s.vm.findClass "com/example/buzon/buzon/engine/ApiException" = some m.cls := findClass_of_methodNamed Bd.named
  have hnm := (name_of_methodNamed Bd.named Bd.method).1
  have X0 : Stand p l e ({ frames := 6, cells := 1, slots := 2752, locals := 81 } : Room) s m #[(.ref a7_0), v7_1, v7_2] below meth c s₁ [] 0 0 := Stand.of_body Bd
  have e0 : s₁.heap = h0 := by rw [← hh, Bd.state]; rfl
  have N0 := Fr.nil n0
  show own_Go p e below (own_P s below ({ frames := 6, cells := 1, slots := 2752, locals := 81 } : Room) (own_Q7 Z a7_0 v7_1 v7_2 ua sa h0 n0)) s₁ (entryFrame m #[(.ref a7_0), v7_1, v7_2] 3)
  refine own_in (own_ef7 m a7_0 v7_1 hr_v7_1 v7_2 hr_v7_2) ?_
  refine own_by (T' := s₁) (g' := (mkF m 2 #[.val (.ref a7_0), .val v7_1, .val v7_2] [v7_2, (.ref a7_0)])) (fun t k => ?_) ?_
  · show Steps p.tables e below (s₁.setTop (mkF m 0 #[.val (.ref a7_0), .val v7_1, .val v7_2] [])) t
    refine XS.aloadN X0.here hx rfl (hb hby d7_0) rfl rfl ?_
    show Steps p.tables e below (s₁.setTop (mkF m 1 #[.val (.ref a7_0), .val v7_1, .val v7_2] [(.ref a7_0)])) t
    refine XS.aloadN X0.here hx rfl (hb hby d7_1) rfl hr_v7_2 ?_
    show Steps p.tables e below (s₁.setTop (mkF m 2 #[.val (.ref a7_0), .val v7_1, .val v7_2] [v7_2, (.ref a7_0)])) t
    exact k
  obtain ⟨v178, _, ⟨T178, L178, k178, n178⟩, -, X178, ⟨Lc178, hQ178, l178, y178, z178⟩, st178⟩ := X0.specialBack hx (y := (⟨"java/lang/RuntimeException", "<init>", "(Ljava/lang/String;)V"⟩ : MethodName)) rfl hown (mvT hZ (hw _ (List.mem_of_getElem? (i := 39) rfl))) (mvT hZ (hw _ (List.mem_of_getElem? (i := 40) rfl))) (mvT hZ (hw _ (List.mem_of_getElem? (i := 43) rfl))) (by decide) (backOfKL (W := 0) (own_rm8 l Z a0 hw [] a7_0 v7_2 ua sa h0 n0 Z0 O0 hr_v7_2 U_a7_0 E_a7_0 ge_a7_0 F_backtrace_a7_0 hl SUS SSS) hZ (hw _ (List.mem_of_getElem? (i := 43) rfl)) (hw _ (List.mem_of_getElem? (i := 42) rfl)) (by decide) (by decide) hTK hBelow) (g := (mkF m 2 #[.val (.ref a7_0), .val v7_1, .val v7_2] [v7_2, (.ref a7_0)])) rfl (by rw [hml]; rfl) (Steps.refl _) (a := a7_0) (argsL := [v7_2]) (rest := []) (lenOf pd__Ljava_lang_String__V rfl) rfl (by show 2 * 0 + _ ≤ _; exact Nat.le_of_eq rfl) (hb hby d7_2) (fun _ _ => ⟨rfl, e0, (by decide : 0 + 1 ≤ _), (by decide : 0 + 2752 ≤ _)⟩)
  dsimp only [Pt.U, Pt.locs, Pt.cells, Pt.slots] at X178 l178 y178 z178 st178 hQ178
  subst y178 z178
  obtain ⟨rfl, M178, K178, f179, f180⟩ := hQ178
  have f181 := E_a7_0.keep K178
  have K182 : Keep h0 T178.heap [a7_0] := (Keep.refl h0 [a7_0]).trans K178 (allS (Or.inl (List.mem_of_getElem? (i := 0) rfl)) all0)
  have O183 := O0.keep K178 (allS ge_a7_0 all0)
  have Z184 := Nat.le_trans Z0 K178.1
  have N185 : Fr n0 L178 := by rw [l178]; exact Fr.app N0 M178
  refine own_via (T' := T178) (g' := (mkF m 5 #[.val (.ref a7_0), .val v7_1, .val v7_2] [])) st178 ?_
  refine own_by (T' := T178) (g' := (mkF m 7 #[.val (.ref a7_0), .val v7_1, .val v7_2] [v7_1, (.ref a7_0)])) (fun t k => ?_) ?_
  · show Steps p.tables e below (T178.setTop (mkF m 5 #[.val (.ref a7_0), .val v7_1, .val v7_2] [])) t
    refine XS.aloadN X178.here hx rfl (hb hby d7_5) rfl rfl ?_
    show Steps p.tables e below (T178.setTop (mkF m 6 #[.val (.ref a7_0), .val v7_1, .val v7_2] [(.ref a7_0)])) t
    refine XS.aloadN X178.here hx rfl (hb hby d7_6) rfl hr_v7_1 ?_
    show Steps p.tables e below (T178.setTop (mkF m 7 #[.val (.ref a7_0), .val v7_1, .val v7_2] [v7_1, (.ref a7_0)])) t
    exact k
  obtain ⟨u186, fu186⟩ := fld_laid (O := "com/example/buzon/buzon/engine/ApiException") (n := "error") (d := "Lcom/example/buzon/buzon/engine/ApiError;") f179 (Unt.known f180) (hw _ (List.mem_of_getElem? (i := 8) rfl)) (Or.inr (hw _ (List.mem_of_getElem? (i := 94) rfl)))
  obtain ⟨T187, h187, X187, e187, W187, st187⟩ := putF X178 hx hZ hown (host := "") (Or.inl (hw _ (List.mem_of_getElem? (i := 93) rfl))) Via.refl rfl fu186 f179 (Or.inr ⟨(hw _ (List.mem_of_getElem? (i := 94) rfl)), rfl, hnm⟩) (hw _ (List.mem_of_getElem? (i := 8) rfl)) (ty := (.object "com/example/buzon/buzon/engine/ApiError")) (by decide) rfl (own_fitsR hr_v7_1) (g := (mkF m 7 #[.val (.ref a7_0), .val v7_1, .val v7_2] [v7_1, (.ref a7_0)])) rfl rfl (hb hby d7_7)
  have f188 := fu186.same W187
  have f189 := f179.wr W187
  have f190 := f180.wr W187
  have K192 : Keep h0 h187 [a7_0] := K182.wr W187 (Or.inl (List.mem_of_getElem? (i := 0) rfl))
  have N193 := Fr.snoc X187 N185 ge_a7_0
  obtain ⟨Lh187, X187, N193⟩ := own_hide X187 N193
  have O194 := O183.wr W187 ge_a7_0
  have Z195 := Nat.le_trans Z184 (Keep.of_wr W187).1
  refine own_by (T' := T187) (g' := (mkF m 10 #[.val (.ref a7_0), .val v7_1, .val v7_2] [])) st187 ?_
  exact own_ret0 X187 hx Bd.returns (hb hby d7_10) hlk (by decide) (by decide) (by rw [e187]; exact ⟨rfl, N193, K192, f189, f190⟩)
theorem d16_0 : decode prog_2_method_2_code 0 = .ok (.new 8, 3) := by decide +kernel
theorem d16_3 : decode prog_2_method_2_code 3 = .ok (.dup, 1) := by decide +kernel
theorem d16_4 : decode prog_2_method_2_code 4 = .ok (.getstatic 13, 3) := by decide +kernel
theorem d16_7 : decode prog_2_method_2_code 7 = .ok (.ldc 18, 2) := by decide +kernel
theorem d16_9 : decode prog_2_method_2_code 9 = .ok (.invokespecial 20, 3) := by decide +kernel
theorem pd__Lcom_example_buzon_buzon_engine_ApiError_Ljava_lang_String__V : parseMethodDescriptor "(Lcom/example/buzon/buzon/engine/ApiError;Ljava/lang/String;)V" = some ⟨[(.object "com/example/buzon/buzon/engine/ApiError"), (.object "java/lang/String")], none⟩ := by decide +kernel
theorem d16_12 : decode prog_2_method_2_code 12 = .ok (.areturn, 1) := by decide +kernel
theorem own_ef16 (m : MethodId)  : entryFrame m #[] 0 = mkF m 0 #[] [] := by first | (simp [entryFrame, mkF, argsToLocals, Value.category]; done) | rfl
def own_Q16 (Z : State) (wNON_EXISTENT_QUEUE : Addr) (ua : Addr) (sa : Addr) (h0 : Heap) (n0 : Nat) (v : Option Value) (h : Heap) (L : List Loc) : Prop := ∃ b : Addr, v = some (.ref b) ∧ Fr n0 L ∧ Keep h0 h [] ∧ h0.size ≤ b ∧ n0 ≤ b ∧ Exa Z h b "com/example/buzon/buzon/engine/ApiException"
set_option maxRecDepth 65536 in
set_option maxHeartbeats 40000000 in
theorem own_rm16 (l : Launch) (Z : State) (a0 : Array Value) (hw : ∀ d ∈ tables_1, d.before a0 Z = true) (ws : List Jvm.Cond) (wNON_EXISTENT_QUEUE : Addr) (ua : Addr) (sa : Addr) (h0 : Heap) (n0 : Nat) (Z0 : n0 ≤ h0.size) (O0 : Old Z n0 h0) (EN : own_EN Z wNON_EXISTENT_QUEUE) (hl : l.stackTraces = true) (SUS : Sta Z Z.heap "java/lang/Throwable" "UNASSIGNED_STACK" "[Ljava/lang/StackTraceElement;" (.ref ua)) (SSS : Sta Z Z.heap "java/lang/Throwable" "SUPPRESSED_SENTINEL" "Ljava/util/List;" (.ref sa)) :
    MetFree l (⟨"com/example/buzon/buzon/engine/ApiException", "nonExistentQueue", "()Lcom/example/buzon/buzon/engine/ApiException;"⟩ : MethodName) (head1 (Jvm.Cond.code (⟨"com/example/buzon/buzon/engine/ApiException", "nonExistentQueue", "()Lcom/example/buzon/buzon/engine/ApiException;"⟩ : MethodName) prog_2_method_2_code 0 (some (.object "com/example/buzon/buzon/engine/ApiException")) :: ws) ({ frames := 7, cells := 4, slots := 2899, locals := 96 } : Room)) (fun a U => a = #[] ∧ Z.Warmed39 U.vm ∧ U.heap = h0 ∧ CHv Z own_EL U.vm h0) (fun _ _ bl s _ => s.vm.MethodsKnown ∧ s.vm.FramesKnown bl) (fun _ U o U' => ∃ v L, o = .returned v ∧ own_Q16 Z wNON_EXISTENT_QUEUE ua sa h0 n0 v U'.heap L ∧ CHr Z own_EL U.vm U.heap U'.vm U'.heap ∧ ReturnedEndW U o U' L ({ frames := 7, cells := 4, slots := 2899, locals := 96 } : Room).cells ({ frames := 7, cells := 4, slots := 2899, locals := 96 } : Room).slots) := by
  refine MetFree.of_bodySF (plainFor_of_name pn_com_example_buzon_buzon_engine_ApiException) hisR ?_
  intro p e s m args below meth c s₁ Bd hml0 hP hK
  obtain ⟨rfl, hZ, hh, hCH⟩ := hP
  obtain ⟨hTK, hBelow⟩ := hK
  have hx := Bd.exec
  have hby := Bd.bytes
  have hlk : meth.locks = false := BodyLoose.notSynchronized Bd
  have hml : c.maxLocals = 0 := hml0
  have hown : s.vm.findClass "com/example/buzon/buzon/engine/ApiException" = some m.cls := findClass_of_methodNamed Bd.named
  have hnm := (name_of_methodNamed Bd.named Bd.method).1
  have X0 : Stand p l e ({ frames := 7, cells := 4, slots := 2899, locals := 96 } : Room) (s.setVm s.vm) m #[] below meth c s₁ [] 0 0 := Stand.of_body Bd
  have e0 : s₁.heap = h0 := by rw [← hh, Bd.state]; rfl
  have N0 := Fr.nil n0
  have hS0 : s.Since s.vm 0 := (State.WarmedH.refl s).since 0
  have hk0 : 0 ≤ h0.size := Nat.zero_le _
  have CR0 : CHr Z own_EL s.vm h0 s.vm h0 := CHr.refl hCH
  show own_Go p e below (own_PW Z own_EL s below ({ frames := 7, cells := 4, slots := 2899, locals := 96 } : Room) (own_Q16 Z wNON_EXISTENT_QUEUE ua sa h0 n0)) s₁ (entryFrame m #[] 0)
  refine own_in (own_ef16 m) ?_
  obtain ⟨T196, h196, X196, e196, E196, A196, D196, U196, st196⟩ := newO X0 hx hZ hown (hw _ (List.mem_of_getElem? (i := 119) rfl)) (hw _ (List.mem_of_getElem? (i := 8) rfl)) (hw _ (List.mem_of_getElem? (i := 9) rfl)) e0 (g := (mkF m 0 #[] [])) rfl (hb hby d16_0) (by decide) (by decide)
  obtain ⟨b196, g196⟩ : ∃ z, z = h0.size := ⟨_, rfl⟩
  rw [← g196] at A196 D196 U196 st196
  have gn_b196 : n0 ≤ b196 := Nat.le_trans Z0 (Nat.le_of_eq g196.symm)
  have sz_b196 : h0.size ≤ b196 := Nat.le_trans (Keep.refl h0 []).1 (Nat.le_of_eq g196.symm)
  have K197 : Keep h0 h196 [] := (Keep.refl h0 []).ext E196
  have O198 := O0.ext E196
  have Z199 := Nat.le_trans Z0 E196.1
  have hk200 := Nat.le_trans hk0 E196.1
  have f201 : Fld Z h196 b196 "java/lang/Throwable" "cause" "Ljava/lang/Throwable;" .null := D196 (Or.inl (hw _ (List.mem_of_getElem? (i := 58) rfl))) (ty := (.object "java/lang/Throwable")) (by decide)
  have f202 : Fld Z h196 b196 "java/lang/Throwable" "stackTrace" "[Ljava/lang/StackTraceElement;" .null := D196 (Or.inl (hw _ (List.mem_of_getElem? (i := 61) rfl))) (ty := (.array (.object "java/lang/StackTraceElement"))) (by decide)
  have f203 : Fld Z h196 b196 "java/lang/Throwable" "suppressedExceptions" "Ljava/util/List;" .null := D196 (Or.inl (hw _ (List.mem_of_getElem? (i := 64) rfl))) (ty := (.object "java/util/List")) (by decide)
  have f204 : Fld Z h196 b196 "java/lang/Throwable" "detailMessage" "Ljava/lang/String;" .null := D196 (Or.inl (hw _ (List.mem_of_getElem? (i := 88) rfl))) (ty := (.object "java/lang/String")) (by decide)
  have f205 : Fld Z h196 b196 "java/lang/Throwable" "backtrace" "Ljava/lang/Object;" .null := D196 (Or.inl (hw _ (List.mem_of_getElem? (i := 89) rfl))) (ty := (.object "java/lang/Object")) (by decide)
  have f206 : Fld Z h196 b196 "java/lang/Throwable" "depth" "I" (.int (0 : Int32)) := D196 (Or.inl (hw _ (List.mem_of_getElem? (i := 90) rfl))) (ty := .int) (by decide)
  have f207 : Fld Z h196 b196 "com/example/buzon/buzon/engine/ApiException" "error" "Lcom/example/buzon/buzon/engine/ApiError;" .null := D196 (Or.inr (hw _ (List.mem_of_getElem? (i := 94) rfl))) (ty := (.object "com/example/buzon/buzon/engine/ApiError")) (by decide)
  refine own_by (T' := T196) (g' := (mkF m 3 #[] [(.ref b196)])) st196 ?_
  refine own_by (T' := T196) (g' := (mkF m 4 #[] [(.ref b196), (.ref b196)])) (fun t k => ?_) ?_
  · show Steps p.tables e below (T196.setTop (mkF m 3 #[] [(.ref b196)])) t
    refine XS.dup X196.here hx rfl (hb hby d16_3) rfl rfl ?_
    show Steps p.tables e below (T196.setTop (mkF m 4 #[] [(.ref b196), (.ref b196)])) t
    exact k
  obtain ⟨T208, X208, e208, st208⟩ := getS2 X196 hx hZ hown (host := "") (Or.inl (hw _ (List.mem_of_getElem? (i := 120) rfl))) Via.refl e196 (EN.1.ext O198.2) (g := (mkF m 4 #[] [(.ref b196), (.ref b196)])) rfl (hb hby d16_4)
  refine own_by (T' := T208) (g' := (mkF m 7 #[] [(.ref wNON_EXISTENT_QUEUE), (.ref b196), (.ref b196)])) st208 ?_
  obtain ⟨b209, T209, h209, k1209, X209, e209, E209, hS209, hk209, hZ, hown, st209⟩ := ldcS X208 hx hZ hown (hw _ (List.mem_of_getElem? (i := 123) rfl)) (own_atoms hw) e208 hS0 hk200 (g := (mkF m 7 #[] [(.ref wNON_EXISTENT_QUEUE), (.ref b196), (.ref b196)])) rfl (hb hby d16_7) (n := 136) (by decide) (by decide) (by decide) (by decide)
  have f210 := A196.ext E209
  have f211 := (show Unt h196 b196 from U196).ext E209
  have f212 := f201.ext E209
  have f213 := f202.ext E209
  have f214 := f203.ext E209
  have f215 := f204.ext E209
  have f216 := f205.ext E209
  have f217 := f206.ext E209
  have f218 := f207.ext E209
  have K219 : Keep h0 h209 [] := K197.ext E209
  have O220 := O198.ext E209
  have Z221 := Nat.le_trans Z199 E209.1
  have hk222 := Nat.le_trans hk200 E209.1
  refine own_by (T' := T209) (g' := (mkF m 9 #[] [(.ref b209), (.ref wNON_EXISTENT_QUEUE), (.ref b196), (.ref b196)])) st209 ?_
  obtain ⟨v223, _, ⟨T223, L223, k223, n223⟩, -, X223, ⟨Lc223, hQ223, l223, y223, z223⟩, st223⟩ := X209.specialBack hx (y := (⟨"com/example/buzon/buzon/engine/ApiException", "<init>", "(Lcom/example/buzon/buzon/engine/ApiError;Ljava/lang/String;)V"⟩ : MethodName)) rfl hown (mvT hZ (hw _ (List.mem_of_getElem? (i := 126) rfl))) (mvT hZ (hw _ (List.mem_of_getElem? (i := 37) rfl))) (mvT hZ (hw _ (List.mem_of_getElem? (i := 38) rfl))) (by decide) (backOfKL (W := 1) (own_rm7 l Z a0 hw [] b196 (.ref wNON_EXISTENT_QUEUE) (.ref b209) ua sa h209 n0 Z221 O220 rfl rfl f211 f210 gn_b196 f216 hl SUS SSS) hZ (hw _ (List.mem_of_getElem? (i := 38) rfl)) (hw _ (List.mem_of_getElem? (i := 9) rfl)) (by decide) (by decide) (hTK.alikeC hS209.1.alike) (hBelow.alikeC hS209.1.alike)) (g := (mkF m 9 #[] [(.ref b209), (.ref wNON_EXISTENT_QUEUE), (.ref b196), (.ref b196)])) rfl (by rw [hml]; rfl) (Steps.refl _) (a := b196) (argsL := [(.ref wNON_EXISTENT_QUEUE), (.ref b209)]) (rest := [(.ref b196)]) (lenOf pd__Lcom_example_buzon_buzon_engine_ApiError_Ljava_lang_String__V rfl) rfl (by show 2 * 0 + _ ≤ _; exact Nat.le_of_eq rfl) (hb hby d16_9) (fun _ _ => ⟨rfl, e209, (by decide : 3 + 1 ≤ _), (by decide : 147 + 2752 ≤ _)⟩)
  dsimp only [Pt.U, Pt.locs, Pt.cells, Pt.slots] at X223 l223 y223 z223 st223 hQ223
  subst y223 z223
  obtain ⟨rfl, M223, K223, f224, f225⟩ := hQ223
  have f226 := f210.keep K223
  have K227 : Keep h0 T223.heap [] := K219.trans K223 (allS (Or.inr sz_b196) all0)
  have O228 := O220.keep K223 (allS gn_b196 all0)
  have Z229 := Nat.le_trans Z221 K223.1
  have hk230 := Nat.le_trans hk209 K223.1
  have N231 : Fr n0 L223 := by rw [l223]; exact Fr.app N0 M223
  refine own_via (T' := T223) (g' := (mkF m 12 #[] [(.ref b196)])) st223 ?_
  exact own_retRW X223 hZ (own_ew hw) hS209 hk230 rfl (own_ch0 (Z := Z) (vm := s.vm) K227.1) hh hx Bd.returns rfl rfl rfl (hb hby d16_12) hlk (by decide) (by decide) ⟨b196, rfl, N231, K227, sz_b196, gn_b196, f224⟩
theorem d13_0 : decode prog_16_method_1_code 0 = .ok (.aload_n 0, 1) := by decide +kernel
theorem d13_1 : decode prog_16_method_1_code 1 = .ok (.invokespecial 1, 3) := by decide +kernel
theorem d13_4 : decode prog_16_method_1_code 4 = .ok (.aload_n 0, 1) := by decide +kernel
theorem d13_5 : decode prog_16_method_1_code 5 = .ok (.aload_n 1, 1) := by decide +kernel
theorem d13_6 : decode prog_16_method_1_code 6 = .ok (.putfield 7, 3) := by decide +kernel
theorem d13_9 : decode prog_16_method_1_code 9 = .ok (.aload_n 0, 1) := by decide +kernel
theorem d13_10 : decode prog_16_method_1_code 10 = .ok (.aload_n 2, 1) := by decide +kernel
theorem d13_11 : decode prog_16_method_1_code 11 = .ok (.putfield 13, 3) := by decide +kernel
theorem d13_14 : decode prog_16_method_1_code 14 = .ok (.return_, 1) := by decide +kernel
theorem pn_com_example_buzon_buzon_engine_Outcome : plainName "com/example/buzon/buzon/engine/Outcome" = true := by first | (simp [plainName, overriddenIn]; done) | decide +kernel
theorem own_ef13 (m : MethodId) (x0 : Addr) (v13_1 : Value) (hr_v13_1 : v13_1.isRef = true) (v13_2 : Value) (hr_v13_2 : v13_2.isRef = true) : entryFrame m #[(.ref x0), v13_1, v13_2] 3 = mkF m 0 #[.val (.ref x0), .val v13_1, .val v13_2] [] := by
  rcases ref_cases hr_v13_1 with rfl | ⟨_, rfl⟩ <;> rcases ref_cases hr_v13_2 with rfl | ⟨_, rfl⟩ <;> simp [entryFrame, mkF, argsToLocals, Value.category]
def own_Q13 (Z : State) (a13_0 : Addr) (v13_1 : Value) (v13_2 : Value) (u_result_a13_0 : Value) (u_failure_a13_0 : Value) (h0 : Heap) (n0 : Nat) (v : Option Value) (h : Heap) (L : List Loc) : Prop := v = none ∧ Fr n0 L ∧ Keep h0 h [a13_0] ∧ Exa Z h a13_0 "com/example/buzon/buzon/engine/Outcome" ∧ Fld Z h a13_0 "com/example/buzon/buzon/engine/Outcome" "result" "Ljava/lang/Object;" v13_1 ∧ Fld Z h a13_0 "com/example/buzon/buzon/engine/Outcome" "failure" "Lcom/example/buzon/buzon/engine/ApiException;" v13_2
set_option maxRecDepth 65536 in
set_option maxHeartbeats 40000000 in
theorem own_rm13 (l : Launch) (Z : State) (a0 : Array Value) (hw : ∀ d ∈ tables_1, d.before a0 Z = true) (ws : List Jvm.Cond) (a13_0 : Addr) (v13_1 : Value) (v13_2 : Value) (u_result_a13_0 : Value) (u_failure_a13_0 : Value) (h0 : Heap) (n0 : Nat) (Z0 : n0 ≤ h0.size) (hr_v13_1 : v13_1.isRef = true) (hr_v13_2 : v13_2.isRef = true) (E_a13_0 : Exa Z h0 a13_0 "com/example/buzon/buzon/engine/Outcome") (F_result_a13_0 : Fld Z h0 a13_0 "com/example/buzon/buzon/engine/Outcome" "result" "Ljava/lang/Object;" u_result_a13_0) (ge_a13_0 : n0 ≤ a13_0) (F_failure_a13_0 : Fld Z h0 a13_0 "com/example/buzon/buzon/engine/Outcome" "failure" "Lcom/example/buzon/buzon/engine/ApiException;" u_failure_a13_0) :
    MetFree l (⟨"com/example/buzon/buzon/engine/Outcome", "<init>", "(Ljava/lang/Object;Lcom/example/buzon/buzon/engine/ApiException;)V"⟩ : MethodName) (head1 (Jvm.Cond.code (⟨"com/example/buzon/buzon/engine/Outcome", "<init>", "(Ljava/lang/Object;Lcom/example/buzon/buzon/engine/ApiException;)V"⟩ : MethodName) prog_16_method_1_code 3 none :: ws) ({ frames := 2, cells := 0, slots := 0, locals := 24 } : Room)) (fun a U => a = #[(.ref a13_0), v13_1, v13_2] ∧ Z.Warmed39 U.vm ∧ U.heap = h0) (fun _ _ _ _ _ => True) (fun _ U o U' => ∃ v L, o = .returned v ∧ own_Q13 Z a13_0 v13_1 v13_2 u_result_a13_0 u_failure_a13_0 h0 n0 v U'.heap L ∧ FrameEnd U o U' L ({ frames := 2, cells := 0, slots := 0, locals := 24 } : Room).cells ({ frames := 2, cells := 0, slots := 0, locals := 24 } : Room).slots) := by
  refine MetFree.of_bodySF (plainFor_of_name pn_com_example_buzon_buzon_engine_Outcome) hisR ?_
  intro p e s m args below meth c s₁ Bd hml0 hP hK
  obtain ⟨rfl, hZ, hh⟩ := hP
  have hx := Bd.exec
  have hby := Bd.bytes
  have hlk : meth.locks = false := BodyLoose.notSynchronized Bd
  have hml : c.maxLocals = 3 := hml0
  have hown : s.vm.findClass "com/example/buzon/buzon/engine/Outcome" = some m.cls := findClass_of_methodNamed Bd.named
  have hnm := (name_of_methodNamed Bd.named Bd.method).1
  have X0 : Stand p l e ({ frames := 2, cells := 0, slots := 0, locals := 24 } : Room) s m #[(.ref a13_0), v13_1, v13_2] below meth c s₁ [] 0 0 := Stand.of_body Bd
  have e0 : s₁.heap = h0 := by rw [← hh, Bd.state]; rfl
  have N0 := Fr.nil n0
  show own_Go p e below (own_P s below ({ frames := 2, cells := 0, slots := 0, locals := 24 } : Room) (own_Q13 Z a13_0 v13_1 v13_2 u_result_a13_0 u_failure_a13_0 h0 n0)) s₁ (entryFrame m #[(.ref a13_0), v13_1, v13_2] 3)
  refine own_in (own_ef13 m a13_0 v13_1 hr_v13_1 v13_2 hr_v13_2) ?_
  refine own_by (T' := s₁) (g' := (mkF m 1 #[.val (.ref a13_0), .val v13_1, .val v13_2] [(.ref a13_0)])) (fun t k => ?_) ?_
  · show Steps p.tables e below (s₁.setTop (mkF m 0 #[.val (.ref a13_0), .val v13_1, .val v13_2] [])) t
    refine XS.aloadN X0.here hx rfl (hb hby d13_0) rfl rfl ?_
    show Steps p.tables e below (s₁.setTop (mkF m 1 #[.val (.ref a13_0), .val v13_1, .val v13_2] [(.ref a13_0)])) t
    exact k
  obtain ⟨v232, _, ⟨T232, L232, k232, n232⟩, -, X232, ⟨Lc232, hQ232, l232, y232, z232⟩, st232⟩ := X0.specialBack hx (y := (⟨"java/lang/Record", "<init>", "()V"⟩ : MethodName)) rfl hown (mvT hZ (hw _ (List.mem_of_getElem? (i := 101) rfl))) (mvT hZ (hw _ (List.mem_of_getElem? (i := 102) rfl))) (mvT hZ (hw _ (List.mem_of_getElem? (i := 105) rfl))) (by decide) (backOf (W := 0) (own_rm14 l Z a0 hw [] a13_0 h0 n0 Z0) hZ (hw _ (List.mem_of_getElem? (i := 105) rfl)) (hw _ (List.mem_of_getElem? (i := 104) rfl)) (by decide) (by decide)) (g := (mkF m 1 #[.val (.ref a13_0), .val v13_1, .val v13_2] [(.ref a13_0)])) rfl (by rw [hml]; rfl) (Steps.refl _) (a := a13_0) (argsL := []) (rest := []) (lenOf pd___V rfl) rfl (by show 2 * 0 + _ ≤ _; exact Nat.le_of_eq rfl) (hb hby d13_1) (fun _ _ => ⟨rfl, e0, (by decide : 0 + 0 ≤ _), (by decide : 0 + 0 ≤ _)⟩)
  dsimp only [Pt.U, Pt.locs, Pt.cells, Pt.slots] at X232 l232 y232 z232 st232 hQ232
  subst y232 z232
  obtain ⟨rfl, M232, K232⟩ := hQ232
  have f233 := E_a13_0.keep K232
  have f234 := F_result_a13_0.keep K232 nin0
  have f235 := F_failure_a13_0.keep K232 nin0
  have K236 : Keep h0 T232.heap [a13_0] := (Keep.refl h0 [a13_0]).trans K232 all0
  have Z237 := Nat.le_trans Z0 K232.1
  have N238 : Fr n0 L232 := by rw [l232]; exact Fr.app N0 M232
  refine own_via (T' := T232) (g' := (mkF m 4 #[.val (.ref a13_0), .val v13_1, .val v13_2] [])) st232 ?_
  refine own_by (T' := T232) (g' := (mkF m 6 #[.val (.ref a13_0), .val v13_1, .val v13_2] [v13_1, (.ref a13_0)])) (fun t k => ?_) ?_
  · show Steps p.tables e below (T232.setTop (mkF m 4 #[.val (.ref a13_0), .val v13_1, .val v13_2] [])) t
    refine XS.aloadN X232.here hx rfl (hb hby d13_4) rfl rfl ?_
    show Steps p.tables e below (T232.setTop (mkF m 5 #[.val (.ref a13_0), .val v13_1, .val v13_2] [(.ref a13_0)])) t
    refine XS.aloadN X232.here hx rfl (hb hby d13_5) rfl hr_v13_1 ?_
    show Steps p.tables e below (T232.setTop (mkF m 6 #[.val (.ref a13_0), .val v13_1, .val v13_2] [v13_1, (.ref a13_0)])) t
    exact k
  obtain ⟨T239, h239, X239, e239, W239, st239⟩ := putF X232 hx hZ hown (host := "") (Or.inl (hw _ (List.mem_of_getElem? (i := 107) rfl))) Via.refl rfl f234 f233 (Or.inr ⟨(hw _ (List.mem_of_getElem? (i := 108) rfl)), rfl, hnm⟩) (hw _ (List.mem_of_getElem? (i := 96) rfl)) (ty := (.object "java/lang/Object")) (by decide) rfl (own_fitsR hr_v13_1) (g := (mkF m 6 #[.val (.ref a13_0), .val v13_1, .val v13_2] [v13_1, (.ref a13_0)])) rfl rfl (hb hby d13_6)
  have f240 := f234.same W239
  have f241 := f233.wr W239
  have f243 := f235.other W239 (Or.inr (slot_ne (Or.inr (hw _ (List.mem_of_getElem? (i := 110) rfl))) (Or.inr (hw _ (List.mem_of_getElem? (i := 108) rfl))) (by decide) (t := (.object "com/example/buzon/buzon/engine/ApiException")) (t' := (.object "java/lang/Object")) (by decide) (by decide)))
  have K244 : Keep h0 h239 [a13_0] := K236.wr W239 (Or.inl (List.mem_of_getElem? (i := 0) rfl))
  have N245 := Fr.snoc X239 N238 ge_a13_0
  obtain ⟨Lh239, X239, N245⟩ := own_hide X239 N245
  have Z246 := Nat.le_trans Z237 (Keep.of_wr W239).1
  refine own_by (T' := T239) (g' := (mkF m 9 #[.val (.ref a13_0), .val v13_1, .val v13_2] [])) st239 ?_
  refine own_by (T' := T239) (g' := (mkF m 11 #[.val (.ref a13_0), .val v13_1, .val v13_2] [v13_2, (.ref a13_0)])) (fun t k => ?_) ?_
  · show Steps p.tables e below (T239.setTop (mkF m 9 #[.val (.ref a13_0), .val v13_1, .val v13_2] [])) t
    refine XS.aloadN X239.here hx rfl (hb hby d13_9) rfl rfl ?_
    show Steps p.tables e below (T239.setTop (mkF m 10 #[.val (.ref a13_0), .val v13_1, .val v13_2] [(.ref a13_0)])) t
    refine XS.aloadN X239.here hx rfl (hb hby d13_10) rfl hr_v13_2 ?_
    show Steps p.tables e below (T239.setTop (mkF m 11 #[.val (.ref a13_0), .val v13_1, .val v13_2] [v13_2, (.ref a13_0)])) t
    exact k
  obtain ⟨T247, h247, X247, e247, W247, st247⟩ := putF X239 hx hZ hown (host := "") (Or.inl (hw _ (List.mem_of_getElem? (i := 109) rfl))) Via.refl e239 f243 f241 (Or.inr ⟨(hw _ (List.mem_of_getElem? (i := 110) rfl)), rfl, hnm⟩) (hw _ (List.mem_of_getElem? (i := 96) rfl)) (ty := (.object "com/example/buzon/buzon/engine/ApiException")) (by decide) rfl (own_fitsR hr_v13_2) (g := (mkF m 11 #[.val (.ref a13_0), .val v13_1, .val v13_2] [v13_2, (.ref a13_0)])) rfl rfl (hb hby d13_11)
  have f248 := f243.same W247
  have f249 := f241.wr W247
  have f250 := f240.other W247 (Or.inr (slot_ne (Or.inr (hw _ (List.mem_of_getElem? (i := 108) rfl))) (Or.inr (hw _ (List.mem_of_getElem? (i := 110) rfl))) (by decide) (t := (.object "java/lang/Object")) (t' := (.object "com/example/buzon/buzon/engine/ApiException")) (by decide) (by decide)))
  have K252 : Keep h0 h247 [a13_0] := K244.wr W247 (Or.inl (List.mem_of_getElem? (i := 0) rfl))
  have N253 := Fr.snoc X247 N245 ge_a13_0
  obtain ⟨Lh247, X247, N253⟩ := own_hide X247 N253
  have Z254 := Nat.le_trans Z246 (Keep.of_wr W247).1
  refine own_by (T' := T247) (g' := (mkF m 14 #[.val (.ref a13_0), .val v13_1, .val v13_2] [])) st247 ?_
  exact own_ret0 X247 hx Bd.returns (hb hby d13_14) hlk (by decide) (by decide) (by rw [e247]; exact ⟨rfl, N253, K252, f249, f250, f248⟩)
theorem d15_0 : decode prog_16_method_4_code 0 = .ok (.aload_n 0, 1) := by decide +kernel
theorem d15_1 : decode prog_16_method_4_code 1 = .ok (.getfield 13, 3) := by decide +kernel
theorem d15_4 : decode prog_16_method_4_code 4 = .ok (.ifnonnull 7, 3) := by decide +kernel
theorem d15_11 : decode prog_16_method_4_code 11 = .ok (.iconst 0, 1) := by decide +kernel
theorem d15_12 : decode prog_16_method_4_code 12 = .ok (.ireturn, 1) := by decide +kernel
def own_F15  : Int32 := (0 : Int32)
theorem own_ef15 (m : MethodId) (x0 : Addr) : entryFrame m #[(.ref x0)] 1 = mkF m 0 #[.val (.ref x0)] [] := by first | (simp [entryFrame, mkF, argsToLocals, Value.category]; done) | rfl
def own_Q15 (r : Int32) (h0 : Heap) (n0 : Nat) (v : Option Value) (h : Heap) (L : List Loc) : Prop := v = some (.int r) ∧ Fr n0 L ∧ h = h0
set_option maxRecDepth 65536 in
set_option maxHeartbeats 40000000 in
theorem own_rm15 (l : Launch) (Z : State) (a0 : Array Value) (hw : ∀ d ∈ tables_1, d.before a0 Z = true) (ws : List Jvm.Cond) (a15_0 : Addr) (w_failure_a15_0 : Addr) (h0 : Heap) (n0 : Nat) (Z0 : n0 ≤ h0.size) (F_failure_a15_0 : Fld Z h0 a15_0 "com/example/buzon/buzon/engine/Outcome" "failure" "Lcom/example/buzon/buzon/engine/ApiException;" (.ref w_failure_a15_0)) :
    MetFree l (⟨"com/example/buzon/buzon/engine/Outcome", "isSuccess", "()Z"⟩ : MethodName) (head1 (Jvm.Cond.code (⟨"com/example/buzon/buzon/engine/Outcome", "isSuccess", "()Z"⟩ : MethodName) prog_16_method_4_code 1 (some .boolean) :: ws) ({ frames := 0, cells := 0, slots := 0, locals := 0 } : Room)) (fun a U => a = #[(.ref a15_0)] ∧ Z.Warmed39 U.vm ∧ U.heap = h0) (fun _ _ _ _ _ => True) (fun _ U o U' => ∃ v L, o = .returned v ∧ own_Q15 (own_F15) h0 n0 v U'.heap L ∧ FrameEnd U o U' L ({ frames := 0, cells := 0, slots := 0, locals := 0 } : Room).cells ({ frames := 0, cells := 0, slots := 0, locals := 0 } : Room).slots) := by
  refine MetFree.of_bodySF (plainFor_of_name pn_com_example_buzon_buzon_engine_Outcome) hisR ?_
  intro p e s m args below meth c s₁ Bd hml0 hP hK
  obtain ⟨rfl, hZ, hh⟩ := hP
  have hx := Bd.exec
  have hby := Bd.bytes
  have hlk : meth.locks = false := BodyLoose.notSynchronized Bd
  have hml : c.maxLocals = 1 := hml0
  have hown : s.vm.findClass "com/example/buzon/buzon/engine/Outcome" = some m.cls := findClass_of_methodNamed Bd.named
  have hnm := (name_of_methodNamed Bd.named Bd.method).1
  have X0 : Stand p l e ({ frames := 0, cells := 0, slots := 0, locals := 0 } : Room) s m #[(.ref a15_0)] below meth c s₁ [] 0 0 := Stand.of_body Bd
  have e0 : s₁.heap = h0 := by rw [← hh, Bd.state]; rfl
  have N0 := Fr.nil n0
  show own_Go p e below (own_P s below ({ frames := 0, cells := 0, slots := 0, locals := 0 } : Room) (own_Q15 (own_F15) h0 n0)) s₁ (entryFrame m #[(.ref a15_0)] 1)
  refine own_in (own_ef15 m a15_0) ?_
  refine own_by (T' := s₁) (g' := (mkF m 1 #[.val (.ref a15_0)] [(.ref a15_0)])) (fun t k => ?_) ?_
  · show Steps p.tables e below (s₁.setTop (mkF m 0 #[.val (.ref a15_0)] [])) t
    refine XS.aloadN X0.here hx rfl (hb hby d15_0) rfl rfl ?_
    show Steps p.tables e below (s₁.setTop (mkF m 1 #[.val (.ref a15_0)] [(.ref a15_0)])) t
    exact k
  obtain ⟨T255, X255, e255, st255⟩ := getF X0 hx hZ hown (host := "") (Or.inl (hw _ (List.mem_of_getElem? (i := 109) rfl))) Via.refl e0 F_failure_a15_0 (g := (mkF m 1 #[.val (.ref a15_0)] [(.ref a15_0)])) rfl rfl (hb hby d15_1)
  refine own_by (T' := T255) (g' := (mkF m 4 #[.val (.ref a15_0)] [(.ref w_failure_a15_0)])) st255 ?_
  refine own_by (T' := T255) (g' := (mkF m 12 #[.val (.ref a15_0)] [(.int (0 : Int32))])) (fun t k => ?_) ?_
  · show Steps p.tables e below (T255.setTop (mkF m 4 #[.val (.ref a15_0)] [(.ref w_failure_a15_0)])) t
    refine XS.ifnonnullYes X255.here hx rfl (pc0 := 4) (pc' := 11) rfl (hb hby d15_4) rfl (by decide) (by decide) ?_
    show Steps p.tables e below (T255.setTop (mkF m 11 #[.val (.ref a15_0)] [])) t
    refine XS.iconst X255.here hx rfl (hb hby d15_11) ?_
    show Steps p.tables e below (T255.setTop (mkF m 12 #[.val (.ref a15_0)] [(.int (0 : Int32))])) t
    exact k
  rw [show own_F15 = (0 : Int32) from rfl]
  exact own_retN X255 hx (t := .boolean) Bd.returns (by simp) (hb hby d15_12) hlk (by decide) (by decide) ⟨rfl, N0, e255⟩
theorem d15_7 : decode prog_16_method_4_code 7 = .ok (.iconst 1, 1) := by decide +kernel
theorem d15_8 : decode prog_16_method_4_code 8 = .ok (.goto 4, 3) := by decide +kernel
def own_F15n  : Int32 := (1 : Int32)
theorem own_ef15n (m : MethodId) (x0 : Addr) : entryFrame m #[(.ref x0)] 1 = mkF m 0 #[.val (.ref x0)] [] := by first | (simp [entryFrame, mkF, argsToLocals, Value.category]; done) | rfl
def own_Q15n (r : Int32) (h0 : Heap) (n0 : Nat) (v : Option Value) (h : Heap) (L : List Loc) : Prop := v = some (.int r) ∧ Fr n0 L ∧ h = h0
set_option maxRecDepth 65536 in
set_option maxHeartbeats 40000000 in
theorem own_rm15n (l : Launch) (Z : State) (a0 : Array Value) (hw : ∀ d ∈ tables_1, d.before a0 Z = true) (ws : List Jvm.Cond) (a15n_0 : Addr) (h0 : Heap) (n0 : Nat) (Z0 : n0 ≤ h0.size) (F_failure_a15n_0 : Fld Z h0 a15n_0 "com/example/buzon/buzon/engine/Outcome" "failure" "Lcom/example/buzon/buzon/engine/ApiException;" .null) :
    MetFree l (⟨"com/example/buzon/buzon/engine/Outcome", "isSuccess", "()Z"⟩ : MethodName) (head1 (Jvm.Cond.code (⟨"com/example/buzon/buzon/engine/Outcome", "isSuccess", "()Z"⟩ : MethodName) prog_16_method_4_code 1 (some .boolean) :: ws) ({ frames := 0, cells := 0, slots := 0, locals := 0 } : Room)) (fun a U => a = #[(.ref a15n_0)] ∧ Z.Warmed39 U.vm ∧ U.heap = h0) (fun _ _ _ _ _ => True) (fun _ U o U' => ∃ v L, o = .returned v ∧ own_Q15n (own_F15n) h0 n0 v U'.heap L ∧ FrameEnd U o U' L ({ frames := 0, cells := 0, slots := 0, locals := 0 } : Room).cells ({ frames := 0, cells := 0, slots := 0, locals := 0 } : Room).slots) := by
  refine MetFree.of_bodySF (plainFor_of_name pn_com_example_buzon_buzon_engine_Outcome) hisR ?_
  intro p e s m args below meth c s₁ Bd hml0 hP hK
  obtain ⟨rfl, hZ, hh⟩ := hP
  have hx := Bd.exec
  have hby := Bd.bytes
  have hlk : meth.locks = false := BodyLoose.notSynchronized Bd
  have hml : c.maxLocals = 1 := hml0
  have hown : s.vm.findClass "com/example/buzon/buzon/engine/Outcome" = some m.cls := findClass_of_methodNamed Bd.named
  have hnm := (name_of_methodNamed Bd.named Bd.method).1
  have X0 : Stand p l e ({ frames := 0, cells := 0, slots := 0, locals := 0 } : Room) s m #[(.ref a15n_0)] below meth c s₁ [] 0 0 := Stand.of_body Bd
  have e0 : s₁.heap = h0 := by rw [← hh, Bd.state]; rfl
  have N0 := Fr.nil n0
  show own_Go p e below (own_P s below ({ frames := 0, cells := 0, slots := 0, locals := 0 } : Room) (own_Q15n (own_F15n) h0 n0)) s₁ (entryFrame m #[(.ref a15n_0)] 1)
  refine own_in (own_ef15n m a15n_0) ?_
  refine own_by (T' := s₁) (g' := (mkF m 1 #[.val (.ref a15n_0)] [(.ref a15n_0)])) (fun t k => ?_) ?_
  · show Steps p.tables e below (s₁.setTop (mkF m 0 #[.val (.ref a15n_0)] [])) t
    refine XS.aloadN X0.here hx rfl (hb hby d15_0) rfl rfl ?_
    show Steps p.tables e below (s₁.setTop (mkF m 1 #[.val (.ref a15n_0)] [(.ref a15n_0)])) t
    exact k
  obtain ⟨T256, X256, e256, st256⟩ := getF X0 hx hZ hown (host := "") (Or.inl (hw _ (List.mem_of_getElem? (i := 109) rfl))) Via.refl e0 F_failure_a15n_0 (g := (mkF m 1 #[.val (.ref a15n_0)] [(.ref a15n_0)])) rfl rfl (hb hby d15_1)
  refine own_by (T' := T256) (g' := (mkF m 4 #[.val (.ref a15n_0)] [.null])) st256 ?_
  refine own_by (T' := T256) (g' := (mkF m 12 #[.val (.ref a15n_0)] [(.int (1 : Int32))])) (fun t k => ?_) ?_
  · show Steps p.tables e below (T256.setTop (mkF m 4 #[.val (.ref a15n_0)] [.null])) t
    refine XS.ifnonnullNo X256.here hx rfl (hb hby d15_4) rfl ?_
    show Steps p.tables e below (T256.setTop (mkF m 7 #[.val (.ref a15n_0)] [])) t
    refine XS.iconst X256.here hx rfl (hb hby d15_7) ?_
    show Steps p.tables e below (T256.setTop (mkF m 8 #[.val (.ref a15n_0)] [(.int (1 : Int32))])) t
    refine XS.goto X256.here hx rfl (pc0 := 8) (pc' := 12) rfl (hb hby d15_8) (by decide) (by decide) ?_
    show Steps p.tables e below (T256.setTop (mkF m 12 #[.val (.ref a15n_0)] [(.int (1 : Int32))])) t
    exact k
  rw [show own_F15n = (1 : Int32) from rfl]
  exact own_retN X256 hx (t := .boolean) Bd.returns (by simp) (hb hby d15_12) hlk (by decide) (by decide) ⟨rfl, N0, e256⟩
theorem pd__Ljava_lang_Object_Lcom_example_buzon_buzon_engine_ApiException__V : parseMethodDescriptor "(Ljava/lang/Object;Lcom/example/buzon/buzon/engine/ApiException;)V" = some ⟨[(.object "java/lang/Object"), (.object "com/example/buzon/buzon/engine/ApiException")], none⟩ := by decide +kernel
theorem pd___Z : parseMethodDescriptor "()Z" = some ⟨[], some .boolean⟩ := by decide +kernel
theorem pd__C_Ljava_lang_String_ : parseMethodDescriptor "(C)Ljava/lang/String;" = some ⟨[.char], some (.object "java/lang/String")⟩ := by decide +kernel
theorem pd___Lcom_example_buzon_buzon_engine_ApiException_ : parseMethodDescriptor "()Lcom/example/buzon/buzon/engine/ApiException;" = some ⟨[], some (.object "com/example/buzon/buzon/engine/ApiException")⟩ := by decide +kernel
theorem pd__I_Ljava_lang_Integer_ : parseMethodDescriptor "(I)Ljava/lang/Integer;" = some ⟨[.int], some (.object "java/lang/Integer")⟩ := by decide +kernel
theorem pn_com_example_buzon_buzon_engine_OutcomeIsSuccessPinLaw : plainName "com/example/buzon/buzon/engine/OutcomeIsSuccessPinLaw" = true := by first | (simp [plainName, overriddenIn]; done) | decide +kernel
theorem own_ef0 (m : MethodId) (x0 : Int32) (x1 : Int32) : entryFrame m #[(.int x0), (.int x1)] maxLocals = mkF m 0 #[.val (.int x0), .val (.int x1), .unset, .unset, .unset, .unset, .unset, .unset] [] := by first | (simp [entryFrame, mkF, argsToLocals, Value.category, maxLocals]; done) | rfl
def own_Q0 (r : Int32) (h0 : Heap) (n0 : Nat) (v : Option Value) (h : Heap) (L : List Loc) : Prop := v = some (.int r) ∧ Fr n0 L
set_option maxRecDepth 65536 in
set_option maxHeartbeats 40000000 in
theorem own_rm0 (l : Launch) (Z : State) (a0 : Array Value) (hw : ∀ d ∈ tables_1, d.before a0 Z = true) (ws : List Jvm.Cond) (p0_0 : Int32) (p0_1 : Int32) (cs : Int32) (ua : Addr) (sa : Addr) (wNON_EXISTENT_QUEUE : Addr) (wIC : Addr) (cIC : Cell) (h0 : Heap) (n0 : Nat) (Z0 : n0 ≤ h0.size) (O0 : Old Z n0 h0) (SC : Sta Z Z.heap "java/lang/String" "COMPACT_STRINGS" "Z" (.int cs)) (HCS : ¬ (cs = (0 : Int32))) (hl : l.stackTraces = true) (SUS : Sta Z Z.heap "java/lang/Throwable" "UNASSIGNED_STACK" "[Ljava/lang/StackTraceElement;" (.ref ua)) (SSS : Sta Z Z.heap "java/lang/Throwable" "SUPPRESSED_SENTINEL" "Ljava/util/List;" (.ref sa)) (EN : own_EN Z wNON_EXISTENT_QUEUE) (SHi : Sta Z Z.heap "java/lang/Integer$IntegerCache" "high" "I" (.int (127 : Int32))) (SIC : Sta Z Z.heap "java/lang/Integer$IntegerCache" "cache" "[Ljava/lang/Integer;" (.ref wIC)) (BIC : Bxs Z wIC cIC "java/lang/Integer" "I" (256 : Int32) (fun j => .int (j - 128))) :
    MetFree l x (head1 (Jvm.Cond.code x code maxLocals ret :: ws) room_1) (fun a U => a = #[(.int p0_0), (.int p0_1)] ∧ Z.Warmed39 U.vm ∧ U.heap = h0 ∧ CHv Z own_EL U.vm h0) (fun _ _ bl s _ => s.vm.MethodsKnown ∧ s.vm.FramesKnown bl) (fun _ U o U' => ∃ v L, o = .returned v ∧ own_Q0 (1 : Int32) h0 n0 v U'.heap L ∧ CHr Z own_EL U.vm U.heap U'.vm U'.heap ∧ ReturnedEndW U o U' L room_1.cells room_1.slots) := by
  refine MetFree.of_bodySF (plainFor_of_name pn_com_example_buzon_buzon_engine_OutcomeIsSuccessPinLaw) hisR ?_
  intro p e s m args below meth c s₁ Bd hml0 hP hK
  obtain ⟨rfl, hZ, hh, hCH⟩ := hP
  obtain ⟨hTK, hBelow⟩ := hK
  have hx := Bd.exec
  have hby := Bd.bytes
  have hlk : meth.locks = false := BodyLoose.notSynchronized Bd
  have hml : c.maxLocals = 8 := hml0
  have hown : s.vm.findClass "com/example/buzon/buzon/engine/OutcomeIsSuccessPinLaw" = some m.cls := findClass_of_methodNamed Bd.named
  have hnm := (name_of_methodNamed Bd.named Bd.method).1
  have X0 : Stand p l e room_1 (s.setVm s.vm) m #[(.int p0_0), (.int p0_1)] below meth c s₁ [] 0 0 := Stand.of_body Bd
  have e0 : s₁.heap = h0 := by rw [← hh, Bd.state]; rfl
  have N0 := Fr.nil n0
  have hS0 : s.Since s.vm 0 := (State.WarmedH.refl s).since 0
  have hk0 : 0 ≤ h0.size := Nat.zero_le _
  have CR0 : CHr Z own_EL s.vm h0 s.vm h0 := CHr.refl hCH
  show own_Go p e below (own_PW Z own_EL s below room_1 (own_Q0 (1 : Int32) h0 n0)) s₁ (entryFrame m #[(.int p0_0), (.int p0_1)] maxLocals)
  refine own_in (own_ef0 m p0_0 p0_1) ?_
  refine own_by (T' := s₁) (g' := (mkF m 3 #[.val (.int p0_0), .val (.int p0_1), .unset, .unset, .unset, .unset, .unset, .unset] [(.int (p0_1 &&& (1 : Int32)))])) (fun t k => ?_) ?_
  · show Steps p.tables e below (s₁.setTop (mkF m 0 #[.val (.int p0_0), .val (.int p0_1), .unset, .unset, .unset, .unset, .unset, .unset] [])) t
    refine XS.iloadN X0.here hx rfl (hb hby at_0) rfl ?_
    show Steps p.tables e below (s₁.setTop (mkF m 1 #[.val (.int p0_0), .val (.int p0_1), .unset, .unset, .unset, .unset, .unset, .unset] [(.int p0_1)])) t
    refine XS.iconst X0.here hx rfl (hb hby at_1) ?_
    show Steps p.tables e below (s₁.setTop (mkF m 2 #[.val (.int p0_0), .val (.int p0_1), .unset, .unset, .unset, .unset, .unset, .unset] [(.int (1 : Int32)), (.int p0_1)])) t
    refine XS.iand X0.here hx rfl (hb hby at_2) rfl ?_
    show Steps p.tables e below (s₁.setTop (mkF m 3 #[.val (.int p0_0), .val (.int p0_1), .unset, .unset, .unset, .unset, .unset, .unset] [(.int (p0_1 &&& (1 : Int32)))])) t
    exact k
  have J0_1 : ∀ (T259 : State) (L259 : List Loc) (i258 : Int32), Stand p l e room_1 (s.setVm s.vm) m #[(.int p0_0), (.int p0_1)] below meth c T259 L259 0 0 → T259.heap = h0 → Fr n0 L259 → own_Go p e below (own_PW Z own_EL s below room_1 (own_Q0 (1 : Int32) h0 n0)) T259 (mkF m 11 #[.val (.int p0_0), .val (.int p0_1), .unset, .unset, .unset, .unset, .unset, .unset] [(.int i258)]) := by
    intro T259 L259 i258 X259 e259 N259
    refine own_by (T' := T259) (g' := (mkF m 15 #[.val (.int p0_0), .val (.int p0_1), .val (.int i258), .unset, .unset, .unset, .unset, .unset] [(.int (p0_1 &&& (2 : Int32)))])) (fun t k => ?_) ?_
    · show Steps p.tables e below (T259.setTop (mkF m 11 #[.val (.int p0_0), .val (.int p0_1), .unset, .unset, .unset, .unset, .unset, .unset] [(.int i258)])) t
      refine XS.istoreN X259.here hx rfl (hb hby at_11) rfl (l' := #[.val (.int p0_0), .val (.int p0_1), .val (.int i258), .unset, .unset, .unset, .unset, .unset]) rfl ?_
      show Steps p.tables e below (T259.setTop (mkF m 12 #[.val (.int p0_0), .val (.int p0_1), .val (.int i258), .unset, .unset, .unset, .unset, .unset] [])) t
      refine XS.iloadN X259.here hx rfl (hb hby at_12) rfl ?_
      show Steps p.tables e below (T259.setTop (mkF m 13 #[.val (.int p0_0), .val (.int p0_1), .val (.int i258), .unset, .unset, .unset, .unset, .unset] [(.int p0_1)])) t
      refine XS.iconst X259.here hx rfl (hb hby at_13) ?_
      show Steps p.tables e below (T259.setTop (mkF m 14 #[.val (.int p0_0), .val (.int p0_1), .val (.int i258), .unset, .unset, .unset, .unset, .unset] [(.int (2 : Int32)), (.int p0_1)])) t
      refine XS.iand X259.here hx rfl (hb hby at_14) rfl ?_
      show Steps p.tables e below (T259.setTop (mkF m 15 #[.val (.int p0_0), .val (.int p0_1), .val (.int i258), .unset, .unset, .unset, .unset, .unset] [(.int (p0_1 &&& (2 : Int32)))])) t
      exact k
    have J0_2 : ∀ (T262 : State) (L262 : List Loc) (i261 : Int32), Stand p l e room_1 (s.setVm s.vm) m #[(.int p0_0), (.int p0_1)] below meth c T262 L262 0 0 → T262.heap = h0 → Fr n0 L262 → own_Go p e below (own_PW Z own_EL s below room_1 (own_Q0 (1 : Int32) h0 n0)) T262 (mkF m 23 #[.val (.int p0_0), .val (.int p0_1), .val (.int i258), .unset, .unset, .unset, .unset, .unset] [(.int i261)]) := by
      intro T262 L262 i261 X262 e262 N262
      refine own_by (T' := T262) (g' := (mkF m 27 #[.val (.int p0_0), .val (.int p0_1), .val (.int i258), .val (.int i261), .unset, .unset, .unset, .unset] [(.int (p0_1 &&& (4 : Int32)))])) (fun t k => ?_) ?_
      · show Steps p.tables e below (T262.setTop (mkF m 23 #[.val (.int p0_0), .val (.int p0_1), .val (.int i258), .unset, .unset, .unset, .unset, .unset] [(.int i261)])) t
        refine XS.istoreN X262.here hx rfl (hb hby at_23) rfl (l' := #[.val (.int p0_0), .val (.int p0_1), .val (.int i258), .val (.int i261), .unset, .unset, .unset, .unset]) rfl ?_
        show Steps p.tables e below (T262.setTop (mkF m 24 #[.val (.int p0_0), .val (.int p0_1), .val (.int i258), .val (.int i261), .unset, .unset, .unset, .unset] [])) t
        refine XS.iloadN X262.here hx rfl (hb hby at_24) rfl ?_
        show Steps p.tables e below (T262.setTop (mkF m 25 #[.val (.int p0_0), .val (.int p0_1), .val (.int i258), .val (.int i261), .unset, .unset, .unset, .unset] [(.int p0_1)])) t
        refine XS.iconst X262.here hx rfl (hb hby at_25) ?_
        show Steps p.tables e below (T262.setTop (mkF m 26 #[.val (.int p0_0), .val (.int p0_1), .val (.int i258), .val (.int i261), .unset, .unset, .unset, .unset] [(.int (4 : Int32)), (.int p0_1)])) t
        refine XS.iand X262.here hx rfl (hb hby at_26) rfl ?_
        show Steps p.tables e below (T262.setTop (mkF m 27 #[.val (.int p0_0), .val (.int p0_1), .val (.int i258), .val (.int i261), .unset, .unset, .unset, .unset] [(.int (p0_1 &&& (4 : Int32)))])) t
        exact k
      have J0_3 : ∀ (T265 : State) (L265 : List Loc) (i264 : Int32), Stand p l e room_1 (s.setVm s.vm) m #[(.int p0_0), (.int p0_1)] below meth c T265 L265 0 0 → T265.heap = h0 → Fr n0 L265 → own_Go p e below (own_PW Z own_EL s below room_1 (own_Q0 (1 : Int32) h0 n0)) T265 (mkF m 35 #[.val (.int p0_0), .val (.int p0_1), .val (.int i258), .val (.int i261), .unset, .unset, .unset, .unset] [(.int i264)]) := by
        intro T265 L265 i264 X265 e265 N265
        refine own_by (T' := T265) (g' := (mkF m 38 #[.val (.int p0_0), .val (.int p0_1), .val (.int i258), .val (.int i261), .val (.int i264), .unset, .unset, .unset] [(.int i258)])) (fun t k => ?_) ?_
        · show Steps p.tables e below (T265.setTop (mkF m 35 #[.val (.int p0_0), .val (.int p0_1), .val (.int i258), .val (.int i261), .unset, .unset, .unset, .unset] [(.int i264)])) t
          refine XS.istore X265.here hx rfl (hb hby at_35) rfl (l' := #[.val (.int p0_0), .val (.int p0_1), .val (.int i258), .val (.int i261), .val (.int i264), .unset, .unset, .unset]) rfl ?_
          show Steps p.tables e below (T265.setTop (mkF m 37 #[.val (.int p0_0), .val (.int p0_1), .val (.int i258), .val (.int i261), .val (.int i264), .unset, .unset, .unset] [])) t
          refine XS.iloadN X265.here hx rfl (hb hby at_37) rfl ?_
          show Steps p.tables e below (T265.setTop (mkF m 38 #[.val (.int p0_0), .val (.int p0_1), .val (.int i258), .val (.int i261), .val (.int i264), .unset, .unset, .unset] [(.int i258)])) t
          exact k
        by_cases hc266 : i258 = (0 : Int32)
        · skip
          refine own_by (T' := T265) (g' := (mkF m 55 #[.val (.int p0_0), .val (.int p0_1), .val (.int i258), .val (.int i261), .val (.int i264), .val .null, .val .null, .unset] [(.int i261)])) (fun t k => ?_) ?_
          · show Steps p.tables e below (T265.setTop (mkF m 38 #[.val (.int p0_0), .val (.int p0_1), .val (.int i258), .val (.int i261), .val (.int i264), .unset, .unset, .unset] [(.int i258)])) t
            refine XS.ifYes X265.here hx rfl (pc0 := 38) (pc' := 48) rfl (hb hby at_38) rfl ((if0 _ _).trans (teq hc266).1) (by decide) (by decide) ?_
            show Steps p.tables e below (T265.setTop (mkF m 48 #[.val (.int p0_0), .val (.int p0_1), .val (.int i258), .val (.int i261), .val (.int i264), .unset, .unset, .unset] [])) t
            refine XS.aconstNull X265.here hx rfl (hb hby at_48) ?_
            show Steps p.tables e below (T265.setTop (mkF m 49 #[.val (.int p0_0), .val (.int p0_1), .val (.int i258), .val (.int i261), .val (.int i264), .unset, .unset, .unset] [.null])) t
            refine XS.astore X265.here hx rfl (hb hby at_49) rfl rfl (l' := #[.val (.int p0_0), .val (.int p0_1), .val (.int i258), .val (.int i261), .val (.int i264), .val .null, .unset, .unset]) rfl ?_
            show Steps p.tables e below (T265.setTop (mkF m 51 #[.val (.int p0_0), .val (.int p0_1), .val (.int i258), .val (.int i261), .val (.int i264), .val .null, .unset, .unset] [])) t
            refine XS.aconstNull X265.here hx rfl (hb hby at_51) ?_
            show Steps p.tables e below (T265.setTop (mkF m 52 #[.val (.int p0_0), .val (.int p0_1), .val (.int i258), .val (.int i261), .val (.int i264), .val .null, .unset, .unset] [.null])) t
            refine XS.astore X265.here hx rfl (hb hby at_52) rfl rfl (l' := #[.val (.int p0_0), .val (.int p0_1), .val (.int i258), .val (.int i261), .val (.int i264), .val .null, .val .null, .unset]) rfl ?_
            show Steps p.tables e below (T265.setTop (mkF m 54 #[.val (.int p0_0), .val (.int p0_1), .val (.int i258), .val (.int i261), .val (.int i264), .val .null, .val .null, .unset] [])) t
            refine XS.iloadN X265.here hx rfl (hb hby at_54) rfl ?_
            show Steps p.tables e below (T265.setTop (mkF m 55 #[.val (.int p0_0), .val (.int p0_1), .val (.int i258), .val (.int i261), .val (.int i264), .val .null, .val .null, .unset] [(.int i261)])) t
            exact k
          by_cases hc267 : i261 = (0 : Int32)
          · skip
            refine own_by (T' := T265) (g' := (mkF m 90 #[.val (.int p0_0), .val (.int p0_1), .val (.int i258), .val (.int i261), .val (.int i264), .val .null, .val .null, .unset] [])) (fun t k => ?_) ?_
            · show Steps p.tables e below (T265.setTop (mkF m 55 #[.val (.int p0_0), .val (.int p0_1), .val (.int i258), .val (.int i261), .val (.int i264), .val .null, .val .null, .unset] [(.int i261)])) t
              refine XS.ifYes X265.here hx rfl (pc0 := 55) (pc' := 90) rfl (hb hby at_55) rfl ((if0 _ _).trans (teq hc267).1) (by decide) (by decide) ?_
              show Steps p.tables e below (T265.setTop (mkF m 90 #[.val (.int p0_0), .val (.int p0_1), .val (.int i258), .val (.int i261), .val (.int i264), .val .null, .val .null, .unset] [])) t
              exact k
            obtain ⟨T268, h268, X268, e268, E268, A268, D268, U268, st268⟩ := newO X265 hx hZ hown (hw _ (List.mem_of_getElem? (i := 95) rfl)) (hw _ (List.mem_of_getElem? (i := 96) rfl)) (hw _ (List.mem_of_getElem? (i := 97) rfl)) e265 (g := (mkF m 90 #[.val (.int p0_0), .val (.int p0_1), .val (.int i258), .val (.int i261), .val (.int i264), .val .null, .val .null, .unset] [])) rfl (hb hby at_90) (by decide) (by decide)
            obtain ⟨b268, g268⟩ : ∃ z, z = h0.size := ⟨_, rfl⟩
            rw [← g268] at A268 D268 U268 st268
            have gn_b268 : n0 ≤ b268 := Nat.le_trans Z0 (Nat.le_of_eq g268.symm)
            have sz_b268 : h0.size ≤ b268 := Nat.le_trans (Keep.refl h0 []).1 (Nat.le_of_eq g268.symm)
            have K269 : Keep h0 h268 [] := (Keep.refl h0 []).ext E268
            have O270 := O0.ext E268
            have Z271 := Nat.le_trans Z0 E268.1
            have hk272 := Nat.le_trans hk0 E268.1
            have f273 : Fld Z h268 b268 "com/example/buzon/buzon/engine/Outcome" "result" "Ljava/lang/Object;" .null := D268 (Or.inr (hw _ (List.mem_of_getElem? (i := 108) rfl))) (ty := (.object "java/lang/Object")) (by decide)
            have f274 : Fld Z h268 b268 "com/example/buzon/buzon/engine/Outcome" "failure" "Lcom/example/buzon/buzon/engine/ApiException;" .null := D268 (Or.inr (hw _ (List.mem_of_getElem? (i := 110) rfl))) (ty := (.object "com/example/buzon/buzon/engine/ApiException")) (by decide)
            refine own_by (T' := T268) (g' := (mkF m 93 #[.val (.int p0_0), .val (.int p0_1), .val (.int i258), .val (.int i261), .val (.int i264), .val .null, .val .null, .unset] [(.ref b268)])) st268 ?_
            refine own_by (T' := T268) (g' := (mkF m 98 #[.val (.int p0_0), .val (.int p0_1), .val (.int i258), .val (.int i261), .val (.int i264), .val .null, .val .null, .unset] [.null, .null, (.ref b268), (.ref b268)])) (fun t k => ?_) ?_
            · show Steps p.tables e below (T268.setTop (mkF m 93 #[.val (.int p0_0), .val (.int p0_1), .val (.int i258), .val (.int i261), .val (.int i264), .val .null, .val .null, .unset] [(.ref b268)])) t
              refine XS.dup X268.here hx rfl (hb hby at_93) rfl rfl ?_
              show Steps p.tables e below (T268.setTop (mkF m 94 #[.val (.int p0_0), .val (.int p0_1), .val (.int i258), .val (.int i261), .val (.int i264), .val .null, .val .null, .unset] [(.ref b268), (.ref b268)])) t
              refine XS.aload X268.here hx rfl (hb hby at_94) rfl rfl ?_
              show Steps p.tables e below (T268.setTop (mkF m 96 #[.val (.int p0_0), .val (.int p0_1), .val (.int i258), .val (.int i261), .val (.int i264), .val .null, .val .null, .unset] [.null, (.ref b268), (.ref b268)])) t
              refine XS.aload X268.here hx rfl (hb hby at_96) rfl rfl ?_
              show Steps p.tables e below (T268.setTop (mkF m 98 #[.val (.int p0_0), .val (.int p0_1), .val (.int i258), .val (.int i261), .val (.int i264), .val .null, .val .null, .unset] [.null, .null, (.ref b268), (.ref b268)])) t
              exact k
            obtain ⟨v275, _, ⟨T275, L275, k275, n275⟩, -, X275, ⟨Lc275, hQ275, l275, y275, z275⟩, st275⟩ := X268.specialBack hx (y := (⟨"com/example/buzon/buzon/engine/Outcome", "<init>", "(Ljava/lang/Object;Lcom/example/buzon/buzon/engine/ApiException;)V"⟩ : MethodName)) rfl hown (mvT hZ (hw _ (List.mem_of_getElem? (i := 98) rfl))) (mvT hZ (hw _ (List.mem_of_getElem? (i := 99) rfl))) (mvT hZ (hw _ (List.mem_of_getElem? (i := 100) rfl))) (by decide) (backOf (W := 1) (own_rm13 l Z a0 hw [] b268 .null .null .null .null h268 n0 Z271 rfl rfl A268 f273 gn_b268 f274) hZ (hw _ (List.mem_of_getElem? (i := 100) rfl)) (hw _ (List.mem_of_getElem? (i := 97) rfl)) (by decide) (by decide)) (g := (mkF m 98 #[.val (.int p0_0), .val (.int p0_1), .val (.int i258), .val (.int i261), .val (.int i264), .val .null, .val .null, .unset] [.null, .null, (.ref b268), (.ref b268)])) rfl (by rw [hml]; rfl) (Steps.refl _) (a := b268) (argsL := [.null, .null]) (rest := [(.ref b268)]) (lenOf pd__Ljava_lang_Object_Lcom_example_buzon_buzon_engine_ApiException__V rfl) rfl (by show 2 * 0 + _ ≤ _; exact Nat.le_of_eq rfl) (hb hby at_98) (fun _ _ => ⟨rfl, e268, (by decide : 1 + 0 ≤ _), (by decide : 2 + 0 ≤ _)⟩)
            dsimp only [Pt.U, Pt.locs, Pt.cells, Pt.slots] at X275 l275 y275 z275 st275 hQ275
            subst y275 z275
            obtain ⟨rfl, M275, K275, f276, f277, f278⟩ := hQ275
            have f279 := A268.keep K275
            have K280 : Keep h0 T275.heap [] := K269.trans K275 (allS (Or.inr sz_b268) all0)
            have O281 := O270.keep K275 (allS gn_b268 all0)
            have Z282 := Nat.le_trans Z271 K275.1
            have hk283 := Nat.le_trans hk272 K275.1
            have N284 : Fr n0 L275 := by rw [l275]; exact Fr.app N265 M275
            refine own_via (T' := T275) (g' := (mkF m 101 #[.val (.int p0_0), .val (.int p0_1), .val (.int i258), .val (.int i261), .val (.int i264), .val .null, .val .null, .unset] [(.ref b268)])) st275 ?_
            refine own_by (T' := T275) (g' := (mkF m 105 #[.val (.int p0_0), .val (.int p0_1), .val (.int i258), .val (.int i261), .val (.int i264), .val .null, .val .null, .val (.ref b268)] [(.ref b268)])) (fun t k => ?_) ?_
            · show Steps p.tables e below (T275.setTop (mkF m 101 #[.val (.int p0_0), .val (.int p0_1), .val (.int i258), .val (.int i261), .val (.int i264), .val .null, .val .null, .unset] [(.ref b268)])) t
              refine XS.astore X275.here hx rfl (hb hby at_101) rfl rfl (l' := #[.val (.int p0_0), .val (.int p0_1), .val (.int i258), .val (.int i261), .val (.int i264), .val .null, .val .null, .val (.ref b268)]) rfl ?_
              show Steps p.tables e below (T275.setTop (mkF m 103 #[.val (.int p0_0), .val (.int p0_1), .val (.int i258), .val (.int i261), .val (.int i264), .val .null, .val .null, .val (.ref b268)] [])) t
              refine XS.aload X275.here hx rfl (hb hby at_103) rfl rfl ?_
              show Steps p.tables e below (T275.setTop (mkF m 105 #[.val (.int p0_0), .val (.int p0_1), .val (.int i258), .val (.int i261), .val (.int i264), .val .null, .val .null, .val (.ref b268)] [(.ref b268)])) t
              exact k
            obtain ⟨cq285, kq285, q285a, q285b, q285c⟩ := isOf hZ rfl f276
            obtain ⟨v285, _, ⟨T285, L285, k285, n285⟩, -, X285, ⟨Lc285, hQ285, l285, y285, z285⟩, st285⟩ := X275.virtualBack hx (y := (⟨"com/example/buzon/buzon/engine/Outcome", "isSuccess", "()Z"⟩ : MethodName)) (z := (⟨"com/example/buzon/buzon/engine/Outcome", "isSuccess", "()Z"⟩ : MethodName)) hown (mvT hZ (hw _ (List.mem_of_getElem? (i := 111) rfl))) (mvT hZ (hw _ (List.mem_of_getElem? (i := 112) rfl))) (notFace_of_selects (args := #[]) (mvT hZ (hw _ (List.mem_of_getElem? (i := 114) rfl)))) (mvT hZ (hw _ (List.mem_of_getElem? (i := 114) rfl))) (mvT hZ (hw _ (List.mem_of_getElem? (i := 113) rfl))) (by decide) (backOf (W := 0) (own_rm15n l Z a0 hw [] b268 T275.heap n0 Z282 f278) hZ (hw _ (List.mem_of_getElem? (i := 115) rfl)) (hw _ (List.mem_of_getElem? (i := 97) rfl)) (by decide) (by decide)) q285a q285c (g := (mkF m 105 #[.val (.int p0_0), .val (.int p0_1), .val (.int i258), .val (.int i261), .val (.int i264), .val .null, .val .null, .val (.ref b268)] [(.ref b268)])) rfl (by rw [hml]; rfl) (Steps.refl _) (argsL := []) (rest := []) (lenOf pd___Z rfl) rfl (by show 2 * 0 + _ ≤ _; exact Nat.le_of_eq rfl) (hb hby at_105) (fun _ _ => ⟨rfl, rfl, (by decide : 1 + 0 ≤ _), (by decide : 2 + 0 ≤ _)⟩)
            dsimp only [Pt.U, Pt.locs, Pt.cells, Pt.slots] at X285 l285 y285 z285 st285 hQ285
            subst y285 z285
            obtain ⟨rfl, M285, e285⟩ := hQ285
            have N286 : Fr n0 L285 := by rw [l285]; exact Fr.app N284 M285
            refine own_via (T' := T285) (g' := (mkF m 108 #[.val (.int p0_0), .val (.int p0_1), .val (.int i258), .val (.int i261), .val (.int i264), .val .null, .val .null, .val (.ref b268)] [(.int (1 : Int32))])) st285 ?_
            refine own_by (T' := T285) (g' := (mkF m 125 #[.val (.int p0_0), .val (.int p0_1), .val (.int i258), .val (.int i261), .val (.int i264), .val .null, .val .null, .val (.ref b268)] [(.int (1 : Int32))])) (fun t k => ?_) ?_
            · show Steps p.tables e below (T285.setTop (mkF m 108 #[.val (.int p0_0), .val (.int p0_1), .val (.int i258), .val (.int i261), .val (.int i264), .val .null, .val .null, .val (.ref b268)] [(.int (1 : Int32))])) t
              refine XS.iloadN X285.here hx rfl (hb hby at_108) rfl ?_
              show Steps p.tables e below (T285.setTop (mkF m 109 #[.val (.int p0_0), .val (.int p0_1), .val (.int i258), .val (.int i261), .val (.int i264), .val .null, .val .null, .val (.ref b268)] [(.int i261), (.int (1 : Int32))])) t
              refine XS.ifNo X285.here hx rfl (hb hby at_109) rfl ((if0 _ _).trans (teq hc267).2) ?_
              show Steps p.tables e below (T285.setTop (mkF m 112 #[.val (.int p0_0), .val (.int p0_1), .val (.int i258), .val (.int i261), .val (.int i264), .val .null, .val .null, .val (.ref b268)] [(.int (1 : Int32))])) t
              refine XS.iconst X285.here hx rfl (hb hby at_112) ?_
              show Steps p.tables e below (T285.setTop (mkF m 113 #[.val (.int p0_0), .val (.int p0_1), .val (.int i258), .val (.int i261), .val (.int i264), .val .null, .val .null, .val (.ref b268)] [(.int (1 : Int32)), (.int (1 : Int32))])) t
              refine XS.goto X285.here hx rfl (pc0 := 113) (pc' := 117) rfl (hb hby at_113) (by decide) (by decide) ?_
              show Steps p.tables e below (T285.setTop (mkF m 117 #[.val (.int p0_0), .val (.int p0_1), .val (.int i258), .val (.int i261), .val (.int i264), .val .null, .val .null, .val (.ref b268)] [(.int (1 : Int32)), (.int (1 : Int32))])) t
              refine XS.icmpNo X285.here hx rfl (hb hby at_117) rfl (teq (by decide : (1 : Int32) = (1 : Int32))).2 ?_
              show Steps p.tables e below (T285.setTop (mkF m 120 #[.val (.int p0_0), .val (.int p0_1), .val (.int i258), .val (.int i261), .val (.int i264), .val .null, .val .null, .val (.ref b268)] [])) t
              refine XS.iconst X285.here hx rfl (hb hby at_120) ?_
              show Steps p.tables e below (T285.setTop (mkF m 121 #[.val (.int p0_0), .val (.int p0_1), .val (.int i258), .val (.int i261), .val (.int i264), .val .null, .val .null, .val (.ref b268)] [(.int (1 : Int32))])) t
              refine XS.goto X285.here hx rfl (pc0 := 121) (pc' := 125) rfl (hb hby at_121) (by decide) (by decide) ?_
              show Steps p.tables e below (T285.setTop (mkF m 125 #[.val (.int p0_0), .val (.int p0_1), .val (.int i258), .val (.int i261), .val (.int i264), .val .null, .val .null, .val (.ref b268)] [(.int (1 : Int32))])) t
              exact k
            exact own_retNW X285 hZ (own_ew hw) hS0 hk283 e285 (own_ch0 (Z := Z) (vm := s.vm) K280.1) hh hx (t := .boolean) Bd.returns (by simp) (hb hby at_125) hlk (by decide) (by decide) ⟨rfl, N286⟩
          · skip
            refine own_by (T' := T265) (g' := (mkF m 60 #[.val (.int p0_0), .val (.int p0_1), .val (.int i258), .val (.int i261), .val (.int i264), .val .null, .val .null, .unset] [(.int i264)])) (fun t k => ?_) ?_
            · show Steps p.tables e below (T265.setTop (mkF m 55 #[.val (.int p0_0), .val (.int p0_1), .val (.int i258), .val (.int i261), .val (.int i264), .val .null, .val .null, .unset] [(.int i261)])) t
              refine XS.ifNo X265.here hx rfl (hb hby at_55) rfl ((if0 _ _).trans (feq hc267).1) ?_
              show Steps p.tables e below (T265.setTop (mkF m 58 #[.val (.int p0_0), .val (.int p0_1), .val (.int i258), .val (.int i261), .val (.int i264), .val .null, .val .null, .unset] [])) t
              refine XS.iload X265.here hx rfl (hb hby at_58) rfl ?_
              show Steps p.tables e below (T265.setTop (mkF m 60 #[.val (.int p0_0), .val (.int p0_1), .val (.int i258), .val (.int i261), .val (.int i264), .val .null, .val .null, .unset] [(.int i264)])) t
              exact k
            by_cases hc287 : i264 = (0 : Int32)
            · skip
              refine own_by (T' := T265) (g' := (mkF m 71 #[.val (.int p0_0), .val (.int p0_1), .val (.int i258), .val (.int i261), .val (.int i264), .val .null, .val .null, .unset] [])) (fun t k => ?_) ?_
              · show Steps p.tables e below (T265.setTop (mkF m 60 #[.val (.int p0_0), .val (.int p0_1), .val (.int i258), .val (.int i261), .val (.int i264), .val .null, .val .null, .unset] [(.int i264)])) t
                refine XS.ifYes X265.here hx rfl (pc0 := 60) (pc' := 71) rfl (hb hby at_60) rfl ((if0 _ _).trans (teq hc287).1) (by decide) (by decide) ?_
                show Steps p.tables e below (T265.setTop (mkF m 71 #[.val (.int p0_0), .val (.int p0_1), .val (.int i258), .val (.int i261), .val (.int i264), .val .null, .val .null, .unset] [])) t
                exact k
              obtain ⟨T288, h288, X288, e288, E288, A288, D288, U288, st288⟩ := newO X265 hx hZ hown (hw _ (List.mem_of_getElem? (i := 7) rfl)) (hw _ (List.mem_of_getElem? (i := 8) rfl)) (hw _ (List.mem_of_getElem? (i := 9) rfl)) e265 (g := (mkF m 71 #[.val (.int p0_0), .val (.int p0_1), .val (.int i258), .val (.int i261), .val (.int i264), .val .null, .val .null, .unset] [])) rfl (hb hby at_71) (by decide) (by decide)
              obtain ⟨b288, g288⟩ : ∃ z, z = h0.size := ⟨_, rfl⟩
              rw [← g288] at A288 D288 U288 st288
              have gn_b288 : n0 ≤ b288 := Nat.le_trans Z0 (Nat.le_of_eq g288.symm)
              have sz_b288 : h0.size ≤ b288 := Nat.le_trans (Keep.refl h0 []).1 (Nat.le_of_eq g288.symm)
              have K289 : Keep h0 h288 [] := (Keep.refl h0 []).ext E288
              have O290 := O0.ext E288
              have Z291 := Nat.le_trans Z0 E288.1
              have hk292 := Nat.le_trans hk0 E288.1
              have f293 : Fld Z h288 b288 "java/lang/Throwable" "cause" "Ljava/lang/Throwable;" .null := D288 (Or.inl (hw _ (List.mem_of_getElem? (i := 58) rfl))) (ty := (.object "java/lang/Throwable")) (by decide)
              have f294 : Fld Z h288 b288 "java/lang/Throwable" "stackTrace" "[Ljava/lang/StackTraceElement;" .null := D288 (Or.inl (hw _ (List.mem_of_getElem? (i := 61) rfl))) (ty := (.array (.object "java/lang/StackTraceElement"))) (by decide)
              have f295 : Fld Z h288 b288 "java/lang/Throwable" "suppressedExceptions" "Ljava/util/List;" .null := D288 (Or.inl (hw _ (List.mem_of_getElem? (i := 64) rfl))) (ty := (.object "java/util/List")) (by decide)
              have f296 : Fld Z h288 b288 "java/lang/Throwable" "detailMessage" "Ljava/lang/String;" .null := D288 (Or.inl (hw _ (List.mem_of_getElem? (i := 88) rfl))) (ty := (.object "java/lang/String")) (by decide)
              have f297 : Fld Z h288 b288 "java/lang/Throwable" "backtrace" "Ljava/lang/Object;" .null := D288 (Or.inl (hw _ (List.mem_of_getElem? (i := 89) rfl))) (ty := (.object "java/lang/Object")) (by decide)
              have f298 : Fld Z h288 b288 "java/lang/Throwable" "depth" "I" (.int (0 : Int32)) := D288 (Or.inl (hw _ (List.mem_of_getElem? (i := 90) rfl))) (ty := .int) (by decide)
              have f299 : Fld Z h288 b288 "com/example/buzon/buzon/engine/ApiException" "error" "Lcom/example/buzon/buzon/engine/ApiError;" .null := D288 (Or.inr (hw _ (List.mem_of_getElem? (i := 94) rfl))) (ty := (.object "com/example/buzon/buzon/engine/ApiError")) (by decide)
              refine own_by (T' := T288) (g' := (mkF m 74 #[.val (.int p0_0), .val (.int p0_1), .val (.int i258), .val (.int i261), .val (.int i264), .val .null, .val .null, .unset] [(.ref b288)])) st288 ?_
              refine own_by (T' := T288) (g' := (mkF m 82 #[.val (.int p0_0), .val (.int p0_1), .val (.int i258), .val (.int i261), .val (.int i264), .val .null, .val .null, .unset] [(.int ((p0_0 &&& (255 : Int32)).toUInt32.toUInt16.toUInt32.toInt32)), .null, (.ref b288), (.ref b288)])) (fun t k => ?_) ?_
              · show Steps p.tables e below (T288.setTop (mkF m 74 #[.val (.int p0_0), .val (.int p0_1), .val (.int i258), .val (.int i261), .val (.int i264), .val .null, .val .null, .unset] [(.ref b288)])) t
                refine XS.dup X288.here hx rfl (hb hby at_74) rfl rfl ?_
                show Steps p.tables e below (T288.setTop (mkF m 75 #[.val (.int p0_0), .val (.int p0_1), .val (.int i258), .val (.int i261), .val (.int i264), .val .null, .val .null, .unset] [(.ref b288), (.ref b288)])) t
                refine XS.aconstNull X288.here hx rfl (hb hby at_75) ?_
                show Steps p.tables e below (T288.setTop (mkF m 76 #[.val (.int p0_0), .val (.int p0_1), .val (.int i258), .val (.int i261), .val (.int i264), .val .null, .val .null, .unset] [.null, (.ref b288), (.ref b288)])) t
                refine XS.iloadN X288.here hx rfl (hb hby at_76) rfl ?_
                show Steps p.tables e below (T288.setTop (mkF m 77 #[.val (.int p0_0), .val (.int p0_1), .val (.int i258), .val (.int i261), .val (.int i264), .val .null, .val .null, .unset] [(.int p0_0), .null, (.ref b288), (.ref b288)])) t
                refine XS.sipush X288.here hx rfl (hb hby at_77) ?_
                show Steps p.tables e below (T288.setTop (mkF m 80 #[.val (.int p0_0), .val (.int p0_1), .val (.int i258), .val (.int i261), .val (.int i264), .val .null, .val .null, .unset] [(.int (255 : Int32)), (.int p0_0), .null, (.ref b288), (.ref b288)])) t
                refine XS.iand X288.here hx rfl (hb hby at_80) rfl ?_
                show Steps p.tables e below (T288.setTop (mkF m 81 #[.val (.int p0_0), .val (.int p0_1), .val (.int i258), .val (.int i261), .val (.int i264), .val .null, .val .null, .unset] [(.int (p0_0 &&& (255 : Int32))), .null, (.ref b288), (.ref b288)])) t
                refine XS.i2c X288.here hx rfl (hb hby at_81) rfl ?_
                show Steps p.tables e below (T288.setTop (mkF m 82 #[.val (.int p0_0), .val (.int p0_1), .val (.int i258), .val (.int i261), .val (.int i264), .val .null, .val .null, .unset] [(.int ((p0_0 &&& (255 : Int32)).toUInt32.toUInt16.toUInt32.toInt32)), .null, (.ref b288), (.ref b288)])) t
                exact k
              obtain ⟨v300, _, ⟨T300, L300, k300, n300⟩, -, X300, ⟨Lc300, hQ300, l300, y300, z300⟩, st300⟩ := Jvm.LawKit.callS X288 hx (y := (⟨"java/lang/String", "valueOf", "(C)Ljava/lang/String;"⟩ : MethodName)) hown (mvT hZ (hw _ (List.mem_of_getElem? (i := 10) rfl))) (mvT hZ (hw _ (List.mem_of_getElem? (i := 11) rfl))) (mvT hZ (hw _ (List.mem_of_getElem? (i := 12) rfl))) (mvT hZ (hw _ (List.mem_of_getElem? (i := 13) rfl))) (by decide) (backOf (W := 3) (own_rm2 l Z a0 hw [] ((p0_0 &&& (255 : Int32)).toUInt32.toUInt16.toUInt32.toInt32) cs h288 n0 Z291 O290 (own_enc p0_0) SC HCS) hZ (hw _ (List.mem_of_getElem? (i := 13) rfl)) (hw _ (List.mem_of_getElem? (i := 12) rfl)) (by decide) (by decide)) (g := (mkF m 82 #[.val (.int p0_0), .val (.int p0_1), .val (.int i258), .val (.int i261), .val (.int i264), .val .null, .val .null, .unset] [(.int ((p0_0 &&& (255 : Int32)).toUInt32.toUInt16.toUInt32.toInt32)), .null, (.ref b288), (.ref b288)])) rfl (by rw [hml]; rfl) (argsL := [(.int ((p0_0 &&& (255 : Int32)).toUInt32.toUInt16.toUInt32.toInt32))]) (rest := [.null, (.ref b288), (.ref b288)]) (lenOf pd__C_Ljava_lang_String_ rfl) rfl (by show 2 * 0 + _ ≤ _; exact Nat.le_of_eq rfl) (hb hby at_82) (fun _ _ => ⟨rfl, e288, (by decide : 1 + 2 ≤ _), (by decide : 7 + 5 ≤ _)⟩)
              dsimp only [Pt.U, Pt.locs, Pt.cells, Pt.slots] at X300 l300 y300 z300 st300 hQ300
              subst y300 z300
              obtain ⟨b300, rfl, M300, K300, sz300, gn300, f301, f302⟩ := hQ300
              have f303 := A288.keep K300
              have f304 := (show Unt h288 b288 from U288).keep K300 nin0
              have f305 := f293.keep K300 nin0
              have f306 := f294.keep K300 nin0
              have f307 := f295.keep K300 nin0
              have f308 := f296.keep K300 nin0
              have f309 := f297.keep K300 nin0
              have f310 := f298.keep K300 nin0
              have f311 := f299.keep K300 nin0
              have K312 : Keep h0 T300.heap [] := K289.trans K300 all0
              have O313 := O290.keep K300 all0
              have Z314 := Nat.le_trans Z291 K300.1
              have hk315 := Nat.le_trans hk292 K300.1
              have sz_b300 : h0.size ≤ b300 := Nat.le_trans K289.1 sz300
              have ne_b288_b300 : b288 ≠ b300 := Nat.ne_of_lt (Nat.lt_of_lt_of_le f299.lt sz300)
              have N316 : Fr n0 L300 := by rw [l300]; exact Fr.app N265 M300
              refine own_by (T' := T300) (g' := (mkF m 85 #[.val (.int p0_0), .val (.int p0_1), .val (.int i258), .val (.int i261), .val (.int i264), .val .null, .val .null, .unset] [(.ref b300), .null, (.ref b288), (.ref b288)])) st300 ?_
              obtain ⟨v317, _, ⟨T317, L317, k317, n317⟩, -, X317, ⟨Lc317, hQ317, l317, y317, z317⟩, st317⟩ := X300.specialBack hx (y := (⟨"com/example/buzon/buzon/engine/ApiException", "<init>", "(Lcom/example/buzon/buzon/engine/ApiError;Ljava/lang/String;)V"⟩ : MethodName)) rfl hown (mvT hZ (hw _ (List.mem_of_getElem? (i := 36) rfl))) (mvT hZ (hw _ (List.mem_of_getElem? (i := 37) rfl))) (mvT hZ (hw _ (List.mem_of_getElem? (i := 38) rfl))) (by decide) (backOfKL (W := 1) (own_rm7 l Z a0 hw [] b288 .null (.ref b300) ua sa T300.heap n0 Z314 O313 rfl rfl f304 f303 gn_b288 f309 hl SUS SSS) hZ (hw _ (List.mem_of_getElem? (i := 38) rfl)) (hw _ (List.mem_of_getElem? (i := 9) rfl)) (by decide) (by decide) (hTK.alikeC hS0.1.alike) (hBelow.alikeC hS0.1.alike)) (g := (mkF m 85 #[.val (.int p0_0), .val (.int p0_1), .val (.int i258), .val (.int i261), .val (.int i264), .val .null, .val .null, .unset] [(.ref b300), .null, (.ref b288), (.ref b288)])) rfl (by rw [hml]; rfl) (Steps.refl _) (a := b288) (argsL := [.null, (.ref b300)]) (rest := [(.ref b288)]) (lenOf pd__Lcom_example_buzon_buzon_engine_ApiError_Ljava_lang_String__V rfl) rfl (by show 2 * 0 + _ ≤ _; exact Nat.le_of_eq rfl) (hb hby at_85) (fun _ _ => ⟨rfl, rfl, (by decide : 3 + 1 ≤ _), (by decide : 12 + 2752 ≤ _)⟩)
              dsimp only [Pt.U, Pt.locs, Pt.cells, Pt.slots] at X317 l317 y317 z317 st317 hQ317
              subst y317 z317
              obtain ⟨rfl, M317, K317, f318, f319⟩ := hQ317
              have f320 := f303.keep K317
              have f321 := f301.keep K317
              have f322 := f302.keep K317 (ninS (Ne.symm ne_b288_b300) nin0)
              have K323 : Keep h0 T317.heap [] := K312.trans K317 (allS (Or.inr sz_b288) all0)
              have O324 := O313.keep K317 (allS gn_b288 all0)
              have Z325 := Nat.le_trans Z314 K317.1
              have hk326 := Nat.le_trans hk315 K317.1
              have N327 : Fr n0 L317 := by rw [l317]; exact Fr.app N316 M317
              refine own_via (T' := T317) (g' := (mkF m 88 #[.val (.int p0_0), .val (.int p0_1), .val (.int i258), .val (.int i261), .val (.int i264), .val .null, .val .null, .unset] [(.ref b288)])) st317 ?_
              refine own_by (T' := T317) (g' := (mkF m 90 #[.val (.int p0_0), .val (.int p0_1), .val (.int i258), .val (.int i261), .val (.int i264), .val .null, .val (.ref b288), .unset] [])) (fun t k => ?_) ?_
              · show Steps p.tables e below (T317.setTop (mkF m 88 #[.val (.int p0_0), .val (.int p0_1), .val (.int i258), .val (.int i261), .val (.int i264), .val .null, .val .null, .unset] [(.ref b288)])) t
                refine XS.astore X317.here hx rfl (hb hby at_88) rfl rfl (l' := #[.val (.int p0_0), .val (.int p0_1), .val (.int i258), .val (.int i261), .val (.int i264), .val .null, .val (.ref b288), .unset]) rfl ?_
                show Steps p.tables e below (T317.setTop (mkF m 90 #[.val (.int p0_0), .val (.int p0_1), .val (.int i258), .val (.int i261), .val (.int i264), .val .null, .val (.ref b288), .unset] [])) t
                exact k
              obtain ⟨T328, h328, X328, e328, E328, A328, D328, U328, st328⟩ := newO X317 hx hZ hown (hw _ (List.mem_of_getElem? (i := 95) rfl)) (hw _ (List.mem_of_getElem? (i := 96) rfl)) (hw _ (List.mem_of_getElem? (i := 97) rfl)) rfl (g := (mkF m 90 #[.val (.int p0_0), .val (.int p0_1), .val (.int i258), .val (.int i261), .val (.int i264), .val .null, .val (.ref b288), .unset] [])) rfl (hb hby at_90) (by decide) (by decide)
              obtain ⟨b328, g328⟩ : ∃ z, z = T317.heap.size := ⟨_, rfl⟩
              rw [← g328] at A328 D328 U328 st328
              have gn_b328 : n0 ≤ b328 := Nat.le_trans Z325 (Nat.le_of_eq g328.symm)
              have sz_b328 : h0.size ≤ b328 := Nat.le_trans K323.1 (Nat.le_of_eq g328.symm)
              have ne_b288_b328 : b288 ≠ b328 := Nat.ne_of_lt (Nat.lt_of_lt_of_le f318.lt (Nat.le_of_eq g328.symm))
              have ne_b300_b328 : b300 ≠ b328 := Nat.ne_of_lt (Nat.lt_of_lt_of_le f322.lt (Nat.le_of_eq g328.symm))
              have f329 := f318.ext E328
              have f330 := f321.ext E328
              have f331 := f322.ext E328
              have f332 := f319.ext E328
              have K333 : Keep h0 h328 [] := K323.ext E328
              have O334 := O324.ext E328
              have Z335 := Nat.le_trans Z325 E328.1
              have hk336 := Nat.le_trans hk326 E328.1
              have f337 : Fld Z h328 b328 "com/example/buzon/buzon/engine/Outcome" "result" "Ljava/lang/Object;" .null := D328 (Or.inr (hw _ (List.mem_of_getElem? (i := 108) rfl))) (ty := (.object "java/lang/Object")) (by decide)
              have f338 : Fld Z h328 b328 "com/example/buzon/buzon/engine/Outcome" "failure" "Lcom/example/buzon/buzon/engine/ApiException;" .null := D328 (Or.inr (hw _ (List.mem_of_getElem? (i := 110) rfl))) (ty := (.object "com/example/buzon/buzon/engine/ApiException")) (by decide)
              refine own_by (T' := T328) (g' := (mkF m 93 #[.val (.int p0_0), .val (.int p0_1), .val (.int i258), .val (.int i261), .val (.int i264), .val .null, .val (.ref b288), .unset] [(.ref b328)])) st328 ?_
              refine own_by (T' := T328) (g' := (mkF m 98 #[.val (.int p0_0), .val (.int p0_1), .val (.int i258), .val (.int i261), .val (.int i264), .val .null, .val (.ref b288), .unset] [(.ref b288), .null, (.ref b328), (.ref b328)])) (fun t k => ?_) ?_
              · show Steps p.tables e below (T328.setTop (mkF m 93 #[.val (.int p0_0), .val (.int p0_1), .val (.int i258), .val (.int i261), .val (.int i264), .val .null, .val (.ref b288), .unset] [(.ref b328)])) t
                refine XS.dup X328.here hx rfl (hb hby at_93) rfl rfl ?_
                show Steps p.tables e below (T328.setTop (mkF m 94 #[.val (.int p0_0), .val (.int p0_1), .val (.int i258), .val (.int i261), .val (.int i264), .val .null, .val (.ref b288), .unset] [(.ref b328), (.ref b328)])) t
                refine XS.aload X328.here hx rfl (hb hby at_94) rfl rfl ?_
                show Steps p.tables e below (T328.setTop (mkF m 96 #[.val (.int p0_0), .val (.int p0_1), .val (.int i258), .val (.int i261), .val (.int i264), .val .null, .val (.ref b288), .unset] [.null, (.ref b328), (.ref b328)])) t
                refine XS.aload X328.here hx rfl (hb hby at_96) rfl rfl ?_
                show Steps p.tables e below (T328.setTop (mkF m 98 #[.val (.int p0_0), .val (.int p0_1), .val (.int i258), .val (.int i261), .val (.int i264), .val .null, .val (.ref b288), .unset] [(.ref b288), .null, (.ref b328), (.ref b328)])) t
                exact k
              obtain ⟨v339, _, ⟨T339, L339, k339, n339⟩, -, X339, ⟨Lc339, hQ339, l339, y339, z339⟩, st339⟩ := X328.specialBack hx (y := (⟨"com/example/buzon/buzon/engine/Outcome", "<init>", "(Ljava/lang/Object;Lcom/example/buzon/buzon/engine/ApiException;)V"⟩ : MethodName)) rfl hown (mvT hZ (hw _ (List.mem_of_getElem? (i := 98) rfl))) (mvT hZ (hw _ (List.mem_of_getElem? (i := 99) rfl))) (mvT hZ (hw _ (List.mem_of_getElem? (i := 100) rfl))) (by decide) (backOf (W := 1) (own_rm13 l Z a0 hw [] b328 .null (.ref b288) .null .null h328 n0 Z335 rfl rfl A328 f337 gn_b328 f338) hZ (hw _ (List.mem_of_getElem? (i := 100) rfl)) (hw _ (List.mem_of_getElem? (i := 97) rfl)) (by decide) (by decide)) (g := (mkF m 98 #[.val (.int p0_0), .val (.int p0_1), .val (.int i258), .val (.int i261), .val (.int i264), .val .null, .val (.ref b288), .unset] [(.ref b288), .null, (.ref b328), (.ref b328)])) rfl (by rw [hml]; rfl) (Steps.refl _) (a := b328) (argsL := [.null, (.ref b288)]) (rest := [(.ref b328)]) (lenOf pd__Ljava_lang_Object_Lcom_example_buzon_buzon_engine_ApiException__V rfl) rfl (by show 2 * 0 + _ ≤ _; exact Nat.le_of_eq rfl) (hb hby at_98) (fun _ _ => ⟨rfl, e328, (by decide : 5 + 0 ≤ _), (by decide : 2766 + 0 ≤ _)⟩)
              dsimp only [Pt.U, Pt.locs, Pt.cells, Pt.slots] at X339 l339 y339 z339 st339 hQ339
              subst y339 z339
              obtain ⟨rfl, M339, K339, f340, f341, f342⟩ := hQ339
              have f343 := f329.keep K339
              have f344 := f330.keep K339
              have f345 := f331.keep K339 (ninS ne_b300_b328 nin0)
              have f346 := f332.keep K339 (ninS ne_b288_b328 nin0)
              have f347 := A328.keep K339
              have K348 : Keep h0 T339.heap [] := K333.trans K339 (allS (Or.inr sz_b328) all0)
              have O349 := O334.keep K339 (allS gn_b328 all0)
              have Z350 := Nat.le_trans Z335 K339.1
              have hk351 := Nat.le_trans hk336 K339.1
              have N352 : Fr n0 L339 := by rw [l339]; exact Fr.app N327 M339
              refine own_via (T' := T339) (g' := (mkF m 101 #[.val (.int p0_0), .val (.int p0_1), .val (.int i258), .val (.int i261), .val (.int i264), .val .null, .val (.ref b288), .unset] [(.ref b328)])) st339 ?_
              refine own_by (T' := T339) (g' := (mkF m 105 #[.val (.int p0_0), .val (.int p0_1), .val (.int i258), .val (.int i261), .val (.int i264), .val .null, .val (.ref b288), .val (.ref b328)] [(.ref b328)])) (fun t k => ?_) ?_
              · show Steps p.tables e below (T339.setTop (mkF m 101 #[.val (.int p0_0), .val (.int p0_1), .val (.int i258), .val (.int i261), .val (.int i264), .val .null, .val (.ref b288), .unset] [(.ref b328)])) t
                refine XS.astore X339.here hx rfl (hb hby at_101) rfl rfl (l' := #[.val (.int p0_0), .val (.int p0_1), .val (.int i258), .val (.int i261), .val (.int i264), .val .null, .val (.ref b288), .val (.ref b328)]) rfl ?_
                show Steps p.tables e below (T339.setTop (mkF m 103 #[.val (.int p0_0), .val (.int p0_1), .val (.int i258), .val (.int i261), .val (.int i264), .val .null, .val (.ref b288), .val (.ref b328)] [])) t
                refine XS.aload X339.here hx rfl (hb hby at_103) rfl rfl ?_
                show Steps p.tables e below (T339.setTop (mkF m 105 #[.val (.int p0_0), .val (.int p0_1), .val (.int i258), .val (.int i261), .val (.int i264), .val .null, .val (.ref b288), .val (.ref b328)] [(.ref b328)])) t
                exact k
              obtain ⟨cq353, kq353, q353a, q353b, q353c⟩ := isOf hZ rfl f340
              obtain ⟨v353, _, ⟨T353, L353, k353, n353⟩, -, X353, ⟨Lc353, hQ353, l353, y353, z353⟩, st353⟩ := X339.virtualBack hx (y := (⟨"com/example/buzon/buzon/engine/Outcome", "isSuccess", "()Z"⟩ : MethodName)) (z := (⟨"com/example/buzon/buzon/engine/Outcome", "isSuccess", "()Z"⟩ : MethodName)) hown (mvT hZ (hw _ (List.mem_of_getElem? (i := 111) rfl))) (mvT hZ (hw _ (List.mem_of_getElem? (i := 112) rfl))) (notFace_of_selects (args := #[]) (mvT hZ (hw _ (List.mem_of_getElem? (i := 114) rfl)))) (mvT hZ (hw _ (List.mem_of_getElem? (i := 114) rfl))) (mvT hZ (hw _ (List.mem_of_getElem? (i := 113) rfl))) (by decide) (backOf (W := 0) (own_rm15 l Z a0 hw [] b328 b288 T339.heap n0 Z350 f342) hZ (hw _ (List.mem_of_getElem? (i := 115) rfl)) (hw _ (List.mem_of_getElem? (i := 97) rfl)) (by decide) (by decide)) q353a q353c (g := (mkF m 105 #[.val (.int p0_0), .val (.int p0_1), .val (.int i258), .val (.int i261), .val (.int i264), .val .null, .val (.ref b288), .val (.ref b328)] [(.ref b328)])) rfl (by rw [hml]; rfl) (Steps.refl _) (argsL := []) (rest := []) (lenOf pd___Z rfl) rfl (by show 2 * 0 + _ ≤ _; exact Nat.le_of_eq rfl) (hb hby at_105) (fun _ _ => ⟨rfl, rfl, (by decide : 5 + 0 ≤ _), (by decide : 2766 + 0 ≤ _)⟩)
              dsimp only [Pt.U, Pt.locs, Pt.cells, Pt.slots] at X353 l353 y353 z353 st353 hQ353
              subst y353 z353
              obtain ⟨rfl, M353, e353⟩ := hQ353
              have N354 : Fr n0 L353 := by rw [l353]; exact Fr.app N352 M353
              refine own_via (T' := T353) (g' := (mkF m 108 #[.val (.int p0_0), .val (.int p0_1), .val (.int i258), .val (.int i261), .val (.int i264), .val .null, .val (.ref b288), .val (.ref b328)] [(.int (0 : Int32))])) st353 ?_
              refine own_by (T' := T353) (g' := (mkF m 125 #[.val (.int p0_0), .val (.int p0_1), .val (.int i258), .val (.int i261), .val (.int i264), .val .null, .val (.ref b288), .val (.ref b328)] [(.int (1 : Int32))])) (fun t k => ?_) ?_
              · show Steps p.tables e below (T353.setTop (mkF m 108 #[.val (.int p0_0), .val (.int p0_1), .val (.int i258), .val (.int i261), .val (.int i264), .val .null, .val (.ref b288), .val (.ref b328)] [(.int (0 : Int32))])) t
                refine XS.iloadN X353.here hx rfl (hb hby at_108) rfl ?_
                show Steps p.tables e below (T353.setTop (mkF m 109 #[.val (.int p0_0), .val (.int p0_1), .val (.int i258), .val (.int i261), .val (.int i264), .val .null, .val (.ref b288), .val (.ref b328)] [(.int i261), (.int (0 : Int32))])) t
                refine XS.ifYes X353.here hx rfl (pc0 := 109) (pc' := 116) rfl (hb hby at_109) rfl ((if0 _ _).trans (feq hc267).2) (by decide) (by decide) ?_
                show Steps p.tables e below (T353.setTop (mkF m 116 #[.val (.int p0_0), .val (.int p0_1), .val (.int i258), .val (.int i261), .val (.int i264), .val .null, .val (.ref b288), .val (.ref b328)] [(.int (0 : Int32))])) t
                refine XS.iconst X353.here hx rfl (hb hby at_116) ?_
                show Steps p.tables e below (T353.setTop (mkF m 117 #[.val (.int p0_0), .val (.int p0_1), .val (.int i258), .val (.int i261), .val (.int i264), .val .null, .val (.ref b288), .val (.ref b328)] [(.int (0 : Int32)), (.int (0 : Int32))])) t
                refine XS.icmpNo X353.here hx rfl (hb hby at_117) rfl (teq (by decide : (0 : Int32) = (0 : Int32))).2 ?_
                show Steps p.tables e below (T353.setTop (mkF m 120 #[.val (.int p0_0), .val (.int p0_1), .val (.int i258), .val (.int i261), .val (.int i264), .val .null, .val (.ref b288), .val (.ref b328)] [])) t
                refine XS.iconst X353.here hx rfl (hb hby at_120) ?_
                show Steps p.tables e below (T353.setTop (mkF m 121 #[.val (.int p0_0), .val (.int p0_1), .val (.int i258), .val (.int i261), .val (.int i264), .val .null, .val (.ref b288), .val (.ref b328)] [(.int (1 : Int32))])) t
                refine XS.goto X353.here hx rfl (pc0 := 121) (pc' := 125) rfl (hb hby at_121) (by decide) (by decide) ?_
                show Steps p.tables e below (T353.setTop (mkF m 125 #[.val (.int p0_0), .val (.int p0_1), .val (.int i258), .val (.int i261), .val (.int i264), .val .null, .val (.ref b288), .val (.ref b328)] [(.int (1 : Int32))])) t
                exact k
              exact own_retNW X353 hZ (own_ew hw) hS0 hk351 e353 (own_ch0 (Z := Z) (vm := s.vm) K348.1) hh hx (t := .boolean) Bd.returns (by simp) (hb hby at_125) hlk (by decide) (by decide) ⟨rfl, N354⟩
            · skip
              refine own_by (T' := T265) (g' := (mkF m 63 #[.val (.int p0_0), .val (.int p0_1), .val (.int i258), .val (.int i261), .val (.int i264), .val .null, .val .null, .unset] [])) (fun t k => ?_) ?_
              · show Steps p.tables e below (T265.setTop (mkF m 60 #[.val (.int p0_0), .val (.int p0_1), .val (.int i258), .val (.int i261), .val (.int i264), .val .null, .val .null, .unset] [(.int i264)])) t
                refine XS.ifNo X265.here hx rfl (hb hby at_60) rfl ((if0 _ _).trans (feq hc287).1) ?_
                show Steps p.tables e below (T265.setTop (mkF m 63 #[.val (.int p0_0), .val (.int p0_1), .val (.int i258), .val (.int i261), .val (.int i264), .val .null, .val .null, .unset] [])) t
                exact k
              obtain ⟨v355, _, ⟨T355, L355, k355, n355⟩, -, X355, hS355', hk355', ⟨Lc355, hQ355, l355, y355, z355, CR355⟩, st355⟩ := callSS X265 hx (y := (⟨"com/example/buzon/buzon/engine/ApiException", "nonExistentQueue", "()Lcom/example/buzon/buzon/engine/ApiException;"⟩ : MethodName)) hown (mvT hZ (hw _ (List.mem_of_getElem? (i := 116) rfl))) (mvT hZ (hw _ (List.mem_of_getElem? (i := 117) rfl))) (mvT hZ (hw _ (List.mem_of_getElem? (i := 9) rfl))) (mvT hZ (hw _ (List.mem_of_getElem? (i := 118) rfl))) (by decide) (backOfSKH (W := 0) (own_rm16 l Z a0 hw [] wNON_EXISTENT_QUEUE ua sa h0 n0 Z0 O0 EN hl SUS SSS) hZ (hw _ (List.mem_of_getElem? (i := 118) rfl)) (hw _ (List.mem_of_getElem? (i := 9) rfl)) (by decide) (by decide) (own_ew hw) (own_ch0 (Z := Z) (vm := s.vm) (Keep.refl h0 []).1).1 (hTK.alikeC hS0.1.alike) (hBelow.alikeC hS0.1.alike)) (g := (mkF m 63 #[.val (.int p0_0), .val (.int p0_1), .val (.int i258), .val (.int i261), .val (.int i264), .val .null, .val .null, .unset] [])) rfl (by rw [hml]; rfl) (argsL := []) (rest := []) (lenOf pd___Lcom_example_buzon_buzon_engine_ApiException_ rfl) rfl (by show 2 * 0 + _ ≤ _; exact Nat.le_of_eq rfl) (hb hby at_63) (fun _ _ => ⟨rfl, e265, (by decide : 0 + 4 ≤ _), (by decide : 0 + 2899 ≤ _)⟩)
              dsimp only [Pt.U, Pt.locs, Pt.cells, Pt.slots] at X355 l355 y355 z355 st355 hQ355
              subst y355 z355
              obtain ⟨X355, hS355, hZ, hown⟩ := rebS hS0 (show _ ≤ T265.heap.size from by rw [e265]; exact hk0) X355 hS355' hk355' hZ hown
              obtain ⟨b355, rfl, M355, K355, sz355, gn355, f356⟩ := hQ355
              have K357 : Keep h0 T355.heap [] := (Keep.refl h0 []).trans K355 all0
              have O358 := O0.keep K355 all0
              have Z359 := Nat.le_trans Z0 K355.1
              have sz_b355 : h0.size ≤ b355 := Nat.le_trans (Keep.refl h0 []).1 sz355
              have N360 : Fr n0 L355 := by rw [l355]; exact Fr.app N265 M355
              refine own_via (T' := T355) (g' := (mkF m 66 #[.val (.int p0_0), .val (.int p0_1), .val (.int i258), .val (.int i261), .val (.int i264), .val .null, .val .null, .unset] [(.ref b355)])) st355 ?_
              refine own_by (T' := T355) (g' := (mkF m 90 #[.val (.int p0_0), .val (.int p0_1), .val (.int i258), .val (.int i261), .val (.int i264), .val .null, .val (.ref b355), .unset] [])) (fun t k => ?_) ?_
              · show Steps p.tables e below (T355.setTop (mkF m 66 #[.val (.int p0_0), .val (.int p0_1), .val (.int i258), .val (.int i261), .val (.int i264), .val .null, .val .null, .unset] [(.ref b355)])) t
                refine XS.astore X355.here hx rfl (hb hby at_66) rfl rfl (l' := #[.val (.int p0_0), .val (.int p0_1), .val (.int i258), .val (.int i261), .val (.int i264), .val .null, .val (.ref b355), .unset]) rfl ?_
                show Steps p.tables e below (T355.setTop (mkF m 68 #[.val (.int p0_0), .val (.int p0_1), .val (.int i258), .val (.int i261), .val (.int i264), .val .null, .val (.ref b355), .unset] [])) t
                refine XS.goto X355.here hx rfl (pc0 := 68) (pc' := 90) rfl (hb hby at_68) (by decide) (by decide) ?_
                show Steps p.tables e below (T355.setTop (mkF m 90 #[.val (.int p0_0), .val (.int p0_1), .val (.int i258), .val (.int i261), .val (.int i264), .val .null, .val (.ref b355), .unset] [])) t
                exact k
              obtain ⟨T361, h361, X361, e361, E361, A361, D361, U361, st361⟩ := newO X355 hx hZ hown (hw _ (List.mem_of_getElem? (i := 95) rfl)) (hw _ (List.mem_of_getElem? (i := 96) rfl)) (hw _ (List.mem_of_getElem? (i := 97) rfl)) rfl (g := (mkF m 90 #[.val (.int p0_0), .val (.int p0_1), .val (.int i258), .val (.int i261), .val (.int i264), .val .null, .val (.ref b355), .unset] [])) rfl (hb hby at_90) (by decide) (by decide)
              obtain ⟨b361, g361⟩ : ∃ z, z = T355.heap.size := ⟨_, rfl⟩
              rw [← g361] at A361 D361 U361 st361
              have gn_b361 : n0 ≤ b361 := Nat.le_trans Z359 (Nat.le_of_eq g361.symm)
              have sz_b361 : h0.size ≤ b361 := Nat.le_trans K357.1 (Nat.le_of_eq g361.symm)
              have ne_b355_b361 : b355 ≠ b361 := Nat.ne_of_lt (Nat.lt_of_lt_of_le f356.lt (Nat.le_of_eq g361.symm))
              have f362 := f356.ext E361
              have K363 : Keep h0 h361 [] := K357.ext E361
              have O364 := O358.ext E361
              have Z365 := Nat.le_trans Z359 E361.1
              have hk366 := Nat.le_trans (Nat.le_refl _) E361.1
              have f367 : Fld Z h361 b361 "com/example/buzon/buzon/engine/Outcome" "result" "Ljava/lang/Object;" .null := D361 (Or.inr (hw _ (List.mem_of_getElem? (i := 108) rfl))) (ty := (.object "java/lang/Object")) (by decide)
              have f368 : Fld Z h361 b361 "com/example/buzon/buzon/engine/Outcome" "failure" "Lcom/example/buzon/buzon/engine/ApiException;" .null := D361 (Or.inr (hw _ (List.mem_of_getElem? (i := 110) rfl))) (ty := (.object "com/example/buzon/buzon/engine/ApiException")) (by decide)
              refine own_by (T' := T361) (g' := (mkF m 93 #[.val (.int p0_0), .val (.int p0_1), .val (.int i258), .val (.int i261), .val (.int i264), .val .null, .val (.ref b355), .unset] [(.ref b361)])) st361 ?_
              refine own_by (T' := T361) (g' := (mkF m 98 #[.val (.int p0_0), .val (.int p0_1), .val (.int i258), .val (.int i261), .val (.int i264), .val .null, .val (.ref b355), .unset] [(.ref b355), .null, (.ref b361), (.ref b361)])) (fun t k => ?_) ?_
              · show Steps p.tables e below (T361.setTop (mkF m 93 #[.val (.int p0_0), .val (.int p0_1), .val (.int i258), .val (.int i261), .val (.int i264), .val .null, .val (.ref b355), .unset] [(.ref b361)])) t
                refine XS.dup X361.here hx rfl (hb hby at_93) rfl rfl ?_
                show Steps p.tables e below (T361.setTop (mkF m 94 #[.val (.int p0_0), .val (.int p0_1), .val (.int i258), .val (.int i261), .val (.int i264), .val .null, .val (.ref b355), .unset] [(.ref b361), (.ref b361)])) t
                refine XS.aload X361.here hx rfl (hb hby at_94) rfl rfl ?_
                show Steps p.tables e below (T361.setTop (mkF m 96 #[.val (.int p0_0), .val (.int p0_1), .val (.int i258), .val (.int i261), .val (.int i264), .val .null, .val (.ref b355), .unset] [.null, (.ref b361), (.ref b361)])) t
                refine XS.aload X361.here hx rfl (hb hby at_96) rfl rfl ?_
                show Steps p.tables e below (T361.setTop (mkF m 98 #[.val (.int p0_0), .val (.int p0_1), .val (.int i258), .val (.int i261), .val (.int i264), .val .null, .val (.ref b355), .unset] [(.ref b355), .null, (.ref b361), (.ref b361)])) t
                exact k
              obtain ⟨v369, _, ⟨T369, L369, k369, n369⟩, -, X369, ⟨Lc369, hQ369, l369, y369, z369⟩, st369⟩ := X361.specialBack hx (y := (⟨"com/example/buzon/buzon/engine/Outcome", "<init>", "(Ljava/lang/Object;Lcom/example/buzon/buzon/engine/ApiException;)V"⟩ : MethodName)) rfl hown (mvT hZ (hw _ (List.mem_of_getElem? (i := 98) rfl))) (mvT hZ (hw _ (List.mem_of_getElem? (i := 99) rfl))) (mvT hZ (hw _ (List.mem_of_getElem? (i := 100) rfl))) (by decide) (backOf (W := 1) (own_rm13 l Z a0 hw [] b361 .null (.ref b355) .null .null h361 n0 Z365 rfl rfl A361 f367 gn_b361 f368) hZ (hw _ (List.mem_of_getElem? (i := 100) rfl)) (hw _ (List.mem_of_getElem? (i := 97) rfl)) (by decide) (by decide)) (g := (mkF m 98 #[.val (.int p0_0), .val (.int p0_1), .val (.int i258), .val (.int i261), .val (.int i264), .val .null, .val (.ref b355), .unset] [(.ref b355), .null, (.ref b361), (.ref b361)])) rfl (by rw [hml]; rfl) (Steps.refl _) (a := b361) (argsL := [.null, (.ref b355)]) (rest := [(.ref b361)]) (lenOf pd__Ljava_lang_Object_Lcom_example_buzon_buzon_engine_ApiException__V rfl) rfl (by show 2 * 0 + _ ≤ _; exact Nat.le_of_eq rfl) (hb hby at_98) (fun _ _ => ⟨rfl, e361, (by decide : 5 + 0 ≤ _), (by decide : 2901 + 0 ≤ _)⟩)
              dsimp only [Pt.U, Pt.locs, Pt.cells, Pt.slots] at X369 l369 y369 z369 st369 hQ369
              subst y369 z369
              obtain ⟨rfl, M369, K369, f370, f371, f372⟩ := hQ369
              have f373 := f362.keep K369
              have f374 := A361.keep K369
              have K375 : Keep h0 T369.heap [] := K363.trans K369 (allS (Or.inr sz_b361) all0)
              have O376 := O364.keep K369 (allS gn_b361 all0)
              have Z377 := Nat.le_trans Z365 K369.1
              have hk378 := Nat.le_trans hk366 K369.1
              have N379 : Fr n0 L369 := by rw [l369]; exact Fr.app N360 M369
              refine own_via (T' := T369) (g' := (mkF m 101 #[.val (.int p0_0), .val (.int p0_1), .val (.int i258), .val (.int i261), .val (.int i264), .val .null, .val (.ref b355), .unset] [(.ref b361)])) st369 ?_
              refine own_by (T' := T369) (g' := (mkF m 105 #[.val (.int p0_0), .val (.int p0_1), .val (.int i258), .val (.int i261), .val (.int i264), .val .null, .val (.ref b355), .val (.ref b361)] [(.ref b361)])) (fun t k => ?_) ?_
              · show Steps p.tables e below (T369.setTop (mkF m 101 #[.val (.int p0_0), .val (.int p0_1), .val (.int i258), .val (.int i261), .val (.int i264), .val .null, .val (.ref b355), .unset] [(.ref b361)])) t
                refine XS.astore X369.here hx rfl (hb hby at_101) rfl rfl (l' := #[.val (.int p0_0), .val (.int p0_1), .val (.int i258), .val (.int i261), .val (.int i264), .val .null, .val (.ref b355), .val (.ref b361)]) rfl ?_
                show Steps p.tables e below (T369.setTop (mkF m 103 #[.val (.int p0_0), .val (.int p0_1), .val (.int i258), .val (.int i261), .val (.int i264), .val .null, .val (.ref b355), .val (.ref b361)] [])) t
                refine XS.aload X369.here hx rfl (hb hby at_103) rfl rfl ?_
                show Steps p.tables e below (T369.setTop (mkF m 105 #[.val (.int p0_0), .val (.int p0_1), .val (.int i258), .val (.int i261), .val (.int i264), .val .null, .val (.ref b355), .val (.ref b361)] [(.ref b361)])) t
                exact k
              obtain ⟨cq380, kq380, q380a, q380b, q380c⟩ := isOf hZ rfl f370
              obtain ⟨v380, _, ⟨T380, L380, k380, n380⟩, -, X380, ⟨Lc380, hQ380, l380, y380, z380⟩, st380⟩ := X369.virtualBack hx (y := (⟨"com/example/buzon/buzon/engine/Outcome", "isSuccess", "()Z"⟩ : MethodName)) (z := (⟨"com/example/buzon/buzon/engine/Outcome", "isSuccess", "()Z"⟩ : MethodName)) hown (mvT hZ (hw _ (List.mem_of_getElem? (i := 111) rfl))) (mvT hZ (hw _ (List.mem_of_getElem? (i := 112) rfl))) (notFace_of_selects (args := #[]) (mvT hZ (hw _ (List.mem_of_getElem? (i := 114) rfl)))) (mvT hZ (hw _ (List.mem_of_getElem? (i := 114) rfl))) (mvT hZ (hw _ (List.mem_of_getElem? (i := 113) rfl))) (by decide) (backOf (W := 0) (own_rm15 l Z a0 hw [] b361 b355 T369.heap n0 Z377 f372) hZ (hw _ (List.mem_of_getElem? (i := 115) rfl)) (hw _ (List.mem_of_getElem? (i := 97) rfl)) (by decide) (by decide)) q380a q380c (g := (mkF m 105 #[.val (.int p0_0), .val (.int p0_1), .val (.int i258), .val (.int i261), .val (.int i264), .val .null, .val (.ref b355), .val (.ref b361)] [(.ref b361)])) rfl (by rw [hml]; rfl) (Steps.refl _) (argsL := []) (rest := []) (lenOf pd___Z rfl) rfl (by show 2 * 0 + _ ≤ _; exact Nat.le_of_eq rfl) (hb hby at_105) (fun _ _ => ⟨rfl, rfl, (by decide : 5 + 0 ≤ _), (by decide : 2901 + 0 ≤ _)⟩)
              dsimp only [Pt.U, Pt.locs, Pt.cells, Pt.slots] at X380 l380 y380 z380 st380 hQ380
              subst y380 z380
              obtain ⟨rfl, M380, e380⟩ := hQ380
              have N381 : Fr n0 L380 := by rw [l380]; exact Fr.app N379 M380
              refine own_via (T' := T380) (g' := (mkF m 108 #[.val (.int p0_0), .val (.int p0_1), .val (.int i258), .val (.int i261), .val (.int i264), .val .null, .val (.ref b355), .val (.ref b361)] [(.int (0 : Int32))])) st380 ?_
              refine own_by (T' := T380) (g' := (mkF m 125 #[.val (.int p0_0), .val (.int p0_1), .val (.int i258), .val (.int i261), .val (.int i264), .val .null, .val (.ref b355), .val (.ref b361)] [(.int (1 : Int32))])) (fun t k => ?_) ?_
              · show Steps p.tables e below (T380.setTop (mkF m 108 #[.val (.int p0_0), .val (.int p0_1), .val (.int i258), .val (.int i261), .val (.int i264), .val .null, .val (.ref b355), .val (.ref b361)] [(.int (0 : Int32))])) t
                refine XS.iloadN X380.here hx rfl (hb hby at_108) rfl ?_
                show Steps p.tables e below (T380.setTop (mkF m 109 #[.val (.int p0_0), .val (.int p0_1), .val (.int i258), .val (.int i261), .val (.int i264), .val .null, .val (.ref b355), .val (.ref b361)] [(.int i261), (.int (0 : Int32))])) t
                refine XS.ifYes X380.here hx rfl (pc0 := 109) (pc' := 116) rfl (hb hby at_109) rfl ((if0 _ _).trans (feq hc267).2) (by decide) (by decide) ?_
                show Steps p.tables e below (T380.setTop (mkF m 116 #[.val (.int p0_0), .val (.int p0_1), .val (.int i258), .val (.int i261), .val (.int i264), .val .null, .val (.ref b355), .val (.ref b361)] [(.int (0 : Int32))])) t
                refine XS.iconst X380.here hx rfl (hb hby at_116) ?_
                show Steps p.tables e below (T380.setTop (mkF m 117 #[.val (.int p0_0), .val (.int p0_1), .val (.int i258), .val (.int i261), .val (.int i264), .val .null, .val (.ref b355), .val (.ref b361)] [(.int (0 : Int32)), (.int (0 : Int32))])) t
                refine XS.icmpNo X380.here hx rfl (hb hby at_117) rfl (teq (by decide : (0 : Int32) = (0 : Int32))).2 ?_
                show Steps p.tables e below (T380.setTop (mkF m 120 #[.val (.int p0_0), .val (.int p0_1), .val (.int i258), .val (.int i261), .val (.int i264), .val .null, .val (.ref b355), .val (.ref b361)] [])) t
                refine XS.iconst X380.here hx rfl (hb hby at_120) ?_
                show Steps p.tables e below (T380.setTop (mkF m 121 #[.val (.int p0_0), .val (.int p0_1), .val (.int i258), .val (.int i261), .val (.int i264), .val .null, .val (.ref b355), .val (.ref b361)] [(.int (1 : Int32))])) t
                refine XS.goto X380.here hx rfl (pc0 := 121) (pc' := 125) rfl (hb hby at_121) (by decide) (by decide) ?_
                show Steps p.tables e below (T380.setTop (mkF m 125 #[.val (.int p0_0), .val (.int p0_1), .val (.int i258), .val (.int i261), .val (.int i264), .val .null, .val (.ref b355), .val (.ref b361)] [(.int (1 : Int32))])) t
                exact k
              exact own_retNW X380 hZ (own_ew hw) hS355 hk378 e380 (own_ch0 (Z := Z) (vm := s.vm) K375.1) hh hx (t := .boolean) Bd.returns (by simp) (hb hby at_125) hlk (by decide) (by decide) ⟨rfl, N381⟩
        · skip
          refine own_by (T' := T265) (g' := (mkF m 42 #[.val (.int p0_0), .val (.int p0_1), .val (.int i258), .val (.int i261), .val (.int i264), .unset, .unset, .unset] [(.int p0_0)])) (fun t k => ?_) ?_
          · show Steps p.tables e below (T265.setTop (mkF m 38 #[.val (.int p0_0), .val (.int p0_1), .val (.int i258), .val (.int i261), .val (.int i264), .unset, .unset, .unset] [(.int i258)])) t
            refine XS.ifNo X265.here hx rfl (hb hby at_38) rfl ((if0 _ _).trans (feq hc266).1) ?_
            show Steps p.tables e below (T265.setTop (mkF m 41 #[.val (.int p0_0), .val (.int p0_1), .val (.int i258), .val (.int i261), .val (.int i264), .unset, .unset, .unset] [])) t
            refine XS.iloadN X265.here hx rfl (hb hby at_41) rfl ?_
            show Steps p.tables e below (T265.setTop (mkF m 42 #[.val (.int p0_0), .val (.int p0_1), .val (.int i258), .val (.int i261), .val (.int i264), .unset, .unset, .unset] [(.int p0_0)])) t
            exact k
          obtain ⟨v382, _, ⟨T382, L382, k382, n382⟩, -, X382, ⟨Lc382, hQ382, l382, y382, z382⟩, st382⟩ := Jvm.LawKit.callS X265 hx (y := (⟨"java/lang/Integer", "valueOf", "(I)Ljava/lang/Integer;"⟩ : MethodName)) hown (mvT hZ (hw _ (List.mem_of_getElem? (i := 0) rfl))) (mvT hZ (hw _ (List.mem_of_getElem? (i := 1) rfl))) (mvT hZ (hw _ (List.mem_of_getElem? (i := 2) rfl))) (mvT hZ (hw _ (List.mem_of_getElem? (i := 3) rfl))) (by decide) (backOf (W := 0) (own_rm1 l Z a0 hw [] p0_0 wIC cIC h0 n0 Z0 O0 SHi SIC BIC) hZ (hw _ (List.mem_of_getElem? (i := 3) rfl)) (hw _ (List.mem_of_getElem? (i := 2) rfl)) (by decide) (by decide)) (g := (mkF m 42 #[.val (.int p0_0), .val (.int p0_1), .val (.int i258), .val (.int i261), .val (.int i264), .unset, .unset, .unset] [(.int p0_0)])) rfl (by rw [hml]; rfl) (argsL := [(.int p0_0)]) (rest := []) (lenOf pd__I_Ljava_lang_Integer_ rfl) rfl (by show 2 * 0 + _ ≤ _; exact Nat.le_of_eq rfl) (hb hby at_42) (fun _ _ => ⟨rfl, e265, (by decide : 0 + 1 ≤ _), (by decide : 0 + 1 ≤ _)⟩)
          dsimp only [Pt.U, Pt.locs, Pt.cells, Pt.slots] at X382 l382 y382 z382 st382 hQ382
          subst y382 z382
          obtain ⟨b382, rfl, M382, K382, f383⟩ := hQ382
          have K384 : Keep h0 T382.heap [] := (Keep.refl h0 []).trans K382 all0
          have O385 := O0.keep K382 all0
          have Z386 := Nat.le_trans Z0 K382.1
          have hk387 := Nat.le_trans hk0 K382.1
          have N388 : Fr n0 L382 := by rw [l382]; exact Fr.app N265 M382
          refine own_by (T' := T382) (g' := (mkF m 45 #[.val (.int p0_0), .val (.int p0_1), .val (.int i258), .val (.int i261), .val (.int i264), .unset, .unset, .unset] [(.ref b382)])) st382 ?_
          refine own_by (T' := T382) (g' := (mkF m 55 #[.val (.int p0_0), .val (.int p0_1), .val (.int i258), .val (.int i261), .val (.int i264), .val (.ref b382), .val .null, .unset] [(.int i261)])) (fun t k => ?_) ?_
          · show Steps p.tables e below (T382.setTop (mkF m 45 #[.val (.int p0_0), .val (.int p0_1), .val (.int i258), .val (.int i261), .val (.int i264), .unset, .unset, .unset] [(.ref b382)])) t
            refine XS.goto X382.here hx rfl (pc0 := 45) (pc' := 49) rfl (hb hby at_45) (by decide) (by decide) ?_
            show Steps p.tables e below (T382.setTop (mkF m 49 #[.val (.int p0_0), .val (.int p0_1), .val (.int i258), .val (.int i261), .val (.int i264), .unset, .unset, .unset] [(.ref b382)])) t
            refine XS.astore X382.here hx rfl (hb hby at_49) rfl rfl (l' := #[.val (.int p0_0), .val (.int p0_1), .val (.int i258), .val (.int i261), .val (.int i264), .val (.ref b382), .unset, .unset]) rfl ?_
            show Steps p.tables e below (T382.setTop (mkF m 51 #[.val (.int p0_0), .val (.int p0_1), .val (.int i258), .val (.int i261), .val (.int i264), .val (.ref b382), .unset, .unset] [])) t
            refine XS.aconstNull X382.here hx rfl (hb hby at_51) ?_
            show Steps p.tables e below (T382.setTop (mkF m 52 #[.val (.int p0_0), .val (.int p0_1), .val (.int i258), .val (.int i261), .val (.int i264), .val (.ref b382), .unset, .unset] [.null])) t
            refine XS.astore X382.here hx rfl (hb hby at_52) rfl rfl (l' := #[.val (.int p0_0), .val (.int p0_1), .val (.int i258), .val (.int i261), .val (.int i264), .val (.ref b382), .val .null, .unset]) rfl ?_
            show Steps p.tables e below (T382.setTop (mkF m 54 #[.val (.int p0_0), .val (.int p0_1), .val (.int i258), .val (.int i261), .val (.int i264), .val (.ref b382), .val .null, .unset] [])) t
            refine XS.iloadN X382.here hx rfl (hb hby at_54) rfl ?_
            show Steps p.tables e below (T382.setTop (mkF m 55 #[.val (.int p0_0), .val (.int p0_1), .val (.int i258), .val (.int i261), .val (.int i264), .val (.ref b382), .val .null, .unset] [(.int i261)])) t
            exact k
          by_cases hc389 : i261 = (0 : Int32)
          · skip
            refine own_by (T' := T382) (g' := (mkF m 90 #[.val (.int p0_0), .val (.int p0_1), .val (.int i258), .val (.int i261), .val (.int i264), .val (.ref b382), .val .null, .unset] [])) (fun t k => ?_) ?_
            · show Steps p.tables e below (T382.setTop (mkF m 55 #[.val (.int p0_0), .val (.int p0_1), .val (.int i258), .val (.int i261), .val (.int i264), .val (.ref b382), .val .null, .unset] [(.int i261)])) t
              refine XS.ifYes X382.here hx rfl (pc0 := 55) (pc' := 90) rfl (hb hby at_55) rfl ((if0 _ _).trans (teq hc389).1) (by decide) (by decide) ?_
              show Steps p.tables e below (T382.setTop (mkF m 90 #[.val (.int p0_0), .val (.int p0_1), .val (.int i258), .val (.int i261), .val (.int i264), .val (.ref b382), .val .null, .unset] [])) t
              exact k
            obtain ⟨T390, h390, X390, e390, E390, A390, D390, U390, st390⟩ := newO X382 hx hZ hown (hw _ (List.mem_of_getElem? (i := 95) rfl)) (hw _ (List.mem_of_getElem? (i := 96) rfl)) (hw _ (List.mem_of_getElem? (i := 97) rfl)) rfl (g := (mkF m 90 #[.val (.int p0_0), .val (.int p0_1), .val (.int i258), .val (.int i261), .val (.int i264), .val (.ref b382), .val .null, .unset] [])) rfl (hb hby at_90) (by decide) (by decide)
            obtain ⟨b390, g390⟩ : ∃ z, z = T382.heap.size := ⟨_, rfl⟩
            rw [← g390] at A390 D390 U390 st390
            have gn_b390 : n0 ≤ b390 := Nat.le_trans Z386 (Nat.le_of_eq g390.symm)
            have sz_b390 : h0.size ≤ b390 := Nat.le_trans K384.1 (Nat.le_of_eq g390.symm)
            have ne_b382_b390 : b382 ≠ b390 := Nat.ne_of_lt (Nat.lt_of_lt_of_le f383.lt (Nat.le_of_eq g390.symm))
            have f391 := f383.ext E390
            have K392 : Keep h0 h390 [] := K384.ext E390
            have O393 := O385.ext E390
            have Z394 := Nat.le_trans Z386 E390.1
            have hk395 := Nat.le_trans hk387 E390.1
            have f396 : Fld Z h390 b390 "com/example/buzon/buzon/engine/Outcome" "result" "Ljava/lang/Object;" .null := D390 (Or.inr (hw _ (List.mem_of_getElem? (i := 108) rfl))) (ty := (.object "java/lang/Object")) (by decide)
            have f397 : Fld Z h390 b390 "com/example/buzon/buzon/engine/Outcome" "failure" "Lcom/example/buzon/buzon/engine/ApiException;" .null := D390 (Or.inr (hw _ (List.mem_of_getElem? (i := 110) rfl))) (ty := (.object "com/example/buzon/buzon/engine/ApiException")) (by decide)
            refine own_by (T' := T390) (g' := (mkF m 93 #[.val (.int p0_0), .val (.int p0_1), .val (.int i258), .val (.int i261), .val (.int i264), .val (.ref b382), .val .null, .unset] [(.ref b390)])) st390 ?_
            refine own_by (T' := T390) (g' := (mkF m 98 #[.val (.int p0_0), .val (.int p0_1), .val (.int i258), .val (.int i261), .val (.int i264), .val (.ref b382), .val .null, .unset] [.null, (.ref b382), (.ref b390), (.ref b390)])) (fun t k => ?_) ?_
            · show Steps p.tables e below (T390.setTop (mkF m 93 #[.val (.int p0_0), .val (.int p0_1), .val (.int i258), .val (.int i261), .val (.int i264), .val (.ref b382), .val .null, .unset] [(.ref b390)])) t
              refine XS.dup X390.here hx rfl (hb hby at_93) rfl rfl ?_
              show Steps p.tables e below (T390.setTop (mkF m 94 #[.val (.int p0_0), .val (.int p0_1), .val (.int i258), .val (.int i261), .val (.int i264), .val (.ref b382), .val .null, .unset] [(.ref b390), (.ref b390)])) t
              refine XS.aload X390.here hx rfl (hb hby at_94) rfl rfl ?_
              show Steps p.tables e below (T390.setTop (mkF m 96 #[.val (.int p0_0), .val (.int p0_1), .val (.int i258), .val (.int i261), .val (.int i264), .val (.ref b382), .val .null, .unset] [(.ref b382), (.ref b390), (.ref b390)])) t
              refine XS.aload X390.here hx rfl (hb hby at_96) rfl rfl ?_
              show Steps p.tables e below (T390.setTop (mkF m 98 #[.val (.int p0_0), .val (.int p0_1), .val (.int i258), .val (.int i261), .val (.int i264), .val (.ref b382), .val .null, .unset] [.null, (.ref b382), (.ref b390), (.ref b390)])) t
              exact k
            obtain ⟨v398, _, ⟨T398, L398, k398, n398⟩, -, X398, ⟨Lc398, hQ398, l398, y398, z398⟩, st398⟩ := X390.specialBack hx (y := (⟨"com/example/buzon/buzon/engine/Outcome", "<init>", "(Ljava/lang/Object;Lcom/example/buzon/buzon/engine/ApiException;)V"⟩ : MethodName)) rfl hown (mvT hZ (hw _ (List.mem_of_getElem? (i := 98) rfl))) (mvT hZ (hw _ (List.mem_of_getElem? (i := 99) rfl))) (mvT hZ (hw _ (List.mem_of_getElem? (i := 100) rfl))) (by decide) (backOf (W := 1) (own_rm13 l Z a0 hw [] b390 (.ref b382) .null .null .null h390 n0 Z394 rfl rfl A390 f396 gn_b390 f397) hZ (hw _ (List.mem_of_getElem? (i := 100) rfl)) (hw _ (List.mem_of_getElem? (i := 97) rfl)) (by decide) (by decide)) (g := (mkF m 98 #[.val (.int p0_0), .val (.int p0_1), .val (.int i258), .val (.int i261), .val (.int i264), .val (.ref b382), .val .null, .unset] [.null, (.ref b382), (.ref b390), (.ref b390)])) rfl (by rw [hml]; rfl) (Steps.refl _) (a := b390) (argsL := [(.ref b382), .null]) (rest := [(.ref b390)]) (lenOf pd__Ljava_lang_Object_Lcom_example_buzon_buzon_engine_ApiException__V rfl) rfl (by show 2 * 0 + _ ≤ _; exact Nat.le_of_eq rfl) (hb hby at_98) (fun _ _ => ⟨rfl, e390, (by decide : 2 + 0 ≤ _), (by decide : 3 + 0 ≤ _)⟩)
            dsimp only [Pt.U, Pt.locs, Pt.cells, Pt.slots] at X398 l398 y398 z398 st398 hQ398
            subst y398 z398
            obtain ⟨rfl, M398, K398, f399, f400, f401⟩ := hQ398
            have f402 := f391.keep K398
            have f403 := A390.keep K398
            have K404 : Keep h0 T398.heap [] := K392.trans K398 (allS (Or.inr sz_b390) all0)
            have O405 := O393.keep K398 (allS gn_b390 all0)
            have Z406 := Nat.le_trans Z394 K398.1
            have hk407 := Nat.le_trans hk395 K398.1
            have N408 : Fr n0 L398 := by rw [l398]; exact Fr.app N388 M398
            refine own_via (T' := T398) (g' := (mkF m 101 #[.val (.int p0_0), .val (.int p0_1), .val (.int i258), .val (.int i261), .val (.int i264), .val (.ref b382), .val .null, .unset] [(.ref b390)])) st398 ?_
            refine own_by (T' := T398) (g' := (mkF m 105 #[.val (.int p0_0), .val (.int p0_1), .val (.int i258), .val (.int i261), .val (.int i264), .val (.ref b382), .val .null, .val (.ref b390)] [(.ref b390)])) (fun t k => ?_) ?_
            · show Steps p.tables e below (T398.setTop (mkF m 101 #[.val (.int p0_0), .val (.int p0_1), .val (.int i258), .val (.int i261), .val (.int i264), .val (.ref b382), .val .null, .unset] [(.ref b390)])) t
              refine XS.astore X398.here hx rfl (hb hby at_101) rfl rfl (l' := #[.val (.int p0_0), .val (.int p0_1), .val (.int i258), .val (.int i261), .val (.int i264), .val (.ref b382), .val .null, .val (.ref b390)]) rfl ?_
              show Steps p.tables e below (T398.setTop (mkF m 103 #[.val (.int p0_0), .val (.int p0_1), .val (.int i258), .val (.int i261), .val (.int i264), .val (.ref b382), .val .null, .val (.ref b390)] [])) t
              refine XS.aload X398.here hx rfl (hb hby at_103) rfl rfl ?_
              show Steps p.tables e below (T398.setTop (mkF m 105 #[.val (.int p0_0), .val (.int p0_1), .val (.int i258), .val (.int i261), .val (.int i264), .val (.ref b382), .val .null, .val (.ref b390)] [(.ref b390)])) t
              exact k
            obtain ⟨cq409, kq409, q409a, q409b, q409c⟩ := isOf hZ rfl f399
            obtain ⟨v409, _, ⟨T409, L409, k409, n409⟩, -, X409, ⟨Lc409, hQ409, l409, y409, z409⟩, st409⟩ := X398.virtualBack hx (y := (⟨"com/example/buzon/buzon/engine/Outcome", "isSuccess", "()Z"⟩ : MethodName)) (z := (⟨"com/example/buzon/buzon/engine/Outcome", "isSuccess", "()Z"⟩ : MethodName)) hown (mvT hZ (hw _ (List.mem_of_getElem? (i := 111) rfl))) (mvT hZ (hw _ (List.mem_of_getElem? (i := 112) rfl))) (notFace_of_selects (args := #[]) (mvT hZ (hw _ (List.mem_of_getElem? (i := 114) rfl)))) (mvT hZ (hw _ (List.mem_of_getElem? (i := 114) rfl))) (mvT hZ (hw _ (List.mem_of_getElem? (i := 113) rfl))) (by decide) (backOf (W := 0) (own_rm15n l Z a0 hw [] b390 T398.heap n0 Z406 f401) hZ (hw _ (List.mem_of_getElem? (i := 115) rfl)) (hw _ (List.mem_of_getElem? (i := 97) rfl)) (by decide) (by decide)) q409a q409c (g := (mkF m 105 #[.val (.int p0_0), .val (.int p0_1), .val (.int i258), .val (.int i261), .val (.int i264), .val (.ref b382), .val .null, .val (.ref b390)] [(.ref b390)])) rfl (by rw [hml]; rfl) (Steps.refl _) (argsL := []) (rest := []) (lenOf pd___Z rfl) rfl (by show 2 * 0 + _ ≤ _; exact Nat.le_of_eq rfl) (hb hby at_105) (fun _ _ => ⟨rfl, rfl, (by decide : 2 + 0 ≤ _), (by decide : 3 + 0 ≤ _)⟩)
            dsimp only [Pt.U, Pt.locs, Pt.cells, Pt.slots] at X409 l409 y409 z409 st409 hQ409
            subst y409 z409
            obtain ⟨rfl, M409, e409⟩ := hQ409
            have N410 : Fr n0 L409 := by rw [l409]; exact Fr.app N408 M409
            refine own_via (T' := T409) (g' := (mkF m 108 #[.val (.int p0_0), .val (.int p0_1), .val (.int i258), .val (.int i261), .val (.int i264), .val (.ref b382), .val .null, .val (.ref b390)] [(.int (1 : Int32))])) st409 ?_
            refine own_by (T' := T409) (g' := (mkF m 125 #[.val (.int p0_0), .val (.int p0_1), .val (.int i258), .val (.int i261), .val (.int i264), .val (.ref b382), .val .null, .val (.ref b390)] [(.int (1 : Int32))])) (fun t k => ?_) ?_
            · show Steps p.tables e below (T409.setTop (mkF m 108 #[.val (.int p0_0), .val (.int p0_1), .val (.int i258), .val (.int i261), .val (.int i264), .val (.ref b382), .val .null, .val (.ref b390)] [(.int (1 : Int32))])) t
              refine XS.iloadN X409.here hx rfl (hb hby at_108) rfl ?_
              show Steps p.tables e below (T409.setTop (mkF m 109 #[.val (.int p0_0), .val (.int p0_1), .val (.int i258), .val (.int i261), .val (.int i264), .val (.ref b382), .val .null, .val (.ref b390)] [(.int i261), (.int (1 : Int32))])) t
              refine XS.ifNo X409.here hx rfl (hb hby at_109) rfl ((if0 _ _).trans (teq hc389).2) ?_
              show Steps p.tables e below (T409.setTop (mkF m 112 #[.val (.int p0_0), .val (.int p0_1), .val (.int i258), .val (.int i261), .val (.int i264), .val (.ref b382), .val .null, .val (.ref b390)] [(.int (1 : Int32))])) t
              refine XS.iconst X409.here hx rfl (hb hby at_112) ?_
              show Steps p.tables e below (T409.setTop (mkF m 113 #[.val (.int p0_0), .val (.int p0_1), .val (.int i258), .val (.int i261), .val (.int i264), .val (.ref b382), .val .null, .val (.ref b390)] [(.int (1 : Int32)), (.int (1 : Int32))])) t
              refine XS.goto X409.here hx rfl (pc0 := 113) (pc' := 117) rfl (hb hby at_113) (by decide) (by decide) ?_
              show Steps p.tables e below (T409.setTop (mkF m 117 #[.val (.int p0_0), .val (.int p0_1), .val (.int i258), .val (.int i261), .val (.int i264), .val (.ref b382), .val .null, .val (.ref b390)] [(.int (1 : Int32)), (.int (1 : Int32))])) t
              refine XS.icmpNo X409.here hx rfl (hb hby at_117) rfl (teq (by decide : (1 : Int32) = (1 : Int32))).2 ?_
              show Steps p.tables e below (T409.setTop (mkF m 120 #[.val (.int p0_0), .val (.int p0_1), .val (.int i258), .val (.int i261), .val (.int i264), .val (.ref b382), .val .null, .val (.ref b390)] [])) t
              refine XS.iconst X409.here hx rfl (hb hby at_120) ?_
              show Steps p.tables e below (T409.setTop (mkF m 121 #[.val (.int p0_0), .val (.int p0_1), .val (.int i258), .val (.int i261), .val (.int i264), .val (.ref b382), .val .null, .val (.ref b390)] [(.int (1 : Int32))])) t
              refine XS.goto X409.here hx rfl (pc0 := 121) (pc' := 125) rfl (hb hby at_121) (by decide) (by decide) ?_
              show Steps p.tables e below (T409.setTop (mkF m 125 #[.val (.int p0_0), .val (.int p0_1), .val (.int i258), .val (.int i261), .val (.int i264), .val (.ref b382), .val .null, .val (.ref b390)] [(.int (1 : Int32))])) t
              exact k
            exact own_retNW X409 hZ (own_ew hw) hS0 hk407 e409 (own_ch0 (Z := Z) (vm := s.vm) K404.1) hh hx (t := .boolean) Bd.returns (by simp) (hb hby at_125) hlk (by decide) (by decide) ⟨rfl, N410⟩
          · skip
            refine own_by (T' := T382) (g' := (mkF m 60 #[.val (.int p0_0), .val (.int p0_1), .val (.int i258), .val (.int i261), .val (.int i264), .val (.ref b382), .val .null, .unset] [(.int i264)])) (fun t k => ?_) ?_
            · show Steps p.tables e below (T382.setTop (mkF m 55 #[.val (.int p0_0), .val (.int p0_1), .val (.int i258), .val (.int i261), .val (.int i264), .val (.ref b382), .val .null, .unset] [(.int i261)])) t
              refine XS.ifNo X382.here hx rfl (hb hby at_55) rfl ((if0 _ _).trans (feq hc389).1) ?_
              show Steps p.tables e below (T382.setTop (mkF m 58 #[.val (.int p0_0), .val (.int p0_1), .val (.int i258), .val (.int i261), .val (.int i264), .val (.ref b382), .val .null, .unset] [])) t
              refine XS.iload X382.here hx rfl (hb hby at_58) rfl ?_
              show Steps p.tables e below (T382.setTop (mkF m 60 #[.val (.int p0_0), .val (.int p0_1), .val (.int i258), .val (.int i261), .val (.int i264), .val (.ref b382), .val .null, .unset] [(.int i264)])) t
              exact k
            by_cases hc411 : i264 = (0 : Int32)
            · skip
              refine own_by (T' := T382) (g' := (mkF m 71 #[.val (.int p0_0), .val (.int p0_1), .val (.int i258), .val (.int i261), .val (.int i264), .val (.ref b382), .val .null, .unset] [])) (fun t k => ?_) ?_
              · show Steps p.tables e below (T382.setTop (mkF m 60 #[.val (.int p0_0), .val (.int p0_1), .val (.int i258), .val (.int i261), .val (.int i264), .val (.ref b382), .val .null, .unset] [(.int i264)])) t
                refine XS.ifYes X382.here hx rfl (pc0 := 60) (pc' := 71) rfl (hb hby at_60) rfl ((if0 _ _).trans (teq hc411).1) (by decide) (by decide) ?_
                show Steps p.tables e below (T382.setTop (mkF m 71 #[.val (.int p0_0), .val (.int p0_1), .val (.int i258), .val (.int i261), .val (.int i264), .val (.ref b382), .val .null, .unset] [])) t
                exact k
              obtain ⟨T412, h412, X412, e412, E412, A412, D412, U412, st412⟩ := newO X382 hx hZ hown (hw _ (List.mem_of_getElem? (i := 7) rfl)) (hw _ (List.mem_of_getElem? (i := 8) rfl)) (hw _ (List.mem_of_getElem? (i := 9) rfl)) rfl (g := (mkF m 71 #[.val (.int p0_0), .val (.int p0_1), .val (.int i258), .val (.int i261), .val (.int i264), .val (.ref b382), .val .null, .unset] [])) rfl (hb hby at_71) (by decide) (by decide)
              obtain ⟨b412, g412⟩ : ∃ z, z = T382.heap.size := ⟨_, rfl⟩
              rw [← g412] at A412 D412 U412 st412
              have gn_b412 : n0 ≤ b412 := Nat.le_trans Z386 (Nat.le_of_eq g412.symm)
              have sz_b412 : h0.size ≤ b412 := Nat.le_trans K384.1 (Nat.le_of_eq g412.symm)
              have ne_b382_b412 : b382 ≠ b412 := Nat.ne_of_lt (Nat.lt_of_lt_of_le f383.lt (Nat.le_of_eq g412.symm))
              have f413 := f383.ext E412
              have K414 : Keep h0 h412 [] := K384.ext E412
              have O415 := O385.ext E412
              have Z416 := Nat.le_trans Z386 E412.1
              have hk417 := Nat.le_trans hk387 E412.1
              have f418 : Fld Z h412 b412 "java/lang/Throwable" "cause" "Ljava/lang/Throwable;" .null := D412 (Or.inl (hw _ (List.mem_of_getElem? (i := 58) rfl))) (ty := (.object "java/lang/Throwable")) (by decide)
              have f419 : Fld Z h412 b412 "java/lang/Throwable" "stackTrace" "[Ljava/lang/StackTraceElement;" .null := D412 (Or.inl (hw _ (List.mem_of_getElem? (i := 61) rfl))) (ty := (.array (.object "java/lang/StackTraceElement"))) (by decide)
              have f420 : Fld Z h412 b412 "java/lang/Throwable" "suppressedExceptions" "Ljava/util/List;" .null := D412 (Or.inl (hw _ (List.mem_of_getElem? (i := 64) rfl))) (ty := (.object "java/util/List")) (by decide)
              have f421 : Fld Z h412 b412 "java/lang/Throwable" "detailMessage" "Ljava/lang/String;" .null := D412 (Or.inl (hw _ (List.mem_of_getElem? (i := 88) rfl))) (ty := (.object "java/lang/String")) (by decide)
              have f422 : Fld Z h412 b412 "java/lang/Throwable" "backtrace" "Ljava/lang/Object;" .null := D412 (Or.inl (hw _ (List.mem_of_getElem? (i := 89) rfl))) (ty := (.object "java/lang/Object")) (by decide)
              have f423 : Fld Z h412 b412 "java/lang/Throwable" "depth" "I" (.int (0 : Int32)) := D412 (Or.inl (hw _ (List.mem_of_getElem? (i := 90) rfl))) (ty := .int) (by decide)
              have f424 : Fld Z h412 b412 "com/example/buzon/buzon/engine/ApiException" "error" "Lcom/example/buzon/buzon/engine/ApiError;" .null := D412 (Or.inr (hw _ (List.mem_of_getElem? (i := 94) rfl))) (ty := (.object "com/example/buzon/buzon/engine/ApiError")) (by decide)
              refine own_by (T' := T412) (g' := (mkF m 74 #[.val (.int p0_0), .val (.int p0_1), .val (.int i258), .val (.int i261), .val (.int i264), .val (.ref b382), .val .null, .unset] [(.ref b412)])) st412 ?_
              refine own_by (T' := T412) (g' := (mkF m 82 #[.val (.int p0_0), .val (.int p0_1), .val (.int i258), .val (.int i261), .val (.int i264), .val (.ref b382), .val .null, .unset] [(.int ((p0_0 &&& (255 : Int32)).toUInt32.toUInt16.toUInt32.toInt32)), .null, (.ref b412), (.ref b412)])) (fun t k => ?_) ?_
              · show Steps p.tables e below (T412.setTop (mkF m 74 #[.val (.int p0_0), .val (.int p0_1), .val (.int i258), .val (.int i261), .val (.int i264), .val (.ref b382), .val .null, .unset] [(.ref b412)])) t
                refine XS.dup X412.here hx rfl (hb hby at_74) rfl rfl ?_
                show Steps p.tables e below (T412.setTop (mkF m 75 #[.val (.int p0_0), .val (.int p0_1), .val (.int i258), .val (.int i261), .val (.int i264), .val (.ref b382), .val .null, .unset] [(.ref b412), (.ref b412)])) t
                refine XS.aconstNull X412.here hx rfl (hb hby at_75) ?_
                show Steps p.tables e below (T412.setTop (mkF m 76 #[.val (.int p0_0), .val (.int p0_1), .val (.int i258), .val (.int i261), .val (.int i264), .val (.ref b382), .val .null, .unset] [.null, (.ref b412), (.ref b412)])) t
                refine XS.iloadN X412.here hx rfl (hb hby at_76) rfl ?_
                show Steps p.tables e below (T412.setTop (mkF m 77 #[.val (.int p0_0), .val (.int p0_1), .val (.int i258), .val (.int i261), .val (.int i264), .val (.ref b382), .val .null, .unset] [(.int p0_0), .null, (.ref b412), (.ref b412)])) t
                refine XS.sipush X412.here hx rfl (hb hby at_77) ?_
                show Steps p.tables e below (T412.setTop (mkF m 80 #[.val (.int p0_0), .val (.int p0_1), .val (.int i258), .val (.int i261), .val (.int i264), .val (.ref b382), .val .null, .unset] [(.int (255 : Int32)), (.int p0_0), .null, (.ref b412), (.ref b412)])) t
                refine XS.iand X412.here hx rfl (hb hby at_80) rfl ?_
                show Steps p.tables e below (T412.setTop (mkF m 81 #[.val (.int p0_0), .val (.int p0_1), .val (.int i258), .val (.int i261), .val (.int i264), .val (.ref b382), .val .null, .unset] [(.int (p0_0 &&& (255 : Int32))), .null, (.ref b412), (.ref b412)])) t
                refine XS.i2c X412.here hx rfl (hb hby at_81) rfl ?_
                show Steps p.tables e below (T412.setTop (mkF m 82 #[.val (.int p0_0), .val (.int p0_1), .val (.int i258), .val (.int i261), .val (.int i264), .val (.ref b382), .val .null, .unset] [(.int ((p0_0 &&& (255 : Int32)).toUInt32.toUInt16.toUInt32.toInt32)), .null, (.ref b412), (.ref b412)])) t
                exact k
              obtain ⟨v425, _, ⟨T425, L425, k425, n425⟩, -, X425, ⟨Lc425, hQ425, l425, y425, z425⟩, st425⟩ := Jvm.LawKit.callS X412 hx (y := (⟨"java/lang/String", "valueOf", "(C)Ljava/lang/String;"⟩ : MethodName)) hown (mvT hZ (hw _ (List.mem_of_getElem? (i := 10) rfl))) (mvT hZ (hw _ (List.mem_of_getElem? (i := 11) rfl))) (mvT hZ (hw _ (List.mem_of_getElem? (i := 12) rfl))) (mvT hZ (hw _ (List.mem_of_getElem? (i := 13) rfl))) (by decide) (backOf (W := 3) (own_rm2 l Z a0 hw [] ((p0_0 &&& (255 : Int32)).toUInt32.toUInt16.toUInt32.toInt32) cs h412 n0 Z416 O415 (own_enc p0_0) SC HCS) hZ (hw _ (List.mem_of_getElem? (i := 13) rfl)) (hw _ (List.mem_of_getElem? (i := 12) rfl)) (by decide) (by decide)) (g := (mkF m 82 #[.val (.int p0_0), .val (.int p0_1), .val (.int i258), .val (.int i261), .val (.int i264), .val (.ref b382), .val .null, .unset] [(.int ((p0_0 &&& (255 : Int32)).toUInt32.toUInt16.toUInt32.toInt32)), .null, (.ref b412), (.ref b412)])) rfl (by rw [hml]; rfl) (argsL := [(.int ((p0_0 &&& (255 : Int32)).toUInt32.toUInt16.toUInt32.toInt32))]) (rest := [.null, (.ref b412), (.ref b412)]) (lenOf pd__C_Ljava_lang_String_ rfl) rfl (by show 2 * 0 + _ ≤ _; exact Nat.le_of_eq rfl) (hb hby at_82) (fun _ _ => ⟨rfl, e412, (by decide : 2 + 2 ≤ _), (by decide : 8 + 5 ≤ _)⟩)
              dsimp only [Pt.U, Pt.locs, Pt.cells, Pt.slots] at X425 l425 y425 z425 st425 hQ425
              subst y425 z425
              obtain ⟨b425, rfl, M425, K425, sz425, gn425, f426, f427⟩ := hQ425
              have f428 := f413.keep K425
              have f429 := A412.keep K425
              have f430 := (show Unt h412 b412 from U412).keep K425 nin0
              have f431 := f418.keep K425 nin0
              have f432 := f419.keep K425 nin0
              have f433 := f420.keep K425 nin0
              have f434 := f421.keep K425 nin0
              have f435 := f422.keep K425 nin0
              have f436 := f423.keep K425 nin0
              have f437 := f424.keep K425 nin0
              have K438 : Keep h0 T425.heap [] := K414.trans K425 all0
              have O439 := O415.keep K425 all0
              have Z440 := Nat.le_trans Z416 K425.1
              have hk441 := Nat.le_trans hk417 K425.1
              have sz_b425 : h0.size ≤ b425 := Nat.le_trans K414.1 sz425
              have ne_b382_b425 : b382 ≠ b425 := Nat.ne_of_lt (Nat.lt_of_lt_of_le f413.lt sz425)
              have ne_b412_b425 : b412 ≠ b425 := Nat.ne_of_lt (Nat.lt_of_lt_of_le f424.lt sz425)
              have N442 : Fr n0 L425 := by rw [l425]; exact Fr.app N388 M425
              refine own_by (T' := T425) (g' := (mkF m 85 #[.val (.int p0_0), .val (.int p0_1), .val (.int i258), .val (.int i261), .val (.int i264), .val (.ref b382), .val .null, .unset] [(.ref b425), .null, (.ref b412), (.ref b412)])) st425 ?_
              obtain ⟨v443, _, ⟨T443, L443, k443, n443⟩, -, X443, ⟨Lc443, hQ443, l443, y443, z443⟩, st443⟩ := X425.specialBack hx (y := (⟨"com/example/buzon/buzon/engine/ApiException", "<init>", "(Lcom/example/buzon/buzon/engine/ApiError;Ljava/lang/String;)V"⟩ : MethodName)) rfl hown (mvT hZ (hw _ (List.mem_of_getElem? (i := 36) rfl))) (mvT hZ (hw _ (List.mem_of_getElem? (i := 37) rfl))) (mvT hZ (hw _ (List.mem_of_getElem? (i := 38) rfl))) (by decide) (backOfKL (W := 1) (own_rm7 l Z a0 hw [] b412 .null (.ref b425) ua sa T425.heap n0 Z440 O439 rfl rfl f430 f429 gn_b412 f435 hl SUS SSS) hZ (hw _ (List.mem_of_getElem? (i := 38) rfl)) (hw _ (List.mem_of_getElem? (i := 9) rfl)) (by decide) (by decide) (hTK.alikeC hS0.1.alike) (hBelow.alikeC hS0.1.alike)) (g := (mkF m 85 #[.val (.int p0_0), .val (.int p0_1), .val (.int i258), .val (.int i261), .val (.int i264), .val (.ref b382), .val .null, .unset] [(.ref b425), .null, (.ref b412), (.ref b412)])) rfl (by rw [hml]; rfl) (Steps.refl _) (a := b412) (argsL := [.null, (.ref b425)]) (rest := [(.ref b412)]) (lenOf pd__Lcom_example_buzon_buzon_engine_ApiError_Ljava_lang_String__V rfl) rfl (by show 2 * 0 + _ ≤ _; exact Nat.le_of_eq rfl) (hb hby at_85) (fun _ _ => ⟨rfl, rfl, (by decide : 4 + 1 ≤ _), (by decide : 13 + 2752 ≤ _)⟩)
              dsimp only [Pt.U, Pt.locs, Pt.cells, Pt.slots] at X443 l443 y443 z443 st443 hQ443
              subst y443 z443
              obtain ⟨rfl, M443, K443, f444, f445⟩ := hQ443
              have f446 := f428.keep K443
              have f447 := f429.keep K443
              have f448 := f426.keep K443
              have f449 := f427.keep K443 (ninS (Ne.symm ne_b412_b425) nin0)
              have K450 : Keep h0 T443.heap [] := K438.trans K443 (allS (Or.inr sz_b412) all0)
              have O451 := O439.keep K443 (allS gn_b412 all0)
              have Z452 := Nat.le_trans Z440 K443.1
              have hk453 := Nat.le_trans hk441 K443.1
              have N454 : Fr n0 L443 := by rw [l443]; exact Fr.app N442 M443
              refine own_via (T' := T443) (g' := (mkF m 88 #[.val (.int p0_0), .val (.int p0_1), .val (.int i258), .val (.int i261), .val (.int i264), .val (.ref b382), .val .null, .unset] [(.ref b412)])) st443 ?_
              refine own_by (T' := T443) (g' := (mkF m 90 #[.val (.int p0_0), .val (.int p0_1), .val (.int i258), .val (.int i261), .val (.int i264), .val (.ref b382), .val (.ref b412), .unset] [])) (fun t k => ?_) ?_
              · show Steps p.tables e below (T443.setTop (mkF m 88 #[.val (.int p0_0), .val (.int p0_1), .val (.int i258), .val (.int i261), .val (.int i264), .val (.ref b382), .val .null, .unset] [(.ref b412)])) t
                refine XS.astore X443.here hx rfl (hb hby at_88) rfl rfl (l' := #[.val (.int p0_0), .val (.int p0_1), .val (.int i258), .val (.int i261), .val (.int i264), .val (.ref b382), .val (.ref b412), .unset]) rfl ?_
                show Steps p.tables e below (T443.setTop (mkF m 90 #[.val (.int p0_0), .val (.int p0_1), .val (.int i258), .val (.int i261), .val (.int i264), .val (.ref b382), .val (.ref b412), .unset] [])) t
                exact k
              obtain ⟨T455, h455, X455, e455, E455, A455, D455, U455, st455⟩ := newO X443 hx hZ hown (hw _ (List.mem_of_getElem? (i := 95) rfl)) (hw _ (List.mem_of_getElem? (i := 96) rfl)) (hw _ (List.mem_of_getElem? (i := 97) rfl)) rfl (g := (mkF m 90 #[.val (.int p0_0), .val (.int p0_1), .val (.int i258), .val (.int i261), .val (.int i264), .val (.ref b382), .val (.ref b412), .unset] [])) rfl (hb hby at_90) (by decide) (by decide)
              obtain ⟨b455, g455⟩ : ∃ z, z = T443.heap.size := ⟨_, rfl⟩
              rw [← g455] at A455 D455 U455 st455
              have gn_b455 : n0 ≤ b455 := Nat.le_trans Z452 (Nat.le_of_eq g455.symm)
              have sz_b455 : h0.size ≤ b455 := Nat.le_trans K450.1 (Nat.le_of_eq g455.symm)
              have ne_b382_b455 : b382 ≠ b455 := Nat.ne_of_lt (Nat.lt_of_lt_of_le f446.lt (Nat.le_of_eq g455.symm))
              have ne_b412_b455 : b412 ≠ b455 := Nat.ne_of_lt (Nat.lt_of_lt_of_le f444.lt (Nat.le_of_eq g455.symm))
              have ne_b425_b455 : b425 ≠ b455 := Nat.ne_of_lt (Nat.lt_of_lt_of_le f449.lt (Nat.le_of_eq g455.symm))
              have f456 := f446.ext E455
              have f457 := f444.ext E455
              have f458 := f448.ext E455
              have f459 := f449.ext E455
              have f460 := f445.ext E455
              have K461 : Keep h0 h455 [] := K450.ext E455
              have O462 := O451.ext E455
              have Z463 := Nat.le_trans Z452 E455.1
              have hk464 := Nat.le_trans hk453 E455.1
              have f465 : Fld Z h455 b455 "com/example/buzon/buzon/engine/Outcome" "result" "Ljava/lang/Object;" .null := D455 (Or.inr (hw _ (List.mem_of_getElem? (i := 108) rfl))) (ty := (.object "java/lang/Object")) (by decide)
              have f466 : Fld Z h455 b455 "com/example/buzon/buzon/engine/Outcome" "failure" "Lcom/example/buzon/buzon/engine/ApiException;" .null := D455 (Or.inr (hw _ (List.mem_of_getElem? (i := 110) rfl))) (ty := (.object "com/example/buzon/buzon/engine/ApiException")) (by decide)
              refine own_by (T' := T455) (g' := (mkF m 93 #[.val (.int p0_0), .val (.int p0_1), .val (.int i258), .val (.int i261), .val (.int i264), .val (.ref b382), .val (.ref b412), .unset] [(.ref b455)])) st455 ?_
              refine own_by (T' := T455) (g' := (mkF m 98 #[.val (.int p0_0), .val (.int p0_1), .val (.int i258), .val (.int i261), .val (.int i264), .val (.ref b382), .val (.ref b412), .unset] [(.ref b412), (.ref b382), (.ref b455), (.ref b455)])) (fun t k => ?_) ?_
              · show Steps p.tables e below (T455.setTop (mkF m 93 #[.val (.int p0_0), .val (.int p0_1), .val (.int i258), .val (.int i261), .val (.int i264), .val (.ref b382), .val (.ref b412), .unset] [(.ref b455)])) t
                refine XS.dup X455.here hx rfl (hb hby at_93) rfl rfl ?_
                show Steps p.tables e below (T455.setTop (mkF m 94 #[.val (.int p0_0), .val (.int p0_1), .val (.int i258), .val (.int i261), .val (.int i264), .val (.ref b382), .val (.ref b412), .unset] [(.ref b455), (.ref b455)])) t
                refine XS.aload X455.here hx rfl (hb hby at_94) rfl rfl ?_
                show Steps p.tables e below (T455.setTop (mkF m 96 #[.val (.int p0_0), .val (.int p0_1), .val (.int i258), .val (.int i261), .val (.int i264), .val (.ref b382), .val (.ref b412), .unset] [(.ref b382), (.ref b455), (.ref b455)])) t
                refine XS.aload X455.here hx rfl (hb hby at_96) rfl rfl ?_
                show Steps p.tables e below (T455.setTop (mkF m 98 #[.val (.int p0_0), .val (.int p0_1), .val (.int i258), .val (.int i261), .val (.int i264), .val (.ref b382), .val (.ref b412), .unset] [(.ref b412), (.ref b382), (.ref b455), (.ref b455)])) t
                exact k
              obtain ⟨v467, _, ⟨T467, L467, k467, n467⟩, -, X467, ⟨Lc467, hQ467, l467, y467, z467⟩, st467⟩ := X455.specialBack hx (y := (⟨"com/example/buzon/buzon/engine/Outcome", "<init>", "(Ljava/lang/Object;Lcom/example/buzon/buzon/engine/ApiException;)V"⟩ : MethodName)) rfl hown (mvT hZ (hw _ (List.mem_of_getElem? (i := 98) rfl))) (mvT hZ (hw _ (List.mem_of_getElem? (i := 99) rfl))) (mvT hZ (hw _ (List.mem_of_getElem? (i := 100) rfl))) (by decide) (backOf (W := 1) (own_rm13 l Z a0 hw [] b455 (.ref b382) (.ref b412) .null .null h455 n0 Z463 rfl rfl A455 f465 gn_b455 f466) hZ (hw _ (List.mem_of_getElem? (i := 100) rfl)) (hw _ (List.mem_of_getElem? (i := 97) rfl)) (by decide) (by decide)) (g := (mkF m 98 #[.val (.int p0_0), .val (.int p0_1), .val (.int i258), .val (.int i261), .val (.int i264), .val (.ref b382), .val (.ref b412), .unset] [(.ref b412), (.ref b382), (.ref b455), (.ref b455)])) rfl (by rw [hml]; rfl) (Steps.refl _) (a := b455) (argsL := [(.ref b382), (.ref b412)]) (rest := [(.ref b455)]) (lenOf pd__Ljava_lang_Object_Lcom_example_buzon_buzon_engine_ApiException__V rfl) rfl (by show 2 * 0 + _ ≤ _; exact Nat.le_of_eq rfl) (hb hby at_98) (fun _ _ => ⟨rfl, e455, (by decide : 6 + 0 ≤ _), (by decide : 2767 + 0 ≤ _)⟩)
              dsimp only [Pt.U, Pt.locs, Pt.cells, Pt.slots] at X467 l467 y467 z467 st467 hQ467
              subst y467 z467
              obtain ⟨rfl, M467, K467, f468, f469, f470⟩ := hQ467
              have f471 := f456.keep K467
              have f472 := f457.keep K467
              have f473 := f458.keep K467
              have f474 := f459.keep K467 (ninS ne_b425_b455 nin0)
              have f475 := f460.keep K467 (ninS ne_b412_b455 nin0)
              have f476 := A455.keep K467
              have K477 : Keep h0 T467.heap [] := K461.trans K467 (allS (Or.inr sz_b455) all0)
              have O478 := O462.keep K467 (allS gn_b455 all0)
              have Z479 := Nat.le_trans Z463 K467.1
              have hk480 := Nat.le_trans hk464 K467.1
              have N481 : Fr n0 L467 := by rw [l467]; exact Fr.app N454 M467
              refine own_via (T' := T467) (g' := (mkF m 101 #[.val (.int p0_0), .val (.int p0_1), .val (.int i258), .val (.int i261), .val (.int i264), .val (.ref b382), .val (.ref b412), .unset] [(.ref b455)])) st467 ?_
              refine own_by (T' := T467) (g' := (mkF m 105 #[.val (.int p0_0), .val (.int p0_1), .val (.int i258), .val (.int i261), .val (.int i264), .val (.ref b382), .val (.ref b412), .val (.ref b455)] [(.ref b455)])) (fun t k => ?_) ?_
              · show Steps p.tables e below (T467.setTop (mkF m 101 #[.val (.int p0_0), .val (.int p0_1), .val (.int i258), .val (.int i261), .val (.int i264), .val (.ref b382), .val (.ref b412), .unset] [(.ref b455)])) t
                refine XS.astore X467.here hx rfl (hb hby at_101) rfl rfl (l' := #[.val (.int p0_0), .val (.int p0_1), .val (.int i258), .val (.int i261), .val (.int i264), .val (.ref b382), .val (.ref b412), .val (.ref b455)]) rfl ?_
                show Steps p.tables e below (T467.setTop (mkF m 103 #[.val (.int p0_0), .val (.int p0_1), .val (.int i258), .val (.int i261), .val (.int i264), .val (.ref b382), .val (.ref b412), .val (.ref b455)] [])) t
                refine XS.aload X467.here hx rfl (hb hby at_103) rfl rfl ?_
                show Steps p.tables e below (T467.setTop (mkF m 105 #[.val (.int p0_0), .val (.int p0_1), .val (.int i258), .val (.int i261), .val (.int i264), .val (.ref b382), .val (.ref b412), .val (.ref b455)] [(.ref b455)])) t
                exact k
              obtain ⟨cq482, kq482, q482a, q482b, q482c⟩ := isOf hZ rfl f468
              obtain ⟨v482, _, ⟨T482, L482, k482, n482⟩, -, X482, ⟨Lc482, hQ482, l482, y482, z482⟩, st482⟩ := X467.virtualBack hx (y := (⟨"com/example/buzon/buzon/engine/Outcome", "isSuccess", "()Z"⟩ : MethodName)) (z := (⟨"com/example/buzon/buzon/engine/Outcome", "isSuccess", "()Z"⟩ : MethodName)) hown (mvT hZ (hw _ (List.mem_of_getElem? (i := 111) rfl))) (mvT hZ (hw _ (List.mem_of_getElem? (i := 112) rfl))) (notFace_of_selects (args := #[]) (mvT hZ (hw _ (List.mem_of_getElem? (i := 114) rfl)))) (mvT hZ (hw _ (List.mem_of_getElem? (i := 114) rfl))) (mvT hZ (hw _ (List.mem_of_getElem? (i := 113) rfl))) (by decide) (backOf (W := 0) (own_rm15 l Z a0 hw [] b455 b412 T467.heap n0 Z479 f470) hZ (hw _ (List.mem_of_getElem? (i := 115) rfl)) (hw _ (List.mem_of_getElem? (i := 97) rfl)) (by decide) (by decide)) q482a q482c (g := (mkF m 105 #[.val (.int p0_0), .val (.int p0_1), .val (.int i258), .val (.int i261), .val (.int i264), .val (.ref b382), .val (.ref b412), .val (.ref b455)] [(.ref b455)])) rfl (by rw [hml]; rfl) (Steps.refl _) (argsL := []) (rest := []) (lenOf pd___Z rfl) rfl (by show 2 * 0 + _ ≤ _; exact Nat.le_of_eq rfl) (hb hby at_105) (fun _ _ => ⟨rfl, rfl, (by decide : 6 + 0 ≤ _), (by decide : 2767 + 0 ≤ _)⟩)
              dsimp only [Pt.U, Pt.locs, Pt.cells, Pt.slots] at X482 l482 y482 z482 st482 hQ482
              subst y482 z482
              obtain ⟨rfl, M482, e482⟩ := hQ482
              have N483 : Fr n0 L482 := by rw [l482]; exact Fr.app N481 M482
              refine own_via (T' := T482) (g' := (mkF m 108 #[.val (.int p0_0), .val (.int p0_1), .val (.int i258), .val (.int i261), .val (.int i264), .val (.ref b382), .val (.ref b412), .val (.ref b455)] [(.int (0 : Int32))])) st482 ?_
              refine own_by (T' := T482) (g' := (mkF m 125 #[.val (.int p0_0), .val (.int p0_1), .val (.int i258), .val (.int i261), .val (.int i264), .val (.ref b382), .val (.ref b412), .val (.ref b455)] [(.int (1 : Int32))])) (fun t k => ?_) ?_
              · show Steps p.tables e below (T482.setTop (mkF m 108 #[.val (.int p0_0), .val (.int p0_1), .val (.int i258), .val (.int i261), .val (.int i264), .val (.ref b382), .val (.ref b412), .val (.ref b455)] [(.int (0 : Int32))])) t
                refine XS.iloadN X482.here hx rfl (hb hby at_108) rfl ?_
                show Steps p.tables e below (T482.setTop (mkF m 109 #[.val (.int p0_0), .val (.int p0_1), .val (.int i258), .val (.int i261), .val (.int i264), .val (.ref b382), .val (.ref b412), .val (.ref b455)] [(.int i261), (.int (0 : Int32))])) t
                refine XS.ifYes X482.here hx rfl (pc0 := 109) (pc' := 116) rfl (hb hby at_109) rfl ((if0 _ _).trans (feq hc389).2) (by decide) (by decide) ?_
                show Steps p.tables e below (T482.setTop (mkF m 116 #[.val (.int p0_0), .val (.int p0_1), .val (.int i258), .val (.int i261), .val (.int i264), .val (.ref b382), .val (.ref b412), .val (.ref b455)] [(.int (0 : Int32))])) t
                refine XS.iconst X482.here hx rfl (hb hby at_116) ?_
                show Steps p.tables e below (T482.setTop (mkF m 117 #[.val (.int p0_0), .val (.int p0_1), .val (.int i258), .val (.int i261), .val (.int i264), .val (.ref b382), .val (.ref b412), .val (.ref b455)] [(.int (0 : Int32)), (.int (0 : Int32))])) t
                refine XS.icmpNo X482.here hx rfl (hb hby at_117) rfl (teq (by decide : (0 : Int32) = (0 : Int32))).2 ?_
                show Steps p.tables e below (T482.setTop (mkF m 120 #[.val (.int p0_0), .val (.int p0_1), .val (.int i258), .val (.int i261), .val (.int i264), .val (.ref b382), .val (.ref b412), .val (.ref b455)] [])) t
                refine XS.iconst X482.here hx rfl (hb hby at_120) ?_
                show Steps p.tables e below (T482.setTop (mkF m 121 #[.val (.int p0_0), .val (.int p0_1), .val (.int i258), .val (.int i261), .val (.int i264), .val (.ref b382), .val (.ref b412), .val (.ref b455)] [(.int (1 : Int32))])) t
                refine XS.goto X482.here hx rfl (pc0 := 121) (pc' := 125) rfl (hb hby at_121) (by decide) (by decide) ?_
                show Steps p.tables e below (T482.setTop (mkF m 125 #[.val (.int p0_0), .val (.int p0_1), .val (.int i258), .val (.int i261), .val (.int i264), .val (.ref b382), .val (.ref b412), .val (.ref b455)] [(.int (1 : Int32))])) t
                exact k
              exact own_retNW X482 hZ (own_ew hw) hS0 hk480 e482 (own_ch0 (Z := Z) (vm := s.vm) K477.1) hh hx (t := .boolean) Bd.returns (by simp) (hb hby at_125) hlk (by decide) (by decide) ⟨rfl, N483⟩
            · skip
              refine own_by (T' := T382) (g' := (mkF m 63 #[.val (.int p0_0), .val (.int p0_1), .val (.int i258), .val (.int i261), .val (.int i264), .val (.ref b382), .val .null, .unset] [])) (fun t k => ?_) ?_
              · show Steps p.tables e below (T382.setTop (mkF m 60 #[.val (.int p0_0), .val (.int p0_1), .val (.int i258), .val (.int i261), .val (.int i264), .val (.ref b382), .val .null, .unset] [(.int i264)])) t
                refine XS.ifNo X382.here hx rfl (hb hby at_60) rfl ((if0 _ _).trans (feq hc411).1) ?_
                show Steps p.tables e below (T382.setTop (mkF m 63 #[.val (.int p0_0), .val (.int p0_1), .val (.int i258), .val (.int i261), .val (.int i264), .val (.ref b382), .val .null, .unset] [])) t
                exact k
              obtain ⟨v484, _, ⟨T484, L484, k484, n484⟩, -, X484, hS484', hk484', ⟨Lc484, hQ484, l484, y484, z484, CR484⟩, st484⟩ := callSS X382 hx (y := (⟨"com/example/buzon/buzon/engine/ApiException", "nonExistentQueue", "()Lcom/example/buzon/buzon/engine/ApiException;"⟩ : MethodName)) hown (mvT hZ (hw _ (List.mem_of_getElem? (i := 116) rfl))) (mvT hZ (hw _ (List.mem_of_getElem? (i := 117) rfl))) (mvT hZ (hw _ (List.mem_of_getElem? (i := 9) rfl))) (mvT hZ (hw _ (List.mem_of_getElem? (i := 118) rfl))) (by decide) (backOfSKH (W := 0) (own_rm16 l Z a0 hw [] wNON_EXISTENT_QUEUE ua sa T382.heap n0 Z386 O385 EN hl SUS SSS) hZ (hw _ (List.mem_of_getElem? (i := 118) rfl)) (hw _ (List.mem_of_getElem? (i := 9) rfl)) (by decide) (by decide) (own_ew hw) (own_ch0 (Z := Z) (vm := s.vm) K384.1).1 (hTK.alikeC hS0.1.alike) (hBelow.alikeC hS0.1.alike)) (g := (mkF m 63 #[.val (.int p0_0), .val (.int p0_1), .val (.int i258), .val (.int i261), .val (.int i264), .val (.ref b382), .val .null, .unset] [])) rfl (by rw [hml]; rfl) (argsL := []) (rest := []) (lenOf pd___Lcom_example_buzon_buzon_engine_ApiException_ rfl) rfl (by show 2 * 0 + _ ≤ _; exact Nat.le_of_eq rfl) (hb hby at_63) (fun _ _ => ⟨rfl, rfl, (by decide : 1 + 4 ≤ _), (by decide : 1 + 2899 ≤ _)⟩)
              dsimp only [Pt.U, Pt.locs, Pt.cells, Pt.slots] at X484 l484 y484 z484 st484 hQ484
              subst y484 z484
              obtain ⟨X484, hS484, hZ, hown⟩ := rebS hS0 (show _ ≤ T382.heap.size from hk387) X484 hS484' hk484' hZ hown
              obtain ⟨b484, rfl, M484, K484, sz484, gn484, f485⟩ := hQ484
              have f486 := f383.keep K484
              have K487 : Keep h0 T484.heap [] := K384.trans K484 all0
              have O488 := O385.keep K484 all0
              have Z489 := Nat.le_trans Z386 K484.1
              have sz_b484 : h0.size ≤ b484 := Nat.le_trans K384.1 sz484
              have ne_b382_b484 : b382 ≠ b484 := Nat.ne_of_lt (Nat.lt_of_lt_of_le f383.lt sz484)
              have N490 : Fr n0 L484 := by rw [l484]; exact Fr.app N388 M484
              refine own_via (T' := T484) (g' := (mkF m 66 #[.val (.int p0_0), .val (.int p0_1), .val (.int i258), .val (.int i261), .val (.int i264), .val (.ref b382), .val .null, .unset] [(.ref b484)])) st484 ?_
              refine own_by (T' := T484) (g' := (mkF m 90 #[.val (.int p0_0), .val (.int p0_1), .val (.int i258), .val (.int i261), .val (.int i264), .val (.ref b382), .val (.ref b484), .unset] [])) (fun t k => ?_) ?_
              · show Steps p.tables e below (T484.setTop (mkF m 66 #[.val (.int p0_0), .val (.int p0_1), .val (.int i258), .val (.int i261), .val (.int i264), .val (.ref b382), .val .null, .unset] [(.ref b484)])) t
                refine XS.astore X484.here hx rfl (hb hby at_66) rfl rfl (l' := #[.val (.int p0_0), .val (.int p0_1), .val (.int i258), .val (.int i261), .val (.int i264), .val (.ref b382), .val (.ref b484), .unset]) rfl ?_
                show Steps p.tables e below (T484.setTop (mkF m 68 #[.val (.int p0_0), .val (.int p0_1), .val (.int i258), .val (.int i261), .val (.int i264), .val (.ref b382), .val (.ref b484), .unset] [])) t
                refine XS.goto X484.here hx rfl (pc0 := 68) (pc' := 90) rfl (hb hby at_68) (by decide) (by decide) ?_
                show Steps p.tables e below (T484.setTop (mkF m 90 #[.val (.int p0_0), .val (.int p0_1), .val (.int i258), .val (.int i261), .val (.int i264), .val (.ref b382), .val (.ref b484), .unset] [])) t
                exact k
              obtain ⟨T491, h491, X491, e491, E491, A491, D491, U491, st491⟩ := newO X484 hx hZ hown (hw _ (List.mem_of_getElem? (i := 95) rfl)) (hw _ (List.mem_of_getElem? (i := 96) rfl)) (hw _ (List.mem_of_getElem? (i := 97) rfl)) rfl (g := (mkF m 90 #[.val (.int p0_0), .val (.int p0_1), .val (.int i258), .val (.int i261), .val (.int i264), .val (.ref b382), .val (.ref b484), .unset] [])) rfl (hb hby at_90) (by decide) (by decide)
              obtain ⟨b491, g491⟩ : ∃ z, z = T484.heap.size := ⟨_, rfl⟩
              rw [← g491] at A491 D491 U491 st491
              have gn_b491 : n0 ≤ b491 := Nat.le_trans Z489 (Nat.le_of_eq g491.symm)
              have sz_b491 : h0.size ≤ b491 := Nat.le_trans K487.1 (Nat.le_of_eq g491.symm)
              have ne_b382_b491 : b382 ≠ b491 := Nat.ne_of_lt (Nat.lt_of_lt_of_le f486.lt (Nat.le_of_eq g491.symm))
              have ne_b484_b491 : b484 ≠ b491 := Nat.ne_of_lt (Nat.lt_of_lt_of_le f485.lt (Nat.le_of_eq g491.symm))
              have f492 := f486.ext E491
              have f493 := f485.ext E491
              have K494 : Keep h0 h491 [] := K487.ext E491
              have O495 := O488.ext E491
              have Z496 := Nat.le_trans Z489 E491.1
              have hk497 := Nat.le_trans (Nat.le_refl _) E491.1
              have f498 : Fld Z h491 b491 "com/example/buzon/buzon/engine/Outcome" "result" "Ljava/lang/Object;" .null := D491 (Or.inr (hw _ (List.mem_of_getElem? (i := 108) rfl))) (ty := (.object "java/lang/Object")) (by decide)
              have f499 : Fld Z h491 b491 "com/example/buzon/buzon/engine/Outcome" "failure" "Lcom/example/buzon/buzon/engine/ApiException;" .null := D491 (Or.inr (hw _ (List.mem_of_getElem? (i := 110) rfl))) (ty := (.object "com/example/buzon/buzon/engine/ApiException")) (by decide)
              refine own_by (T' := T491) (g' := (mkF m 93 #[.val (.int p0_0), .val (.int p0_1), .val (.int i258), .val (.int i261), .val (.int i264), .val (.ref b382), .val (.ref b484), .unset] [(.ref b491)])) st491 ?_
              refine own_by (T' := T491) (g' := (mkF m 98 #[.val (.int p0_0), .val (.int p0_1), .val (.int i258), .val (.int i261), .val (.int i264), .val (.ref b382), .val (.ref b484), .unset] [(.ref b484), (.ref b382), (.ref b491), (.ref b491)])) (fun t k => ?_) ?_
              · show Steps p.tables e below (T491.setTop (mkF m 93 #[.val (.int p0_0), .val (.int p0_1), .val (.int i258), .val (.int i261), .val (.int i264), .val (.ref b382), .val (.ref b484), .unset] [(.ref b491)])) t
                refine XS.dup X491.here hx rfl (hb hby at_93) rfl rfl ?_
                show Steps p.tables e below (T491.setTop (mkF m 94 #[.val (.int p0_0), .val (.int p0_1), .val (.int i258), .val (.int i261), .val (.int i264), .val (.ref b382), .val (.ref b484), .unset] [(.ref b491), (.ref b491)])) t
                refine XS.aload X491.here hx rfl (hb hby at_94) rfl rfl ?_
                show Steps p.tables e below (T491.setTop (mkF m 96 #[.val (.int p0_0), .val (.int p0_1), .val (.int i258), .val (.int i261), .val (.int i264), .val (.ref b382), .val (.ref b484), .unset] [(.ref b382), (.ref b491), (.ref b491)])) t
                refine XS.aload X491.here hx rfl (hb hby at_96) rfl rfl ?_
                show Steps p.tables e below (T491.setTop (mkF m 98 #[.val (.int p0_0), .val (.int p0_1), .val (.int i258), .val (.int i261), .val (.int i264), .val (.ref b382), .val (.ref b484), .unset] [(.ref b484), (.ref b382), (.ref b491), (.ref b491)])) t
                exact k
              obtain ⟨v500, _, ⟨T500, L500, k500, n500⟩, -, X500, ⟨Lc500, hQ500, l500, y500, z500⟩, st500⟩ := X491.specialBack hx (y := (⟨"com/example/buzon/buzon/engine/Outcome", "<init>", "(Ljava/lang/Object;Lcom/example/buzon/buzon/engine/ApiException;)V"⟩ : MethodName)) rfl hown (mvT hZ (hw _ (List.mem_of_getElem? (i := 98) rfl))) (mvT hZ (hw _ (List.mem_of_getElem? (i := 99) rfl))) (mvT hZ (hw _ (List.mem_of_getElem? (i := 100) rfl))) (by decide) (backOf (W := 1) (own_rm13 l Z a0 hw [] b491 (.ref b382) (.ref b484) .null .null h491 n0 Z496 rfl rfl A491 f498 gn_b491 f499) hZ (hw _ (List.mem_of_getElem? (i := 100) rfl)) (hw _ (List.mem_of_getElem? (i := 97) rfl)) (by decide) (by decide)) (g := (mkF m 98 #[.val (.int p0_0), .val (.int p0_1), .val (.int i258), .val (.int i261), .val (.int i264), .val (.ref b382), .val (.ref b484), .unset] [(.ref b484), (.ref b382), (.ref b491), (.ref b491)])) rfl (by rw [hml]; rfl) (Steps.refl _) (a := b491) (argsL := [(.ref b382), (.ref b484)]) (rest := [(.ref b491)]) (lenOf pd__Ljava_lang_Object_Lcom_example_buzon_buzon_engine_ApiException__V rfl) rfl (by show 2 * 0 + _ ≤ _; exact Nat.le_of_eq rfl) (hb hby at_98) (fun _ _ => ⟨rfl, e491, (by decide : 6 + 0 ≤ _), (by decide : 2902 + 0 ≤ _)⟩)
              dsimp only [Pt.U, Pt.locs, Pt.cells, Pt.slots] at X500 l500 y500 z500 st500 hQ500
              subst y500 z500
              obtain ⟨rfl, M500, K500, f501, f502, f503⟩ := hQ500
              have f504 := f492.keep K500
              have f505 := f493.keep K500
              have f506 := A491.keep K500
              have K507 : Keep h0 T500.heap [] := K494.trans K500 (allS (Or.inr sz_b491) all0)
              have O508 := O495.keep K500 (allS gn_b491 all0)
              have Z509 := Nat.le_trans Z496 K500.1
              have hk510 := Nat.le_trans hk497 K500.1
              have N511 : Fr n0 L500 := by rw [l500]; exact Fr.app N490 M500
              refine own_via (T' := T500) (g' := (mkF m 101 #[.val (.int p0_0), .val (.int p0_1), .val (.int i258), .val (.int i261), .val (.int i264), .val (.ref b382), .val (.ref b484), .unset] [(.ref b491)])) st500 ?_
              refine own_by (T' := T500) (g' := (mkF m 105 #[.val (.int p0_0), .val (.int p0_1), .val (.int i258), .val (.int i261), .val (.int i264), .val (.ref b382), .val (.ref b484), .val (.ref b491)] [(.ref b491)])) (fun t k => ?_) ?_
              · show Steps p.tables e below (T500.setTop (mkF m 101 #[.val (.int p0_0), .val (.int p0_1), .val (.int i258), .val (.int i261), .val (.int i264), .val (.ref b382), .val (.ref b484), .unset] [(.ref b491)])) t
                refine XS.astore X500.here hx rfl (hb hby at_101) rfl rfl (l' := #[.val (.int p0_0), .val (.int p0_1), .val (.int i258), .val (.int i261), .val (.int i264), .val (.ref b382), .val (.ref b484), .val (.ref b491)]) rfl ?_
                show Steps p.tables e below (T500.setTop (mkF m 103 #[.val (.int p0_0), .val (.int p0_1), .val (.int i258), .val (.int i261), .val (.int i264), .val (.ref b382), .val (.ref b484), .val (.ref b491)] [])) t
                refine XS.aload X500.here hx rfl (hb hby at_103) rfl rfl ?_
                show Steps p.tables e below (T500.setTop (mkF m 105 #[.val (.int p0_0), .val (.int p0_1), .val (.int i258), .val (.int i261), .val (.int i264), .val (.ref b382), .val (.ref b484), .val (.ref b491)] [(.ref b491)])) t
                exact k
              obtain ⟨cq512, kq512, q512a, q512b, q512c⟩ := isOf hZ rfl f501
              obtain ⟨v512, _, ⟨T512, L512, k512, n512⟩, -, X512, ⟨Lc512, hQ512, l512, y512, z512⟩, st512⟩ := X500.virtualBack hx (y := (⟨"com/example/buzon/buzon/engine/Outcome", "isSuccess", "()Z"⟩ : MethodName)) (z := (⟨"com/example/buzon/buzon/engine/Outcome", "isSuccess", "()Z"⟩ : MethodName)) hown (mvT hZ (hw _ (List.mem_of_getElem? (i := 111) rfl))) (mvT hZ (hw _ (List.mem_of_getElem? (i := 112) rfl))) (notFace_of_selects (args := #[]) (mvT hZ (hw _ (List.mem_of_getElem? (i := 114) rfl)))) (mvT hZ (hw _ (List.mem_of_getElem? (i := 114) rfl))) (mvT hZ (hw _ (List.mem_of_getElem? (i := 113) rfl))) (by decide) (backOf (W := 0) (own_rm15 l Z a0 hw [] b491 b484 T500.heap n0 Z509 f503) hZ (hw _ (List.mem_of_getElem? (i := 115) rfl)) (hw _ (List.mem_of_getElem? (i := 97) rfl)) (by decide) (by decide)) q512a q512c (g := (mkF m 105 #[.val (.int p0_0), .val (.int p0_1), .val (.int i258), .val (.int i261), .val (.int i264), .val (.ref b382), .val (.ref b484), .val (.ref b491)] [(.ref b491)])) rfl (by rw [hml]; rfl) (Steps.refl _) (argsL := []) (rest := []) (lenOf pd___Z rfl) rfl (by show 2 * 0 + _ ≤ _; exact Nat.le_of_eq rfl) (hb hby at_105) (fun _ _ => ⟨rfl, rfl, (by decide : 6 + 0 ≤ _), (by decide : 2902 + 0 ≤ _)⟩)
              dsimp only [Pt.U, Pt.locs, Pt.cells, Pt.slots] at X512 l512 y512 z512 st512 hQ512
              subst y512 z512
              obtain ⟨rfl, M512, e512⟩ := hQ512
              have N513 : Fr n0 L512 := by rw [l512]; exact Fr.app N511 M512
              refine own_via (T' := T512) (g' := (mkF m 108 #[.val (.int p0_0), .val (.int p0_1), .val (.int i258), .val (.int i261), .val (.int i264), .val (.ref b382), .val (.ref b484), .val (.ref b491)] [(.int (0 : Int32))])) st512 ?_
              refine own_by (T' := T512) (g' := (mkF m 125 #[.val (.int p0_0), .val (.int p0_1), .val (.int i258), .val (.int i261), .val (.int i264), .val (.ref b382), .val (.ref b484), .val (.ref b491)] [(.int (1 : Int32))])) (fun t k => ?_) ?_
              · show Steps p.tables e below (T512.setTop (mkF m 108 #[.val (.int p0_0), .val (.int p0_1), .val (.int i258), .val (.int i261), .val (.int i264), .val (.ref b382), .val (.ref b484), .val (.ref b491)] [(.int (0 : Int32))])) t
                refine XS.iloadN X512.here hx rfl (hb hby at_108) rfl ?_
                show Steps p.tables e below (T512.setTop (mkF m 109 #[.val (.int p0_0), .val (.int p0_1), .val (.int i258), .val (.int i261), .val (.int i264), .val (.ref b382), .val (.ref b484), .val (.ref b491)] [(.int i261), (.int (0 : Int32))])) t
                refine XS.ifYes X512.here hx rfl (pc0 := 109) (pc' := 116) rfl (hb hby at_109) rfl ((if0 _ _).trans (feq hc389).2) (by decide) (by decide) ?_
                show Steps p.tables e below (T512.setTop (mkF m 116 #[.val (.int p0_0), .val (.int p0_1), .val (.int i258), .val (.int i261), .val (.int i264), .val (.ref b382), .val (.ref b484), .val (.ref b491)] [(.int (0 : Int32))])) t
                refine XS.iconst X512.here hx rfl (hb hby at_116) ?_
                show Steps p.tables e below (T512.setTop (mkF m 117 #[.val (.int p0_0), .val (.int p0_1), .val (.int i258), .val (.int i261), .val (.int i264), .val (.ref b382), .val (.ref b484), .val (.ref b491)] [(.int (0 : Int32)), (.int (0 : Int32))])) t
                refine XS.icmpNo X512.here hx rfl (hb hby at_117) rfl (teq (by decide : (0 : Int32) = (0 : Int32))).2 ?_
                show Steps p.tables e below (T512.setTop (mkF m 120 #[.val (.int p0_0), .val (.int p0_1), .val (.int i258), .val (.int i261), .val (.int i264), .val (.ref b382), .val (.ref b484), .val (.ref b491)] [])) t
                refine XS.iconst X512.here hx rfl (hb hby at_120) ?_
                show Steps p.tables e below (T512.setTop (mkF m 121 #[.val (.int p0_0), .val (.int p0_1), .val (.int i258), .val (.int i261), .val (.int i264), .val (.ref b382), .val (.ref b484), .val (.ref b491)] [(.int (1 : Int32))])) t
                refine XS.goto X512.here hx rfl (pc0 := 121) (pc' := 125) rfl (hb hby at_121) (by decide) (by decide) ?_
                show Steps p.tables e below (T512.setTop (mkF m 125 #[.val (.int p0_0), .val (.int p0_1), .val (.int i258), .val (.int i261), .val (.int i264), .val (.ref b382), .val (.ref b484), .val (.ref b491)] [(.int (1 : Int32))])) t
                exact k
              exact own_retNW X512 hZ (own_ew hw) hS484 hk510 e512 (own_ch0 (Z := Z) (vm := s.vm) K507.1) hh hx (t := .boolean) Bd.returns (by simp) (hb hby at_125) hlk (by decide) (by decide) ⟨rfl, N513⟩
      by_cases hc263 : (p0_1 &&& (4 : Int32)) = (0 : Int32)
      · skip
        refine own_by (T' := T262) (g' := (mkF m 35 #[.val (.int p0_0), .val (.int p0_1), .val (.int i258), .val (.int i261), .unset, .unset, .unset, .unset] [(.int (0 : Int32))])) (fun t k => ?_) ?_
        · show Steps p.tables e below (T262.setTop (mkF m 27 #[.val (.int p0_0), .val (.int p0_1), .val (.int i258), .val (.int i261), .unset, .unset, .unset, .unset] [(.int (p0_1 &&& (4 : Int32)))])) t
          refine XS.ifYes X262.here hx rfl (pc0 := 27) (pc' := 34) rfl (hb hby at_27) rfl ((if0 _ _).trans (teq hc263).1) (by decide) (by decide) ?_
          show Steps p.tables e below (T262.setTop (mkF m 34 #[.val (.int p0_0), .val (.int p0_1), .val (.int i258), .val (.int i261), .unset, .unset, .unset, .unset] [])) t
          refine XS.iconst X262.here hx rfl (hb hby at_34) ?_
          show Steps p.tables e below (T262.setTop (mkF m 35 #[.val (.int p0_0), .val (.int p0_1), .val (.int i258), .val (.int i261), .unset, .unset, .unset, .unset] [(.int (0 : Int32))])) t
          exact k
        exact J0_3 _ _ (0 : Int32) X262 e262 N262
      · skip
        refine own_by (T' := T262) (g' := (mkF m 35 #[.val (.int p0_0), .val (.int p0_1), .val (.int i258), .val (.int i261), .unset, .unset, .unset, .unset] [(.int (1 : Int32))])) (fun t k => ?_) ?_
        · show Steps p.tables e below (T262.setTop (mkF m 27 #[.val (.int p0_0), .val (.int p0_1), .val (.int i258), .val (.int i261), .unset, .unset, .unset, .unset] [(.int (p0_1 &&& (4 : Int32)))])) t
          refine XS.ifNo X262.here hx rfl (hb hby at_27) rfl ((if0 _ _).trans (feq hc263).1) ?_
          show Steps p.tables e below (T262.setTop (mkF m 30 #[.val (.int p0_0), .val (.int p0_1), .val (.int i258), .val (.int i261), .unset, .unset, .unset, .unset] [])) t
          refine XS.iconst X262.here hx rfl (hb hby at_30) ?_
          show Steps p.tables e below (T262.setTop (mkF m 31 #[.val (.int p0_0), .val (.int p0_1), .val (.int i258), .val (.int i261), .unset, .unset, .unset, .unset] [(.int (1 : Int32))])) t
          refine XS.goto X262.here hx rfl (pc0 := 31) (pc' := 35) rfl (hb hby at_31) (by decide) (by decide) ?_
          show Steps p.tables e below (T262.setTop (mkF m 35 #[.val (.int p0_0), .val (.int p0_1), .val (.int i258), .val (.int i261), .unset, .unset, .unset, .unset] [(.int (1 : Int32))])) t
          exact k
        exact J0_3 _ _ (1 : Int32) X262 e262 N262
    by_cases hc260 : (p0_1 &&& (2 : Int32)) = (0 : Int32)
    · skip
      refine own_by (T' := T259) (g' := (mkF m 23 #[.val (.int p0_0), .val (.int p0_1), .val (.int i258), .unset, .unset, .unset, .unset, .unset] [(.int (0 : Int32))])) (fun t k => ?_) ?_
      · show Steps p.tables e below (T259.setTop (mkF m 15 #[.val (.int p0_0), .val (.int p0_1), .val (.int i258), .unset, .unset, .unset, .unset, .unset] [(.int (p0_1 &&& (2 : Int32)))])) t
        refine XS.ifYes X259.here hx rfl (pc0 := 15) (pc' := 22) rfl (hb hby at_15) rfl ((if0 _ _).trans (teq hc260).1) (by decide) (by decide) ?_
        show Steps p.tables e below (T259.setTop (mkF m 22 #[.val (.int p0_0), .val (.int p0_1), .val (.int i258), .unset, .unset, .unset, .unset, .unset] [])) t
        refine XS.iconst X259.here hx rfl (hb hby at_22) ?_
        show Steps p.tables e below (T259.setTop (mkF m 23 #[.val (.int p0_0), .val (.int p0_1), .val (.int i258), .unset, .unset, .unset, .unset, .unset] [(.int (0 : Int32))])) t
        exact k
      exact J0_2 _ _ (0 : Int32) X259 e259 N259
    · skip
      refine own_by (T' := T259) (g' := (mkF m 23 #[.val (.int p0_0), .val (.int p0_1), .val (.int i258), .unset, .unset, .unset, .unset, .unset] [(.int (1 : Int32))])) (fun t k => ?_) ?_
      · show Steps p.tables e below (T259.setTop (mkF m 15 #[.val (.int p0_0), .val (.int p0_1), .val (.int i258), .unset, .unset, .unset, .unset, .unset] [(.int (p0_1 &&& (2 : Int32)))])) t
        refine XS.ifNo X259.here hx rfl (hb hby at_15) rfl ((if0 _ _).trans (feq hc260).1) ?_
        show Steps p.tables e below (T259.setTop (mkF m 18 #[.val (.int p0_0), .val (.int p0_1), .val (.int i258), .unset, .unset, .unset, .unset, .unset] [])) t
        refine XS.iconst X259.here hx rfl (hb hby at_18) ?_
        show Steps p.tables e below (T259.setTop (mkF m 19 #[.val (.int p0_0), .val (.int p0_1), .val (.int i258), .unset, .unset, .unset, .unset, .unset] [(.int (1 : Int32))])) t
        refine XS.goto X259.here hx rfl (pc0 := 19) (pc' := 23) rfl (hb hby at_19) (by decide) (by decide) ?_
        show Steps p.tables e below (T259.setTop (mkF m 23 #[.val (.int p0_0), .val (.int p0_1), .val (.int i258), .unset, .unset, .unset, .unset, .unset] [(.int (1 : Int32))])) t
        exact k
      exact J0_2 _ _ (1 : Int32) X259 e259 N259
  by_cases hc257 : (p0_1 &&& (1 : Int32)) = (0 : Int32)
  · skip
    refine own_by (T' := s₁) (g' := (mkF m 11 #[.val (.int p0_0), .val (.int p0_1), .unset, .unset, .unset, .unset, .unset, .unset] [(.int (0 : Int32))])) (fun t k => ?_) ?_
    · show Steps p.tables e below (s₁.setTop (mkF m 3 #[.val (.int p0_0), .val (.int p0_1), .unset, .unset, .unset, .unset, .unset, .unset] [(.int (p0_1 &&& (1 : Int32)))])) t
      refine XS.ifYes X0.here hx rfl (pc0 := 3) (pc' := 10) rfl (hb hby at_3) rfl ((if0 _ _).trans (teq hc257).1) (by decide) (by decide) ?_
      show Steps p.tables e below (s₁.setTop (mkF m 10 #[.val (.int p0_0), .val (.int p0_1), .unset, .unset, .unset, .unset, .unset, .unset] [])) t
      refine XS.iconst X0.here hx rfl (hb hby at_10) ?_
      show Steps p.tables e below (s₁.setTop (mkF m 11 #[.val (.int p0_0), .val (.int p0_1), .unset, .unset, .unset, .unset, .unset, .unset] [(.int (0 : Int32))])) t
      exact k
    exact J0_1 _ _ (0 : Int32) X0 e0 N0
  · skip
    refine own_by (T' := s₁) (g' := (mkF m 11 #[.val (.int p0_0), .val (.int p0_1), .unset, .unset, .unset, .unset, .unset, .unset] [(.int (1 : Int32))])) (fun t k => ?_) ?_
    · show Steps p.tables e below (s₁.setTop (mkF m 3 #[.val (.int p0_0), .val (.int p0_1), .unset, .unset, .unset, .unset, .unset, .unset] [(.int (p0_1 &&& (1 : Int32)))])) t
      refine XS.ifNo X0.here hx rfl (hb hby at_3) rfl ((if0 _ _).trans (feq hc257).1) ?_
      show Steps p.tables e below (s₁.setTop (mkF m 6 #[.val (.int p0_0), .val (.int p0_1), .unset, .unset, .unset, .unset, .unset, .unset] [])) t
      refine XS.iconst X0.here hx rfl (hb hby at_6) ?_
      show Steps p.tables e below (s₁.setTop (mkF m 7 #[.val (.int p0_0), .val (.int p0_1), .unset, .unset, .unset, .unset, .unset, .unset] [(.int (1 : Int32))])) t
      refine XS.goto X0.here hx rfl (pc0 := 7) (pc' := 11) rfl (hb hby at_7) (by decide) (by decide) ?_
      show Steps p.tables e below (s₁.setTop (mkF m 11 #[.val (.int p0_0), .val (.int p0_1), .unset, .unset, .unset, .unset, .unset, .unset] [(.int (1 : Int32))])) t
      exact k
    exact J0_1 _ _ (1 : Int32) X0 e0 N0
set_option maxRecDepth 65536 in
set_option maxHeartbeats 40000000 in
theorem own_comes {Post : Tables → Env → Array Value → State → Outcome → State → Prop} (hpost : ∀ tb e args s v u, (limb_1_1.after args s (.returned v) u = true ∧ limb_1_2.after args s (.returned v) u = true ∧ True) → ReturnedEndW s (.returned v) u (Jvm.fieldLocs frame_1_writes args s ++ Jvm.arrayLocs frame_1_arrays args s ++ Jvm.staticLocs frame_1_statics s) 24 6656 → Post tb e args s (.returned v) u) :
    ArmFor flags0 classFile x code maxLocals ret World_1 tables_1 room_1 Calls_1 rest_1 Pre_1 Post := by
  intro l hfl _ _ p e ha hc hk s m args below hf hA hF happ hP
  obtain ⟨hcalls, hrest, hpre⟩ := hP
  obtain ⟨-, -, -, hnamed, -, -, -, hat⟩ := (Spec.applies_iff hf).mp happ
  obtain ⟨hg, hn⟩ := and_e (Cond.before_iff.mp (show (Jvm.Cond.and given_1 narrow_1).before args s = true from hpre))
  obtain ⟨hg1, hg2⟩ := and_e hg
  obtain ⟨hg3, hg4⟩ := and_e hg2
  obtain ⟨w0, w1, rfl⟩ : ∃ w0 w1 : Value, args = #[w0, w1] := by
    have hs : args.size = 2 := by simpa [Cond.value, given_1] using hg1
    obtain ⟨L⟩ := args
    match L, hs with
    | [w0, w1], _ => exact ⟨w0, w1, rfl⟩
  have hw := fun d (hd : d ∈ tables_1) => atoms_spec (ws := Jvm.Cond.code x code maxLocals ret :: tables_1) hat d (List.mem_cons_of_mem _ hd)
  have hfit : Fit s := fun {y c} hc i hi => by
    obtain ⟨ha, rfl⟩ := Array.getElem?_eq_some_iff.mp hc
    have q := List.all_eq_true.mp ((Array.all_eq_true_iff_forall_mem.mp hF) _ (Array.getElem_mem ha)) i (List.mem_range.mpr hi)
    simpa [Array.getElem?_eq_getElem hi] using q
  obtain ⟨hsets, hown0⟩ := atoms_of _ (rest_1_c_eq ▸ (show rest_1_c.before _ s = true from hrest))
  have hr0 := Cond.before_iff.mp hown0
  obtain ⟨i0, ei0⟩ := is_v hg3
  obtain rfl : w0 = (.int i0) := Option.some.inj ei0
  obtain ⟨i1, ei1⟩ := is_v hg4
  obtain rfl : w1 = (.int i1) := Option.some.inj ei1
  obtain ⟨wNON_EXISTENT_QUEUE, ev_wNON_EXISTENT_QUEUE⟩ := exa_v hn
  have S_wNON_EXISTENT_QUEUE := Sta.start ev_wNON_EXISTENT_QUEUE (Or.inr ⟨(hw _ (List.mem_of_getElem? (i := 121) rfl)), (hw _ (List.mem_of_getElem? (i := 122) rfl))⟩)
  have E_wNON_EXISTENT_QUEUE := Exa.start ev_wNON_EXISTENT_QUEUE hn
  have h_own_EN1 : own_EN1 s wNON_EXISTENT_QUEUE := ⟨S_wNON_EXISTENT_QUEUE, E_wNON_EXISTENT_QUEUE⟩
  have EN : own_EN s wNON_EXISTENT_QUEUE := h_own_EN1
  obtain ⟨wIC, evIC⟩ := exa_v (Cond.before_iff.mp (hsets _ (List.mem_of_getElem? (i := 5) rfl)))
  have SIC : Sta s s.heap "java/lang/Integer$IntegerCache" "cache" "[Ljava/lang/Integer;" (.ref wIC) := Sta.start evIC (Or.inr ⟨(hw _ (List.mem_of_getElem? (i := 5) rfl)), (hsets _ (List.mem_of_getElem? (i := 2) rfl))⟩)
  obtain ⟨cIC, AIC⟩ := Arr.start evIC (Cond.before_iff.mp (hsets _ (List.mem_of_getElem? (i := 4) rfl)))
  obtain ⟨l1IC, l2IC⟩ := own_len evIC AIC (eqv_i (Term.int_eval (256)) (Cond.before_iff.mp (hsets _ (List.mem_of_getElem? (i := 6) rfl))))
  have BIC : Bxs s wIC cIC "java/lang/Integer" "I" (256 : Int32) (fun j => .int (j - 128)) := Bxs.start (fun _ => evIC) AIC l1IC l2IC (by decide) (Cond.before_iff.mp (hsets _ (List.mem_of_getElem? (i := 7) rfl))) (fun X j nn h => eqv_i (Term.sub_int (idx_at nn) (Term.int_eval (128))) h)
  have SHi : Sta s s.heap "java/lang/Integer$IntegerCache" "high" "I" (.int (127 : Int32)) := Sta.start (eqv_i (Term.int_eval (127)) (Cond.before_iff.mp (hsets _ (List.mem_of_getElem? (i := 3) rfl)))) (Or.inl (hsets _ (List.mem_of_getElem? (i := 1) rfl)))
  have hl : l.stackTraces = true := by unfold Launch.stackTraces; rw [hfl]; decide
  obtain ⟨ua, eua⟩ := arr_v (Cond.before_iff.mp (hsets _ (List.mem_of_getElem? (i := 25) rfl)))
  have SUS : Sta s s.heap "java/lang/Throwable" "UNASSIGNED_STACK" "[Ljava/lang/StackTraceElement;" (.ref ua) := Sta.start eua (Or.inl (hsets _ (List.mem_of_getElem? (i := 23) rfl)))
  obtain ⟨sa, esa⟩ := exa_v (Cond.before_iff.mp (hsets _ (List.mem_of_getElem? (i := 30) rfl)))
  have SSS : Sta s s.heap "java/lang/Throwable" "SUPPRESSED_SENTINEL" "Ljava/util/List;" (.ref sa) := Sta.start esa (Or.inl (hsets _ (List.mem_of_getElem? (i := 28) rfl)))
  obtain ⟨cs, ecs⟩ := is_v (Cond.before_iff.mp (hsets _ (List.mem_of_getElem? (i := 9) rfl)))
  have SC : Sta s s.heap "java/lang/String" "COMPACT_STRINGS" "Z" (.int cs) := Sta.start ecs (Or.inl (hsets _ (List.mem_of_getElem? (i := 8) rfl)))
  have HCS : ¬ (cs = (0 : Int32)) := gotF (Cond.eq_ints ecs (Term.int_eval (0))) (not_v (Cond.before_iff.mp (hsets _ (List.mem_of_getElem? (i := 10) rfl))))
  have hCH := (own_ch0 (Z := s) (vm := s.vm) (vm1 := s.vm) (Nat.le_refl s.heap.size)).1
  obtain ⟨n, o, h1, h2, h3, _, L, rfl, ⟨rfl, N⟩, -, hq⟩ := own_rm0 l s _ hw tables_1 i0 i1 cs ua sa wNON_EXISTENT_QUEUE wIC cIC s.heap s.heap.size (Nat.le_refl _) (Old.start s) SC HCS hl SUS SSS EN SHi SIC BIC p e ha hc hk s m _ below hf ((Spec.applies_iff_loose hf).mp happ).1 ⟨rfl, State.Warmed39.refl s, rfl, hCH⟩ ⟨MethodsKnown_of_tablesKnown hcalls.2.1, FramesKnown_of_framesKnown hcalls.1 hf⟩
  refine ⟨n, _, h1, h2, h3, hpost _ _ _ _ _ _ ⟨Cond.after_iff.mpr rfl, Cond.after_iff.mpr (eq_i res_at (Term.int_eval (1)) (congrArg Value.int (rfl))), trivial⟩ ⟨hq.1, hq.2.1, hq.2.2.1, (hq.2.2.2.sift fun y hy => Or.inr (N y hy)).mono (by decide) (by decide)⟩⟩
theorem main_1_1 : Claimed_1_1 := own_comes fun _ _ _ _ _ _ h hF => ⟨h.1, hF⟩
theorem main_1_2 : Claimed_1_2 := own_comes fun _ _ _ _ _ _ h hF => ⟨h.2.1, hF⟩
end Jvm.Pilot.@@N@@
namespace Jvm.Pilot.@@N@@
open Jvm Jvm.ClassFile Sem Op Lib Jvm.Free Jvm.Stand Jvm.Pilot.@@N@@.Jvm.D
/-! MADE BY PROGRAM (witnessworld.py) out of the Statement's table words and the real class files: 41 classes; the members and pool entries that the words name. The judged class is class 1, her method 1. -/
namespace start1
open Jvm.ClassFile
def u (s : String) : CpInfo := .utf8 (stringToUtf16 s)
/-- a pool by its gaps: so many unusable entries, then the entry; so many at the end -/
def gap : Nat → List CpInfo → List CpInfo
  | 0, r => r
  | n + 1, r => .unusable :: gap n r
def poolList (es : List (Nat × CpInfo)) (last : Nat) : List CpInfo := es.foldr (fun e r => gap e.1 (e.2 :: r)) (gap last [])
def pool (es : List (Nat × CpInfo)) (last : Nat) : Array CpInfo := ⟨poolList es last⟩
def fileOf (pool : Array CpInfo) (this : Nat) (attrs : Array Attribute := #[]) (ms : Array MethodInfo := #[]) (fl : Nat := 33) (sup : Nat := 0) (ifs : Array Nat := #[]) (fds : Array FieldInfo := #[]) : ClassFile where
  minorVersion := 0
  majorVersion := 65
  constantPool := pool
  accessFlags := fl
  thisClass := this
  superClass := sup
  interfaces := ifs
  fields := fds
  methods := ms
  attributes := attrs
def plain (name : String) (sup : Option ClassId) : Class where
  name := name
  kind := .ordinary
  loader := none
  accessFlags := 33
  super := sup
  interfaces := #[]
  cf := none
  fields := #[]
  methods := #[]
  instanceTypes := #[]
  staticTypes := #[]
  resolved := #[]
  callSites := []
  init := .initialized
  statics := none
  mirror := none

def pool0 : Array CpInfo := pool [(5, u "<init>"), (0, u "()V"), (1, .class_ 10), (1, u "java/lang/Object")] 113

def k0c0 : Code := { maxStack := 0, maxLocals := 1, code := object_method_1_code, exceptionTable := #[], attributes := #[] }
def k0m0 : Method := { name := "<init>", desc := "()V", sig := { parameters := [], returnType := none }, accessFlags := 1, code := some k0c0 }
/-- java/lang/Object -/
def k0 : Class := { plain "java/lang/Object" none with
  accessFlags := 33
  interfaces := #[]
  cf := some (fileOf pool0 8 #[] #[{ accessFlags := 1, nameIndex := 5, descriptorIndex := 6, attributes := #[] }] 33 0 #[] #[])
  fields := #[]
  methods := #[k0m0]
  instanceTypes := #[]
  staticTypes := #[]
  resolved := Array.replicate 124 none
  statics := none }

def pool1 : Array CpInfo := pool [(2, .class_ 4), (1, u "java/lang/Object"), (0, u "<init>"), (0, u "()V"), (0, .methodref 8 9), (0, .class_ 10), (0, .nameAndType 11 12), (0, u "java/lang/Integer"), (0, u "valueOf"), (0, u "(I)Ljava/lang/Integer;"), (0, .methodref 14 15), (0, .class_ 16), (0, .nameAndType 17 18), (0, u "com/example/buzon/buzon/engine/ApiException"), (0, u "nonExistentQueue"), (0, u "()Lcom/example/buzon/buzon/engine/ApiException;"), (0, .methodref 20 21), (0, .class_ 22), (0, .nameAndType 11 23), (0, u "java/lang/String"), (0, u "(C)Ljava/lang/String;"), (0, .methodref 14 25), (0, .nameAndType 5 26), (0, u "(Lcom/example/buzon/buzon/engine/ApiError;Ljava/lang/String;)V"), (0, .class_ 28), (0, u "com/example/buzon/buzon/engine/Outcome"), (0, .methodref 27 30), (0, .nameAndType 5 31), (0, u "(Ljava/lang/Object;Lcom/example/buzon/buzon/engine/ApiException;)V"), (0, .methodref 27 33), (0, .nameAndType 34 35), (0, u "isSuccess"), (0, u "()Z"), (0, .class_ 37), (0, u "com/example/buzon/buzon/engine/OutcomeIsSuccessPinLaw"), (2, u "law"), (0, u "(II)Z")] 3

def k1m0 : Method := { name := "<init>", desc := "()V", sig := { parameters := [], returnType := none }, accessFlags := 1, code := none }
def k1c1 : Code := { maxStack := 5, maxLocals := 8, code := code, exceptionTable := #[], attributes := #[] }
def k1m1 : Method := { name := "law", desc := "(II)Z", sig := { parameters := [.int, .int], returnType := some .boolean }, accessFlags := 9, code := some k1c1 }
/-- com/example/buzon/buzon/engine/OutcomeIsSuccessPinLaw -/
def k1 : Class := { plain "com/example/buzon/buzon/engine/OutcomeIsSuccessPinLaw" (some 0) with
  accessFlags := 49
  interfaces := #[]
  cf := some (fileOf pool1 36 #[] #[{ accessFlags := 1, nameIndex := 5, descriptorIndex := 6, attributes := #[] }, { accessFlags := 9, nameIndex := 40, descriptorIndex := 41, attributes := #[] }] 49 2 #[] #[])
  fields := #[]
  methods := #[k1m0, k1m1]
  instanceTypes := #[]
  staticTypes := #[]
  resolved := Array.replicate 45 none
  statics := none }

def pool2 : Array CpInfo := pool [(1, .class_ 2), (0, u "java/io/Serializable"), (0, .class_ 4), (0, u "java/lang/Object")] 2

/-- java/io/Serializable -/
def k2 : Class := { plain "java/io/Serializable" (some 0) with
  accessFlags := 1537
  interfaces := #[]
  cf := some (fileOf pool2 1 #[] #[] 1537 3 #[] #[])
  fields := #[]
  methods := #[]
  instanceTypes := #[]
  staticTypes := #[]
  resolved := Array.replicate 7 none
  statics := none }

def pool3 : Array CpInfo := pool [(1, .methodref 2 3), (0, .class_ 4), (0, .nameAndType 5 6), (0, u "java/lang/Object"), (0, u "<init>"), (0, u "()V"), (1, .class_ 10), (1, u "java/lang/Number"), (2, .class_ 14), (0, u "java/io/Serializable"), (0, u "serialVersionUID"), (0, u "J")] 20

def k3c0 : Code := { maxStack := 1, maxLocals := 1, code := jdk_18_method_1_code, exceptionTable := #[], attributes := #[] }
def k3m0 : Method := { name := "<init>", desc := "()V", sig := { parameters := [], returnType := none }, accessFlags := 1, code := some k3c0 }
/-- java/lang/Number -/
def k3 : Class := { plain "java/lang/Number" (some 0) with
  accessFlags := 1057
  interfaces := #[2]
  cf := some (fileOf pool3 8 #[] #[{ accessFlags := 1, nameIndex := 5, descriptorIndex := 6, attributes := #[] }] 1057 2 #[13] #[{ accessFlags := 26, nameIndex := 15, descriptorIndex := 16, attributes := #[] }])
  fields := #[{ name := "serialVersionUID", type := .long, accessFlags := 26, slot := 0, constantValue := 0 }]
  methods := #[k3m0]
  instanceTypes := #[]
  staticTypes := #[.long]
  resolved := Array.replicate 37 none
  statics := none }

def pool4 : Array CpInfo := pool [(1, .class_ 2), (0, u "java/lang/Comparable"), (0, .class_ 4), (0, u "java/lang/Object")] 7

/-- java/lang/Comparable -/
def k4 : Class := { plain "java/lang/Comparable" (some 0) with
  accessFlags := 1537
  interfaces := #[]
  cf := some (fileOf pool4 1 #[] #[] 1537 3 #[] #[])
  fields := #[]
  methods := #[]
  instanceTypes := #[]
  staticTypes := #[]
  resolved := Array.replicate 12 none
  statics := none }

def pool5 : Array CpInfo := pool [(1, .class_ 2), (0, u "java/lang/constant/Constable"), (0, .class_ 4), (0, u "java/lang/Object")] 6

/-- java/lang/constant/Constable -/
def k5 : Class := { plain "java/lang/constant/Constable" (some 0) with
  accessFlags := 1537
  interfaces := #[]
  cf := some (fileOf pool5 1 #[] #[] 1537 3 #[] #[])
  fields := #[]
  methods := #[]
  instanceTypes := #[]
  staticTypes := #[]
  resolved := Array.replicate 11 none
  statics := none }

def pool6 : Array CpInfo := pool [(1, .class_ 2), (0, u "java/lang/constant/ConstantDesc"), (0, .class_ 4), (0, u "java/lang/Object")] 32

/-- java/lang/constant/ConstantDesc -/
def k6 : Class := { plain "java/lang/constant/ConstantDesc" (some 0) with
  accessFlags := 1537
  interfaces := #[]
  cf := some (fileOf pool6 1 #[] #[] 1537 3 #[] #[])
  fields := #[]
  methods := #[]
  instanceTypes := #[]
  staticTypes := #[]
  resolved := Array.replicate 37 none
  statics := none }

def pool7 : Array CpInfo := pool [(1, .class_ 2), (0, u "java/lang/Integer"), (16, u "digits"), (0, u "[C"), (46, u "<init>"), (17, u "DigitOnes"), (0, u "[B"), (2, u "DigitTens"), (10, .nameAndType 67 101), (0, u "()V"), (85, u "valueOf"), (0, u "(I)Ljava/lang/Integer;"), (0, .class_ 190), (0, u "java/lang/Integer$IntegerCache"), (0, .fieldref 189 192), (0, .nameAndType 193 194), (0, u "high"), (0, u "I"), (0, .fieldref 189 196), (0, .nameAndType 197 198), (0, u "cache"), (0, u "[Ljava/lang/Integer;"), (0, .methodref 1 200), (0, .nameAndType 67 201), (0, u "(I)V"), (0, .methodref 203 100), (0, .class_ 204), (0, u "java/lang/Number"), (0, .fieldref 1 206), (0, .nameAndType 207 194), (0, u "value"), (94, u "TYPE"), (0, u "Ljava/lang/Class;"), (0, .class_ 305), (0, u "java/lang/Comparable"), (0, .class_ 307), (0, u "java/lang/constant/Constable"), (0, .class_ 309), (0, u "java/lang/constant/ConstantDesc"), (0, u "MIN_VALUE"), (1, u "MAX_VALUE"), (3, u "SIZE"), (1, u "BYTES"), (1, u "serialVersionUID"), (0, u "J")] 131

def k7c0 : Code := { maxStack := 3, maxLocals := 1, code := jdk_33_method_22_code, exceptionTable := #[], attributes := #[] }
def k7m0 : Method := { name := "valueOf", desc := "(I)Ljava/lang/Integer;", sig := { parameters := [.int], returnType := some (.object "java/lang/Integer") }, accessFlags := 9, code := some k7c0 }
def k7c1 : Code := { maxStack := 2, maxLocals := 2, code := jdk_33_method_23_code, exceptionTable := #[], attributes := #[] }
def k7m1 : Method := { name := "<init>", desc := "(I)V", sig := { parameters := [.int], returnType := none }, accessFlags := 1, code := some k7c1 }
/-- java/lang/Integer -/
def k7 : Class := { plain "java/lang/Integer" (some 3) with
  accessFlags := 49
  interfaces := #[4, 5, 6]
  cf := some (fileOf pool7 1 #[.nestMembers #[189]] #[{ accessFlags := 9, nameIndex := 187, descriptorIndex := 188, attributes := #[] }, { accessFlags := 1, nameIndex := 67, descriptorIndex := 201, attributes := #[] }] 49 203 #[304, 306, 308] #[{ accessFlags := 25, nameIndex := 310, descriptorIndex := 194, attributes := #[] }, { accessFlags := 25, nameIndex := 312, descriptorIndex := 194, attributes := #[] }, { accessFlags := 25, nameIndex := 302, descriptorIndex := 303, attributes := #[] }, { accessFlags := 24, nameIndex := 19, descriptorIndex := 20, attributes := #[] }, { accessFlags := 24, nameIndex := 89, descriptorIndex := 86, attributes := #[] }, { accessFlags := 24, nameIndex := 85, descriptorIndex := 86, attributes := #[] }, { accessFlags := 18, nameIndex := 207, descriptorIndex := 194, attributes := #[] }, { accessFlags := 25, nameIndex := 316, descriptorIndex := 194, attributes := #[] }, { accessFlags := 25, nameIndex := 318, descriptorIndex := 194, attributes := #[] }, { accessFlags := 26, nameIndex := 320, descriptorIndex := 321, attributes := #[] }])
  fields := #[{ name := "MIN_VALUE", type := .int, accessFlags := 25, slot := 0, constantValue := 0 }, { name := "MAX_VALUE", type := .int, accessFlags := 25, slot := 1, constantValue := 0 }, { name := "TYPE", type := (.object "java/lang/Class"), accessFlags := 25, slot := 2, constantValue := 0 }, { name := "digits", type := (.array .char), accessFlags := 24, slot := 3, constantValue := 0 }, { name := "DigitTens", type := (.array .byte), accessFlags := 24, slot := 4, constantValue := 0 }, { name := "DigitOnes", type := (.array .byte), accessFlags := 24, slot := 5, constantValue := 0 }, { name := "value", type := .int, accessFlags := 18, slot := 0, constantValue := 0 }, { name := "SIZE", type := .int, accessFlags := 25, slot := 6, constantValue := 0 }, { name := "BYTES", type := .int, accessFlags := 25, slot := 7, constantValue := 0 }, { name := "serialVersionUID", type := .long, accessFlags := 26, slot := 8, constantValue := 0 }]
  methods := #[k7m0, k7m1]
  instanceTypes := #[.int]
  staticTypes := #[.int, .int, (.object "java/lang/Class"), (.array .char), (.array .byte), (.array .byte), .int, .int, .long]
  resolved := Array.replicate 453 none
  statics := none }

def pool8 : Array CpInfo := pool [(2, .class_ 4), (1, u "java/lang/Object"), (0, u "<init>"), (0, u "()V"), (0, .class_ 8), (0, u "java/lang/Integer"), (7, .class_ 18), (1, u "java/lang/Integer$IntegerCache"), (0, u "$assertionsDisabled"), (0, u "Z"), (26, u "high"), (0, u "I"), (8, u "archivedCache"), (0, u "[Ljava/lang/Integer;"), (12, u "cache"), (0, u "low")] 27

def k8m0 : Method := { name := "<init>", desc := "()V", sig := { parameters := [], returnType := none }, accessFlags := 2, code := none }
/-- java/lang/Integer$IntegerCache -/
def k8 : Class := { plain "java/lang/Integer$IntegerCache" (some 0) with
  accessFlags := 48
  interfaces := #[]
  cf := some (fileOf pool8 16 #[.nestHost 7] #[{ accessFlags := 2, nameIndex := 5, descriptorIndex := 6, attributes := #[] }] 48 2 #[] #[{ accessFlags := 24, nameIndex := 72, descriptorIndex := 48, attributes := #[] }, { accessFlags := 24, nameIndex := 47, descriptorIndex := 48, attributes := #[] }, { accessFlags := 24, nameIndex := 71, descriptorIndex := 58, attributes := #[] }, { accessFlags := 8, nameIndex := 57, descriptorIndex := 58, attributes := #[] }, { accessFlags := 4120, nameIndex := 19, descriptorIndex := 20, attributes := #[] }])
  fields := #[{ name := "low", type := .int, accessFlags := 24, slot := 0, constantValue := 0 }, { name := "high", type := .int, accessFlags := 24, slot := 1, constantValue := 0 }, { name := "cache", type := (.array (.object "java/lang/Integer")), accessFlags := 24, slot := 2, constantValue := 0 }, { name := "archivedCache", type := (.array (.object "java/lang/Integer")), accessFlags := 8, slot := 3, constantValue := 0 }, { name := "$assertionsDisabled", type := .boolean, accessFlags := 4120, slot := 4, constantValue := 0 }]
  methods := #[k8m0]
  instanceTypes := #[]
  staticTypes := #[.int, .int, (.array (.object "java/lang/Integer")), (.array (.object "java/lang/Integer")), .boolean]
  resolved := Array.replicate 100 none
  statics := some 0 }

def pool9 : Array CpInfo := pool [(1, .methodref 2 3), (0, .class_ 4), (0, .nameAndType 5 6), (0, u "java/lang/Object"), (0, u "<init>"), (0, u "()V"), (0, .fieldref 8 9), (0, .class_ 10), (0, .nameAndType 11 12), (0, u "java/lang/Throwable"), (0, u "cause"), (0, u "Ljava/lang/Throwable;"), (0, .fieldref 8 14), (0, .nameAndType 15 16), (0, u "UNASSIGNED_STACK"), (0, u "[Ljava/lang/StackTraceElement;"), (0, .fieldref 8 18), (0, .nameAndType 19 16), (0, u "stackTrace"), (0, .fieldref 8 21), (0, .nameAndType 22 23), (0, u "SUPPRESSED_SENTINEL"), (0, u "Ljava/util/List;"), (0, .fieldref 8 25), (0, .nameAndType 26 23), (0, u "suppressedExceptions"), (0, .methodref 8 28), (0, .nameAndType 29 30), (0, u "fillInStackTrace"), (0, u "()Ljava/lang/Throwable;"), (0, .fieldref 8 32), (0, .nameAndType 33 34), (0, u "detailMessage"), (0, u "Ljava/lang/String;"), (58, .class_ 94), (0, u "java/lang/Throwable$WrappedPrintStream"), (6, .class_ 103), (1, u "java/lang/Throwable$PrintStreamOrWriter"), (61, u "$assertionsDisabled"), (0, u "Z"), (26, .class_ 194), (0, u "java/lang/Throwable$WrappedPrintWriter"), (3, .fieldref 8 199), (0, .nameAndType 200 201), (0, u "backtrace"), (0, u "Ljava/lang/Object;"), (0, .methodref 8 203), (0, .nameAndType 29 204), (0, u "(I)Ljava/lang/Throwable;"), (6, u "depth"), (0, u "I"), (10, u "(Ljava/lang/String;)V"), (45, .class_ 271), (1, u "java/lang/Throwable$SentinelHolder"), (32, u "EMPTY_THROWABLE_ARRAY"), (0, u "[Ljava/lang/Throwable;"), (12, .class_ 319), (0, u "java/io/Serializable"), (0, u "serialVersionUID"), (0, u "J"), (5, u "NULL_CAUSE_MESSAGE"), (0, u "SELF_SUPPRESSION_MESSAGE"), (0, u "CAUSE_CAPTION"), (0, u "SUPPRESSED_CAPTION")] 73

def k9c0 : Code := { maxStack := 2, maxLocals := 1, code := jdk_78_method_1_code, exceptionTable := #[], attributes := #[] }
def k9m0 : Method := { name := "<init>", desc := "()V", sig := { parameters := [], returnType := none }, accessFlags := 1, code := some k9c0 }
def k9c1 : Code := { maxStack := 2, maxLocals := 2, code := jdk_78_method_2_code, exceptionTable := #[], attributes := #[] }
def k9m1 : Method := { name := "<init>", desc := "(Ljava/lang/String;)V", sig := { parameters := [(.object "java/lang/String")], returnType := none }, accessFlags := 1, code := some k9c1 }
def k9c2 : Code := { maxStack := 2, maxLocals := 1, code := ⟨#[0x2a, 0xb4, 0x00, 0x11, 0xc7, 0x00, 0x0a, 0x2a, 0xb4, 0x00, 0xc6, 0xc6, 0x00, 0x10, 0x2a, 0x03, 0xb6, 0x00, 0xca, 0x57, 0x2a, 0xb2, 0x00, 0x0d, 0xb5, 0x00, 0x11, 0x2a, 0xb0]⟩, exceptionTable := #[], attributes := #[] }
def k9m2 : Method := { name := "fillInStackTrace", desc := "()Ljava/lang/Throwable;", sig := { parameters := [], returnType := some (.object "java/lang/Throwable") }, accessFlags := 33, code := some k9c2 }
def k9m3 : Method := { name := "fillInStackTrace", desc := "(I)Ljava/lang/Throwable;", sig := { parameters := [.int], returnType := some (.object "java/lang/Throwable") }, accessFlags := 258, code := none }
/-- java/lang/Throwable -/
def k9 : Class := { plain "java/lang/Throwable" (some 0) with
  accessFlags := 33
  interfaces := #[2]
  cf := some (fileOf pool9 8 #[.nestMembers #[193, 93, 101, 269]] #[{ accessFlags := 1, nameIndex := 5, descriptorIndex := 6, attributes := #[] }, { accessFlags := 1, nameIndex := 5, descriptorIndex := 223, attributes := #[] }, { accessFlags := 33, nameIndex := 29, descriptorIndex := 30, attributes := #[] }, { accessFlags := 258, nameIndex := 29, descriptorIndex := 204, attributes := #[] }] 33 2 #[318] #[{ accessFlags := 26, nameIndex := 320, descriptorIndex := 321, attributes := #[] }, { accessFlags := 130, nameIndex := 200, descriptorIndex := 201, attributes := #[] }, { accessFlags := 2, nameIndex := 33, descriptorIndex := 34, attributes := #[] }, { accessFlags := 26, nameIndex := 15, descriptorIndex := 16, attributes := #[] }, { accessFlags := 2, nameIndex := 11, descriptorIndex := 12, attributes := #[] }, { accessFlags := 2, nameIndex := 19, descriptorIndex := 16, attributes := #[] }, { accessFlags := 130, nameIndex := 211, descriptorIndex := 212, attributes := #[] }, { accessFlags := 26, nameIndex := 22, descriptorIndex := 23, attributes := #[] }, { accessFlags := 2, nameIndex := 26, descriptorIndex := 23, attributes := #[] }, { accessFlags := 26, nameIndex := 327, descriptorIndex := 34, attributes := #[] }, { accessFlags := 26, nameIndex := 328, descriptorIndex := 34, attributes := #[] }, { accessFlags := 26, nameIndex := 329, descriptorIndex := 34, attributes := #[] }, { accessFlags := 26, nameIndex := 330, descriptorIndex := 34, attributes := #[] }, { accessFlags := 26, nameIndex := 304, descriptorIndex := 305, attributes := #[] }, { accessFlags := 4120, nameIndex := 165, descriptorIndex := 166, attributes := #[] }])
  fields := #[{ name := "serialVersionUID", type := .long, accessFlags := 26, slot := 0, constantValue := 0 }, { name := "backtrace", type := (.object "java/lang/Object"), accessFlags := 130, slot := 0, constantValue := 0 }, { name := "detailMessage", type := (.object "java/lang/String"), accessFlags := 2, slot := 1, constantValue := 0 }, { name := "UNASSIGNED_STACK", type := (.array (.object "java/lang/StackTraceElement")), accessFlags := 26, slot := 1, constantValue := 0 }, { name := "cause", type := (.object "java/lang/Throwable"), accessFlags := 2, slot := 2, constantValue := 0 }, { name := "stackTrace", type := (.array (.object "java/lang/StackTraceElement")), accessFlags := 2, slot := 3, constantValue := 0 }, { name := "depth", type := .int, accessFlags := 130, slot := 4, constantValue := 0 }, { name := "SUPPRESSED_SENTINEL", type := (.object "java/util/List"), accessFlags := 26, slot := 2, constantValue := 0 }, { name := "suppressedExceptions", type := (.object "java/util/List"), accessFlags := 2, slot := 5, constantValue := 0 }, { name := "NULL_CAUSE_MESSAGE", type := (.object "java/lang/String"), accessFlags := 26, slot := 3, constantValue := 0 }, { name := "SELF_SUPPRESSION_MESSAGE", type := (.object "java/lang/String"), accessFlags := 26, slot := 4, constantValue := 0 }, { name := "CAUSE_CAPTION", type := (.object "java/lang/String"), accessFlags := 26, slot := 5, constantValue := 0 }, { name := "SUPPRESSED_CAPTION", type := (.object "java/lang/String"), accessFlags := 26, slot := 6, constantValue := 0 }, { name := "EMPTY_THROWABLE_ARRAY", type := (.array (.object "java/lang/Throwable")), accessFlags := 26, slot := 7, constantValue := 0 }, { name := "$assertionsDisabled", type := .boolean, accessFlags := 4120, slot := 8, constantValue := 0 }]
  methods := #[k9m0, k9m1, k9m2, k9m3]
  instanceTypes := #[(.object "java/lang/Object"), (.object "java/lang/String"), (.object "java/lang/Throwable"), (.array (.object "java/lang/StackTraceElement")), .int, (.object "java/util/List")]
  staticTypes := #[.long, (.array (.object "java/lang/StackTraceElement")), (.object "java/util/List"), (.object "java/lang/String"), (.object "java/lang/String"), (.object "java/lang/String"), (.object "java/lang/String"), (.array (.object "java/lang/Throwable")), .boolean]
  resolved := Array.replicate 404 none
  statics := some 1 }

def pool10 : Array CpInfo := pool [(2, .class_ 4), (1, u "java/lang/Throwable"), (0, u "<init>"), (0, u "()V"), (0, .methodref 2 8), (0, .nameAndType 5 9), (0, u "(Ljava/lang/String;)V"), (9, .class_ 20), (0, u "java/lang/Exception"), (0, u "serialVersionUID"), (0, u "J")] 17

def k10m0 : Method := { name := "<init>", desc := "()V", sig := { parameters := [], returnType := none }, accessFlags := 1, code := none }
def k10c1 : Code := { maxStack := 2, maxLocals := 2, code := jdk_59_method_2_code, exceptionTable := #[], attributes := #[] }
def k10m1 : Method := { name := "<init>", desc := "(Ljava/lang/String;)V", sig := { parameters := [(.object "java/lang/String")], returnType := none }, accessFlags := 1, code := some k10c1 }
/-- java/lang/Exception -/
def k10 : Class := { plain "java/lang/Exception" (some 9) with
  accessFlags := 33
  interfaces := #[]
  cf := some (fileOf pool10 19 #[] #[{ accessFlags := 1, nameIndex := 5, descriptorIndex := 6, attributes := #[] }, { accessFlags := 1, nameIndex := 5, descriptorIndex := 9, attributes := #[] }] 33 2 #[] #[{ accessFlags := 24, nameIndex := 21, descriptorIndex := 22, attributes := #[] }])
  fields := #[{ name := "serialVersionUID", type := .long, accessFlags := 24, slot := 0, constantValue := 0 }]
  methods := #[k10m0, k10m1]
  instanceTypes := #[(.object "java/lang/Object"), (.object "java/lang/String"), (.object "java/lang/Throwable"), (.array (.object "java/lang/StackTraceElement")), .int, (.object "java/util/List")]
  staticTypes := #[.long]
  resolved := Array.replicate 40 none
  statics := none }

def pool11 : Array CpInfo := pool [(2, .class_ 4), (1, u "java/lang/Exception"), (0, u "<init>"), (0, u "()V"), (0, .methodref 2 8), (0, .nameAndType 5 9), (0, u "(Ljava/lang/String;)V"), (9, .class_ 20), (0, u "java/lang/RuntimeException"), (0, u "serialVersionUID"), (0, u "J")] 17

def k11m0 : Method := { name := "<init>", desc := "()V", sig := { parameters := [], returnType := none }, accessFlags := 1, code := none }
def k11c1 : Code := { maxStack := 2, maxLocals := 2, code := jdk_58_method_2_code, exceptionTable := #[], attributes := #[] }
def k11m1 : Method := { name := "<init>", desc := "(Ljava/lang/String;)V", sig := { parameters := [(.object "java/lang/String")], returnType := none }, accessFlags := 1, code := some k11c1 }
/-- java/lang/RuntimeException -/
def k11 : Class := { plain "java/lang/RuntimeException" (some 10) with
  accessFlags := 33
  interfaces := #[]
  cf := some (fileOf pool11 19 #[] #[{ accessFlags := 1, nameIndex := 5, descriptorIndex := 6, attributes := #[] }, { accessFlags := 1, nameIndex := 5, descriptorIndex := 9, attributes := #[] }] 33 2 #[] #[{ accessFlags := 24, nameIndex := 21, descriptorIndex := 22, attributes := #[] }])
  fields := #[{ name := "serialVersionUID", type := .long, accessFlags := 24, slot := 0, constantValue := 0 }]
  methods := #[k11m0, k11m1]
  instanceTypes := #[(.object "java/lang/Object"), (.object "java/lang/String"), (.object "java/lang/Throwable"), (.array (.object "java/lang/StackTraceElement")), .int, (.object "java/util/List")]
  staticTypes := #[.long]
  resolved := Array.replicate 40 none
  statics := none }

def pool12 : Array CpInfo := pool [(1, .methodref 2 3), (0, .class_ 4), (0, .nameAndType 5 6), (0, u "java/lang/RuntimeException"), (0, u "<init>"), (0, u "(Ljava/lang/String;)V"), (0, .fieldref 8 9), (0, .class_ 10), (0, .nameAndType 11 12), (0, u "com/example/buzon/buzon/engine/ApiException"), (0, u "error"), (0, u "Lcom/example/buzon/buzon/engine/ApiError;"), (0, .fieldref 14 15), (0, .class_ 16), (0, .nameAndType 17 12), (0, u "com/example/buzon/buzon/engine/ApiError"), (0, u "NON_EXISTENT_QUEUE"), (0, .string 19), (0, u "The specified queue does not exist"), (0, .methodref 8 21), (0, .nameAndType 5 22), (0, u "(Lcom/example/buzon/buzon/engine/ApiError;Ljava/lang/String;)V"), (0, u "serialVersionUID"), (0, u "J"), (5, u "nonExistentQueue"), (0, u "()Lcom/example/buzon/buzon/engine/ApiException;")] 3

def k12c0 : Code := { maxStack := 2, maxLocals := 3, code := prog_2_method_1_code, exceptionTable := #[], attributes := #[] }
def k12m0 : Method := { name := "<init>", desc := "(Lcom/example/buzon/buzon/engine/ApiError;Ljava/lang/String;)V", sig := { parameters := [(.object "com/example/buzon/buzon/engine/ApiError"), (.object "java/lang/String")], returnType := none }, accessFlags := 1, code := some k12c0 }
def k12c1 : Code := { maxStack := 4, maxLocals := 0, code := prog_2_method_2_code, exceptionTable := #[], attributes := #[] }
def k12m1 : Method := { name := "nonExistentQueue", desc := "()Lcom/example/buzon/buzon/engine/ApiException;", sig := { parameters := [], returnType := some (.object "com/example/buzon/buzon/engine/ApiException") }, accessFlags := 9, code := some k12c1 }
/-- com/example/buzon/buzon/engine/ApiException -/
def k12 : Class := { plain "com/example/buzon/buzon/engine/ApiException" (some 11) with
  accessFlags := 33
  interfaces := #[]
  cf := some (fileOf pool12 8 #[] #[{ accessFlags := 1, nameIndex := 5, descriptorIndex := 22, attributes := #[] }, { accessFlags := 9, nameIndex := 30, descriptorIndex := 31, attributes := #[] }] 33 2 #[] #[{ accessFlags := 26, nameIndex := 23, descriptorIndex := 24, attributes := #[] }, { accessFlags := 18, nameIndex := 11, descriptorIndex := 12, attributes := #[] }])
  fields := #[{ name := "serialVersionUID", type := .long, accessFlags := 26, slot := 0, constantValue := 0 }, { name := "error", type := (.object "com/example/buzon/buzon/engine/ApiError"), accessFlags := 18, slot := 6, constantValue := 0 }]
  methods := #[k12m0, k12m1]
  instanceTypes := #[(.object "java/lang/Object"), (.object "java/lang/String"), (.object "java/lang/Throwable"), (.array (.object "java/lang/StackTraceElement")), .int, (.object "java/util/List"), (.object "com/example/buzon/buzon/engine/ApiError")]
  staticTypes := #[.long]
  resolved := Array.replicate 35 none
  statics := none }

def pool13 : Array CpInfo := pool [(2, .class_ 4), (1, u "java/lang/CharSequence"), (42, .class_ 48), (0, u "java/lang/CharSequence$1CodePointIterator"), (10, .class_ 60), (0, u "java/lang/CharSequence$1CharIterator"), (5, .class_ 67), (0, u "java/lang/Object")] 63

/-- java/lang/CharSequence -/
def k13 : Class := { plain "java/lang/CharSequence" (some 0) with
  accessFlags := 1537
  interfaces := #[]
  cf := some (fileOf pool13 2 #[.nestMembers #[47, 59]] #[] 1537 66 #[] #[])
  fields := #[]
  methods := #[]
  instanceTypes := #[]
  staticTypes := #[]
  resolved := Array.replicate 131 none
  statics := none }

def pool14 : Array CpInfo := pool [(1, .methodref 2 3), (0, .class_ 4), (0, .nameAndType 5 6), (0, u "java/lang/Object"), (0, u "<init>"), (0, u "()V"), (2, .fieldref 10 11), (0, .class_ 12), (0, .nameAndType 13 14), (0, u "java/lang/String"), (0, u "value"), (0, u "[B"), (0, .fieldref 10 16), (0, .nameAndType 17 18), (0, u "coder"), (0, u "B"), (2, u "hash"), (0, u "I"), (2, u "hashIsZero"), (0, u "Z"), (11, .fieldref 10 39), (0, .nameAndType 40 26), (0, u "COMPACT_STRINGS"), (12, u "toBytes"), (53, .class_ 109), (1, u "java/lang/StringLatin1"), (99, .methodref 10 210), (0, .nameAndType 5 211), (0, u "([BB)V"), (157, u "(C)Z"), (205, .class_ 576), (0, u "java/lang/CharSequence"), (22, u "CASE_INSENSITIVE_ORDER"), (0, u "Ljava/util/Comparator;"), (181, u "valueOf"), (0, u "(C)Ljava/lang/String;"), (231, .methodref 107 1016), (0, .nameAndType 1017 369), (0, u "canEncode"), (0, .methodref 107 1019), (0, .nameAndType 53 1020), (0, u "(C)[B"), (80, u "serialPersistentFields"), (0, u "[Ljava/io/ObjectStreamField;"), (0, .class_ 1104), (0, u "java/lang/String$CaseInsensitiveComparator"), (1, .class_ 1107), (0, u "java/io/Serializable"), (0, .class_ 1109), (0, u "java/lang/Comparable"), (0, .class_ 1111), (0, u "java/lang/constant/Constable"), (0, .class_ 1113), (0, u "java/lang/constant/ConstantDesc"), (2, u "serialVersionUID"), (0, u "J"), (3, u "REPL"), (0, u "C"), (2, u "LATIN1"), (1, u "UTF16")] 323

def k14m0 : Method := { name := "<init>", desc := "()V", sig := { parameters := [], returnType := none }, accessFlags := 1, code := none }
def k14c1 : Code := { maxStack := 4, maxLocals := 1, code := jdk_42_method_139_code, exceptionTable := #[], attributes := #[] }
def k14m1 : Method := { name := "valueOf", desc := "(C)Ljava/lang/String;", sig := { parameters := [.char], returnType := some (.object "java/lang/String") }, accessFlags := 9, code := some k14c1 }
def k14c2 : Code := { maxStack := 2, maxLocals := 3, code := jdk_42_method_151_code, exceptionTable := #[], attributes := #[] }
def k14m2 : Method := { name := "<init>", desc := "([BB)V", sig := { parameters := [(.array .byte), .byte], returnType := none }, accessFlags := 0, code := some k14c2 }
/-- java/lang/String -/
def k14 : Class := { plain "java/lang/String" (some 0) with
  accessFlags := 49
  interfaces := #[2, 4, 13, 5, 6]
  cf := some (fileOf pool14 10 #[.nestMembers #[1103]] #[{ accessFlags := 1, nameIndex := 5, descriptorIndex := 6, attributes := #[] }, { accessFlags := 9, nameIndex := 782, descriptorIndex := 783, attributes := #[] }, { accessFlags := 0, nameIndex := 5, descriptorIndex := 211, attributes := #[] }] 49 2 #[1106, 1108, 575, 1110, 1112] #[{ accessFlags := 18, nameIndex := 13, descriptorIndex := 14, attributes := #[] }, { accessFlags := 18, nameIndex := 17, descriptorIndex := 18, attributes := #[] }, { accessFlags := 2, nameIndex := 21, descriptorIndex := 22, attributes := #[] }, { accessFlags := 2, nameIndex := 25, descriptorIndex := 26, attributes := #[] }, { accessFlags := 26, nameIndex := 1116, descriptorIndex := 1117, attributes := #[] }, { accessFlags := 24, nameIndex := 40, descriptorIndex := 26, attributes := #[] }, { accessFlags := 26, nameIndex := 1101, descriptorIndex := 1102, attributes := #[] }, { accessFlags := 26, nameIndex := 1121, descriptorIndex := 1122, attributes := #[] }, { accessFlags := 25, nameIndex := 599, descriptorIndex := 600, attributes := #[] }, { accessFlags := 24, nameIndex := 1125, descriptorIndex := 18, attributes := #[] }, { accessFlags := 24, nameIndex := 1127, descriptorIndex := 18, attributes := #[] }])
  fields := #[{ name := "value", type := (.array .byte), accessFlags := 18, slot := 0, constantValue := 0 }, { name := "coder", type := .byte, accessFlags := 18, slot := 1, constantValue := 0 }, { name := "hash", type := .int, accessFlags := 2, slot := 2, constantValue := 0 }, { name := "hashIsZero", type := .boolean, accessFlags := 2, slot := 3, constantValue := 0 }, { name := "serialVersionUID", type := .long, accessFlags := 26, slot := 0, constantValue := 0 }, { name := "COMPACT_STRINGS", type := .boolean, accessFlags := 24, slot := 1, constantValue := 0 }, { name := "serialPersistentFields", type := (.array (.object "java/io/ObjectStreamField")), accessFlags := 26, slot := 2, constantValue := 0 }, { name := "REPL", type := .char, accessFlags := 26, slot := 3, constantValue := 0 }, { name := "CASE_INSENSITIVE_ORDER", type := (.object "java/util/Comparator"), accessFlags := 25, slot := 4, constantValue := 0 }, { name := "LATIN1", type := .byte, accessFlags := 24, slot := 5, constantValue := 0 }, { name := "UTF16", type := .byte, accessFlags := 24, slot := 6, constantValue := 0 }]
  methods := #[k14m0, k14m1, k14m2]
  instanceTypes := #[(.array .byte), .byte, .int, .boolean]
  staticTypes := #[.long, .boolean, (.array (.object "java/io/ObjectStreamField")), .char, (.object "java/util/Comparator"), .byte, .byte]
  resolved := Array.replicate 1451 none
  statics := some 2 }

def pool15 : Array CpInfo := pool [(4, .class_ 6), (1, u "java/lang/Object"), (0, u "<init>"), (0, u "()V"), (5, .class_ 16), (1, u "java/lang/StringLatin1"), (73, u "canEncode"), (14, u "(C)Z"), (15, u "$assertionsDisabled"), (0, u "Z"), (98, .class_ 223), (1, u "java/lang/StringLatin1$LinesSpliterator"), (156, u "toBytes"), (1, u "(C)[B"), (7, .class_ 391), (0, u "java/lang/StringLatin1$CharsSpliterator")] 3

def k15m0 : Method := { name := "<init>", desc := "()V", sig := { parameters := [], returnType := none }, accessFlags := 0, code := none }
def k15c1 : Code := { maxStack := 2, maxLocals := 1, code := jdk_43_method_3_code, exceptionTable := #[], attributes := #[] }
def k15m1 : Method := { name := "canEncode", desc := "(C)Z", sig := { parameters := [.char], returnType := some .boolean }, accessFlags := 9, code := some k15c1 }
def k15c2 : Code := { maxStack := 4, maxLocals := 1, code := jdk_43_method_46_code, exceptionTable := #[], attributes := #[] }
def k15m2 : Method := { name := "toBytes", desc := "(C)[B", sig := { parameters := [.char], returnType := some (.array .byte) }, accessFlags := 9, code := some k15c2 }
/-- java/lang/StringLatin1 -/
def k15 : Class := { plain "java/lang/StringLatin1" (some 0) with
  accessFlags := 48
  interfaces := #[]
  cf := some (fileOf pool15 14 #[.nestMembers #[390, 221]] #[{ accessFlags := 0, nameIndex := 7, descriptorIndex := 8, attributes := #[] }, { accessFlags := 9, nameIndex := 90, descriptorIndex := 105, attributes := #[] }, { accessFlags := 9, nameIndex := 380, descriptorIndex := 382, attributes := #[] }] 48 4 #[] #[{ accessFlags := 4120, nameIndex := 121, descriptorIndex := 122, attributes := #[] }])
  fields := #[{ name := "$assertionsDisabled", type := .boolean, accessFlags := 4120, slot := 0, constantValue := 0 }]
  methods := #[k15m0, k15m1, k15m2]
  instanceTypes := #[]
  staticTypes := #[.boolean]
  resolved := Array.replicate 395 none
  statics := none }

def pool16 : Array CpInfo := pool [(1, .methodref 2 3), (0, .class_ 4), (0, .nameAndType 5 6), (0, u "java/lang/Object"), (0, u "<init>"), (0, u "()V"), (0, .class_ 8), (0, u "java/lang/Record")] 13

def k16c0 : Code := { maxStack := 1, maxLocals := 1, code := jdk_30_method_1_code, exceptionTable := #[], attributes := #[] }
def k16m0 : Method := { name := "<init>", desc := "()V", sig := { parameters := [], returnType := none }, accessFlags := 4, code := some k16c0 }
/-- java/lang/Record -/
def k16 : Class := { plain "java/lang/Record" (some 0) with
  accessFlags := 1057
  interfaces := #[]
  cf := some (fileOf pool16 7 #[] #[{ accessFlags := 4, nameIndex := 5, descriptorIndex := 6, attributes := #[] }] 1057 2 #[] #[])
  fields := #[]
  methods := #[k16m0]
  instanceTypes := #[]
  staticTypes := #[]
  resolved := Array.replicate 22 none
  statics := none }

def pool17 : Array CpInfo := pool [(1, .methodref 2 3), (0, .class_ 4), (0, .nameAndType 5 6), (0, u "java/lang/Record"), (0, u "<init>"), (0, u "()V"), (0, .fieldref 8 9), (0, .class_ 10), (0, .nameAndType 11 12), (0, u "com/example/buzon/buzon/engine/Outcome"), (0, u "result"), (0, u "Ljava/lang/Object;"), (0, .fieldref 8 14), (0, .nameAndType 15 16), (0, u "failure"), (0, u "Lcom/example/buzon/buzon/engine/ApiException;"), (2, u "(Ljava/lang/Object;Lcom/example/buzon/buzon/engine/ApiException;)V"), (24, u "isSuccess"), (0, u "()Z")] 29

def k17c0 : Code := { maxStack := 2, maxLocals := 3, code := prog_16_method_1_code, exceptionTable := #[], attributes := #[] }
def k17m0 : Method := { name := "<init>", desc := "(Ljava/lang/Object;Lcom/example/buzon/buzon/engine/ApiException;)V", sig := { parameters := [(.object "java/lang/Object"), (.object "com/example/buzon/buzon/engine/ApiException")], returnType := none }, accessFlags := 1, code := some k17c0 }
def k17c1 : Code := { maxStack := 1, maxLocals := 1, code := prog_16_method_4_code, exceptionTable := #[], attributes := #[] }
def k17m1 : Method := { name := "isSuccess", desc := "()Z", sig := { parameters := [], returnType := some .boolean }, accessFlags := 1, code := some k17c1 }
/-- com/example/buzon/buzon/engine/Outcome -/
def k17 : Class := { plain "com/example/buzon/buzon/engine/Outcome" (some 16) with
  accessFlags := 49
  interfaces := #[]
  cf := some (fileOf pool17 8 #[] #[{ accessFlags := 1, nameIndex := 5, descriptorIndex := 19, attributes := #[] }, { accessFlags := 1, nameIndex := 44, descriptorIndex := 45, attributes := #[] }] 49 2 #[] #[{ accessFlags := 18, nameIndex := 11, descriptorIndex := 12, attributes := #[] }, { accessFlags := 18, nameIndex := 15, descriptorIndex := 16, attributes := #[] }])
  fields := #[{ name := "result", type := (.object "java/lang/Object"), accessFlags := 18, slot := 0, constantValue := 0 }, { name := "failure", type := (.object "com/example/buzon/buzon/engine/ApiException"), accessFlags := 18, slot := 1, constantValue := 0 }]
  methods := #[k17m0, k17m1]
  instanceTypes := #[(.object "java/lang/Object"), (.object "com/example/buzon/buzon/engine/ApiException")]
  staticTypes := #[]
  resolved := Array.replicate 75 none
  statics := none }

def pool18 : Array CpInfo := pool [(2, .class_ 4), (1, u "java/lang/Enum"), (0, u "name"), (0, u "Ljava/lang/String;"), (2, u "ordinal"), (0, u "I"), (1, .class_ 14), (1, u "java/lang/Object"), (4, u "hash"), (86, .class_ 108), (1, u "java/lang/Enum$EnumDesc"), (2, .class_ 112), (0, u "java/lang/constant/Constable"), (0, .class_ 114), (0, u "java/lang/Comparable"), (0, .class_ 116), (0, u "java/io/Serializable")] 87

/-- java/lang/Enum -/
def k18 : Class := { plain "java/lang/Enum" (some 0) with
  accessFlags := 1057
  interfaces := #[5, 4, 2]
  cf := some (fileOf pool18 2 #[.nestMembers #[106]] #[] 1057 12 #[111, 113, 115] #[{ accessFlags := 18, nameIndex := 5, descriptorIndex := 6, attributes := #[] }, { accessFlags := 18, nameIndex := 9, descriptorIndex := 10, attributes := #[] }, { accessFlags := 2, nameIndex := 19, descriptorIndex := 10, attributes := #[] }])
  fields := #[{ name := "name", type := (.object "java/lang/String"), accessFlags := 18, slot := 0, constantValue := 0 }, { name := "ordinal", type := .int, accessFlags := 18, slot := 1, constantValue := 0 }, { name := "hash", type := .int, accessFlags := 2, slot := 2, constantValue := 0 }]
  methods := #[]
  instanceTypes := #[(.object "java/lang/String"), .int, .int]
  staticTypes := #[]
  resolved := Array.replicate 204 none
  statics := none }

def pool19 : Array CpInfo := pool [(1, .class_ 2), (0, u "com/example/buzon/buzon/engine/ApiError"), (2, u "MISSING_ACTION"), (0, u "Lcom/example/buzon/buzon/engine/ApiError;"), (2, u "INVALID_ACTION"), (2, u "MALFORMED_QUERY_STRING"), (2, u "INVALID_ADDRESS"), (2, u "MISSING_PARAMETER"), (2, u "INVALID_PARAMETER_VALUE"), (2, u "INVALID_ATTRIBUTE_VALUE"), (2, u "INVALID_ATTRIBUTE_NAME"), (2, u "QUEUE_ALREADY_EXISTS"), (2, u "INVALID_MESSAGE_CONTENTS"), (2, u "NON_EXISTENT_QUEUE"), (2, u "RECEIPT_HANDLE_IS_INVALID"), (2, u "MESSAGE_NOT_INFLIGHT"), (2, u "EMPTY_BATCH_REQUEST"), (2, u "TOO_MANY_ENTRIES_IN_BATCH_REQUEST"), (2, u "BATCH_ENTRY_IDS_NOT_DISTINCT"), (2, u "INVALID_BATCH_ENTRY_ID"), (2, u "BATCH_REQUEST_TOO_LONG"), (2, u "OVER_LIMIT"), (2, u "RESOURCE_NOT_FOUND"), (2, u "UNSUPPORTED_OPERATION"), (2, u "MISSING_AUTHENTICATION_TOKEN"), (2, u "INCOMPLETE_SIGNATURE"), (2, u "INVALID_CLIENT_TOKEN_ID"), (2, u "REQUEST_EXPIRED"), (2, u "SIGNATURE_DOES_NOT_MATCH"), (2, u "SERVICE_UNAVAILABLE"), (2, u "INTERNAL_FAILURE"), (2, u "$VALUES"), (0, u "[Lcom/example/buzon/buzon/engine/ApiError;"), (6, .class_ 100), (1, u "java/lang/Enum"), (8, u "code"), (0, u "Ljava/lang/String;"), (2, u "shapeName"), (2, u "httpStatus"), (0, u "I")] 135

/-- com/example/buzon/buzon/engine/ApiError -/
def k19 : Class := { plain "com/example/buzon/buzon/engine/ApiError" (some 18) with
  accessFlags := 16433
  interfaces := #[]
  cf := some (fileOf pool19 1 #[] #[] 16433 98 #[] #[{ accessFlags := 16409, nameIndex := 5, descriptorIndex := 6, attributes := #[] }, { accessFlags := 16409, nameIndex := 9, descriptorIndex := 6, attributes := #[] }, { accessFlags := 16409, nameIndex := 12, descriptorIndex := 6, attributes := #[] }, { accessFlags := 16409, nameIndex := 15, descriptorIndex := 6, attributes := #[] }, { accessFlags := 16409, nameIndex := 18, descriptorIndex := 6, attributes := #[] }, { accessFlags := 16409, nameIndex := 21, descriptorIndex := 6, attributes := #[] }, { accessFlags := 16409, nameIndex := 24, descriptorIndex := 6, attributes := #[] }, { accessFlags := 16409, nameIndex := 27, descriptorIndex := 6, attributes := #[] }, { accessFlags := 16409, nameIndex := 30, descriptorIndex := 6, attributes := #[] }, { accessFlags := 16409, nameIndex := 33, descriptorIndex := 6, attributes := #[] }, { accessFlags := 16409, nameIndex := 36, descriptorIndex := 6, attributes := #[] }, { accessFlags := 16409, nameIndex := 39, descriptorIndex := 6, attributes := #[] }, { accessFlags := 16409, nameIndex := 42, descriptorIndex := 6, attributes := #[] }, { accessFlags := 16409, nameIndex := 45, descriptorIndex := 6, attributes := #[] }, { accessFlags := 16409, nameIndex := 48, descriptorIndex := 6, attributes := #[] }, { accessFlags := 16409, nameIndex := 51, descriptorIndex := 6, attributes := #[] }, { accessFlags := 16409, nameIndex := 54, descriptorIndex := 6, attributes := #[] }, { accessFlags := 16409, nameIndex := 57, descriptorIndex := 6, attributes := #[] }, { accessFlags := 16409, nameIndex := 60, descriptorIndex := 6, attributes := #[] }, { accessFlags := 16409, nameIndex := 63, descriptorIndex := 6, attributes := #[] }, { accessFlags := 16409, nameIndex := 66, descriptorIndex := 6, attributes := #[] }, { accessFlags := 16409, nameIndex := 69, descriptorIndex := 6, attributes := #[] }, { accessFlags := 16409, nameIndex := 72, descriptorIndex := 6, attributes := #[] }, { accessFlags := 16409, nameIndex := 75, descriptorIndex := 6, attributes := #[] }, { accessFlags := 16409, nameIndex := 78, descriptorIndex := 6, attributes := #[] }, { accessFlags := 16409, nameIndex := 81, descriptorIndex := 6, attributes := #[] }, { accessFlags := 16409, nameIndex := 84, descriptorIndex := 6, attributes := #[] }, { accessFlags := 16409, nameIndex := 87, descriptorIndex := 6, attributes := #[] }, { accessFlags := 18, nameIndex := 109, descriptorIndex := 110, attributes := #[] }, { accessFlags := 18, nameIndex := 113, descriptorIndex := 110, attributes := #[] }, { accessFlags := 18, nameIndex := 116, descriptorIndex := 117, attributes := #[] }, { accessFlags := 4122, nameIndex := 90, descriptorIndex := 91, attributes := #[] }])
  fields := #[{ name := "MISSING_ACTION", type := (.object "com/example/buzon/buzon/engine/ApiError"), accessFlags := 16409, slot := 0, constantValue := 0 }, { name := "INVALID_ACTION", type := (.object "com/example/buzon/buzon/engine/ApiError"), accessFlags := 16409, slot := 1, constantValue := 0 }, { name := "MALFORMED_QUERY_STRING", type := (.object "com/example/buzon/buzon/engine/ApiError"), accessFlags := 16409, slot := 2, constantValue := 0 }, { name := "INVALID_ADDRESS", type := (.object "com/example/buzon/buzon/engine/ApiError"), accessFlags := 16409, slot := 3, constantValue := 0 }, { name := "MISSING_PARAMETER", type := (.object "com/example/buzon/buzon/engine/ApiError"), accessFlags := 16409, slot := 4, constantValue := 0 }, { name := "INVALID_PARAMETER_VALUE", type := (.object "com/example/buzon/buzon/engine/ApiError"), accessFlags := 16409, slot := 5, constantValue := 0 }, { name := "INVALID_ATTRIBUTE_VALUE", type := (.object "com/example/buzon/buzon/engine/ApiError"), accessFlags := 16409, slot := 6, constantValue := 0 }, { name := "INVALID_ATTRIBUTE_NAME", type := (.object "com/example/buzon/buzon/engine/ApiError"), accessFlags := 16409, slot := 7, constantValue := 0 }, { name := "QUEUE_ALREADY_EXISTS", type := (.object "com/example/buzon/buzon/engine/ApiError"), accessFlags := 16409, slot := 8, constantValue := 0 }, { name := "INVALID_MESSAGE_CONTENTS", type := (.object "com/example/buzon/buzon/engine/ApiError"), accessFlags := 16409, slot := 9, constantValue := 0 }, { name := "NON_EXISTENT_QUEUE", type := (.object "com/example/buzon/buzon/engine/ApiError"), accessFlags := 16409, slot := 10, constantValue := 0 }, { name := "RECEIPT_HANDLE_IS_INVALID", type := (.object "com/example/buzon/buzon/engine/ApiError"), accessFlags := 16409, slot := 11, constantValue := 0 }, { name := "MESSAGE_NOT_INFLIGHT", type := (.object "com/example/buzon/buzon/engine/ApiError"), accessFlags := 16409, slot := 12, constantValue := 0 }, { name := "EMPTY_BATCH_REQUEST", type := (.object "com/example/buzon/buzon/engine/ApiError"), accessFlags := 16409, slot := 13, constantValue := 0 }, { name := "TOO_MANY_ENTRIES_IN_BATCH_REQUEST", type := (.object "com/example/buzon/buzon/engine/ApiError"), accessFlags := 16409, slot := 14, constantValue := 0 }, { name := "BATCH_ENTRY_IDS_NOT_DISTINCT", type := (.object "com/example/buzon/buzon/engine/ApiError"), accessFlags := 16409, slot := 15, constantValue := 0 }, { name := "INVALID_BATCH_ENTRY_ID", type := (.object "com/example/buzon/buzon/engine/ApiError"), accessFlags := 16409, slot := 16, constantValue := 0 }, { name := "BATCH_REQUEST_TOO_LONG", type := (.object "com/example/buzon/buzon/engine/ApiError"), accessFlags := 16409, slot := 17, constantValue := 0 }, { name := "OVER_LIMIT", type := (.object "com/example/buzon/buzon/engine/ApiError"), accessFlags := 16409, slot := 18, constantValue := 0 }, { name := "RESOURCE_NOT_FOUND", type := (.object "com/example/buzon/buzon/engine/ApiError"), accessFlags := 16409, slot := 19, constantValue := 0 }, { name := "UNSUPPORTED_OPERATION", type := (.object "com/example/buzon/buzon/engine/ApiError"), accessFlags := 16409, slot := 20, constantValue := 0 }, { name := "MISSING_AUTHENTICATION_TOKEN", type := (.object "com/example/buzon/buzon/engine/ApiError"), accessFlags := 16409, slot := 21, constantValue := 0 }, { name := "INCOMPLETE_SIGNATURE", type := (.object "com/example/buzon/buzon/engine/ApiError"), accessFlags := 16409, slot := 22, constantValue := 0 }, { name := "INVALID_CLIENT_TOKEN_ID", type := (.object "com/example/buzon/buzon/engine/ApiError"), accessFlags := 16409, slot := 23, constantValue := 0 }, { name := "REQUEST_EXPIRED", type := (.object "com/example/buzon/buzon/engine/ApiError"), accessFlags := 16409, slot := 24, constantValue := 0 }, { name := "SIGNATURE_DOES_NOT_MATCH", type := (.object "com/example/buzon/buzon/engine/ApiError"), accessFlags := 16409, slot := 25, constantValue := 0 }, { name := "SERVICE_UNAVAILABLE", type := (.object "com/example/buzon/buzon/engine/ApiError"), accessFlags := 16409, slot := 26, constantValue := 0 }, { name := "INTERNAL_FAILURE", type := (.object "com/example/buzon/buzon/engine/ApiError"), accessFlags := 16409, slot := 27, constantValue := 0 }, { name := "code", type := (.object "java/lang/String"), accessFlags := 18, slot := 3, constantValue := 0 }, { name := "shapeName", type := (.object "java/lang/String"), accessFlags := 18, slot := 4, constantValue := 0 }, { name := "httpStatus", type := .int, accessFlags := 18, slot := 5, constantValue := 0 }, { name := "$VALUES", type := (.array (.object "com/example/buzon/buzon/engine/ApiError")), accessFlags := 4122, slot := 28, constantValue := 0 }]
  methods := #[]
  instanceTypes := #[(.object "java/lang/String"), .int, .int, (.object "java/lang/String"), (.object "java/lang/String"), .int]
  staticTypes := #[(.object "com/example/buzon/buzon/engine/ApiError"), (.object "com/example/buzon/buzon/engine/ApiError"), (.object "com/example/buzon/buzon/engine/ApiError"), (.object "com/example/buzon/buzon/engine/ApiError"), (.object "com/example/buzon/buzon/engine/ApiError"), (.object "com/example/buzon/buzon/engine/ApiError"), (.object "com/example/buzon/buzon/engine/ApiError"), (.object "com/example/buzon/buzon/engine/ApiError"), (.object "com/example/buzon/buzon/engine/ApiError"), (.object "com/example/buzon/buzon/engine/ApiError"), (.object "com/example/buzon/buzon/engine/ApiError"), (.object "com/example/buzon/buzon/engine/ApiError"), (.object "com/example/buzon/buzon/engine/ApiError"), (.object "com/example/buzon/buzon/engine/ApiError"), (.object "com/example/buzon/buzon/engine/ApiError"), (.object "com/example/buzon/buzon/engine/ApiError"), (.object "com/example/buzon/buzon/engine/ApiError"), (.object "com/example/buzon/buzon/engine/ApiError"), (.object "com/example/buzon/buzon/engine/ApiError"), (.object "com/example/buzon/buzon/engine/ApiError"), (.object "com/example/buzon/buzon/engine/ApiError"), (.object "com/example/buzon/buzon/engine/ApiError"), (.object "com/example/buzon/buzon/engine/ApiError"), (.object "com/example/buzon/buzon/engine/ApiError"), (.object "com/example/buzon/buzon/engine/ApiError"), (.object "com/example/buzon/buzon/engine/ApiError"), (.object "com/example/buzon/buzon/engine/ApiError"), (.object "com/example/buzon/buzon/engine/ApiError"), (.array (.object "com/example/buzon/buzon/engine/ApiError"))]
  resolved := Array.replicate 253 none
  statics := some 3 }

def pool20 : Array CpInfo := pool [(2, .class_ 4), (1, u "java/lang/Object"), (0, u "<init>"), (0, u "()V"), (17, .class_ 26), (1, u "jdk/internal/util/Preconditions"), (28, .class_ 56), (0, u "jdk/internal/util/Preconditions$4"), (57, .class_ 115), (0, u "jdk/internal/util/Preconditions$1"), (7, u "SIOOBE_FORMATTER"), (0, u "Ljava/util/function/BiFunction;"), (0, .class_ 126), (0, u "jdk/internal/util/Preconditions$2"), (3, u "AIOOBE_FORMATTER"), (0, .class_ 132), (0, u "jdk/internal/util/Preconditions$3"), (3, u "IOOBE_FORMATTER")] 57

def k20m0 : Method := { name := "<init>", desc := "()V", sig := { parameters := [], returnType := none }, accessFlags := 1, code := none }
/-- jdk/internal/util/Preconditions -/
def k20 : Class := { plain "jdk/internal/util/Preconditions" (some 0) with
  accessFlags := 33
  interfaces := #[]
  cf := some (fileOf pool20 24 #[.nestMembers #[55, 131, 125, 114]] #[{ accessFlags := 1, nameIndex := 5, descriptorIndex := 6, attributes := #[] }] 33 2 #[] #[{ accessFlags := 25, nameIndex := 123, descriptorIndex := 124, attributes := #[] }, { accessFlags := 25, nameIndex := 130, descriptorIndex := 124, attributes := #[] }, { accessFlags := 25, nameIndex := 136, descriptorIndex := 124, attributes := #[] }])
  fields := #[{ name := "SIOOBE_FORMATTER", type := (.object "java/util/function/BiFunction"), accessFlags := 25, slot := 0, constantValue := 0 }, { name := "AIOOBE_FORMATTER", type := (.object "java/util/function/BiFunction"), accessFlags := 25, slot := 1, constantValue := 0 }, { name := "IOOBE_FORMATTER", type := (.object "java/util/function/BiFunction"), accessFlags := 25, slot := 2, constantValue := 0 }]
  methods := #[k20m0]
  instanceTypes := #[]
  staticTypes := #[(.object "java/util/function/BiFunction"), (.object "java/util/function/BiFunction"), (.object "java/util/function/BiFunction")]
  resolved := Array.replicate 194 none
  statics := some 4 }

def pool21 : Array CpInfo := pool [(9, u "<init>"), (6, .class_ 18), (1, u "java/lang/Object"), (0, u "()V"), (1, .class_ 23), (1, u "jdk/internal/util/ArraysSupport"), (0, u "LOG2_ARRAY_LONG_INDEX_SCALE"), (0, u "I"), (2, u "U"), (0, u "Ljdk/internal/misc/Unsafe;"), (8, u "BIG_ENDIAN"), (0, u "Z"), (8, u "LOG2_BYTE_BIT_SIZE"), (4, u "LOG2_ARRAY_INT_INDEX_SCALE"), (54, u "JLA"), (0, u "Ljdk/internal/access/JavaLangAccess;"), (11, u "LOG2_ARRAY_BOOLEAN_INDEX_SCALE"), (9, u "LOG2_ARRAY_BYTE_INDEX_SCALE"), (5, u "LOG2_ARRAY_CHAR_INDEX_SCALE"), (5, u "LOG2_ARRAY_SHORT_INDEX_SCALE"), (18, u "LOG2_ARRAY_FLOAT_INDEX_SCALE"), (24, u "LOG2_ARRAY_DOUBLE_INDEX_SCALE"), (89, u "T_BOOLEAN"), (2, u "T_CHAR"), (1, u "T_FLOAT"), (1, u "T_DOUBLE"), (1, u "T_BYTE"), (1, u "T_SHORT"), (1, u "T_INT"), (1, u "T_LONG"), (1, u "SOFT_MAX_ARRAY_LENGTH")] 83

def k21m0 : Method := { name := "<init>", desc := "()V", sig := { parameters := [], returnType := none }, accessFlags := 2, code := none }
/-- jdk/internal/util/ArraysSupport -/
def k21 : Class := { plain "jdk/internal/util/ArraysSupport" (some 0) with
  accessFlags := 33
  interfaces := #[]
  cf := some (fileOf pool21 21 #[] #[{ accessFlags := 2, nameIndex := 9, descriptorIndex := 19, attributes := #[] }] 33 16 #[] #[{ accessFlags := 24, nameIndex := 28, descriptorIndex := 29, attributes := #[] }, { accessFlags := 26, nameIndex := 38, descriptorIndex := 39, attributes := #[] }, { accessFlags := 25, nameIndex := 121, descriptorIndex := 25, attributes := #[] }, { accessFlags := 25, nameIndex := 131, descriptorIndex := 25, attributes := #[] }, { accessFlags := 25, nameIndex := 137, descriptorIndex := 25, attributes := #[] }, { accessFlags := 25, nameIndex := 143, descriptorIndex := 25, attributes := #[] }, { accessFlags := 25, nameIndex := 53, descriptorIndex := 25, attributes := #[] }, { accessFlags := 25, nameIndex := 24, descriptorIndex := 25, attributes := #[] }, { accessFlags := 25, nameIndex := 162, descriptorIndex := 25, attributes := #[] }, { accessFlags := 25, nameIndex := 187, descriptorIndex := 25, attributes := #[] }, { accessFlags := 26, nameIndex := 48, descriptorIndex := 25, attributes := #[] }, { accessFlags := 25, nameIndex := 277, descriptorIndex := 25, attributes := #[] }, { accessFlags := 25, nameIndex := 280, descriptorIndex := 25, attributes := #[] }, { accessFlags := 25, nameIndex := 282, descriptorIndex := 25, attributes := #[] }, { accessFlags := 25, nameIndex := 284, descriptorIndex := 25, attributes := #[] }, { accessFlags := 25, nameIndex := 286, descriptorIndex := 25, attributes := #[] }, { accessFlags := 25, nameIndex := 288, descriptorIndex := 25, attributes := #[] }, { accessFlags := 25, nameIndex := 290, descriptorIndex := 25, attributes := #[] }, { accessFlags := 25, nameIndex := 292, descriptorIndex := 25, attributes := #[] }, { accessFlags := 26, nameIndex := 108, descriptorIndex := 109, attributes := #[] }, { accessFlags := 25, nameIndex := 294, descriptorIndex := 25, attributes := #[] }])
  fields := #[{ name := "U", type := (.object "jdk/internal/misc/Unsafe"), accessFlags := 24, slot := 0, constantValue := 0 }, { name := "BIG_ENDIAN", type := .boolean, accessFlags := 26, slot := 1, constantValue := 0 }, { name := "LOG2_ARRAY_BOOLEAN_INDEX_SCALE", type := .int, accessFlags := 25, slot := 2, constantValue := 0 }, { name := "LOG2_ARRAY_BYTE_INDEX_SCALE", type := .int, accessFlags := 25, slot := 3, constantValue := 0 }, { name := "LOG2_ARRAY_CHAR_INDEX_SCALE", type := .int, accessFlags := 25, slot := 4, constantValue := 0 }, { name := "LOG2_ARRAY_SHORT_INDEX_SCALE", type := .int, accessFlags := 25, slot := 5, constantValue := 0 }, { name := "LOG2_ARRAY_INT_INDEX_SCALE", type := .int, accessFlags := 25, slot := 6, constantValue := 0 }, { name := "LOG2_ARRAY_LONG_INDEX_SCALE", type := .int, accessFlags := 25, slot := 7, constantValue := 0 }, { name := "LOG2_ARRAY_FLOAT_INDEX_SCALE", type := .int, accessFlags := 25, slot := 8, constantValue := 0 }, { name := "LOG2_ARRAY_DOUBLE_INDEX_SCALE", type := .int, accessFlags := 25, slot := 9, constantValue := 0 }, { name := "LOG2_BYTE_BIT_SIZE", type := .int, accessFlags := 26, slot := 10, constantValue := 0 }, { name := "T_BOOLEAN", type := .int, accessFlags := 25, slot := 11, constantValue := 0 }, { name := "T_CHAR", type := .int, accessFlags := 25, slot := 12, constantValue := 0 }, { name := "T_FLOAT", type := .int, accessFlags := 25, slot := 13, constantValue := 0 }, { name := "T_DOUBLE", type := .int, accessFlags := 25, slot := 14, constantValue := 0 }, { name := "T_BYTE", type := .int, accessFlags := 25, slot := 15, constantValue := 0 }, { name := "T_SHORT", type := .int, accessFlags := 25, slot := 16, constantValue := 0 }, { name := "T_INT", type := .int, accessFlags := 25, slot := 17, constantValue := 0 }, { name := "T_LONG", type := .int, accessFlags := 25, slot := 18, constantValue := 0 }, { name := "JLA", type := (.object "jdk/internal/access/JavaLangAccess"), accessFlags := 26, slot := 19, constantValue := 0 }, { name := "SOFT_MAX_ARRAY_LENGTH", type := .int, accessFlags := 25, slot := 20, constantValue := 0 }]
  methods := #[k21m0]
  instanceTypes := #[]
  staticTypes := #[(.object "jdk/internal/misc/Unsafe"), .boolean, .int, .int, .int, .int, .int, .int, .int, .int, .int, .int, .int, .int, .int, .int, .int, .int, .int, (.object "jdk/internal/access/JavaLangAccess"), .int]
  resolved := Array.replicate 378 none
  statics := none }

def pool22 : Array CpInfo := pool [(2, .class_ 4), (1, u "java/lang/Object"), (0, u "<init>"), (0, u "()V"), (12, .class_ 20), (0, u "java/util/Collections"), (63, u "r"), (0, u "Ljava/util/Random;"), (80, .class_ 167), (0, u "java/util/Collections$UnmodifiableCollection"), (6, .class_ 175), (0, u "java/util/Collections$UnmodifiableSequencedCollection"), (6, .class_ 183), (0, u "java/util/Collections$UnmodifiableSet"), (6, .class_ 191), (0, u "java/util/Collections$UnmodifiableSequencedSet"), (6, .class_ 199), (0, u "java/util/Collections$UnmodifiableSortedSet"), (6, .class_ 207), (0, u "java/util/Collections$UnmodifiableNavigableSet"), (4, .class_ 213), (0, u "java/util/Collections$UnmodifiableList"), (1, .class_ 216), (0, u "java/util/Collections$UnmodifiableRandomAccessList"), (6, .class_ 224), (0, u "java/util/Collections$UnmodifiableMap"), (6, .class_ 232), (0, u "java/util/Collections$UnmodifiableSequencedMap"), (4, .class_ 238), (0, u "java/util/Collections$UnmodifiableSortedMap"), (6, .class_ 246), (0, u "java/util/Collections$UnmodifiableNavigableMap"), (3, .class_ 251), (0, u "java/util/Collections$SynchronizedCollection"), (4, .class_ 257), (0, u "java/util/Collections$SynchronizedSet"), (4, .class_ 263), (0, u "java/util/Collections$SynchronizedSortedSet"), (1, .class_ 266), (0, u "java/util/Collections$SynchronizedNavigableSet"), (1, .class_ 269), (0, u "java/util/Collections$SynchronizedRandomAccessList"), (1, .class_ 272), (0, u "java/util/Collections$SynchronizedList"), (5, .class_ 279), (0, u "java/util/Collections$SynchronizedMap"), (1, .class_ 282), (0, u "java/util/Collections$SynchronizedSortedMap"), (1, .class_ 285), (0, u "java/util/Collections$SynchronizedNavigableMap"), (1, .class_ 288), (0, u "java/util/Collections$CheckedCollection"), (11, .class_ 301), (0, u "java/util/Collections$CheckedQueue"), (3, .class_ 306), (0, u "java/util/Collections$CheckedSet"), (3, .class_ 311), (0, u "java/util/Collections$CheckedSortedSet"), (3, .class_ 316), (0, u "java/util/Collections$CheckedNavigableSet"), (3, .class_ 321), (0, u "java/util/Collections$CheckedRandomAccessList"), (3, .class_ 326), (0, u "java/util/Collections$CheckedList"), (1, .class_ 329), (0, u "java/util/Collections$CheckedMap"), (3, .class_ 334), (0, u "java/util/Collections$CheckedSortedMap"), (3, .class_ 339), (0, u "java/util/Collections$CheckedNavigableMap"), (4, .class_ 346), (1, u "java/util/Collections$EmptyIterator"), (3, .class_ 352), (1, u "java/util/Collections$EmptyListIterator"), (2, .class_ 357), (1, u "java/util/Collections$EmptyEnumeration"), (4, u "EMPTY_SET"), (0, u "Ljava/util/Set;"), (6, u "EMPTY_LIST"), (0, u "Ljava/util/List;"), (2, u "EMPTY_MAP"), (0, u "Ljava/util/Map;"), (4, .class_ 381), (0, u "java/util/Collections$SingletonSet"), (2, .class_ 385), (0, u "java/util/Collections$1"), (1, .class_ 388), (0, u "java/util/Collections$2"), (1, .class_ 391), (0, u "java/util/Collections$SingletonList"), (1, .class_ 394), (0, u "java/util/Collections$SingletonMap"), (22, .class_ 418), (0, u "java/util/Collections$CopiesList"), (4, .class_ 425), (1, u "java/util/Collections$ReverseComparator"), (8, .class_ 435), (0, u "java/util/Collections$ReverseComparator2"), (6, .class_ 443), (0, u "java/util/Collections$3"), (25, .class_ 470), (0, u "java/util/Collections$SetFromMap"), (2, .class_ 474), (0, u "java/util/Collections$SequencedSetFromMap"), (3, .class_ 479), (0, u "java/util/Collections$AsLIFOQueue"), (11, .class_ 492), (0, u "java/util/Collections$EmptySet"), (1, .class_ 495), (0, u "java/util/Collections$EmptyList"), (1, .class_ 498), (0, u "java/util/Collections$EmptyMap"), (1, u "BINARYSEARCH_THRESHOLD"), (0, u "I"), (2, u "REVERSE_THRESHOLD"), (1, u "SHUFFLE_THRESHOLD"), (1, u "FILL_THRESHOLD"), (1, u "ROTATE_THRESHOLD"), (1, u "COPY_THRESHOLD"), (1, u "REPLACEALL_THRESHOLD"), (1, u "INDEXOFSUBLIST_THRESHOLD"), (333, .class_ 851), (0, u "java/util/Collections$CheckedMap$CheckedEntrySet"), (0, .class_ 853), (0, u "java/util/Collections$CheckedMap$CheckedEntrySet$CheckedEntry"), (0, .class_ 855), (0, u "java/util/Collections$CheckedMap$CheckedEntrySet$1"), (0, .class_ 857), (0, u "java/util/Collections$CheckedList$1"), (0, .class_ 859), (0, u "java/util/Collections$CheckedCollection$1"), (0, .class_ 861), (0, u "java/util/Collections$UnmodifiableNavigableMap$EmptyNavigableMap"), (0, .class_ 863), (0, u "java/util/Collections$UnmodifiableMap$UnmodifiableEntrySet"), (0, .class_ 865), (0, u "java/util/Collections$UnmodifiableMap$UnmodifiableEntrySet$UnmodifiableEntry"), (0, .class_ 867), (0, u "java/util/Collections$UnmodifiableMap$UnmodifiableEntrySet$UnmodifiableEntrySetSpliterator"), (0, .class_ 869), (0, u "java/util/Collections$UnmodifiableMap$UnmodifiableEntrySet$1"), (0, .class_ 871), (0, u "java/util/Collections$UnmodifiableList$1"), (0, .class_ 873), (0, u "java/util/Collections$UnmodifiableNavigableSet$EmptyNavigableSet"), (0, .class_ 875), (0, u "java/util/Collections$UnmodifiableCollection$1")] 57

def k22m0 : Method := { name := "<init>", desc := "()V", sig := { parameters := [], returnType := none }, accessFlags := 2, code := none }
/-- java/util/Collections -/
def k22 : Class := { plain "java/util/Collections" (some 0) with
  accessFlags := 33
  interfaces := #[]
  cf := some (fileOf pool22 19 #[.nestMembers #[478, 473, 469, 434, 423, 417, 393, 390, 380, 497, 494, 491, 355, 350, 344, 338, 333, 328, 850, 852, 854, 320, 325, 856, 315, 310, 305, 300, 287, 858, 284, 281, 278, 268, 271, 265, 262, 256, 250, 245, 860, 237, 231, 223, 862, 864, 866, 868, 215, 212, 870, 206, 872, 198, 190, 182, 174, 166, 874, 442, 387, 384]] #[{ accessFlags := 2, nameIndex := 5, descriptorIndex := 6, attributes := #[] }] 33 2 #[] #[{ accessFlags := 26, nameIndex := 500, descriptorIndex := 501, attributes := #[] }, { accessFlags := 26, nameIndex := 504, descriptorIndex := 501, attributes := #[] }, { accessFlags := 26, nameIndex := 506, descriptorIndex := 501, attributes := #[] }, { accessFlags := 26, nameIndex := 508, descriptorIndex := 501, attributes := #[] }, { accessFlags := 26, nameIndex := 510, descriptorIndex := 501, attributes := #[] }, { accessFlags := 26, nameIndex := 512, descriptorIndex := 501, attributes := #[] }, { accessFlags := 26, nameIndex := 514, descriptorIndex := 501, attributes := #[] }, { accessFlags := 26, nameIndex := 516, descriptorIndex := 501, attributes := #[] }, { accessFlags := 10, nameIndex := 84, descriptorIndex := 85, attributes := #[] }, { accessFlags := 25, nameIndex := 362, descriptorIndex := 363, attributes := #[] }, { accessFlags := 25, nameIndex := 370, descriptorIndex := 371, attributes := #[] }, { accessFlags := 25, nameIndex := 374, descriptorIndex := 375, attributes := #[] }])
  fields := #[{ name := "BINARYSEARCH_THRESHOLD", type := .int, accessFlags := 26, slot := 0, constantValue := 0 }, { name := "REVERSE_THRESHOLD", type := .int, accessFlags := 26, slot := 1, constantValue := 0 }, { name := "SHUFFLE_THRESHOLD", type := .int, accessFlags := 26, slot := 2, constantValue := 0 }, { name := "FILL_THRESHOLD", type := .int, accessFlags := 26, slot := 3, constantValue := 0 }, { name := "ROTATE_THRESHOLD", type := .int, accessFlags := 26, slot := 4, constantValue := 0 }, { name := "COPY_THRESHOLD", type := .int, accessFlags := 26, slot := 5, constantValue := 0 }, { name := "REPLACEALL_THRESHOLD", type := .int, accessFlags := 26, slot := 6, constantValue := 0 }, { name := "INDEXOFSUBLIST_THRESHOLD", type := .int, accessFlags := 26, slot := 7, constantValue := 0 }, { name := "r", type := (.object "java/util/Random"), accessFlags := 10, slot := 8, constantValue := 0 }, { name := "EMPTY_SET", type := (.object "java/util/Set"), accessFlags := 25, slot := 9, constantValue := 0 }, { name := "EMPTY_LIST", type := (.object "java/util/List"), accessFlags := 25, slot := 10, constantValue := 0 }, { name := "EMPTY_MAP", type := (.object "java/util/Map"), accessFlags := 25, slot := 11, constantValue := 0 }]
  methods := #[k22m0]
  instanceTypes := #[]
  staticTypes := #[.int, .int, .int, .int, .int, .int, .int, .int, (.object "java/util/Random"), (.object "java/util/Set"), (.object "java/util/List"), (.object "java/util/Map")]
  resolved := Array.replicate 933 none
  statics := some 5 }

def pool23 : Array CpInfo := pool [(8, .class_ 10), (1, u "java/lang/Iterable"), (24, .class_ 36), (0, u "java/lang/Object")] 25

/-- java/lang/Iterable -/
def k23 : Class := { plain "java/lang/Iterable" (some 0) with
  accessFlags := 1537
  interfaces := #[]
  cf := some (fileOf pool23 8 #[] #[] 1537 35 #[] #[])
  fields := #[]
  methods := #[]
  instanceTypes := #[]
  staticTypes := #[]
  resolved := Array.replicate 62 none
  statics := none }

def pool24 : Array CpInfo := pool [(10, .class_ 12), (1, u "java/util/Collection"), (47, .class_ 61), (0, u "java/lang/Object"), (0, .class_ 63), (0, u "java/lang/Iterable")] 51

/-- java/util/Collection -/
def k24 : Class := { plain "java/util/Collection" (some 0) with
  accessFlags := 1537
  interfaces := #[23]
  cf := some (fileOf pool24 10 #[] #[] 1537 60 #[62] #[])
  fields := #[]
  methods := #[]
  instanceTypes := #[]
  staticTypes := #[]
  resolved := Array.replicate 115 none
  statics := none }

def pool25 : Array CpInfo := pool [(2, .class_ 4), (1, u "java/lang/Object"), (0, u "<init>"), (0, u "()V"), (1, .class_ 10), (1, u "java/util/AbstractCollection"), (66, .class_ 78), (0, u "java/util/Collection")] 81

def k25m0 : Method := { name := "<init>", desc := "()V", sig := { parameters := [], returnType := none }, accessFlags := 4, code := none }
/-- java/util/AbstractCollection -/
def k25 : Class := { plain "java/util/AbstractCollection" (some 0) with
  accessFlags := 1057
  interfaces := #[24]
  cf := some (fileOf pool25 8 #[] #[{ accessFlags := 4, nameIndex := 5, descriptorIndex := 6, attributes := #[] }] 1057 2 #[77] #[])
  fields := #[]
  methods := #[k25m0]
  instanceTypes := #[]
  staticTypes := #[]
  resolved := Array.replicate 160 none
  statics := none }

def pool26 : Array CpInfo := pool [(8, .class_ 10), (1, u "java/util/SequencedCollection"), (15, .class_ 27), (0, u "java/lang/Object"), (0, .class_ 29), (0, u "java/util/Collection")] 27

/-- java/util/SequencedCollection -/
def k26 : Class := { plain "java/util/SequencedCollection" (some 0) with
  accessFlags := 1537
  interfaces := #[24]
  cf := some (fileOf pool26 8 #[] #[] 1537 26 #[28] #[])
  fields := #[]
  methods := #[]
  instanceTypes := #[]
  staticTypes := #[]
  resolved := Array.replicate 57 none
  statics := none }

def pool27 : Array CpInfo := pool [(8, .class_ 10), (1, u "java/util/List"), (92, .class_ 104), (0, u "java/lang/Object"), (15, .class_ 121), (0, u "java/util/SequencedCollection")] 129

/-- java/util/List -/
def k27 : Class := { plain "java/util/List" (some 0) with
  accessFlags := 1537
  interfaces := #[26]
  cf := some (fileOf pool27 8 #[] #[] 1537 103 #[120] #[])
  fields := #[]
  methods := #[]
  instanceTypes := #[]
  staticTypes := #[]
  resolved := Array.replicate 251 none
  statics := none }

def pool28 : Array CpInfo := pool [(2, .class_ 4), (1, u "java/util/AbstractCollection"), (0, u "<init>"), (0, u "()V"), (1, .class_ 10), (1, u "java/util/AbstractList"), (0, u "modCount"), (0, u "I"), (64, .class_ 78), (0, u "java/util/AbstractList$Itr"), (3, .class_ 83), (0, u "java/util/AbstractList$ListItr"), (9, .class_ 94), (0, u "java/util/AbstractList$RandomAccessSubList"), (3, .class_ 99), (0, u "java/util/AbstractList$SubList"), (33, .class_ 134), (0, u "java/util/List"), (73, .class_ 209), (0, u "java/util/AbstractList$SubList$1"), (0, .class_ 211), (0, u "java/util/AbstractList$RandomAccessSpliterator")] 6

def k28m0 : Method := { name := "<init>", desc := "()V", sig := { parameters := [], returnType := none }, accessFlags := 4, code := none }
/-- java/util/AbstractList -/
def k28 : Class := { plain "java/util/AbstractList" (some 25) with
  accessFlags := 1057
  interfaces := #[27]
  cf := some (fileOf pool28 8 #[.nestMembers #[93, 98, 208, 210, 82, 77]] #[{ accessFlags := 4, nameIndex := 5, descriptorIndex := 6, attributes := #[] }] 1057 2 #[133] #[{ accessFlags := 132, nameIndex := 11, descriptorIndex := 12, attributes := #[] }])
  fields := #[{ name := "modCount", type := .int, accessFlags := 132, slot := 0, constantValue := 0 }]
  methods := #[k28m0]
  instanceTypes := #[.int]
  staticTypes := #[]
  resolved := Array.replicate 218 none
  statics := none }

def pool29 : Array CpInfo := pool [(1, .class_ 2), (0, u "java/util/RandomAccess"), (0, .class_ 4), (0, u "java/lang/Object")] 2

/-- java/util/RandomAccess -/
def k29 : Class := { plain "java/util/RandomAccess" (some 0) with
  accessFlags := 1537
  interfaces := #[]
  cf := some (fileOf pool29 1 #[] #[] 1537 3 #[] #[])
  fields := #[]
  methods := #[]
  instanceTypes := #[]
  staticTypes := #[]
  resolved := Array.replicate 7 none
  statics := none }

def pool30 : Array CpInfo := pool [(2, .class_ 4), (1, u "java/util/AbstractList"), (0, u "<init>"), (0, u "()V"), (1, .class_ 10), (1, u "java/util/Collections"), (54, .class_ 66), (0, u "java/util/Collections$EmptyList"), (0, .class_ 68), (0, u "java/util/RandomAccess"), (0, .class_ 70), (0, u "java/io/Serializable"), (0, u "serialVersionUID"), (0, u "J")] 77

def k30m0 : Method := { name := "<init>", desc := "()V", sig := { parameters := [], returnType := none }, accessFlags := 2, code := none }
/-- java/util/Collections$EmptyList -/
def k30 : Class := { plain "java/util/Collections$EmptyList" (some 28) with
  accessFlags := 32
  interfaces := #[29, 2]
  cf := some (fileOf pool30 65 #[.nestHost 8] #[{ accessFlags := 2, nameIndex := 5, descriptorIndex := 6, attributes := #[] }] 32 2 #[67, 69] #[{ accessFlags := 26, nameIndex := 71, descriptorIndex := 72, attributes := #[] }])
  fields := #[{ name := "serialVersionUID", type := .long, accessFlags := 26, slot := 0, constantValue := 0 }]
  methods := #[k30m0]
  instanceTypes := #[.int]
  staticTypes := #[.long]
  resolved := Array.replicate 150 none
  statics := none }

def pool31 : Array CpInfo := pool [(2, .class_ 4), (1, u "java/lang/StackTraceElement"), (0, u "<init>"), (2, .class_ 10), (1, u "java/lang/Object"), (0, u "()V"), (2, u "format"), (0, u "B"), (2, u "classLoaderName"), (0, u "Ljava/lang/String;"), (2, u "moduleName"), (2, u "moduleVersion"), (12, u "declaringClass"), (4, u "methodName"), (2, u "fileName"), (2, u "lineNumber"), (0, u "I"), (65, u "declaringClassObject"), (0, u "Ljava/lang/Class;"), (33, .class_ 153), (1, u "java/lang/StackTraceElement$HashedModules"), (17, .class_ 172), (0, u "java/io/Serializable"), (0, u "NATIVE_METHOD"), (1, u "UNKNOWN_SOURCE"), (2, u "BUILTIN_CLASS_LOADER"), (1, u "JDK_NON_UPGRADEABLE_MODULE"), (1, u "serialVersionUID"), (0, u "J")] 51

def k31m0 : Method := { name := "<init>", desc := "()V", sig := { parameters := [], returnType := none }, accessFlags := 2, code := none }
/-- java/lang/StackTraceElement -/
def k31 : Class := { plain "java/lang/StackTraceElement" (some 0) with
  accessFlags := 49
  interfaces := #[2]
  cf := some (fileOf pool31 2 #[.nestMembers #[151]] #[{ accessFlags := 2, nameIndex := 5, descriptorIndex := 11, attributes := #[] }] 49 8 #[171] #[{ accessFlags := 26, nameIndex := 173, descriptorIndex := 19, attributes := #[] }, { accessFlags := 26, nameIndex := 175, descriptorIndex := 19, attributes := #[] }, { accessFlags := 130, nameIndex := 116, descriptorIndex := 117, attributes := #[] }, { accessFlags := 2, nameIndex := 18, descriptorIndex := 19, attributes := #[] }, { accessFlags := 2, nameIndex := 22, descriptorIndex := 19, attributes := #[] }, { accessFlags := 2, nameIndex := 25, descriptorIndex := 19, attributes := #[] }, { accessFlags := 2, nameIndex := 38, descriptorIndex := 19, attributes := #[] }, { accessFlags := 2, nameIndex := 43, descriptorIndex := 19, attributes := #[] }, { accessFlags := 2, nameIndex := 46, descriptorIndex := 19, attributes := #[] }, { accessFlags := 2, nameIndex := 49, descriptorIndex := 50, attributes := #[] }, { accessFlags := 2, nameIndex := 14, descriptorIndex := 15, attributes := #[] }, { accessFlags := 26, nameIndex := 178, descriptorIndex := 15, attributes := #[] }, { accessFlags := 26, nameIndex := 180, descriptorIndex := 15, attributes := #[] }, { accessFlags := 26, nameIndex := 182, descriptorIndex := 183, attributes := #[] }])
  fields := #[{ name := "NATIVE_METHOD", type := (.object "java/lang/String"), accessFlags := 26, slot := 0, constantValue := 0 }, { name := "UNKNOWN_SOURCE", type := (.object "java/lang/String"), accessFlags := 26, slot := 1, constantValue := 0 }, { name := "declaringClassObject", type := (.object "java/lang/Class"), accessFlags := 130, slot := 0, constantValue := 0 }, { name := "classLoaderName", type := (.object "java/lang/String"), accessFlags := 2, slot := 1, constantValue := 0 }, { name := "moduleName", type := (.object "java/lang/String"), accessFlags := 2, slot := 2, constantValue := 0 }, { name := "moduleVersion", type := (.object "java/lang/String"), accessFlags := 2, slot := 3, constantValue := 0 }, { name := "declaringClass", type := (.object "java/lang/String"), accessFlags := 2, slot := 4, constantValue := 0 }, { name := "methodName", type := (.object "java/lang/String"), accessFlags := 2, slot := 5, constantValue := 0 }, { name := "fileName", type := (.object "java/lang/String"), accessFlags := 2, slot := 6, constantValue := 0 }, { name := "lineNumber", type := .int, accessFlags := 2, slot := 7, constantValue := 0 }, { name := "format", type := .byte, accessFlags := 2, slot := 8, constantValue := 0 }, { name := "BUILTIN_CLASS_LOADER", type := .byte, accessFlags := 26, slot := 2, constantValue := 0 }, { name := "JDK_NON_UPGRADEABLE_MODULE", type := .byte, accessFlags := 26, slot := 3, constantValue := 0 }, { name := "serialVersionUID", type := .long, accessFlags := 26, slot := 4, constantValue := 0 }]
  methods := #[k31m0]
  instanceTypes := #[(.object "java/lang/Class"), (.object "java/lang/String"), (.object "java/lang/String"), (.object "java/lang/String"), (.object "java/lang/String"), (.object "java/lang/String"), (.object "java/lang/String"), .int, .byte]
  staticTypes := #[(.object "java/lang/String"), (.object "java/lang/String"), .byte, .byte, .long]
  resolved := Array.replicate 235 none
  statics := none }

def pool32 : Array CpInfo := pool [(1, u "java/lang/Cloneable"), (0, .class_ 1), (0, u "java/lang/Object"), (0, .class_ 3)] 3

/-- java/lang/Cloneable -/
def k32 : Class := { plain "java/lang/Cloneable" (some 0) with
  accessFlags := 1537
  interfaces := #[]
  cf := some (fileOf pool32 2 #[] #[] 1537 4 #[] #[])
  fields := #[]
  methods := #[]
  instanceTypes := #[]
  staticTypes := #[]
  resolved := Array.replicate 8 none
  statics := none }

/-- the primitive byte -/
def k33 : Class := { plain "byte" none with kind := .primitive 'B', accessFlags := 0x411 }
/-- [B -/
def k34 : Class := { plain "[B" (some 0) with kind := .array 33 .byte, interfaces := #[32, 2], accessFlags := 1041 }

/-- the primitive int -/
def k35 : Class := { plain "int" none with kind := .primitive 'I', accessFlags := 0x411 }
/-- [I -/
def k36 : Class := { plain "[I" (some 0) with kind := .array 35 .int, interfaces := #[32, 2], accessFlags := 1041 }

/-- [Ljava/lang/Integer; -/
def k37 : Class := { plain "[Ljava/lang/Integer;" (some 0) with kind := .array 7 (.object "java/lang/Integer"), interfaces := #[32, 2], accessFlags := 1041 }

/-- [Ljava/lang/Object; -/
def k38 : Class := { plain "[Ljava/lang/Object;" (some 0) with kind := .array 0 (.object "java/lang/Object"), interfaces := #[32, 2], accessFlags := 1041 }

/-- [Ljava/lang/StackTraceElement; -/
def k39 : Class := { plain "[Ljava/lang/StackTraceElement;" (some 0) with kind := .array 31 (.object "java/lang/StackTraceElement"), interfaces := #[32, 2], accessFlags := 1041 }

/-- [Ljava/lang/Throwable; -/
def k40 : Class := { plain "[Ljava/lang/Throwable;" (some 0) with kind := .array 9 (.object "java/lang/Throwable"), interfaces := #[32, 2], accessFlags := 1041 }

def heap : Heap := #[{ cls := 8, slots := #[.int 0, .int 127, .ref 6, .null, .int 0], vm := .statics 8 },
  { cls := 9, slots := #[.long 0, .ref 264, .ref 265, .null, .null, .null, .null, .ref 266, .int 1], vm := .statics 9 },
  { cls := 14, slots := #[.long 0, .int 1, .null, .int 0, .null, .int 0, .int 0], vm := .statics 14 },
  { cls := 19, slots := #[.null, .null, .null, .null, .null, .null, .null, .null, .null, .null, .ref 7, .null, .null, .null, .null, .null, .null, .null, .null, .null, .null, .null, .null, .null, .null, .null, .null, .null, .null], vm := .statics 19 },
  { cls := 20, slots := #[.null, .null, .null], vm := .statics 20 },
  { cls := 22, slots := #[.int 0, .int 0, .int 0, .int 0, .int 0, .int 0, .int 0, .int 0, .null, .null, .ref 265, .null], vm := .statics 22 },
  { cls := 37, slots := #[.ref 8, .ref 9, .ref 10, .ref 11, .ref 12, .ref 13, .ref 14, .ref 15, .ref 16, .ref 17, .ref 18, .ref 19, .ref 20, .ref 21, .ref 22, .ref 23, .ref 24, .ref 25, .ref 26, .ref 27, .ref 28, .ref 29, .ref 30, .ref 31, .ref 32, .ref 33, .ref 34, .ref 35, .ref 36, .ref 37, .ref 38, .ref 39, .ref 40, .ref 41, .ref 42, .ref 43, .ref 44, .ref 45, .ref 46, .ref 47, .ref 48, .ref 49, .ref 50, .ref 51, .ref 52, .ref 53, .ref 54, .ref 55, .ref 56, .ref 57, .ref 58, .ref 59, .ref 60, .ref 61, .ref 62, .ref 63, .ref 64, .ref 65, .ref 66, .ref 67, .ref 68, .ref 69, .ref 70, .ref 71, .ref 72, .ref 73, .ref 74, .ref 75, .ref 76, .ref 77, .ref 78, .ref 79, .ref 80, .ref 81, .ref 82, .ref 83, .ref 84, .ref 85, .ref 86, .ref 87, .ref 88, .ref 89, .ref 90, .ref 91, .ref 92, .ref 93, .ref 94, .ref 95, .ref 96, .ref 97, .ref 98, .ref 99, .ref 100, .ref 101, .ref 102, .ref 103, .ref 104, .ref 105, .ref 106, .ref 107, .ref 108, .ref 109, .ref 110, .ref 111, .ref 112, .ref 113, .ref 114, .ref 115, .ref 116, .ref 117, .ref 118, .ref 119, .ref 120, .ref 121, .ref 122, .ref 123, .ref 124, .ref 125, .ref 126, .ref 127, .ref 128, .ref 129, .ref 130, .ref 131, .ref 132, .ref 133, .ref 134, .ref 135, .ref 136, .ref 137, .ref 138, .ref 139, .ref 140, .ref 141, .ref 142, .ref 143, .ref 144, .ref 145, .ref 146, .ref 147, .ref 148, .ref 149, .ref 150, .ref 151, .ref 152, .ref 153, .ref 154, .ref 155, .ref 156, .ref 157, .ref 158, .ref 159, .ref 160, .ref 161, .ref 162, .ref 163, .ref 164, .ref 165, .ref 166, .ref 167, .ref 168, .ref 169, .ref 170, .ref 171, .ref 172, .ref 173, .ref 174, .ref 175, .ref 176, .ref 177, .ref 178, .ref 179, .ref 180, .ref 181, .ref 182, .ref 183, .ref 184, .ref 185, .ref 186, .ref 187, .ref 188, .ref 189, .ref 190, .ref 191, .ref 192, .ref 193, .ref 194, .ref 195, .ref 196, .ref 197, .ref 198, .ref 199, .ref 200, .ref 201, .ref 202, .ref 203, .ref 204, .ref 205, .ref 206, .ref 207, .ref 208, .ref 209, .ref 210, .ref 211, .ref 212, .ref 213, .ref 214, .ref 215, .ref 216, .ref 217, .ref 218, .ref 219, .ref 220, .ref 221, .ref 222, .ref 223, .ref 224, .ref 225, .ref 226, .ref 227, .ref 228, .ref 229, .ref 230, .ref 231, .ref 232, .ref 233, .ref 234, .ref 235, .ref 236, .ref 237, .ref 238, .ref 239, .ref 240, .ref 241, .ref 242, .ref 243, .ref 244, .ref 245, .ref 246, .ref 247, .ref 248, .ref 249, .ref 250, .ref 251, .ref 252, .ref 253, .ref 254, .ref 255, .ref 256, .ref 257, .ref 258, .ref 259, .ref 260, .ref 261, .ref 262, .ref 263], vm := .none },
  { cls := 19, slots := #[.null, .int 0, .int 0, .null, .null, .int 0], vm := .none },
  { cls := 7, slots := #[.int (-128)], vm := .none },
  { cls := 7, slots := #[.int (-127)], vm := .none },
  { cls := 7, slots := #[.int (-126)], vm := .none },
  { cls := 7, slots := #[.int (-125)], vm := .none },
  { cls := 7, slots := #[.int (-124)], vm := .none },
  { cls := 7, slots := #[.int (-123)], vm := .none },
  { cls := 7, slots := #[.int (-122)], vm := .none },
  { cls := 7, slots := #[.int (-121)], vm := .none },
  { cls := 7, slots := #[.int (-120)], vm := .none },
  { cls := 7, slots := #[.int (-119)], vm := .none },
  { cls := 7, slots := #[.int (-118)], vm := .none },
  { cls := 7, slots := #[.int (-117)], vm := .none },
  { cls := 7, slots := #[.int (-116)], vm := .none },
  { cls := 7, slots := #[.int (-115)], vm := .none },
  { cls := 7, slots := #[.int (-114)], vm := .none },
  { cls := 7, slots := #[.int (-113)], vm := .none },
  { cls := 7, slots := #[.int (-112)], vm := .none },
  { cls := 7, slots := #[.int (-111)], vm := .none },
  { cls := 7, slots := #[.int (-110)], vm := .none },
  { cls := 7, slots := #[.int (-109)], vm := .none },
  { cls := 7, slots := #[.int (-108)], vm := .none },
  { cls := 7, slots := #[.int (-107)], vm := .none },
  { cls := 7, slots := #[.int (-106)], vm := .none },
  { cls := 7, slots := #[.int (-105)], vm := .none },
  { cls := 7, slots := #[.int (-104)], vm := .none },
  { cls := 7, slots := #[.int (-103)], vm := .none },
  { cls := 7, slots := #[.int (-102)], vm := .none },
  { cls := 7, slots := #[.int (-101)], vm := .none },
  { cls := 7, slots := #[.int (-100)], vm := .none },
  { cls := 7, slots := #[.int (-99)], vm := .none },
  { cls := 7, slots := #[.int (-98)], vm := .none },
  { cls := 7, slots := #[.int (-97)], vm := .none },
  { cls := 7, slots := #[.int (-96)], vm := .none },
  { cls := 7, slots := #[.int (-95)], vm := .none },
  { cls := 7, slots := #[.int (-94)], vm := .none },
  { cls := 7, slots := #[.int (-93)], vm := .none },
  { cls := 7, slots := #[.int (-92)], vm := .none },
  { cls := 7, slots := #[.int (-91)], vm := .none },
  { cls := 7, slots := #[.int (-90)], vm := .none },
  { cls := 7, slots := #[.int (-89)], vm := .none },
  { cls := 7, slots := #[.int (-88)], vm := .none },
  { cls := 7, slots := #[.int (-87)], vm := .none },
  { cls := 7, slots := #[.int (-86)], vm := .none },
  { cls := 7, slots := #[.int (-85)], vm := .none },
  { cls := 7, slots := #[.int (-84)], vm := .none },
  { cls := 7, slots := #[.int (-83)], vm := .none },
  { cls := 7, slots := #[.int (-82)], vm := .none },
  { cls := 7, slots := #[.int (-81)], vm := .none },
  { cls := 7, slots := #[.int (-80)], vm := .none },
  { cls := 7, slots := #[.int (-79)], vm := .none },
  { cls := 7, slots := #[.int (-78)], vm := .none },
  { cls := 7, slots := #[.int (-77)], vm := .none },
  { cls := 7, slots := #[.int (-76)], vm := .none },
  { cls := 7, slots := #[.int (-75)], vm := .none },
  { cls := 7, slots := #[.int (-74)], vm := .none },
  { cls := 7, slots := #[.int (-73)], vm := .none },
  { cls := 7, slots := #[.int (-72)], vm := .none },
  { cls := 7, slots := #[.int (-71)], vm := .none },
  { cls := 7, slots := #[.int (-70)], vm := .none },
  { cls := 7, slots := #[.int (-69)], vm := .none },
  { cls := 7, slots := #[.int (-68)], vm := .none },
  { cls := 7, slots := #[.int (-67)], vm := .none },
  { cls := 7, slots := #[.int (-66)], vm := .none },
  { cls := 7, slots := #[.int (-65)], vm := .none },
  { cls := 7, slots := #[.int (-64)], vm := .none },
  { cls := 7, slots := #[.int (-63)], vm := .none },
  { cls := 7, slots := #[.int (-62)], vm := .none },
  { cls := 7, slots := #[.int (-61)], vm := .none },
  { cls := 7, slots := #[.int (-60)], vm := .none },
  { cls := 7, slots := #[.int (-59)], vm := .none },
  { cls := 7, slots := #[.int (-58)], vm := .none },
  { cls := 7, slots := #[.int (-57)], vm := .none },
  { cls := 7, slots := #[.int (-56)], vm := .none },
  { cls := 7, slots := #[.int (-55)], vm := .none },
  { cls := 7, slots := #[.int (-54)], vm := .none },
  { cls := 7, slots := #[.int (-53)], vm := .none },
  { cls := 7, slots := #[.int (-52)], vm := .none },
  { cls := 7, slots := #[.int (-51)], vm := .none },
  { cls := 7, slots := #[.int (-50)], vm := .none },
  { cls := 7, slots := #[.int (-49)], vm := .none },
  { cls := 7, slots := #[.int (-48)], vm := .none },
  { cls := 7, slots := #[.int (-47)], vm := .none },
  { cls := 7, slots := #[.int (-46)], vm := .none },
  { cls := 7, slots := #[.int (-45)], vm := .none },
  { cls := 7, slots := #[.int (-44)], vm := .none },
  { cls := 7, slots := #[.int (-43)], vm := .none },
  { cls := 7, slots := #[.int (-42)], vm := .none },
  { cls := 7, slots := #[.int (-41)], vm := .none },
  { cls := 7, slots := #[.int (-40)], vm := .none },
  { cls := 7, slots := #[.int (-39)], vm := .none },
  { cls := 7, slots := #[.int (-38)], vm := .none },
  { cls := 7, slots := #[.int (-37)], vm := .none },
  { cls := 7, slots := #[.int (-36)], vm := .none },
  { cls := 7, slots := #[.int (-35)], vm := .none },
  { cls := 7, slots := #[.int (-34)], vm := .none },
  { cls := 7, slots := #[.int (-33)], vm := .none },
  { cls := 7, slots := #[.int (-32)], vm := .none },
  { cls := 7, slots := #[.int (-31)], vm := .none },
  { cls := 7, slots := #[.int (-30)], vm := .none },
  { cls := 7, slots := #[.int (-29)], vm := .none },
  { cls := 7, slots := #[.int (-28)], vm := .none },
  { cls := 7, slots := #[.int (-27)], vm := .none },
  { cls := 7, slots := #[.int (-26)], vm := .none },
  { cls := 7, slots := #[.int (-25)], vm := .none },
  { cls := 7, slots := #[.int (-24)], vm := .none },
  { cls := 7, slots := #[.int (-23)], vm := .none },
  { cls := 7, slots := #[.int (-22)], vm := .none },
  { cls := 7, slots := #[.int (-21)], vm := .none },
  { cls := 7, slots := #[.int (-20)], vm := .none },
  { cls := 7, slots := #[.int (-19)], vm := .none },
  { cls := 7, slots := #[.int (-18)], vm := .none },
  { cls := 7, slots := #[.int (-17)], vm := .none },
  { cls := 7, slots := #[.int (-16)], vm := .none },
  { cls := 7, slots := #[.int (-15)], vm := .none },
  { cls := 7, slots := #[.int (-14)], vm := .none },
  { cls := 7, slots := #[.int (-13)], vm := .none },
  { cls := 7, slots := #[.int (-12)], vm := .none },
  { cls := 7, slots := #[.int (-11)], vm := .none },
  { cls := 7, slots := #[.int (-10)], vm := .none },
  { cls := 7, slots := #[.int (-9)], vm := .none },
  { cls := 7, slots := #[.int (-8)], vm := .none },
  { cls := 7, slots := #[.int (-7)], vm := .none },
  { cls := 7, slots := #[.int (-6)], vm := .none },
  { cls := 7, slots := #[.int (-5)], vm := .none },
  { cls := 7, slots := #[.int (-4)], vm := .none },
  { cls := 7, slots := #[.int (-3)], vm := .none },
  { cls := 7, slots := #[.int (-2)], vm := .none },
  { cls := 7, slots := #[.int (-1)], vm := .none },
  { cls := 7, slots := #[.int 0], vm := .none },
  { cls := 7, slots := #[.int 1], vm := .none },
  { cls := 7, slots := #[.int 2], vm := .none },
  { cls := 7, slots := #[.int 3], vm := .none },
  { cls := 7, slots := #[.int 4], vm := .none },
  { cls := 7, slots := #[.int 5], vm := .none },
  { cls := 7, slots := #[.int 6], vm := .none },
  { cls := 7, slots := #[.int 7], vm := .none },
  { cls := 7, slots := #[.int 8], vm := .none },
  { cls := 7, slots := #[.int 9], vm := .none },
  { cls := 7, slots := #[.int 10], vm := .none },
  { cls := 7, slots := #[.int 11], vm := .none },
  { cls := 7, slots := #[.int 12], vm := .none },
  { cls := 7, slots := #[.int 13], vm := .none },
  { cls := 7, slots := #[.int 14], vm := .none },
  { cls := 7, slots := #[.int 15], vm := .none },
  { cls := 7, slots := #[.int 16], vm := .none },
  { cls := 7, slots := #[.int 17], vm := .none },
  { cls := 7, slots := #[.int 18], vm := .none },
  { cls := 7, slots := #[.int 19], vm := .none },
  { cls := 7, slots := #[.int 20], vm := .none },
  { cls := 7, slots := #[.int 21], vm := .none },
  { cls := 7, slots := #[.int 22], vm := .none },
  { cls := 7, slots := #[.int 23], vm := .none },
  { cls := 7, slots := #[.int 24], vm := .none },
  { cls := 7, slots := #[.int 25], vm := .none },
  { cls := 7, slots := #[.int 26], vm := .none },
  { cls := 7, slots := #[.int 27], vm := .none },
  { cls := 7, slots := #[.int 28], vm := .none },
  { cls := 7, slots := #[.int 29], vm := .none },
  { cls := 7, slots := #[.int 30], vm := .none },
  { cls := 7, slots := #[.int 31], vm := .none },
  { cls := 7, slots := #[.int 32], vm := .none },
  { cls := 7, slots := #[.int 33], vm := .none },
  { cls := 7, slots := #[.int 34], vm := .none },
  { cls := 7, slots := #[.int 35], vm := .none },
  { cls := 7, slots := #[.int 36], vm := .none },
  { cls := 7, slots := #[.int 37], vm := .none },
  { cls := 7, slots := #[.int 38], vm := .none },
  { cls := 7, slots := #[.int 39], vm := .none },
  { cls := 7, slots := #[.int 40], vm := .none },
  { cls := 7, slots := #[.int 41], vm := .none },
  { cls := 7, slots := #[.int 42], vm := .none },
  { cls := 7, slots := #[.int 43], vm := .none },
  { cls := 7, slots := #[.int 44], vm := .none },
  { cls := 7, slots := #[.int 45], vm := .none },
  { cls := 7, slots := #[.int 46], vm := .none },
  { cls := 7, slots := #[.int 47], vm := .none },
  { cls := 7, slots := #[.int 48], vm := .none },
  { cls := 7, slots := #[.int 49], vm := .none },
  { cls := 7, slots := #[.int 50], vm := .none },
  { cls := 7, slots := #[.int 51], vm := .none },
  { cls := 7, slots := #[.int 52], vm := .none },
  { cls := 7, slots := #[.int 53], vm := .none },
  { cls := 7, slots := #[.int 54], vm := .none },
  { cls := 7, slots := #[.int 55], vm := .none },
  { cls := 7, slots := #[.int 56], vm := .none },
  { cls := 7, slots := #[.int 57], vm := .none },
  { cls := 7, slots := #[.int 58], vm := .none },
  { cls := 7, slots := #[.int 59], vm := .none },
  { cls := 7, slots := #[.int 60], vm := .none },
  { cls := 7, slots := #[.int 61], vm := .none },
  { cls := 7, slots := #[.int 62], vm := .none },
  { cls := 7, slots := #[.int 63], vm := .none },
  { cls := 7, slots := #[.int 64], vm := .none },
  { cls := 7, slots := #[.int 65], vm := .none },
  { cls := 7, slots := #[.int 66], vm := .none },
  { cls := 7, slots := #[.int 67], vm := .none },
  { cls := 7, slots := #[.int 68], vm := .none },
  { cls := 7, slots := #[.int 69], vm := .none },
  { cls := 7, slots := #[.int 70], vm := .none },
  { cls := 7, slots := #[.int 71], vm := .none },
  { cls := 7, slots := #[.int 72], vm := .none },
  { cls := 7, slots := #[.int 73], vm := .none },
  { cls := 7, slots := #[.int 74], vm := .none },
  { cls := 7, slots := #[.int 75], vm := .none },
  { cls := 7, slots := #[.int 76], vm := .none },
  { cls := 7, slots := #[.int 77], vm := .none },
  { cls := 7, slots := #[.int 78], vm := .none },
  { cls := 7, slots := #[.int 79], vm := .none },
  { cls := 7, slots := #[.int 80], vm := .none },
  { cls := 7, slots := #[.int 81], vm := .none },
  { cls := 7, slots := #[.int 82], vm := .none },
  { cls := 7, slots := #[.int 83], vm := .none },
  { cls := 7, slots := #[.int 84], vm := .none },
  { cls := 7, slots := #[.int 85], vm := .none },
  { cls := 7, slots := #[.int 86], vm := .none },
  { cls := 7, slots := #[.int 87], vm := .none },
  { cls := 7, slots := #[.int 88], vm := .none },
  { cls := 7, slots := #[.int 89], vm := .none },
  { cls := 7, slots := #[.int 90], vm := .none },
  { cls := 7, slots := #[.int 91], vm := .none },
  { cls := 7, slots := #[.int 92], vm := .none },
  { cls := 7, slots := #[.int 93], vm := .none },
  { cls := 7, slots := #[.int 94], vm := .none },
  { cls := 7, slots := #[.int 95], vm := .none },
  { cls := 7, slots := #[.int 96], vm := .none },
  { cls := 7, slots := #[.int 97], vm := .none },
  { cls := 7, slots := #[.int 98], vm := .none },
  { cls := 7, slots := #[.int 99], vm := .none },
  { cls := 7, slots := #[.int 100], vm := .none },
  { cls := 7, slots := #[.int 101], vm := .none },
  { cls := 7, slots := #[.int 102], vm := .none },
  { cls := 7, slots := #[.int 103], vm := .none },
  { cls := 7, slots := #[.int 104], vm := .none },
  { cls := 7, slots := #[.int 105], vm := .none },
  { cls := 7, slots := #[.int 106], vm := .none },
  { cls := 7, slots := #[.int 107], vm := .none },
  { cls := 7, slots := #[.int 108], vm := .none },
  { cls := 7, slots := #[.int 109], vm := .none },
  { cls := 7, slots := #[.int 110], vm := .none },
  { cls := 7, slots := #[.int 111], vm := .none },
  { cls := 7, slots := #[.int 112], vm := .none },
  { cls := 7, slots := #[.int 113], vm := .none },
  { cls := 7, slots := #[.int 114], vm := .none },
  { cls := 7, slots := #[.int 115], vm := .none },
  { cls := 7, slots := #[.int 116], vm := .none },
  { cls := 7, slots := #[.int 117], vm := .none },
  { cls := 7, slots := #[.int 118], vm := .none },
  { cls := 7, slots := #[.int 119], vm := .none },
  { cls := 7, slots := #[.int 120], vm := .none },
  { cls := 7, slots := #[.int 121], vm := .none },
  { cls := 7, slots := #[.int 122], vm := .none },
  { cls := 7, slots := #[.int 123], vm := .none },
  { cls := 7, slots := #[.int 124], vm := .none },
  { cls := 7, slots := #[.int 125], vm := .none },
  { cls := 7, slots := #[.int 126], vm := .none },
  { cls := 7, slots := #[.int 127], vm := .none },
  { cls := 39, slots := #[], vm := .none },
  { cls := 30, slots := #[.int 0], vm := .none },
  { cls := 40, slots := #[], vm := .none }]
def classes : Array Class := #[k0, k1, k2, k3, k4, k5, k6, k7, k8, k9, k10, k11, k12, k13, k14, k15, k16, k17, k18, k19, k20, k21, k22, k23, k24, k25, k26, k27, k28, k29, k30, k31, k32, k33, k34, k35, k36, k37, k38, k39, k40]
def interned : List (Array UInt16 × Addr) := []
def slotsUsed : Nat := 584
def theMethod : MethodId := ⟨1, 1⟩
def args0 : Array Value := #[.int 5, .int 6]
def aboutOver (below : List Frame) : State where
  vm := { classes := classes, interned := interned.toArray }
  heap := heap
  slotsUsed := slotsUsed
  threads := #[{ frames := .invoking theMethod args0 :: below }]
def below0 : List Frame := [.native { method := ⟨0, 0⟩, args := #[] }]
def about1 : State := aboutOver below0
def p0 : Program := .bare "" "" ""
def e0 : Env := launch0.env 0 0 0
theorem w_frames : about1.frames = Frame.invoking theMethod args0 :: below0 := rfl
set_option maxRecDepth 65536 in
theorem w_args : argsFit about1.vm theMethod args0 = true := by decide +kernel
set_option maxRecDepth 65536 in
theorem w_heap : heapFits about1 = true := by decide +kernel
set_option maxRecDepth 65536 in
theorem w_runnable : about1.curStatus? = some .runnable := by decide +kernel
set_option maxRecDepth 65536 in
theorem w_alone : about1.alone = true := by decide +kernel
set_option maxRecDepth 65536 in
theorem w_named : about1.methodNamed? x = some theMethod := by decide +kernel
set_option maxRecDepth 65536 in
theorem w_hears : about1.hears theMethod below0 = true := by decide +kernel
set_option maxRecDepth 65536 in
theorem w_ripe : about1.ripe theMethod args0 below0 = true := by decide +kernel
theorem w_running : about1.status = .running := rfl
set_option maxRecDepth 65536 in
theorem w_room : about1.hasRoom e0.platform room_1 = true :=
  launch0.hasRoom_least _ room_1 (by decide +kernel) (by decide +kernel) (by decide +kernel) (by decide +kernel) (by decide +kernel) (by decide +kernel)
theorem allAtoms_all (ts : List Jvm.Cond) (a : Array Jvm.Value) (st : Jvm.State) : (allAtoms ts).before a st = ts.all (fun c => c.before a st) := by
  induction ts with
  | nil => rfl
  | cons c t ih =>
    show (Jvm.Cond.and c (allAtoms t)).before a st = _
    rw [Jvm.Cond.before_and, ih, List.all_cons]
def words1 : List Jvm.Cond := Jvm.Cond.code x code maxLocals ret :: tables_1
/-- a 'code' word, met by the world's own term for the bytes: nothing is compared byte by byte -/
theorem code_word {y : MethodName} {bytes : ByteArray} {mx : Nat} {rt : Option FieldType} {a : Array Value} {s : State} {m : MethodId} {meth : Method} {c : Code} (h1 : s.methodNamed? y = some m) (h2 : s.vm.method? m = some meth) (h3 : meth.code = some c) (h4 : c.code = bytes)
    (h5 : (c.maxLocals == mx && c.exceptionTable.isEmpty && decide (c.maxStack ≤ mostOperands) && decide (meth.sig.returnType = rt) && !meth.locks && decide (parseMethodDescriptor y.desc = some meth.sig)) = true) : (Jvm.Cond.code y bytes mx rt).before a s = true := by
  simp only [Bool.and_eq_true, beq_iff_eq, Bool.not_eq_true', decide_eq_true_eq] at h5
  obtain ⟨⟨⟨⟨⟨g1, g2⟩, g3⟩, g4⟩, g5⟩, g6⟩ := h5
  simp [Cond.before, Cond.holds, Cond.value, h1, h2, h3, h4, g1, g2, g3, g4, g5, g6]
def isCode : Jvm.Cond → Bool
  | .code _ _ _ _ => true
  | _ => false
theorem all_split {L : List Jvm.Cond} {P : Jvm.Cond → Bool} (h1 : L.all (fun c => isCode c || P c) = true) (h2 : ∀ c ∈ L.filter isCode, P c = true) : L.all P = true := by
  refine List.all_eq_true.mpr fun c hc => ?_
  have h := List.all_eq_true.mp h1 c hc
  rcases Bool.eq_false_or_eq_true (isCode c) with hi | hi
  · exact h2 c (List.mem_filter.mpr ⟨hc, hi⟩)
  · simpa [hi] using h
set_option maxRecDepth 65536 in
theorem w_c0 : (Jvm.Cond.code x code maxLocals ret).before args0 about1 = true := code_word (m := ⟨1, 1⟩) (meth := k1m1) (c := k1c1) (by decide +kernel) rfl rfl rfl (by decide +kernel)
set_option maxRecDepth 65536 in
theorem w_c1 : (Jvm.Cond.code ({ cls := "java/lang/Integer", name := "valueOf", desc := "(I)Ljava/lang/Integer;" } : Jvm.MethodName) jdk_33_method_22_code (1 : Nat) (Option.some (Jvm.ClassFile.FieldType.object "java/lang/Integer"))).before args0 about1 = true := code_word (m := ⟨7, 0⟩) (meth := k7m0) (c := k7c0) (by decide +kernel) rfl rfl rfl (by decide +kernel)
set_option maxRecDepth 65536 in
theorem w_c2 : (Jvm.Cond.code ({ cls := "java/lang/String", name := "valueOf", desc := "(C)Ljava/lang/String;" } : Jvm.MethodName) jdk_42_method_139_code (1 : Nat) (Option.some (Jvm.ClassFile.FieldType.object "java/lang/String"))).before args0 about1 = true := code_word (m := ⟨14, 1⟩) (meth := k14m1) (c := k14c1) (by decide +kernel) rfl rfl rfl (by decide +kernel)
set_option maxRecDepth 65536 in
theorem w_c3 : (Jvm.Cond.code ({ cls := "java/lang/StringLatin1", name := "canEncode", desc := "(C)Z" } : Jvm.MethodName) jdk_43_method_3_code (1 : Nat) (Option.some Jvm.ClassFile.FieldType.boolean)).before args0 about1 = true := code_word (m := ⟨15, 1⟩) (meth := k15m1) (c := k15c1) (by decide +kernel) rfl rfl rfl (by decide +kernel)
set_option maxRecDepth 65536 in
theorem w_c4 : (Jvm.Cond.code ({ cls := "java/lang/StringLatin1", name := "toBytes", desc := "(C)[B" } : Jvm.MethodName) jdk_43_method_46_code (1 : Nat) (Option.some (Jvm.ClassFile.FieldType.array Jvm.ClassFile.FieldType.byte))).before args0 about1 = true := code_word (m := ⟨15, 2⟩) (meth := k15m2) (c := k15c2) (by decide +kernel) rfl rfl rfl (by decide +kernel)
set_option maxRecDepth 65536 in
theorem w_c5 : (Jvm.Cond.code ({ cls := "java/lang/String", name := "<init>", desc := "([BB)V" } : Jvm.MethodName) jdk_42_method_151_code (3 : Nat) (Option.none : Option Jvm.ClassFile.FieldType)).before args0 about1 = true := code_word (m := ⟨14, 2⟩) (meth := k14m2) (c := k14c2) (by decide +kernel) rfl rfl rfl (by decide +kernel)
set_option maxRecDepth 65536 in
theorem w_c6 : (Jvm.Cond.code ({ cls := "java/lang/Object", name := "<init>", desc := "()V" } : Jvm.MethodName) object_method_1_code (1 : Nat) (Option.none : Option Jvm.ClassFile.FieldType)).before args0 about1 = true := code_word (m := ⟨0, 0⟩) (meth := k0m0) (c := k0c0) (by decide +kernel) rfl rfl rfl (by decide +kernel)
set_option maxRecDepth 65536 in
theorem w_c7 : (Jvm.Cond.code ({ cls := "com/example/buzon/buzon/engine/ApiException", name := "<init>", desc := "(Lcom/example/buzon/buzon/engine/ApiError;Ljava/lang/String;)V" } : Jvm.MethodName) prog_2_method_1_code (3 : Nat) (Option.none : Option Jvm.ClassFile.FieldType)).before args0 about1 = true := code_word (m := ⟨12, 0⟩) (meth := k12m0) (c := k12c0) (by decide +kernel) rfl rfl rfl (by decide +kernel)
set_option maxRecDepth 65536 in
theorem w_c8 : (Jvm.Cond.code ({ cls := "java/lang/RuntimeException", name := "<init>", desc := "(Ljava/lang/String;)V" } : Jvm.MethodName) jdk_58_method_2_code (2 : Nat) (Option.none : Option Jvm.ClassFile.FieldType)).before args0 about1 = true := code_word (m := ⟨11, 1⟩) (meth := k11m1) (c := k11c1) (by decide +kernel) rfl rfl rfl (by decide +kernel)
set_option maxRecDepth 65536 in
theorem w_c9 : (Jvm.Cond.code ({ cls := "java/lang/Exception", name := "<init>", desc := "(Ljava/lang/String;)V" } : Jvm.MethodName) jdk_59_method_2_code (2 : Nat) (Option.none : Option Jvm.ClassFile.FieldType)).before args0 about1 = true := code_word (m := ⟨10, 1⟩) (meth := k10m1) (c := k10c1) (by decide +kernel) rfl rfl rfl (by decide +kernel)
set_option maxRecDepth 65536 in
theorem w_c10 : (Jvm.Cond.code ({ cls := "java/lang/Throwable", name := "<init>", desc := "(Ljava/lang/String;)V" } : Jvm.MethodName) jdk_78_method_2_code (2 : Nat) (Option.none : Option Jvm.ClassFile.FieldType)).before args0 about1 = true := code_word (m := ⟨9, 1⟩) (meth := k9m1) (c := k9c1) (by decide +kernel) rfl rfl rfl (by decide +kernel)
set_option maxRecDepth 65536 in
theorem w_c11 : (Jvm.Cond.code ({ cls := "java/lang/Throwable", name := "<init>", desc := "()V" } : Jvm.MethodName) jdk_78_method_1_code (1 : Nat) (Option.none : Option Jvm.ClassFile.FieldType)).before args0 about1 = true := code_word (m := ⟨9, 0⟩) (meth := k9m0) (c := k9c0) (by decide +kernel) rfl rfl rfl (by decide +kernel)
set_option maxRecDepth 65536 in
theorem w_c12 : (Jvm.Cond.code ({ cls := "com/example/buzon/buzon/engine/Outcome", name := "<init>", desc := "(Ljava/lang/Object;Lcom/example/buzon/buzon/engine/ApiException;)V" } : Jvm.MethodName) prog_16_method_1_code (3 : Nat) (Option.none : Option Jvm.ClassFile.FieldType)).before args0 about1 = true := code_word (m := ⟨17, 0⟩) (meth := k17m0) (c := k17c0) (by decide +kernel) rfl rfl rfl (by decide +kernel)
set_option maxRecDepth 65536 in
theorem w_c13 : (Jvm.Cond.code ({ cls := "java/lang/Record", name := "<init>", desc := "()V" } : Jvm.MethodName) jdk_30_method_1_code (1 : Nat) (Option.none : Option Jvm.ClassFile.FieldType)).before args0 about1 = true := code_word (m := ⟨16, 0⟩) (meth := k16m0) (c := k16c0) (by decide +kernel) rfl rfl rfl (by decide +kernel)
set_option maxRecDepth 65536 in
theorem w_c14 : (Jvm.Cond.code ({ cls := "com/example/buzon/buzon/engine/Outcome", name := "isSuccess", desc := "()Z" } : Jvm.MethodName) prog_16_method_4_code (1 : Nat) (Option.some Jvm.ClassFile.FieldType.boolean)).before args0 about1 = true := code_word (m := ⟨17, 1⟩) (meth := k17m1) (c := k17c1) (by decide +kernel) rfl rfl rfl (by decide +kernel)
set_option maxRecDepth 65536 in
theorem w_c15 : (Jvm.Cond.code ({ cls := "com/example/buzon/buzon/engine/ApiException", name := "nonExistentQueue", desc := "()Lcom/example/buzon/buzon/engine/ApiException;" } : Jvm.MethodName) prog_2_method_2_code (0 : Nat) (Option.some (Jvm.ClassFile.FieldType.object "com/example/buzon/buzon/engine/ApiException"))).before args0 about1 = true := code_word (m := ⟨12, 1⟩) (meth := k12m1) (c := k12c1) (by decide +kernel) rfl rfl rfl (by decide +kernel)
set_option maxRecDepth 65536 in
theorem w_c16 : (Jvm.Cond.code ({ cls := "java/lang/Integer", name := "<init>", desc := "(I)V" } : Jvm.MethodName) jdk_33_method_23_code (2 : Nat) (Option.none : Option Jvm.ClassFile.FieldType)).before args0 about1 = true := code_word (m := ⟨7, 1⟩) (meth := k7m1) (c := k7c1) (by decide +kernel) rfl rfl rfl (by decide +kernel)
set_option maxRecDepth 65536 in
theorem w_c17 : (Jvm.Cond.code ({ cls := "java/lang/Number", name := "<init>", desc := "()V" } : Jvm.MethodName) jdk_18_method_1_code (1 : Nat) (Option.none : Option Jvm.ClassFile.FieldType)).before args0 about1 = true := code_word (m := ⟨3, 0⟩) (meth := k3m0) (c := k3c0) (by decide +kernel) rfl rfl rfl (by decide +kernel)
def codes1 : List Jvm.Cond := [Jvm.Cond.code x code maxLocals ret, Jvm.Cond.code ({ cls := "java/lang/Integer", name := "valueOf", desc := "(I)Ljava/lang/Integer;" } : Jvm.MethodName) jdk_33_method_22_code (1 : Nat) (Option.some (Jvm.ClassFile.FieldType.object "java/lang/Integer")), Jvm.Cond.code ({ cls := "java/lang/String", name := "valueOf", desc := "(C)Ljava/lang/String;" } : Jvm.MethodName) jdk_42_method_139_code (1 : Nat) (Option.some (Jvm.ClassFile.FieldType.object "java/lang/String")), Jvm.Cond.code ({ cls := "java/lang/StringLatin1", name := "canEncode", desc := "(C)Z" } : Jvm.MethodName) jdk_43_method_3_code (1 : Nat) (Option.some Jvm.ClassFile.FieldType.boolean), Jvm.Cond.code ({ cls := "java/lang/StringLatin1", name := "toBytes", desc := "(C)[B" } : Jvm.MethodName) jdk_43_method_46_code (1 : Nat) (Option.some (Jvm.ClassFile.FieldType.array Jvm.ClassFile.FieldType.byte)), Jvm.Cond.code ({ cls := "java/lang/String", name := "<init>", desc := "([BB)V" } : Jvm.MethodName) jdk_42_method_151_code (3 : Nat) (Option.none : Option Jvm.ClassFile.FieldType), Jvm.Cond.code ({ cls := "java/lang/Object", name := "<init>", desc := "()V" } : Jvm.MethodName) object_method_1_code (1 : Nat) (Option.none : Option Jvm.ClassFile.FieldType), Jvm.Cond.code ({ cls := "com/example/buzon/buzon/engine/ApiException", name := "<init>", desc := "(Lcom/example/buzon/buzon/engine/ApiError;Ljava/lang/String;)V" } : Jvm.MethodName) prog_2_method_1_code (3 : Nat) (Option.none : Option Jvm.ClassFile.FieldType), Jvm.Cond.code ({ cls := "java/lang/RuntimeException", name := "<init>", desc := "(Ljava/lang/String;)V" } : Jvm.MethodName) jdk_58_method_2_code (2 : Nat) (Option.none : Option Jvm.ClassFile.FieldType), Jvm.Cond.code ({ cls := "java/lang/Exception", name := "<init>", desc := "(Ljava/lang/String;)V" } : Jvm.MethodName) jdk_59_method_2_code (2 : Nat) (Option.none : Option Jvm.ClassFile.FieldType), Jvm.Cond.code ({ cls := "java/lang/Throwable", name := "<init>", desc := "(Ljava/lang/String;)V" } : Jvm.MethodName) jdk_78_method_2_code (2 : Nat) (Option.none : Option Jvm.ClassFile.FieldType), Jvm.Cond.code ({ cls := "java/lang/Throwable", name := "<init>", desc := "()V" } : Jvm.MethodName) jdk_78_method_1_code (1 : Nat) (Option.none : Option Jvm.ClassFile.FieldType), Jvm.Cond.code ({ cls := "com/example/buzon/buzon/engine/Outcome", name := "<init>", desc := "(Ljava/lang/Object;Lcom/example/buzon/buzon/engine/ApiException;)V" } : Jvm.MethodName) prog_16_method_1_code (3 : Nat) (Option.none : Option Jvm.ClassFile.FieldType), Jvm.Cond.code ({ cls := "java/lang/Record", name := "<init>", desc := "()V" } : Jvm.MethodName) jdk_30_method_1_code (1 : Nat) (Option.none : Option Jvm.ClassFile.FieldType), Jvm.Cond.code ({ cls := "com/example/buzon/buzon/engine/Outcome", name := "isSuccess", desc := "()Z" } : Jvm.MethodName) prog_16_method_4_code (1 : Nat) (Option.some Jvm.ClassFile.FieldType.boolean), Jvm.Cond.code ({ cls := "com/example/buzon/buzon/engine/ApiException", name := "nonExistentQueue", desc := "()Lcom/example/buzon/buzon/engine/ApiException;" } : Jvm.MethodName) prog_2_method_2_code (0 : Nat) (Option.some (Jvm.ClassFile.FieldType.object "com/example/buzon/buzon/engine/ApiException")), Jvm.Cond.code ({ cls := "java/lang/Integer", name := "<init>", desc := "(I)V" } : Jvm.MethodName) jdk_33_method_23_code (2 : Nat) (Option.none : Option Jvm.ClassFile.FieldType), Jvm.Cond.code ({ cls := "java/lang/Number", name := "<init>", desc := "()V" } : Jvm.MethodName) jdk_18_method_1_code (1 : Nat) (Option.none : Option Jvm.ClassFile.FieldType)]
set_option maxRecDepth 65536 in
theorem codes_eq : words1.filter isCode = codes1 := rfl
theorem w_codes : ∀ c ∈ words1.filter isCode, c.before args0 about1 = true := by
  rw [codes_eq]
  intro c hc
  simp only [codes1, List.mem_cons, List.not_mem_nil, or_false] at hc
  rcases hc with rfl | rfl | rfl | rfl | rfl | rfl | rfl | rfl | rfl | rfl | rfl | rfl | rfl | rfl | rfl | rfl | rfl | rfl
  · exact w_c0
  · exact w_c1
  · exact w_c2
  · exact w_c3
  · exact w_c4
  · exact w_c5
  · exact w_c6
  · exact w_c7
  · exact w_c8
  · exact w_c9
  · exact w_c10
  · exact w_c11
  · exact w_c12
  · exact w_c13
  · exact w_c14
  · exact w_c15
  · exact w_c16
  · exact w_c17
set_option maxRecDepth 65536 in
theorem w_t1 : (words1.take 24).all (fun c => isCode c || c.before args0 about1) = true := by decide +kernel
set_option maxRecDepth 65536 in
theorem w_t2 : ((words1.drop 24).take 24).all (fun c => isCode c || c.before args0 about1) = true := by decide +kernel
set_option maxRecDepth 65536 in
theorem w_t3 : (((words1.drop 24).drop 24).take 24).all (fun c => isCode c || c.before args0 about1) = true := by decide +kernel
set_option maxRecDepth 65536 in
theorem w_t4 : ((((words1.drop 24).drop 24).drop 24).take 24).all (fun c => isCode c || c.before args0 about1) = true := by decide +kernel
set_option maxRecDepth 65536 in
theorem w_t5 : (((((words1.drop 24).drop 24).drop 24).drop 24).take 24).all (fun c => isCode c || c.before args0 about1) = true := by decide +kernel
set_option maxRecDepth 65536 in
theorem w_t6 : (((((words1.drop 24).drop 24).drop 24).drop 24).drop 24).all (fun c => isCode c || c.before args0 about1) = true := by decide +kernel
theorem w_tables : (allAtoms (Jvm.Cond.code x code maxLocals ret :: tables_1)).before args0 about1 = true := by
  rw [allAtoms_all]
  show words1.all (fun c => c.before args0 about1) = true
  refine all_split ?_ w_codes
  rw [← List.take_append_drop 24 words1, List.all_append, w_t1, ← List.take_append_drop 24 (words1.drop 24), List.all_append, w_t2, ← List.take_append_drop 24 ((words1.drop 24).drop 24), List.all_append, w_t3, ← List.take_append_drop 24 (((words1.drop 24).drop 24).drop 24), List.all_append, w_t4, ← List.take_append_drop 24 ((((words1.drop 24).drop 24).drop 24).drop 24), List.all_append, w_t5, w_t6]
  rfl
set_option maxRecDepth 65536 in
theorem w_rest : rest_1_c.before args0 about1 = true := by decide +kernel
set_option maxRecDepth 65536 in
theorem w_case : (Jvm.Cond.and given_1 narrow_1).before args0 about1 = true := by decide +kernel
theorem w_applies : (headSpec (Jvm.Cond.code x code maxLocals ret :: tables_1) room_1).applies x e0.platform about1 = true :=
  (Spec.applies_iff w_frames).mpr ⟨w_running, w_runnable, w_alone, w_named, w_hears, w_ripe, w_room, w_tables⟩
theorem atStart : AtStart classFile x code maxLocals ret World_1 tables_1 room_1 Calls_1 rest_1 Pre_1 launch0 p0 e0 about1 theMethod args0 below0 :=
  ⟨lists_1, trivial, launch0.admits_env _ _ _, launch0.least_env, fairChoices_fair.cas, fairChoices_fair.clock, w_frames, w_args, w_heap, w_applies, ⟨(by decide +kernel : framesKnown about1 = true), ⟨(by decide +kernel : tablesKnown about1 = true), trivial⟩⟩, w_rest, w_case⟩
end start1
theorem witness_1 : WitnessClaimed_1 := ⟨start1.p0, start1.e0, start1.about1, start1.theMethod, start1.args0, start1.below0, start1.atStart⟩
end Jvm.Pilot.@@N@@
